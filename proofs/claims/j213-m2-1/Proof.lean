import JvmDerived
import JvmDerived.Pilot.@@N@@Statement
import JvmDerived.Pilot.@@N@@Code
set_option linter.unusedVariables false
set_option linter.unusedSimpArgs false
set_option maxRecDepth 65536
set_option maxHeartbeats 8000000
namespace Jvm.Pilot.@@N@@
open Jvm Jvm.ClassFile Sem Op Lib Jvm.Free Jvm.Stand Jvm.LawKit Jvm.RoadKit Bundle Jvm.Pilot.@@N@@.Jvm.D
abbrev vI (x : Int32) : Slot := .val (.int x)
abbrev vJ (x : Int64) : Slot := .val (.long x)
abbrev vR (x : Addr) : Slot := .val (.ref x)
abbrev vN : Slot := .val .null
/-- the run from S comes to an end at which K holds -/
def Go (p : Program) (e : Env) (below : List Frame) (K : State → Outcome → Prop) (S : State) : Prop := ∃ t o, Steps p.tables e below S t ∧ K t o
theorem Go.via {p : Program} {e : Env} {below : List Frame} {K : State → Outcome → Prop} {A B : State} (h : ∀ t, Steps p.tables e below B t → Steps p.tables e below A t) (g : Go p e below K B) : Go p e below K A := by
  obtain ⟨t, o, h1, h2⟩ := g; exact ⟨t, o, h t h1, h2⟩
/-- a method's end: what it returned, the heap and the places written answer Q -/
def EndK (s : State) (below : List Frame) (Q : Option Value → Heap → List Loc → Prop) (C S : Nat) (t : State) (o : Outcome) : Prop := t.status = .running ∧ Ended t below o ∧ ∃ v L, o = .returned v ∧ Q v t.heap L ∧ FrameEnd s o t L C S
/-- a method's contract -/
def Con (l : Launch) (Z : State) (y : MethodName) (bytes : ByteArray) (maxL : Nat) (ret : Option FieldType) (rm : Room) (as : Array Value) (h : Heap) (Q : Option Value → Heap → List Loc → Prop) : Prop :=
  ∀ ws, MetFree l y (head1 (Jvm.Cond.code y bytes maxL ret :: ws) rm) (fun a U => a = as ∧ Z.Warmed39 U.vm ∧ U.heap = h) (fun _ _ _ _ _ => True) (fun _ U o U' => ∃ v L, o = .returned v ∧ Q v U'.heap L ∧ FrameEnd U o U' L rm.cells rm.slots)
theorem Con.of {l : Launch} {Z : State} {y : MethodName} {bytes : ByteArray} {maxL : Nat} {ret : Option FieldType} {rm : Room} {as : Array Value} {h : Heap} {Q : Option Value → Heap → List Loc → Prop} {Ls : Array Slot} (hp : plainFor y = true) (hfr : ∀ m, entryFrame m as maxL = mkF m 0 Ls [])
    (body : ∀ (p : Program) (e : Env) (s : State) (m : MethodId) (below : List Frame) (meth : Method) (c : Code) (T : State), Stand p l e rm s m as below meth c T [] 0 0 → p.tables.exec = Jvm.exec ∧ c.code = bytes → c.maxLocals = maxL → Z.Warmed39 s.vm → s.vm.findClass y.cls = some m.cls → meth.name = y.name → meth.sig.returnType = ret → meth.locks = false → T.heap = h → Go p e below (EndK s below Q rm.cells rm.slots) (T.setTop (mkF m 0 Ls []))) :
    Con l Z y bytes maxL ret rm as h Q := by
  intro ws
  refine MetFree.of_bodySF hp hisR ?_
  intro p e s m args below meth c s₁ Bd hml hP hK
  obtain ⟨rfl, hZ, hh⟩ := hP
  have e0 : s₁.heap = h := by rw [← hh, Bd.state]; rfl
  obtain ⟨t, o, h1, h2⟩ := body p e s m below meth c s₁ (Stand.of_body Bd) ⟨Bd.exec, Bd.bytes⟩ hml hZ (findClass_of_methodNamed Bd.named) (name_of_methodNamed Bd.named Bd.method).1 Bd.returns Bd.notSynchronized e0
  exact ⟨t, o, castTop (hfr m) h1, h2⟩
section Steps
variable {p : Program} {l : Launch} {e : Env} {R : Room} {s : State} {m : MethodId} {args : Array Value} {below : List Frame} {meth : Method} {c : Code} {T : State} {locs : List Loc} {cells slots : Nat} {K : State → Outcome → Prop} {Z : State} {a0 : Array Value} {h : Heap} {bs : ByteArray} {Ls Ls' : Array Slot} {st : List Value} {pc pc' : Nat}
theorem gIloadN (X : Stand p l e R s m args below meth c T locs cells slots) (H : p.tables.exec = Jvm.exec ∧ c.code = bs) {k : Fin 4} {v : Int32} (hd : decode bs pc = .ok (.iload_n k, 1)) (hl : Ls[k.val]? = some (.val (.int v))) (pc' : Nat) (hp : pc + 1 = pc') (g : Go p e below K (T.setTop (mkF m pc' Ls (.int v :: st)))) : Go p e below K (T.setTop (mkF m pc Ls (st))) := by
  subst hp
  exact Go.via (fun t k => XS.iloadN (g := mkF m pc Ls (st)) X.here H.1 rfl (hb H.2 hd) hl k) g
theorem gAloadN (X : Stand p l e R s m args below meth c T locs cells slots) (H : p.tables.exec = Jvm.exec ∧ c.code = bs) {k : Fin 4} {v : Value} (hd : decode bs pc = .ok (.aload_n k, 1)) (hl : Ls[k.val]? = some (.val v)) (hv : v.isRef = true) (pc' : Nat) (hp : pc + 1 = pc') (g : Go p e below K (T.setTop (mkF m pc' Ls (v :: st)))) : Go p e below K (T.setTop (mkF m pc Ls (st))) := by
  subst hp
  exact Go.via (fun t k => XS.aloadN (g := mkF m pc Ls (st)) X.here H.1 rfl (hb H.2 hd) hl hv k) g
theorem gIstoreN (X : Stand p l e R s m args below meth c T locs cells slots) (H : p.tables.exec = Jvm.exec ∧ c.code = bs) {k : Fin 4} {v : Int32} (hd : decode bs pc = .ok (.istore_n k, 1)) (hl : storeLocals Ls k.val (.int v) = some Ls') (pc' : Nat) (hp : pc + 1 = pc') (g : Go p e below K (T.setTop (mkF m pc' Ls' (st)))) : Go p e below K (T.setTop (mkF m pc Ls (.int v :: st))) := by
  subst hp
  exact Go.via (fun t k => XS.istoreN (g := mkF m pc Ls (.int v :: st)) X.here H.1 rfl (hb H.2 hd) rfl hl k) g
theorem gAstoreN (X : Stand p l e R s m args below meth c T locs cells slots) (H : p.tables.exec = Jvm.exec ∧ c.code = bs) {k : Fin 4} {v : Value} (hd : decode bs pc = .ok (.astore_n k, 1)) (hv : v.isRef = true) (hl : storeLocals Ls k.val v = some Ls') (pc' : Nat) (hp : pc + 1 = pc') (g : Go p e below K (T.setTop (mkF m pc' Ls' (st)))) : Go p e below K (T.setTop (mkF m pc Ls (v :: st))) := by
  subst hp
  exact Go.via (fun t k => XS.astoreN (g := mkF m pc Ls (v :: st)) X.here H.1 rfl (hb H.2 hd) rfl hv hl k) g
theorem gIload (X : Stand p l e R s m args below meth c T locs cells slots) (H : p.tables.exec = Jvm.exec ∧ c.code = bs) {k : Nat} {v : Int32} (hd : decode bs pc = .ok (.iload k, 2)) (hl : Ls[k]? = some (.val (.int v))) (pc' : Nat) (hp : pc + 2 = pc') (g : Go p e below K (T.setTop (mkF m pc' Ls (.int v :: st)))) : Go p e below K (T.setTop (mkF m pc Ls (st))) := by
  subst hp
  exact Go.via (fun t k => XS.iload (g := mkF m pc Ls (st)) X.here H.1 rfl (hb H.2 hd) hl k) g
theorem gIstore (X : Stand p l e R s m args below meth c T locs cells slots) (H : p.tables.exec = Jvm.exec ∧ c.code = bs) {k : Nat} {v : Int32} (hd : decode bs pc = .ok (.istore k, 2)) (hl : storeLocals Ls k (.int v) = some Ls') (pc' : Nat) (hp : pc + 2 = pc') (g : Go p e below K (T.setTop (mkF m pc' Ls' (st)))) : Go p e below K (T.setTop (mkF m pc Ls (.int v :: st))) := by
  subst hp
  exact Go.via (fun t k => XS.istore (g := mkF m pc Ls (.int v :: st)) X.here H.1 rfl (hb H.2 hd) rfl hl k) g
theorem gIconst (X : Stand p l e R s m args below meth c T locs cells slots) (H : p.tables.exec = Jvm.exec ∧ c.code = bs) {i : Int} {z : Int32} (hd : decode bs pc = .ok (.iconst i, 1)) (hz : Int32.ofInt i = z) (pc' : Nat) (hp : pc + 1 = pc') (g : Go p e below K (T.setTop (mkF m pc' Ls (.int z :: st)))) : Go p e below K (T.setTop (mkF m pc Ls (st))) := by
  subst hp hz
  exact Go.via (fun t k => XS.iconst (g := mkF m pc Ls (st)) X.here H.1 rfl (hb H.2 hd) k) g
theorem gBipush (X : Stand p l e R s m args below meth c T locs cells slots) (H : p.tables.exec = Jvm.exec ∧ c.code = bs) {i : Int} {z : Int32} (hd : decode bs pc = .ok (.bipush i, 2)) (hz : (Int8.ofInt i).toInt32 = z) (pc' : Nat) (hp : pc + 2 = pc') (g : Go p e below K (T.setTop (mkF m pc' Ls (.int z :: st)))) : Go p e below K (T.setTop (mkF m pc Ls (st))) := by
  subst hp hz
  exact Go.via (fun t k => XS.bipush (g := mkF m pc Ls (st)) X.here H.1 rfl (hb H.2 hd) k) g
theorem g_iand (X : Stand p l e R s m args below meth c T locs cells slots) (H : p.tables.exec = Jvm.exec ∧ c.code = bs) {x y z : Int32} (hd : decode bs pc = .ok (.iand, 1)) (hz : x &&& y = z) (pc' : Nat) (hp : pc + 1 = pc') (g : Go p e below K (T.setTop (mkF m pc' Ls (.int z :: st)))) : Go p e below K (T.setTop (mkF m pc Ls (.int y :: .int x :: st))) := by
  subst hp hz
  exact Go.via (fun t k => XS.iand (g := mkF m pc Ls (.int y :: .int x :: st)) X.here H.1 rfl (hb H.2 hd) rfl k) g
theorem g_irem (X : Stand p l e R s m args below meth c T locs cells slots) (H : p.tables.exec = Jvm.exec ∧ c.code = bs) {x y z : Int32} (hd : decode bs pc = .ok (.irem, 1)) (hy : y ≠ 0) (hz : x % y = z) (pc' : Nat) (hp : pc + 1 = pc') (g : Go p e below K (T.setTop (mkF m pc' Ls (.int z :: st)))) : Go p e below K (T.setTop (mkF m pc Ls (.int y :: .int x :: st))) := by
  subst hp hz
  exact Go.via (fun t k => iremM (g := mkF m pc Ls (.int y :: .int x :: st)) X H.1 rfl (hb H.2 hd) rfl hy k) g
theorem gGoto (X : Stand p l e R s m args below meth c T locs cells slots) (H : p.tables.exec = Jvm.exec ∧ c.code = bs)  {o : Int} (hd : decode bs pc = .ok (.goto o, 3)) (ho : 0 ≤ (pc : Int) + o) (pc' : Nat) (hp : ((pc : Int) + o).toNat = pc') (g : Go p e below K (T.setTop (mkF m pc' Ls (st)))) : Go p e below K (T.setTop (mkF m pc Ls (st))) :=
  Go.via (fun t k => XS.goto (g := mkF m pc Ls (st)) X.here H.1 rfl rfl (hb H.2 hd) ho hp k) g
theorem gIfY (X : Stand p l e R s m args below meth c T locs cells slots) (H : p.tables.exec = Jvm.exec ∧ c.code = bs) {cd : ClassFile.Cond} {x : Int32} {o : Int} (hd : decode bs pc = .ok (.ifCond cd o, 3)) (hc : ifCond.holds cd x = true) (ho : 0 ≤ (pc : Int) + o) (pc' : Nat) (hp : ((pc : Int) + o).toNat = pc') (g : Go p e below K (T.setTop (mkF m pc' Ls (st)))) : Go p e below K (T.setTop (mkF m pc Ls (.int x :: st))) :=
  Go.via (fun t k => XS.ifYes (g := mkF m pc Ls (.int x :: st)) X.here H.1 rfl rfl (hb H.2 hd) rfl hc ho hp k) g
theorem gCmpY (X : Stand p l e R s m args below meth c T locs cells slots) (H : p.tables.exec = Jvm.exec ∧ c.code = bs) {cd : ClassFile.Cond} {x y : Int32} {o : Int} (hd : decode bs pc = .ok (.if_icmp cd o, 3)) (hc : if_icmp.holds cd x y = true) (ho : 0 ≤ (pc : Int) + o) (pc' : Nat) (hp : ((pc : Int) + o).toNat = pc') (g : Go p e below K (T.setTop (mkF m pc' Ls (st)))) : Go p e below K (T.setTop (mkF m pc Ls (.int y :: .int x :: st))) :=
  Go.via (fun t k => XS.icmpYes (g := mkF m pc Ls (.int y :: .int x :: st)) X.here H.1 rfl rfl (hb H.2 hd) rfl hc ho hp k) g
theorem gIfN (X : Stand p l e R s m args below meth c T locs cells slots) (H : p.tables.exec = Jvm.exec ∧ c.code = bs) {o : Int} {cd : ClassFile.Cond} {x : Int32} (hd : decode bs pc = .ok (.ifCond cd o, 3)) (hc : ifCond.holds cd x = false) (pc' : Nat) (hp : pc + 3 = pc') (g : Go p e below K (T.setTop (mkF m pc' Ls (st)))) : Go p e below K (T.setTop (mkF m pc Ls (.int x :: st))) := by
  subst hp
  exact Go.via (fun t k => XS.ifNo (g := mkF m pc Ls (.int x :: st)) X.here H.1 rfl (hb H.2 hd) rfl hc k) g
theorem gCmpN (X : Stand p l e R s m args below meth c T locs cells slots) (H : p.tables.exec = Jvm.exec ∧ c.code = bs) {o : Int} {cd : ClassFile.Cond} {x y : Int32} (hd : decode bs pc = .ok (.if_icmp cd o, 3)) (hc : if_icmp.holds cd x y = false) (pc' : Nat) (hp : pc + 3 = pc') (g : Go p e below K (T.setTop (mkF m pc' Ls (st)))) : Go p e below K (T.setTop (mkF m pc Ls (.int y :: .int x :: st))) := by
  subst hp
  exact Go.via (fun t k => XS.icmpNo (g := mkF m pc Ls (.int y :: .int x :: st)) X.here H.1 rfl (hb H.2 hd) rfl hc k) g
theorem gAcmp (X : Stand p l e R s m args below meth c T locs cells slots) (H : p.tables.exec = Jvm.exec ∧ c.code = bs) {cd : ACond} {x y : Value} {o : Int} {same : Bool} (hd : decode bs pc = .ok (.if_acmp cd o, 3)) (h1 : x.isRef = true) (h2 : y.isRef = true) (hq : decide (x = y) = same) (ho : 0 ≤ (pc : Int) + o) (pc' : Nat) (hp : pc' = if acV cd same = true then ((pc : Int) + o).toNat else pc + 3) (g : Go p e below K (T.setTop (mkF m pc' Ls (st)))) : Go p e below K (T.setTop (mkF m pc Ls (y :: x :: st))) :=
  Go.via (fun t k => Jvm.RoadKit.acmp (g := mkF m pc Ls (y :: x :: st)) X H.1 rfl h1 h2 rfl (hb H.2 hd) rfl hq ho hp k) g
theorem gTswOut (X : Stand p l e R s m args below meth c T locs cells slots) (H : p.tables.exec = Jvm.exec ∧ c.code = bs) {dflt low high : Int} {offs : Array Int} {len : Nat} {i : Int32} (hd : decode bs pc = .ok (.tableswitch dflt low high offs, len)) (hout : i.toInt < low ∨ i.toInt > high) (ho : 0 ≤ (pc : Int) + dflt) (pc' : Nat) (hp : ((pc : Int) + dflt).toNat = pc') (g : Go p e below K (T.setTop (mkF m pc' Ls (st)))) : Go p e below K (T.setTop (mkF m pc Ls (.int i :: st))) :=
  Go.via (fun t k => XS.tswOut (g := mkF m pc Ls (.int i :: st)) X.here H.1 rfl rfl (hb H.2 hd) rfl hout ho hp k) g
theorem gLdc (X : Stand p l e R s m args below meth c T locs cells slots) (H : p.tables.exec = Jvm.exec ∧ c.code = bs) (hZ : Z.Warmed39 s.vm) {own : String} {index : Nat} (hown : s.vm.findClass own = some m.cls) {v : Int32} (w : (Cond.constant own index v).before a0 Z = true) (hd : decode bs pc = .ok (.ldc index, 2)) (pc' : Nat) (hp : pc + 2 = pc') (g : Go p e below K (T.setTop (mkF m pc' Ls (.int v :: st)))) : Go p e below K (T.setTop (mkF m pc Ls (st))) := by
  subst hp
  exact Go.via (X.ldcInt H.1 hown (mvT hZ w) (g := mkF m pc Ls st) rfl (hb H.2 hd)) g
theorem gGetS (X : Stand p l e R s m args below meth c T locs cells slots) (H : p.tables.exec = Jvm.exec ∧ c.code = bs) (hZ : Z.Warmed39 s.vm) {own : String} {index : Nat} (hown : s.vm.findClass own = some m.cls) {O n d : String} {v : Value} (w : (Cond.fieldLink own index O n d).before a0 Z = true) (eT : T.heap = h) (F : Sta Z h O n d v) (hd : decode bs pc = .ok (.getstatic index, 3)) (pc' : Nat) (hp : pc + 3 = pc') (g : ∀ T', Stand p l e R s m args below meth c T' locs cells slots → T'.heap = h → Go p e below K (T'.setTop (mkF m pc' Ls (v :: st)))) : Go p e below K (T.setTop (mkF m pc Ls (st))) := by
  subst hp
  obtain ⟨T', X', e', k⟩ := getS2 X H.1 hZ hown (host := "") (Or.inl w) Via.refl eT F (g := mkF m pc Ls st) rfl (hb H.2 hd)
  exact Go.via k (g T' X' e')
theorem gGetF (X : Stand p l e R s m args below meth c T locs cells slots) (H : p.tables.exec = Jvm.exec ∧ c.code = bs) (hZ : Z.Warmed39 s.vm) {own : String} {index : Nat} (hown : s.vm.findClass own = some m.cls) {R0 O n d : String} {a : Addr} {v : Value} (w : (Cond.fieldLink own index R0 n d).before a0 Z = true) (via : Via Z R0 O n d) (eT : T.heap = h) (F : Fld Z h a O n d v) (hd : decode bs pc = .ok (.getfield index, 3)) (pc' : Nat) (hp : pc + 3 = pc') (g : ∀ T', Stand p l e R s m args below meth c T' locs cells slots → T'.heap = h → Go p e below K (T'.setTop (mkF m pc' Ls (v :: st)))) : Go p e below K (T.setTop (mkF m pc Ls (.ref a :: st))) := by
  subst hp
  obtain ⟨T', X', e', k⟩ := getF X H.1 hZ hown (host := "") (Or.inl w) via eT F (g := mkF m pc Ls (.ref a :: st)) rfl rfl (hb H.2 hd)
  exact Go.via k (g T' X' e')
theorem gStatic (X : Stand p l e R s m args below meth c T locs cells slots) (H : p.tables.exec = Jvm.exec ∧ c.code = bs) (hZ : Z.Warmed39 s.vm) {own : String} {index : Nat} (hown : s.vm.findClass own = some m.cls) {y : MethodName} {bytes : ByteArray} {maxL : Nat} {ret : Option FieldType} {rm : Room} {as : Array Value} {Q : Option Value → Heap → List Loc → Prop} {W maxO : Nat} {argsL rest : List Value} {ps : List FieldType} {r : Option FieldType} (wl : (Cond.methodLink own index y).before a0 Z = true) (wst : (Cond.static y).before a0 Z = true) (hy : y.cls ≠ "java/lang/invoke/MethodHandle" ∧ y.cls ≠ "java/lang/invoke/VarHandle") (wc : (Cond.code y bytes maxL ret).before a0 Z = true) (wz : (Cond.initialized (y).cls).before a0 Z = true) (M : Con l Z y bytes maxL ret rm as h Q) (eT : T.heap = h) (hml : c.maxLocals = maxO) (hs : Ls.size = maxO) (hpd : parseMethodDescriptor y.desc = some ⟨ps, r⟩) (hlen : argsL.length = ps.length) (hstack : st = argsL.reverse ++ rest) (has : argsL.toArray = as) (hd : decode bs pc = .ok (.invokestatic index, 3)) (pc' : Nat) (hp : pc + 3 = pc')
    (g : ∀ v T' L, Q v T'.heap L → Stand p l e R s m args below meth c T' (locs ++ L) (cells + rm.cells) (slots + rm.slots) → Go p e below K (T'.setTop (mkF m pc' Ls (v.toList ++ rest)))) (hW : (rest.map fun v => v.category).sum ≤ W := by exact Nat.le_of_eq rfl) (hf : rm.frames + 1 ≤ R.frames := by decide) (hl : W + (maxL + 11) + rm.locals ≤ R.locals := by decide) (hc : cells + rm.cells ≤ R.cells := by decide) (hsl : slots + rm.slots ≤ R.slots := by decide) : Go p e below K (T.setTop (mkF m pc Ls (st))) := by
  subst hp has
  obtain ⟨v, _, ⟨T', L', k', n'⟩, -, X', ⟨L, hQ, l', y', z'⟩, k⟩ := Jvm.LawKit.callS X H.1 (y := y) hown (mvT hZ wl) (mvT hZ wst) (mvT hZ wz) (mvT hZ wc) hy (backOf (W := W) (M []) hZ wc wz hf hl) (g := mkF m pc Ls st) rfl (hs.trans hml.symm) (argsL := argsL) (rest := rest) (lenOf hpd hlen) hstack (by show 2 * 0 + _ ≤ _; omega) (hb H.2 hd) (fun _ _ => ⟨rfl, eT, hc, hsl⟩)
  dsimp only [Pt.U, Pt.locs, Pt.cells, Pt.slots] at X' l' y' z' k hQ
  subst l' y' z'
  exact Go.via k (g v T' L hQ X')
theorem gVirtualUp (X : Stand p l e R s m args below meth c T locs cells slots) (H : p.tables.exec = Jvm.exec ∧ c.code = bs) (hZ : Z.Warmed39 s.vm) {own : String} {index : Nat} (hown : s.vm.findClass own = some m.cls) {C : String} {y z : MethodName} {bytes : ByteArray} {maxL : Nat} {ret : Option FieldType} {rm : Room} {as : Array Value} {Q : Option Value → Heap → List Loc → Prop} {W maxO : Nat} {argsL rest : List Value} {ps : List FieldType} {r : Option FieldType} {owner : String} (wl : (Cond.methodLink own index y).before a0 Z = true) (wsm : (Cond.sameMethod y.cls owner y.name y.desc).before a0 Z = true) (wd : (Cond.declares ⟨owner, y.name, y.desc⟩).before a0 Z = true) (wse : (Cond.selects C y z).before a0 Z = true) (wi : (Cond.instanceMethod z).before a0 Z = true) (hy : owner ≠ "java/lang/invoke/MethodHandle" ∧ owner ≠ "java/lang/invoke/VarHandle") {b : Addr} (E : Exa Z h b C) (wc : (Cond.code z bytes maxL ret).before a0 Z = true) (wz : (Cond.initialized (z).cls).before a0 Z = true) (M : Con l Z z bytes maxL ret rm as h Q) (eT : T.heap = h) (hml : c.maxLocals = maxO) (hs : Ls.size = maxO) (hpd : parseMethodDescriptor y.desc = some ⟨ps, r⟩) (hlen : argsL.length = ps.length) (hstack : st = argsL.reverse ++ .ref b :: rest) (has : (.ref b :: argsL).toArray = as) (hd : decode bs pc = .ok (.invokevirtual index, 3)) (pc' : Nat) (hp : pc + 3 = pc')
    (g : ∀ v T' L, Q v T'.heap L → Stand p l e R s m args below meth c T' (locs ++ L) (cells + rm.cells) (slots + rm.slots) → Go p e below K (T'.setTop (mkF m pc' Ls (v.toList ++ rest)))) (hW : (rest.map fun v => v.category).sum ≤ W := by exact Nat.le_of_eq rfl) (hf : rm.frames + 1 ≤ R.frames := by decide) (hl : W + (maxL + 11) + rm.locals ≤ R.locals := by decide) (hc : cells + rm.cells ≤ R.cells := by decide) (hsl : slots + rm.slots ≤ R.slots := by decide) : Go p e below K (T.setTop (mkF m pc Ls (st))) := by
  subst hp has
  obtain ⟨cB, kB, q1, q2, q3⟩ := isOf hZ eT E
  obtain ⟨v, _, ⟨T', L', k', n'⟩, -, X', ⟨L, hQ, l', y', z'⟩, k⟩ := X.virtualBackUp H.1 (x := y) (y := z) hown (mvT hZ wl) (mvT hZ wsm) (mvT hZ wd) hy (mvT hZ wse) (mvT hZ wi) (backOf (W := W) (M []) hZ wc wz hf hl) q1 q3 (g := mkF m pc Ls st) rfl (hs.trans hml.symm) (Steps.refl _) (argsL := argsL) (rest := rest) (lenOf hpd hlen) hstack (by show 2 * 0 + _ ≤ _; omega) (hb H.2 hd) (fun _ _ => ⟨rfl, eT, hc, hsl⟩)
  dsimp only [Pt.U, Pt.locs, Pt.cells, Pt.slots] at X' l' y' z' k hQ
  subst l' y' z'
  exact Go.via (fun t q => k.trans q) (g v T' L hQ X')
theorem gRetN (X : Stand p l e R s m args below meth c T locs cells slots) (H : p.tables.exec = Jvm.exec ∧ c.code = bs) (hlk : meth.locks = false) {Q : Option Value → Heap → List Loc → Prop} {C S : Nat} {t : FieldType} {z : Int32} (hret : meth.sig.returnType = some t) (ht : t = .boolean ∨ t = .byte ∨ t = .char ∨ t = .short) (hd : decode bs pc = .ok (.ireturn, 1)) (eT : T.heap = h) (q : Q (some (.int (nar t z))) h locs) (hC : cells ≤ C := by decide) (hS : slots ≤ S := by decide) : Go p e below (EndK s below Q C S) (T.setTop (mkF m pc Ls (.int z :: st))) := by
  subst eT
  obtain ⟨fs, hr, hrun, hended, hW, hsame⟩ := X.leave (v := (some (.int (nar t z)))) (fun h => by rw [hret] at h; cases h) hlk
  exact ⟨_, _, retN X H.1 hret ht (hb H.2 hd) hr, hrun, hended, _, _, rfl, q, ⟨_, rfl⟩, hW, hsame.mono hC hS⟩
theorem gRetI (X : Stand p l e R s m args below meth c T locs cells slots) (H : p.tables.exec = Jvm.exec ∧ c.code = bs) (hlk : meth.locks = false) {Q : Option Value → Heap → List Loc → Prop} {C S : Nat} {z : Int32} (hret : meth.sig.returnType = some .int) (hd : decode bs pc = .ok (.ireturn, 1)) (eT : T.heap = h) (q : Q (some (.int z)) h locs) (hC : cells ≤ C := by decide) (hS : slots ≤ S := by decide) : Go p e below (EndK s below Q C S) (T.setTop (mkF m pc Ls (.int z :: st))) := by
  subst eT
  obtain ⟨fs, hr, hrun, hended, hW, hsame⟩ := X.leave (v := (some (.int z))) (fun h => by rw [hret] at h; cases h) hlk
  exact ⟨_, _, retOut X H.1 hret rfl (Or.inl ⟨rfl, Or.inl rfl, z, rfl⟩) (hb H.2 hd) hr, hrun, hended, _, _, rfl, q, ⟨_, rfl⟩, hW, hsame.mono hC hS⟩
theorem gRetA (X : Stand p l e R s m args below meth c T locs cells slots) (H : p.tables.exec = Jvm.exec ∧ c.code = bs) (hlk : meth.locks = false) {Q : Option Value → Heap → List Loc → Prop} {C S : Nat} {w : Value} {t : FieldType} (hret : meth.sig.returnType = some t) (hn : narrow t w = w) (ht : t.isReference = true) (hv : w.isRef = true) (hd : decode bs pc = .ok (.areturn, 1)) (eT : T.heap = h) (q : Q (some w) h locs) (hC : cells ≤ C := by decide) (hS : slots ≤ S := by decide) : Go p e below (EndK s below Q C S) (T.setTop (mkF m pc Ls (w :: st))) := by
  subst eT
  obtain ⟨fs, hr, hrun, hended, hW, hsame⟩ := X.leave (v := (some w)) (fun h => by rw [hret] at h; cases h) hlk
  exact ⟨_, _, retOut X H.1 hret hn (Or.inr (Or.inr (Or.inr (Or.inr ⟨rfl, ht, hv⟩)))) (hb H.2 hd) hr, hrun, hended, _, _, rfl, q, ⟨_, rfl⟩, hW, hsame.mono hC hS⟩
theorem gVirt (X : Stand p l e R s m args below meth c T locs cells slots) (H : p.tables.exec = Jvm.exec ∧ c.code = bs) (hZ : Z.Warmed39 s.vm) {own : String} {index : Nat} (hown : s.vm.findClass own = some m.cls) {C : String} {y : MethodName} {bytes : ByteArray} {maxL : Nat} {ret : Option FieldType} {rm : Room} {as : Array Value} {Q : Option Value → Heap → List Loc → Prop} {W maxO : Nat} {argsL rest : List Value} {ps : List FieldType} {r : Option FieldType} (wl : (Cond.methodLink own index y).before a0 Z = true) (wd : (Cond.declares y).before a0 Z = true) (wse : (Cond.selects C y y).before a0 Z = true) (wi : (Cond.instanceMethod y).before a0 Z = true) (hy : y.cls ≠ "java/lang/invoke/MethodHandle" ∧ y.cls ≠ "java/lang/invoke/VarHandle") {b : Addr} (E : Exa Z h b C) (wc : (Cond.code y bytes maxL ret).before a0 Z = true) (wz : (Cond.initialized (y).cls).before a0 Z = true) (M : Con l Z y bytes maxL ret rm as h Q) (eT : T.heap = h) (hml : c.maxLocals = maxO) (hs : Ls.size = maxO) (hpd : parseMethodDescriptor y.desc = some ⟨ps, r⟩) (hlen : argsL.length = ps.length) (hstack : st = argsL.reverse ++ .ref b :: rest) (has : (.ref b :: argsL).toArray = as) (hd : decode bs pc = .ok (.invokevirtual index, 3)) (pc' : Nat) (hp : pc + 3 = pc')
    (g : ∀ v T' L, Q v T'.heap L → Stand p l e R s m args below meth c T' (locs ++ L) (cells + rm.cells) (slots + rm.slots) → Go p e below K (T'.setTop (mkF m pc' Ls (v.toList ++ rest)))) (hW : (rest.map fun v => v.category).sum ≤ W := by exact Nat.le_of_eq rfl) (hf : rm.frames + 1 ≤ R.frames := by decide) (hl : W + (maxL + 11) + rm.locals ≤ R.locals := by decide) (hc : cells + rm.cells ≤ R.cells := by decide) (hsl : slots + rm.slots ≤ R.slots := by decide) : Go p e below K (T.setTop (mkF m pc Ls (st))) := by
  subst hp has
  obtain ⟨cB, kB, q1, q2, q3⟩ := isOf hZ eT E
  obtain ⟨v, _, ⟨T', L', k', n'⟩, -, X', ⟨L, hQ, l', y', z'⟩, k⟩ := X.virtualBack H.1 (y := y) (z := y) hown (mvT hZ wl) (mvT hZ wd) (notFace_of_selects (args := #[]) (mvT hZ wse)) (mvT hZ wse) (mvT hZ wi) hy (backOf (W := W) (M []) hZ wc wz hf hl) q1 q3 (g := mkF m pc Ls st) rfl (hs.trans hml.symm) (Steps.refl _) (argsL := argsL) (rest := rest) (lenOf hpd hlen) hstack (by show 2 * 0 + _ ≤ _; omega) (hb H.2 hd) (fun _ _ => ⟨rfl, eT, hc, hsl⟩)
  dsimp only [Pt.U, Pt.locs, Pt.cells, Pt.slots] at X' l' y' z' k hQ
  subst l' y' z'
  exact Go.via (fun t q => k.trans q) (g v T' L hQ X')
end Steps
theorem eqI {args : Array Value} {s : State} {t : Term} {w : Addr} {C n d : String} {k : Int32} (ev : t.eval args s none [] s = some (.ref w)) (q : (Jvm.Cond.eq (.field t C n d) (.int k)).value args s none s [] = some true) : Fld s s.heap w C n d (.int k) := by
  refine Fld.start ?_
  rw [← fld_at (args := args) (first := s) (o := none) (idx := []) ev]
  obtain ⟨x, y, h1, h2, k1, k2⟩ := cmp_v (Or.inl q)
  obtain rfl : y = .int k := (Option.some.inj ((Term.int_eval k).symm.trans h2)).symm
  obtain ⟨z, rfl⟩ := k2
  simp [Cond.value, h1, h2] at q
  rw [h1, q]
theorem wd0 : (Jvm.Cond.constant "com/example/unfussy_repo/unfussyrepo/query/OperatorTakesCollectionPinLaw" (67 : Nat) (2147483647 : Int32)) ∈ tables_1 := List.mem_of_getElem? (i := 0) rfl
theorem wd1 : (Jvm.Cond.methodLink "com/example/unfussy_repo/unfussyrepo/query/OperatorTakesCollectionPinLaw" (68 : Nat) ({ cls := "com/example/unfussy_repo/unfussyrepo/query/OperatorTakesCollectionPinLaw", name := "pick", desc := "(I)Lcom/example/unfussy_repo/unfussyrepo/query/Operator;" } : Jvm.MethodName)) ∈ tables_1 := List.mem_of_getElem? (i := 1) rfl
theorem wd2 : (Jvm.Cond.static ({ cls := "com/example/unfussy_repo/unfussyrepo/query/OperatorTakesCollectionPinLaw", name := "pick", desc := "(I)Lcom/example/unfussy_repo/unfussyrepo/query/Operator;" } : Jvm.MethodName)) ∈ tables_1 := List.mem_of_getElem? (i := 2) rfl
theorem wd3 : (Jvm.Cond.initialized "com/example/unfussy_repo/unfussyrepo/query/OperatorTakesCollectionPinLaw") ∈ tables_1 := List.mem_of_getElem? (i := 3) rfl
theorem wd4 : (Jvm.Cond.code ({ cls := "com/example/unfussy_repo/unfussyrepo/query/OperatorTakesCollectionPinLaw", name := "pick", desc := "(I)Lcom/example/unfussy_repo/unfussyrepo/query/Operator;" } : Jvm.MethodName) method_2_code (1 : Nat) (Option.some (Jvm.ClassFile.FieldType.object "com/example/unfussy_repo/unfussyrepo/query/Operator"))) ∈ tables_1 := List.mem_of_getElem? (i := 4) rfl
theorem wd5 : (Jvm.Cond.fieldLink "com/example/unfussy_repo/unfussyrepo/query/OperatorTakesCollectionPinLaw" (7 : Nat) "com/example/unfussy_repo/unfussyrepo/query/Operator" "EQUALS" "Lcom/example/unfussy_repo/unfussyrepo/query/Operator;") ∈ tables_1 := List.mem_of_getElem? (i := 5) rfl
theorem wd6 : (Jvm.Cond.initialized "com/example/unfussy_repo/unfussyrepo/query/Operator") ∈ tables_1 := List.mem_of_getElem? (i := 6) rfl
theorem wd7 : (Jvm.Cond.laysStatic "com/example/unfussy_repo/unfussyrepo/query/Operator" "EQUALS" "Lcom/example/unfussy_repo/unfussyrepo/query/Operator;") ∈ tables_1 := List.mem_of_getElem? (i := 7) rfl
theorem wd8 : (Jvm.Cond.methodLink "com/example/unfussy_repo/unfussyrepo/query/OperatorTakesCollectionPinLaw" (74 : Nat) ({ cls := "com/example/unfussy_repo/unfussyrepo/query/Operator", name := "takesCollection", desc := "()Z" } : Jvm.MethodName)) ∈ tables_1 := List.mem_of_getElem? (i := 8) rfl
theorem wd9 : (Jvm.Cond.declares ({ cls := "com/example/unfussy_repo/unfussyrepo/query/Operator", name := "takesCollection", desc := "()Z" } : Jvm.MethodName)) ∈ tables_1 := List.mem_of_getElem? (i := 9) rfl
theorem wd10 : (Jvm.Cond.instanceMethod ({ cls := "com/example/unfussy_repo/unfussyrepo/query/Operator", name := "takesCollection", desc := "()Z" } : Jvm.MethodName)) ∈ tables_1 := List.mem_of_getElem? (i := 10) rfl
theorem wd11 : (Jvm.Cond.selects "com/example/unfussy_repo/unfussyrepo/query/Operator" ({ cls := "com/example/unfussy_repo/unfussyrepo/query/Operator", name := "takesCollection", desc := "()Z" } : Jvm.MethodName) ({ cls := "com/example/unfussy_repo/unfussyrepo/query/Operator", name := "takesCollection", desc := "()Z" } : Jvm.MethodName)) ∈ tables_1 := List.mem_of_getElem? (i := 11) rfl
theorem wd12 : (Jvm.Cond.code ({ cls := "com/example/unfussy_repo/unfussyrepo/query/Operator", name := "takesCollection", desc := "()Z" } : Jvm.MethodName) prog_53_method_5_code (1 : Nat) (Option.some Jvm.ClassFile.FieldType.boolean)) ∈ tables_1 := List.mem_of_getElem? (i := 12) rfl
theorem wd13 : (Jvm.Cond.fieldLink "com/example/unfussy_repo/unfussyrepo/query/Operator" (37 : Nat) "com/example/unfussy_repo/unfussyrepo/query/Operator" "IN" "Lcom/example/unfussy_repo/unfussyrepo/query/Operator;") ∈ tables_1 := List.mem_of_getElem? (i := 13) rfl
theorem wd14 : (Jvm.Cond.laysStatic "com/example/unfussy_repo/unfussyrepo/query/Operator" "IN" "Lcom/example/unfussy_repo/unfussyrepo/query/Operator;") ∈ tables_1 := List.mem_of_getElem? (i := 14) rfl
theorem wd15 : (Jvm.Cond.fieldLink "com/example/unfussy_repo/unfussyrepo/query/Operator" (40 : Nat) "com/example/unfussy_repo/unfussyrepo/query/Operator" "NOT_IN" "Lcom/example/unfussy_repo/unfussyrepo/query/Operator;") ∈ tables_1 := List.mem_of_getElem? (i := 15) rfl
theorem wd16 : (Jvm.Cond.laysStatic "com/example/unfussy_repo/unfussyrepo/query/Operator" "NOT_IN" "Lcom/example/unfussy_repo/unfussyrepo/query/Operator;") ∈ tables_1 := List.mem_of_getElem? (i := 16) rfl
theorem wd17 : (Jvm.Cond.fieldLink "com/example/unfussy_repo/unfussyrepo/query/OperatorTakesCollectionPinLaw" (19 : Nat) "com/example/unfussy_repo/unfussyrepo/query/Operator" "LESS_THAN" "Lcom/example/unfussy_repo/unfussyrepo/query/Operator;") ∈ tables_1 := List.mem_of_getElem? (i := 17) rfl
theorem wd18 : (Jvm.Cond.laysStatic "com/example/unfussy_repo/unfussyrepo/query/Operator" "LESS_THAN" "Lcom/example/unfussy_repo/unfussyrepo/query/Operator;") ∈ tables_1 := List.mem_of_getElem? (i := 18) rfl
theorem wd19 : (Jvm.Cond.fieldLink "com/example/unfussy_repo/unfussyrepo/query/OperatorTakesCollectionPinLaw" (55 : Nat) "com/example/unfussy_repo/unfussyrepo/query/Operator" "STARTING_WITH" "Lcom/example/unfussy_repo/unfussyrepo/query/Operator;") ∈ tables_1 := List.mem_of_getElem? (i := 19) rfl
theorem wd20 : (Jvm.Cond.laysStatic "com/example/unfussy_repo/unfussyrepo/query/Operator" "STARTING_WITH" "Lcom/example/unfussy_repo/unfussyrepo/query/Operator;") ∈ tables_1 := List.mem_of_getElem? (i := 20) rfl
theorem wd21 : (Jvm.Cond.fieldLink "com/example/unfussy_repo/unfussyrepo/query/OperatorTakesCollectionPinLaw" (25 : Nat) "com/example/unfussy_repo/unfussyrepo/query/Operator" "GREATER_THAN" "Lcom/example/unfussy_repo/unfussyrepo/query/Operator;") ∈ tables_1 := List.mem_of_getElem? (i := 21) rfl
theorem wd22 : (Jvm.Cond.laysStatic "com/example/unfussy_repo/unfussyrepo/query/Operator" "GREATER_THAN" "Lcom/example/unfussy_repo/unfussyrepo/query/Operator;") ∈ tables_1 := List.mem_of_getElem? (i := 22) rfl
theorem wd23 : (Jvm.Cond.fieldLink "com/example/unfussy_repo/unfussyrepo/query/OperatorTakesCollectionPinLaw" (61 : Nat) "com/example/unfussy_repo/unfussyrepo/query/Operator" "CONTAINING" "Lcom/example/unfussy_repo/unfussyrepo/query/Operator;") ∈ tables_1 := List.mem_of_getElem? (i := 23) rfl
theorem wd24 : (Jvm.Cond.laysStatic "com/example/unfussy_repo/unfussyrepo/query/Operator" "CONTAINING" "Lcom/example/unfussy_repo/unfussyrepo/query/Operator;") ∈ tables_1 := List.mem_of_getElem? (i := 24) rfl
theorem wd25 : (Jvm.Cond.fieldLink "com/example/unfussy_repo/unfussyrepo/query/OperatorTakesCollectionPinLaw" (31 : Nat) "com/example/unfussy_repo/unfussyrepo/query/Operator" "IS_NULL" "Lcom/example/unfussy_repo/unfussyrepo/query/Operator;") ∈ tables_1 := List.mem_of_getElem? (i := 25) rfl
theorem wd26 : (Jvm.Cond.laysStatic "com/example/unfussy_repo/unfussyrepo/query/Operator" "IS_NULL" "Lcom/example/unfussy_repo/unfussyrepo/query/Operator;") ∈ tables_1 := List.mem_of_getElem? (i := 26) rfl
theorem wd27 : (Jvm.Cond.fieldLink "com/example/unfussy_repo/unfussyrepo/query/OperatorTakesCollectionPinLaw" (16 : Nat) "com/example/unfussy_repo/unfussyrepo/query/Operator" "BETWEEN" "Lcom/example/unfussy_repo/unfussyrepo/query/Operator;") ∈ tables_1 := List.mem_of_getElem? (i := 27) rfl
theorem wd28 : (Jvm.Cond.laysStatic "com/example/unfussy_repo/unfussyrepo/query/Operator" "BETWEEN" "Lcom/example/unfussy_repo/unfussyrepo/query/Operator;") ∈ tables_1 := List.mem_of_getElem? (i := 28) rfl
theorem wd29 : (Jvm.Cond.fieldLink "com/example/unfussy_repo/unfussyrepo/query/OperatorTakesCollectionPinLaw" (43 : Nat) "com/example/unfussy_repo/unfussyrepo/query/Operator" "IN" "Lcom/example/unfussy_repo/unfussyrepo/query/Operator;") ∈ tables_1 := List.mem_of_getElem? (i := 29) rfl
theorem wd30 : (Jvm.Cond.methodLink "com/example/unfussy_repo/unfussyrepo/query/OperatorTakesCollectionPinLaw" (78 : Nat) ({ cls := "com/example/unfussy_repo/unfussyrepo/query/Operator", name := "arguments", desc := "()I" } : Jvm.MethodName)) ∈ tables_1 := List.mem_of_getElem? (i := 30) rfl
theorem wd31 : (Jvm.Cond.declares ({ cls := "com/example/unfussy_repo/unfussyrepo/query/Operator", name := "arguments", desc := "()I" } : Jvm.MethodName)) ∈ tables_1 := List.mem_of_getElem? (i := 31) rfl
theorem wd32 : (Jvm.Cond.instanceMethod ({ cls := "com/example/unfussy_repo/unfussyrepo/query/Operator", name := "arguments", desc := "()I" } : Jvm.MethodName)) ∈ tables_1 := List.mem_of_getElem? (i := 32) rfl
theorem wd33 : (Jvm.Cond.selects "com/example/unfussy_repo/unfussyrepo/query/Operator" ({ cls := "com/example/unfussy_repo/unfussyrepo/query/Operator", name := "arguments", desc := "()I" } : Jvm.MethodName) ({ cls := "com/example/unfussy_repo/unfussyrepo/query/Operator", name := "arguments", desc := "()I" } : Jvm.MethodName)) ∈ tables_1 := List.mem_of_getElem? (i := 33) rfl
theorem wd34 : (Jvm.Cond.code ({ cls := "com/example/unfussy_repo/unfussyrepo/query/Operator", name := "arguments", desc := "()I" } : Jvm.MethodName) prog_53_method_4_code (1 : Nat) (Option.some Jvm.ClassFile.FieldType.int)) ∈ tables_1 := List.mem_of_getElem? (i := 34) rfl
theorem wd35 : (Jvm.Cond.fieldLink "com/example/unfussy_repo/unfussyrepo/query/Operator" (80 : Nat) "com/example/unfussy_repo/unfussyrepo/query/Operator" "arguments" "I") ∈ tables_1 := List.mem_of_getElem? (i := 35) rfl
theorem wd37 : (Jvm.Cond.methodLink "com/example/unfussy_repo/unfussyrepo/query/OperatorTakesCollectionPinLaw" (82 : Nat) ({ cls := "com/example/unfussy_repo/unfussyrepo/query/Operator", name := "matchesText", desc := "()Z" } : Jvm.MethodName)) ∈ tables_1 := List.mem_of_getElem? (i := 37) rfl
theorem wd38 : (Jvm.Cond.declares ({ cls := "com/example/unfussy_repo/unfussyrepo/query/Operator", name := "matchesText", desc := "()Z" } : Jvm.MethodName)) ∈ tables_1 := List.mem_of_getElem? (i := 38) rfl
theorem wd39 : (Jvm.Cond.instanceMethod ({ cls := "com/example/unfussy_repo/unfussyrepo/query/Operator", name := "matchesText", desc := "()Z" } : Jvm.MethodName)) ∈ tables_1 := List.mem_of_getElem? (i := 39) rfl
theorem wd40 : (Jvm.Cond.selects "com/example/unfussy_repo/unfussyrepo/query/Operator" ({ cls := "com/example/unfussy_repo/unfussyrepo/query/Operator", name := "matchesText", desc := "()Z" } : Jvm.MethodName) ({ cls := "com/example/unfussy_repo/unfussyrepo/query/Operator", name := "matchesText", desc := "()Z" } : Jvm.MethodName)) ∈ tables_1 := List.mem_of_getElem? (i := 40) rfl
theorem wd41 : (Jvm.Cond.code ({ cls := "com/example/unfussy_repo/unfussyrepo/query/Operator", name := "matchesText", desc := "()Z" } : Jvm.MethodName) prog_53_method_6_code (1 : Nat) (Option.some Jvm.ClassFile.FieldType.boolean)) ∈ tables_1 := List.mem_of_getElem? (i := 41) rfl
theorem wd42 : (Jvm.Cond.methodLink "com/example/unfussy_repo/unfussyrepo/query/Operator" (94 : Nat) ({ cls := "com/example/unfussy_repo/unfussyrepo/query/Operator", name := "ordinal", desc := "()I" } : Jvm.MethodName)) ∈ tables_1 := List.mem_of_getElem? (i := 42) rfl
theorem wd43 : (Jvm.Cond.sameMethod "com/example/unfussy_repo/unfussyrepo/query/Operator" "java/lang/Enum" "ordinal" "()I") ∈ tables_1 := List.mem_of_getElem? (i := 43) rfl
theorem wd44 : (Jvm.Cond.declares ({ cls := "java/lang/Enum", name := "ordinal", desc := "()I" } : Jvm.MethodName)) ∈ tables_1 := List.mem_of_getElem? (i := 44) rfl
theorem wd45 : (Jvm.Cond.instanceMethod ({ cls := "java/lang/Enum", name := "ordinal", desc := "()I" } : Jvm.MethodName)) ∈ tables_1 := List.mem_of_getElem? (i := 45) rfl
theorem wd46 : (Jvm.Cond.selects "com/example/unfussy_repo/unfussyrepo/query/Operator" ({ cls := "com/example/unfussy_repo/unfussyrepo/query/Operator", name := "ordinal", desc := "()I" } : Jvm.MethodName) ({ cls := "java/lang/Enum", name := "ordinal", desc := "()I" } : Jvm.MethodName)) ∈ tables_1 := List.mem_of_getElem? (i := 46) rfl
theorem wd47 : (Jvm.Cond.initialized "java/lang/Enum") ∈ tables_1 := List.mem_of_getElem? (i := 47) rfl
theorem wd48 : (Jvm.Cond.code ({ cls := "java/lang/Enum", name := "ordinal", desc := "()I" } : Jvm.MethodName) jdk_37_method_2_code (1 : Nat) (Option.some Jvm.ClassFile.FieldType.int)) ∈ tables_1 := List.mem_of_getElem? (i := 48) rfl
theorem wd49 : (Jvm.Cond.fieldLink "java/lang/Enum" (7 : Nat) "java/lang/Enum" "ordinal" "I") ∈ tables_1 := List.mem_of_getElem? (i := 49) rfl
theorem wd51 : (Jvm.Cond.fieldLink "com/example/unfussy_repo/unfussyrepo/query/OperatorTakesCollectionPinLaw" (40 : Nat) "com/example/unfussy_repo/unfussyrepo/query/Operator" "FALSE" "Lcom/example/unfussy_repo/unfussyrepo/query/Operator;") ∈ tables_1 := List.mem_of_getElem? (i := 51) rfl
theorem wd52 : (Jvm.Cond.laysStatic "com/example/unfussy_repo/unfussyrepo/query/Operator" "FALSE" "Lcom/example/unfussy_repo/unfussyrepo/query/Operator;") ∈ tables_1 := List.mem_of_getElem? (i := 52) rfl
theorem wd53 : (Jvm.Cond.fieldLink "com/example/unfussy_repo/unfussyrepo/query/OperatorTakesCollectionPinLaw" (34 : Nat) "com/example/unfussy_repo/unfussyrepo/query/Operator" "IS_NOT_NULL" "Lcom/example/unfussy_repo/unfussyrepo/query/Operator;") ∈ tables_1 := List.mem_of_getElem? (i := 53) rfl
theorem wd54 : (Jvm.Cond.laysStatic "com/example/unfussy_repo/unfussyrepo/query/Operator" "IS_NOT_NULL" "Lcom/example/unfussy_repo/unfussyrepo/query/Operator;") ∈ tables_1 := List.mem_of_getElem? (i := 54) rfl
theorem wd55 : (Jvm.Cond.fieldLink "com/example/unfussy_repo/unfussyrepo/query/OperatorTakesCollectionPinLaw" (13 : Nat) "com/example/unfussy_repo/unfussyrepo/query/Operator" "NOT_EQUALS" "Lcom/example/unfussy_repo/unfussyrepo/query/Operator;") ∈ tables_1 := List.mem_of_getElem? (i := 55) rfl
theorem wd56 : (Jvm.Cond.laysStatic "com/example/unfussy_repo/unfussyrepo/query/Operator" "NOT_EQUALS" "Lcom/example/unfussy_repo/unfussyrepo/query/Operator;") ∈ tables_1 := List.mem_of_getElem? (i := 56) rfl
theorem wd57 : (Jvm.Cond.fieldLink "com/example/unfussy_repo/unfussyrepo/query/OperatorTakesCollectionPinLaw" (52 : Nat) "com/example/unfussy_repo/unfussyrepo/query/Operator" "NOT_LIKE" "Lcom/example/unfussy_repo/unfussyrepo/query/Operator;") ∈ tables_1 := List.mem_of_getElem? (i := 57) rfl
theorem wd58 : (Jvm.Cond.laysStatic "com/example/unfussy_repo/unfussyrepo/query/Operator" "NOT_LIKE" "Lcom/example/unfussy_repo/unfussyrepo/query/Operator;") ∈ tables_1 := List.mem_of_getElem? (i := 58) rfl
theorem wd59 : (Jvm.Cond.fieldLink "com/example/unfussy_repo/unfussyrepo/query/OperatorTakesCollectionPinLaw" (64 : Nat) "com/example/unfussy_repo/unfussyrepo/query/Operator" "NOT_CONTAINING" "Lcom/example/unfussy_repo/unfussyrepo/query/Operator;") ∈ tables_1 := List.mem_of_getElem? (i := 59) rfl
theorem wd60 : (Jvm.Cond.laysStatic "com/example/unfussy_repo/unfussyrepo/query/Operator" "NOT_CONTAINING" "Lcom/example/unfussy_repo/unfussyrepo/query/Operator;") ∈ tables_1 := List.mem_of_getElem? (i := 60) rfl
theorem wd61 : (Jvm.Cond.fieldLink "com/example/unfussy_repo/unfussyrepo/query/OperatorTakesCollectionPinLaw" (28 : Nat) "com/example/unfussy_repo/unfussyrepo/query/Operator" "GREATER_THAN_OR_EQUAL" "Lcom/example/unfussy_repo/unfussyrepo/query/Operator;") ∈ tables_1 := List.mem_of_getElem? (i := 61) rfl
theorem wd62 : (Jvm.Cond.laysStatic "com/example/unfussy_repo/unfussyrepo/query/Operator" "GREATER_THAN_OR_EQUAL" "Lcom/example/unfussy_repo/unfussyrepo/query/Operator;") ∈ tables_1 := List.mem_of_getElem? (i := 62) rfl
theorem wd63 : (Jvm.Cond.fieldLink "com/example/unfussy_repo/unfussyrepo/query/OperatorTakesCollectionPinLaw" (58 : Nat) "com/example/unfussy_repo/unfussyrepo/query/Operator" "ENDING_WITH" "Lcom/example/unfussy_repo/unfussyrepo/query/Operator;") ∈ tables_1 := List.mem_of_getElem? (i := 63) rfl
theorem wd64 : (Jvm.Cond.laysStatic "com/example/unfussy_repo/unfussyrepo/query/Operator" "ENDING_WITH" "Lcom/example/unfussy_repo/unfussyrepo/query/Operator;") ∈ tables_1 := List.mem_of_getElem? (i := 64) rfl
theorem wd65 : (Jvm.Cond.fieldLink "com/example/unfussy_repo/unfussyrepo/query/OperatorTakesCollectionPinLaw" (22 : Nat) "com/example/unfussy_repo/unfussyrepo/query/Operator" "LESS_THAN_OR_EQUAL" "Lcom/example/unfussy_repo/unfussyrepo/query/Operator;") ∈ tables_1 := List.mem_of_getElem? (i := 65) rfl
theorem wd66 : (Jvm.Cond.laysStatic "com/example/unfussy_repo/unfussyrepo/query/Operator" "LESS_THAN_OR_EQUAL" "Lcom/example/unfussy_repo/unfussyrepo/query/Operator;") ∈ tables_1 := List.mem_of_getElem? (i := 66) rfl
theorem wd67 : (Jvm.Cond.fieldLink "com/example/unfussy_repo/unfussyrepo/query/OperatorTakesCollectionPinLaw" (37 : Nat) "com/example/unfussy_repo/unfussyrepo/query/Operator" "TRUE" "Lcom/example/unfussy_repo/unfussyrepo/query/Operator;") ∈ tables_1 := List.mem_of_getElem? (i := 67) rfl
theorem wd68 : (Jvm.Cond.laysStatic "com/example/unfussy_repo/unfussyrepo/query/Operator" "TRUE" "Lcom/example/unfussy_repo/unfussyrepo/query/Operator;") ∈ tables_1 := List.mem_of_getElem? (i := 68) rfl
theorem wd69 : (Jvm.Cond.fieldLink "com/example/unfussy_repo/unfussyrepo/query/OperatorTakesCollectionPinLaw" (46 : Nat) "com/example/unfussy_repo/unfussyrepo/query/Operator" "NOT_IN" "Lcom/example/unfussy_repo/unfussyrepo/query/Operator;") ∈ tables_1 := List.mem_of_getElem? (i := 69) rfl
theorem wd70 : (Jvm.Cond.fieldLink "com/example/unfussy_repo/unfussyrepo/query/OperatorTakesCollectionPinLaw" (49 : Nat) "com/example/unfussy_repo/unfussyrepo/query/Operator" "LIKE" "Lcom/example/unfussy_repo/unfussyrepo/query/Operator;") ∈ tables_1 := List.mem_of_getElem? (i := 70) rfl
theorem wd71 : (Jvm.Cond.laysStatic "com/example/unfussy_repo/unfussyrepo/query/Operator" "LIKE" "Lcom/example/unfussy_repo/unfussyrepo/query/Operator;") ∈ tables_1 := List.mem_of_getElem? (i := 71) rfl
theorem d1_0 : decode method_2_code 0 = .ok (.iload_n 0, 1) := by decide +kernel
theorem d1_1 : decode method_2_code 1 = .ok (.ifCond .ne 7, 3) := by decide +kernel
theorem d1_4 : decode method_2_code 4 = .ok (.getstatic 7, 3) := by decide +kernel
theorem d1_7 : decode method_2_code 7 = .ok (.areturn, 1) := by decide +kernel
theorem d1_8 : decode method_2_code 8 = .ok (.iload_n 0, 1) := by decide +kernel
theorem d1_9 : decode method_2_code 9 = .ok (.iconst 1, 1) := by decide +kernel
theorem d1_10 : decode method_2_code 10 = .ok (.if_icmp .ne 7, 3) := by decide +kernel
theorem d1_13 : decode method_2_code 13 = .ok (.getstatic 13, 3) := by decide +kernel
theorem d1_16 : decode method_2_code 16 = .ok (.areturn, 1) := by decide +kernel
theorem d1_17 : decode method_2_code 17 = .ok (.iload_n 0, 1) := by decide +kernel
theorem d1_18 : decode method_2_code 18 = .ok (.iconst 2, 1) := by decide +kernel
theorem d1_19 : decode method_2_code 19 = .ok (.if_icmp .ne 7, 3) := by decide +kernel
theorem d1_22 : decode method_2_code 22 = .ok (.getstatic 16, 3) := by decide +kernel
theorem d1_25 : decode method_2_code 25 = .ok (.areturn, 1) := by decide +kernel
theorem d1_26 : decode method_2_code 26 = .ok (.iload_n 0, 1) := by decide +kernel
theorem d1_27 : decode method_2_code 27 = .ok (.iconst 3, 1) := by decide +kernel
theorem d1_28 : decode method_2_code 28 = .ok (.if_icmp .ne 7, 3) := by decide +kernel
theorem d1_31 : decode method_2_code 31 = .ok (.getstatic 19, 3) := by decide +kernel
theorem d1_34 : decode method_2_code 34 = .ok (.areturn, 1) := by decide +kernel
theorem d1_35 : decode method_2_code 35 = .ok (.iload_n 0, 1) := by decide +kernel
theorem d1_36 : decode method_2_code 36 = .ok (.iconst 4, 1) := by decide +kernel
theorem d1_37 : decode method_2_code 37 = .ok (.if_icmp .ne 7, 3) := by decide +kernel
theorem d1_40 : decode method_2_code 40 = .ok (.getstatic 22, 3) := by decide +kernel
theorem d1_43 : decode method_2_code 43 = .ok (.areturn, 1) := by decide +kernel
theorem d1_44 : decode method_2_code 44 = .ok (.iload_n 0, 1) := by decide +kernel
theorem d1_45 : decode method_2_code 45 = .ok (.iconst 5, 1) := by decide +kernel
theorem d1_46 : decode method_2_code 46 = .ok (.if_icmp .ne 7, 3) := by decide +kernel
theorem d1_49 : decode method_2_code 49 = .ok (.getstatic 25, 3) := by decide +kernel
theorem d1_52 : decode method_2_code 52 = .ok (.areturn, 1) := by decide +kernel
theorem d1_53 : decode method_2_code 53 = .ok (.iload_n 0, 1) := by decide +kernel
theorem d1_54 : decode method_2_code 54 = .ok (.bipush 6, 2) := by decide +kernel
theorem d1_56 : decode method_2_code 56 = .ok (.if_icmp .ne 7, 3) := by decide +kernel
theorem d1_59 : decode method_2_code 59 = .ok (.getstatic 28, 3) := by decide +kernel
theorem d1_62 : decode method_2_code 62 = .ok (.areturn, 1) := by decide +kernel
theorem d1_63 : decode method_2_code 63 = .ok (.iload_n 0, 1) := by decide +kernel
theorem d1_64 : decode method_2_code 64 = .ok (.bipush 7, 2) := by decide +kernel
theorem d1_66 : decode method_2_code 66 = .ok (.if_icmp .ne 7, 3) := by decide +kernel
theorem d1_69 : decode method_2_code 69 = .ok (.getstatic 31, 3) := by decide +kernel
theorem d1_72 : decode method_2_code 72 = .ok (.areturn, 1) := by decide +kernel
theorem d1_73 : decode method_2_code 73 = .ok (.iload_n 0, 1) := by decide +kernel
theorem d1_74 : decode method_2_code 74 = .ok (.bipush 8, 2) := by decide +kernel
theorem d1_76 : decode method_2_code 76 = .ok (.if_icmp .ne 7, 3) := by decide +kernel
theorem d1_79 : decode method_2_code 79 = .ok (.getstatic 34, 3) := by decide +kernel
theorem d1_82 : decode method_2_code 82 = .ok (.areturn, 1) := by decide +kernel
theorem d1_83 : decode method_2_code 83 = .ok (.iload_n 0, 1) := by decide +kernel
theorem d1_84 : decode method_2_code 84 = .ok (.bipush 9, 2) := by decide +kernel
theorem d1_86 : decode method_2_code 86 = .ok (.if_icmp .ne 7, 3) := by decide +kernel
theorem d1_89 : decode method_2_code 89 = .ok (.getstatic 37, 3) := by decide +kernel
theorem d1_92 : decode method_2_code 92 = .ok (.areturn, 1) := by decide +kernel
theorem d1_93 : decode method_2_code 93 = .ok (.iload_n 0, 1) := by decide +kernel
theorem d1_94 : decode method_2_code 94 = .ok (.bipush 10, 2) := by decide +kernel
theorem d1_96 : decode method_2_code 96 = .ok (.if_icmp .ne 7, 3) := by decide +kernel
theorem d1_99 : decode method_2_code 99 = .ok (.getstatic 40, 3) := by decide +kernel
theorem d1_102 : decode method_2_code 102 = .ok (.areturn, 1) := by decide +kernel
theorem d1_103 : decode method_2_code 103 = .ok (.iload_n 0, 1) := by decide +kernel
theorem d1_104 : decode method_2_code 104 = .ok (.bipush 11, 2) := by decide +kernel
theorem d1_106 : decode method_2_code 106 = .ok (.if_icmp .ne 7, 3) := by decide +kernel
theorem d1_109 : decode method_2_code 109 = .ok (.getstatic 43, 3) := by decide +kernel
theorem d1_112 : decode method_2_code 112 = .ok (.areturn, 1) := by decide +kernel
theorem d1_113 : decode method_2_code 113 = .ok (.iload_n 0, 1) := by decide +kernel
theorem d1_114 : decode method_2_code 114 = .ok (.bipush 12, 2) := by decide +kernel
theorem d1_116 : decode method_2_code 116 = .ok (.if_icmp .ne 7, 3) := by decide +kernel
theorem d1_119 : decode method_2_code 119 = .ok (.getstatic 46, 3) := by decide +kernel
theorem d1_122 : decode method_2_code 122 = .ok (.areturn, 1) := by decide +kernel
theorem d1_123 : decode method_2_code 123 = .ok (.iload_n 0, 1) := by decide +kernel
theorem d1_124 : decode method_2_code 124 = .ok (.bipush 13, 2) := by decide +kernel
theorem d1_126 : decode method_2_code 126 = .ok (.if_icmp .ne 7, 3) := by decide +kernel
theorem d1_129 : decode method_2_code 129 = .ok (.getstatic 49, 3) := by decide +kernel
theorem d1_132 : decode method_2_code 132 = .ok (.areturn, 1) := by decide +kernel
theorem d1_133 : decode method_2_code 133 = .ok (.iload_n 0, 1) := by decide +kernel
theorem d1_134 : decode method_2_code 134 = .ok (.bipush 14, 2) := by decide +kernel
theorem d1_136 : decode method_2_code 136 = .ok (.if_icmp .ne 7, 3) := by decide +kernel
theorem d1_139 : decode method_2_code 139 = .ok (.getstatic 52, 3) := by decide +kernel
theorem d1_142 : decode method_2_code 142 = .ok (.areturn, 1) := by decide +kernel
theorem d1_143 : decode method_2_code 143 = .ok (.iload_n 0, 1) := by decide +kernel
theorem d1_144 : decode method_2_code 144 = .ok (.bipush 15, 2) := by decide +kernel
theorem d1_146 : decode method_2_code 146 = .ok (.if_icmp .ne 7, 3) := by decide +kernel
theorem d1_149 : decode method_2_code 149 = .ok (.getstatic 55, 3) := by decide +kernel
theorem d1_152 : decode method_2_code 152 = .ok (.areturn, 1) := by decide +kernel
theorem d1_153 : decode method_2_code 153 = .ok (.iload_n 0, 1) := by decide +kernel
theorem d1_154 : decode method_2_code 154 = .ok (.bipush 16, 2) := by decide +kernel
theorem d1_156 : decode method_2_code 156 = .ok (.if_icmp .ne 7, 3) := by decide +kernel
theorem d1_159 : decode method_2_code 159 = .ok (.getstatic 58, 3) := by decide +kernel
theorem d1_162 : decode method_2_code 162 = .ok (.areturn, 1) := by decide +kernel
theorem d1_163 : decode method_2_code 163 = .ok (.iload_n 0, 1) := by decide +kernel
theorem d1_164 : decode method_2_code 164 = .ok (.bipush 17, 2) := by decide +kernel
theorem d1_166 : decode method_2_code 166 = .ok (.if_icmp .ne 7, 3) := by decide +kernel
theorem d1_169 : decode method_2_code 169 = .ok (.getstatic 61, 3) := by decide +kernel
theorem d1_172 : decode method_2_code 172 = .ok (.areturn, 1) := by decide +kernel
theorem d1_173 : decode method_2_code 173 = .ok (.getstatic 64, 3) := by decide +kernel
theorem d1_176 : decode method_2_code 176 = .ok (.areturn, 1) := by decide +kernel
theorem d2_0 : decode prog_53_method_5_code 0 = .ok (.aload_n 0, 1) := by decide +kernel
theorem d2_1 : decode prog_53_method_5_code 1 = .ok (.getstatic 37, 3) := by decide +kernel
theorem d2_4 : decode prog_53_method_5_code 4 = .ok (.if_acmp .eq 10, 3) := by decide +kernel
theorem d2_7 : decode prog_53_method_5_code 7 = .ok (.aload_n 0, 1) := by decide +kernel
theorem d2_8 : decode prog_53_method_5_code 8 = .ok (.getstatic 40, 3) := by decide +kernel
theorem d2_11 : decode prog_53_method_5_code 11 = .ok (.if_acmp .ne 7, 3) := by decide +kernel
theorem d2_14 : decode prog_53_method_5_code 14 = .ok (.iconst 1, 1) := by decide +kernel
theorem d2_15 : decode prog_53_method_5_code 15 = .ok (.goto 4, 3) := by decide +kernel
theorem d2_18 : decode prog_53_method_5_code 18 = .ok (.iconst 0, 1) := by decide +kernel
theorem d2_19 : decode prog_53_method_5_code 19 = .ok (.ireturn, 1) := by decide +kernel
theorem d3_0 : decode prog_53_method_4_code 0 = .ok (.aload_n 0, 1) := by decide +kernel
theorem d3_1 : decode prog_53_method_4_code 1 = .ok (.getfield 80, 3) := by decide +kernel
theorem d3_4 : decode prog_53_method_4_code 4 = .ok (.ireturn, 1) := by decide +kernel
theorem d4_0 : decode prog_53_method_6_code 0 = .ok (.aload_n 0, 1) := by decide +kernel
theorem d4_1 : decode prog_53_method_6_code 1 = .ok (.invokevirtual 94, 3) := by decide +kernel
theorem d4_4 : decode prog_53_method_6_code 4 = .ok (.tableswitch 44 13 18 #[40, 40, 40, 40, 40, 40], 40) := by decide +kernel
theorem d4_48 : decode prog_53_method_6_code 48 = .ok (.iconst 0, 1) := by decide +kernel
theorem d4_49 : decode prog_53_method_6_code 49 = .ok (.ireturn, 1) := by decide +kernel
theorem d5_0 : decode jdk_37_method_2_code 0 = .ok (.aload_n 0, 1) := by decide +kernel
theorem d5_1 : decode jdk_37_method_2_code 1 = .ok (.getfield 7, 3) := by decide +kernel
theorem d5_4 : decode jdk_37_method_2_code 4 = .ok (.ireturn, 1) := by decide +kernel
theorem pd0 : parseMethodDescriptor "(I)Lcom/example/unfussy_repo/unfussyrepo/query/Operator;" = some ⟨[.int], some (.object "com/example/unfussy_repo/unfussyrepo/query/Operator")⟩ := by decide +kernel
theorem pd1 : parseMethodDescriptor "()Z" = some ⟨[], some .boolean⟩ := by decide +kernel
theorem pd2 : parseMethodDescriptor "()I" = some ⟨[], some .int⟩ := by decide +kernel
theorem pn0 : plainName "com/example/unfussy_repo/unfussyrepo/query/OperatorTakesCollectionPinLaw" = true := by first | (simp [plainName, overriddenIn]; done) | decide +kernel
theorem pn1 : plainName "com/example/unfussy_repo/unfussyrepo/query/OperatorTakesCollectionPinLaw" = true := by first | (simp [plainName, overriddenIn]; done) | decide +kernel
theorem pn2 : plainName "com/example/unfussy_repo/unfussyrepo/query/Operator" = true := by first | (simp [plainName, overriddenIn]; done) | decide +kernel
theorem pn3 : plainName "com/example/unfussy_repo/unfussyrepo/query/Operator" = true := by first | (simp [plainName, overriddenIn]; done) | decide +kernel
theorem pn4 : plainName "com/example/unfussy_repo/unfussyrepo/query/Operator" = true := by first | (simp [plainName, overriddenIn]; done) | decide +kernel
theorem pn5 : plainName "java/lang/Enum" = true := by first | (simp [plainName, overriddenIn]; done) | decide +kernel
def World (Z : State) (w_Operator_EQUALS w_Operator_IN w_Operator_NOT_IN w_Operator_LESS_THAN w_Operator_STARTING_WITH w_Operator_GREATER_THAN w_Operator_CONTAINING w_Operator_IS_NULL w_Operator_BETWEEN w_Operator_FALSE w_Operator_IS_NOT_NULL w_Operator_NOT_EQUALS w_Operator_NOT_LIKE w_Operator_NOT_CONTAINING w_Operator_GREATER_THAN_OR_EQUAL w_Operator_ENDING_WITH w_Operator_LESS_THAN_OR_EQUAL w_Operator_TRUE w_Operator_LIKE : Addr) : Prop :=
  Sta Z Z.heap "com/example/unfussy_repo/unfussyrepo/query/Operator" "EQUALS" "Lcom/example/unfussy_repo/unfussyrepo/query/Operator;" (.ref w_Operator_EQUALS) ∧
  Exa Z Z.heap w_Operator_EQUALS "com/example/unfussy_repo/unfussyrepo/query/Operator" ∧
  Sta Z Z.heap "com/example/unfussy_repo/unfussyrepo/query/Operator" "IN" "Lcom/example/unfussy_repo/unfussyrepo/query/Operator;" (.ref w_Operator_IN) ∧
  Exa Z Z.heap w_Operator_IN "com/example/unfussy_repo/unfussyrepo/query/Operator" ∧
  Sta Z Z.heap "com/example/unfussy_repo/unfussyrepo/query/Operator" "NOT_IN" "Lcom/example/unfussy_repo/unfussyrepo/query/Operator;" (.ref w_Operator_NOT_IN) ∧
  Exa Z Z.heap w_Operator_NOT_IN "com/example/unfussy_repo/unfussyrepo/query/Operator" ∧
  Sta Z Z.heap "com/example/unfussy_repo/unfussyrepo/query/Operator" "LESS_THAN" "Lcom/example/unfussy_repo/unfussyrepo/query/Operator;" (.ref w_Operator_LESS_THAN) ∧
  Exa Z Z.heap w_Operator_LESS_THAN "com/example/unfussy_repo/unfussyrepo/query/Operator" ∧
  Sta Z Z.heap "com/example/unfussy_repo/unfussyrepo/query/Operator" "STARTING_WITH" "Lcom/example/unfussy_repo/unfussyrepo/query/Operator;" (.ref w_Operator_STARTING_WITH) ∧
  Exa Z Z.heap w_Operator_STARTING_WITH "com/example/unfussy_repo/unfussyrepo/query/Operator" ∧
  Sta Z Z.heap "com/example/unfussy_repo/unfussyrepo/query/Operator" "GREATER_THAN" "Lcom/example/unfussy_repo/unfussyrepo/query/Operator;" (.ref w_Operator_GREATER_THAN) ∧
  Exa Z Z.heap w_Operator_GREATER_THAN "com/example/unfussy_repo/unfussyrepo/query/Operator" ∧
  Sta Z Z.heap "com/example/unfussy_repo/unfussyrepo/query/Operator" "CONTAINING" "Lcom/example/unfussy_repo/unfussyrepo/query/Operator;" (.ref w_Operator_CONTAINING) ∧
  Exa Z Z.heap w_Operator_CONTAINING "com/example/unfussy_repo/unfussyrepo/query/Operator" ∧
  Sta Z Z.heap "com/example/unfussy_repo/unfussyrepo/query/Operator" "IS_NULL" "Lcom/example/unfussy_repo/unfussyrepo/query/Operator;" (.ref w_Operator_IS_NULL) ∧
  Exa Z Z.heap w_Operator_IS_NULL "com/example/unfussy_repo/unfussyrepo/query/Operator" ∧
  Sta Z Z.heap "com/example/unfussy_repo/unfussyrepo/query/Operator" "BETWEEN" "Lcom/example/unfussy_repo/unfussyrepo/query/Operator;" (.ref w_Operator_BETWEEN) ∧
  Exa Z Z.heap w_Operator_BETWEEN "com/example/unfussy_repo/unfussyrepo/query/Operator" ∧
  Sta Z Z.heap "com/example/unfussy_repo/unfussyrepo/query/Operator" "FALSE" "Lcom/example/unfussy_repo/unfussyrepo/query/Operator;" (.ref w_Operator_FALSE) ∧
  Exa Z Z.heap w_Operator_FALSE "com/example/unfussy_repo/unfussyrepo/query/Operator" ∧
  Sta Z Z.heap "com/example/unfussy_repo/unfussyrepo/query/Operator" "IS_NOT_NULL" "Lcom/example/unfussy_repo/unfussyrepo/query/Operator;" (.ref w_Operator_IS_NOT_NULL) ∧
  Exa Z Z.heap w_Operator_IS_NOT_NULL "com/example/unfussy_repo/unfussyrepo/query/Operator" ∧
  Sta Z Z.heap "com/example/unfussy_repo/unfussyrepo/query/Operator" "NOT_EQUALS" "Lcom/example/unfussy_repo/unfussyrepo/query/Operator;" (.ref w_Operator_NOT_EQUALS) ∧
  Exa Z Z.heap w_Operator_NOT_EQUALS "com/example/unfussy_repo/unfussyrepo/query/Operator" ∧
  Sta Z Z.heap "com/example/unfussy_repo/unfussyrepo/query/Operator" "NOT_LIKE" "Lcom/example/unfussy_repo/unfussyrepo/query/Operator;" (.ref w_Operator_NOT_LIKE) ∧
  Exa Z Z.heap w_Operator_NOT_LIKE "com/example/unfussy_repo/unfussyrepo/query/Operator" ∧
  Sta Z Z.heap "com/example/unfussy_repo/unfussyrepo/query/Operator" "NOT_CONTAINING" "Lcom/example/unfussy_repo/unfussyrepo/query/Operator;" (.ref w_Operator_NOT_CONTAINING) ∧
  Exa Z Z.heap w_Operator_NOT_CONTAINING "com/example/unfussy_repo/unfussyrepo/query/Operator" ∧
  Sta Z Z.heap "com/example/unfussy_repo/unfussyrepo/query/Operator" "GREATER_THAN_OR_EQUAL" "Lcom/example/unfussy_repo/unfussyrepo/query/Operator;" (.ref w_Operator_GREATER_THAN_OR_EQUAL) ∧
  Exa Z Z.heap w_Operator_GREATER_THAN_OR_EQUAL "com/example/unfussy_repo/unfussyrepo/query/Operator" ∧
  Sta Z Z.heap "com/example/unfussy_repo/unfussyrepo/query/Operator" "ENDING_WITH" "Lcom/example/unfussy_repo/unfussyrepo/query/Operator;" (.ref w_Operator_ENDING_WITH) ∧
  Exa Z Z.heap w_Operator_ENDING_WITH "com/example/unfussy_repo/unfussyrepo/query/Operator" ∧
  Sta Z Z.heap "com/example/unfussy_repo/unfussyrepo/query/Operator" "LESS_THAN_OR_EQUAL" "Lcom/example/unfussy_repo/unfussyrepo/query/Operator;" (.ref w_Operator_LESS_THAN_OR_EQUAL) ∧
  Exa Z Z.heap w_Operator_LESS_THAN_OR_EQUAL "com/example/unfussy_repo/unfussyrepo/query/Operator" ∧
  Sta Z Z.heap "com/example/unfussy_repo/unfussyrepo/query/Operator" "TRUE" "Lcom/example/unfussy_repo/unfussyrepo/query/Operator;" (.ref w_Operator_TRUE) ∧
  Exa Z Z.heap w_Operator_TRUE "com/example/unfussy_repo/unfussyrepo/query/Operator" ∧
  Sta Z Z.heap "com/example/unfussy_repo/unfussyrepo/query/Operator" "LIKE" "Lcom/example/unfussy_repo/unfussyrepo/query/Operator;" (.ref w_Operator_LIKE) ∧
  Exa Z Z.heap w_Operator_LIKE "com/example/unfussy_repo/unfussyrepo/query/Operator" ∧
  Fld Z Z.heap w_Operator_EQUALS "java/lang/Enum" "ordinal" "I" (.int 0) ∧
  Fld Z Z.heap w_Operator_IN "java/lang/Enum" "ordinal" "I" (.int 11) ∧
  Fld Z Z.heap w_Operator_NOT_IN "java/lang/Enum" "ordinal" "I" (.int 12) ∧
  Fld Z Z.heap w_Operator_LESS_THAN "java/lang/Enum" "ordinal" "I" (.int 3) ∧
  Fld Z Z.heap w_Operator_STARTING_WITH "java/lang/Enum" "ordinal" "I" (.int 15) ∧
  Fld Z Z.heap w_Operator_GREATER_THAN "java/lang/Enum" "ordinal" "I" (.int 5) ∧
  Fld Z Z.heap w_Operator_CONTAINING "java/lang/Enum" "ordinal" "I" (.int 17) ∧
  Fld Z Z.heap w_Operator_IS_NULL "java/lang/Enum" "ordinal" "I" (.int 7) ∧
  Fld Z Z.heap w_Operator_BETWEEN "java/lang/Enum" "ordinal" "I" (.int 2) ∧
  Fld Z Z.heap w_Operator_IN "com/example/unfussy_repo/unfussyrepo/query/Operator" "arguments" "I" (.int 1) ∧
  Fld Z Z.heap w_Operator_FALSE "java/lang/Enum" "ordinal" "I" (.int 10) ∧
  Fld Z Z.heap w_Operator_IS_NOT_NULL "java/lang/Enum" "ordinal" "I" (.int 8) ∧
  Fld Z Z.heap w_Operator_NOT_EQUALS "java/lang/Enum" "ordinal" "I" (.int 1) ∧
  Fld Z Z.heap w_Operator_NOT_LIKE "java/lang/Enum" "ordinal" "I" (.int 14) ∧
  Fld Z Z.heap w_Operator_NOT_CONTAINING "java/lang/Enum" "ordinal" "I" (.int 18) ∧
  Fld Z Z.heap w_Operator_GREATER_THAN_OR_EQUAL "java/lang/Enum" "ordinal" "I" (.int 6) ∧
  Fld Z Z.heap w_Operator_ENDING_WITH "java/lang/Enum" "ordinal" "I" (.int 16) ∧
  Fld Z Z.heap w_Operator_LESS_THAN_OR_EQUAL "java/lang/Enum" "ordinal" "I" (.int 4) ∧
  Fld Z Z.heap w_Operator_TRUE "java/lang/Enum" "ordinal" "I" (.int 9) ∧
  Fld Z Z.heap w_Operator_NOT_IN "com/example/unfussy_repo/unfussyrepo/query/Operator" "arguments" "I" (.int 1) ∧
  Fld Z Z.heap w_Operator_LIKE "java/lang/Enum" "ordinal" "I" (.int 13) ∧
  Fld Z Z.heap w_Operator_EQUALS "com/example/unfussy_repo/unfussyrepo/query/Operator" "arguments" "I" (.int 1) ∧
  Fld Z Z.heap w_Operator_LESS_THAN "com/example/unfussy_repo/unfussyrepo/query/Operator" "arguments" "I" (.int 1) ∧
  Fld Z Z.heap w_Operator_STARTING_WITH "com/example/unfussy_repo/unfussyrepo/query/Operator" "arguments" "I" (.int 1) ∧
  Fld Z Z.heap w_Operator_GREATER_THAN "com/example/unfussy_repo/unfussyrepo/query/Operator" "arguments" "I" (.int 1) ∧
  Fld Z Z.heap w_Operator_CONTAINING "com/example/unfussy_repo/unfussyrepo/query/Operator" "arguments" "I" (.int 1) ∧
  Fld Z Z.heap w_Operator_IS_NULL "com/example/unfussy_repo/unfussyrepo/query/Operator" "arguments" "I" (.int 0) ∧
  Fld Z Z.heap w_Operator_BETWEEN "com/example/unfussy_repo/unfussyrepo/query/Operator" "arguments" "I" (.int 2) ∧
  Fld Z Z.heap w_Operator_FALSE "com/example/unfussy_repo/unfussyrepo/query/Operator" "arguments" "I" (.int 0) ∧
  Fld Z Z.heap w_Operator_IS_NOT_NULL "com/example/unfussy_repo/unfussyrepo/query/Operator" "arguments" "I" (.int 0) ∧
  Fld Z Z.heap w_Operator_NOT_EQUALS "com/example/unfussy_repo/unfussyrepo/query/Operator" "arguments" "I" (.int 1) ∧
  Fld Z Z.heap w_Operator_NOT_LIKE "com/example/unfussy_repo/unfussyrepo/query/Operator" "arguments" "I" (.int 1) ∧
  Fld Z Z.heap w_Operator_NOT_CONTAINING "com/example/unfussy_repo/unfussyrepo/query/Operator" "arguments" "I" (.int 1) ∧
  Fld Z Z.heap w_Operator_GREATER_THAN_OR_EQUAL "com/example/unfussy_repo/unfussyrepo/query/Operator" "arguments" "I" (.int 1) ∧
  Fld Z Z.heap w_Operator_ENDING_WITH "com/example/unfussy_repo/unfussyrepo/query/Operator" "arguments" "I" (.int 1) ∧
  Fld Z Z.heap w_Operator_LESS_THAN_OR_EQUAL "com/example/unfussy_repo/unfussyrepo/query/Operator" "arguments" "I" (.int 1) ∧
  Fld Z Z.heap w_Operator_TRUE "com/example/unfussy_repo/unfussyrepo/query/Operator" "arguments" "I" (.int 0) ∧
  Fld Z Z.heap w_Operator_LIKE "com/example/unfussy_repo/unfussyrepo/query/Operator" "arguments" "I" (.int 1)
abbrev Bg (Z : State) (a0 : Array Value) (w_Operator_EQUALS w_Operator_IN w_Operator_NOT_IN w_Operator_LESS_THAN w_Operator_STARTING_WITH w_Operator_GREATER_THAN w_Operator_CONTAINING w_Operator_IS_NULL w_Operator_BETWEEN w_Operator_FALSE w_Operator_IS_NOT_NULL w_Operator_NOT_EQUALS w_Operator_NOT_LIKE w_Operator_NOT_CONTAINING w_Operator_GREATER_THAN_OR_EQUAL w_Operator_ENDING_WITH w_Operator_LESS_THAN_OR_EQUAL w_Operator_TRUE w_Operator_LIKE : Addr) : Prop := (∀ d ∈ tables_1, d.before a0 Z = true) ∧ World Z w_Operator_EQUALS w_Operator_IN w_Operator_NOT_IN w_Operator_LESS_THAN w_Operator_STARTING_WITH w_Operator_GREATER_THAN w_Operator_CONTAINING w_Operator_IS_NULL w_Operator_BETWEEN w_Operator_FALSE w_Operator_IS_NOT_NULL w_Operator_NOT_EQUALS w_Operator_NOT_LIKE w_Operator_NOT_CONTAINING w_Operator_GREATER_THAN_OR_EQUAL w_Operator_ENDING_WITH w_Operator_LESS_THAN_OR_EQUAL w_Operator_TRUE w_Operator_LIKE
theorem mod_cases (k : Int32) : ((k &&& (2147483647 : Int32)) % (19 : Int32)) = (0 : Int32) ∨ ((k &&& (2147483647 : Int32)) % (19 : Int32)) = (1 : Int32) ∨ ((k &&& (2147483647 : Int32)) % (19 : Int32)) = (2 : Int32) ∨ ((k &&& (2147483647 : Int32)) % (19 : Int32)) = (3 : Int32) ∨ ((k &&& (2147483647 : Int32)) % (19 : Int32)) = (4 : Int32) ∨ ((k &&& (2147483647 : Int32)) % (19 : Int32)) = (5 : Int32) ∨ ((k &&& (2147483647 : Int32)) % (19 : Int32)) = (6 : Int32) ∨ ((k &&& (2147483647 : Int32)) % (19 : Int32)) = (7 : Int32) ∨ ((k &&& (2147483647 : Int32)) % (19 : Int32)) = (8 : Int32) ∨ ((k &&& (2147483647 : Int32)) % (19 : Int32)) = (9 : Int32) ∨ ((k &&& (2147483647 : Int32)) % (19 : Int32)) = (10 : Int32) ∨ ((k &&& (2147483647 : Int32)) % (19 : Int32)) = (11 : Int32) ∨ ((k &&& (2147483647 : Int32)) % (19 : Int32)) = (12 : Int32) ∨ ((k &&& (2147483647 : Int32)) % (19 : Int32)) = (13 : Int32) ∨ ((k &&& (2147483647 : Int32)) % (19 : Int32)) = (14 : Int32) ∨ ((k &&& (2147483647 : Int32)) % (19 : Int32)) = (15 : Int32) ∨ ((k &&& (2147483647 : Int32)) % (19 : Int32)) = (16 : Int32) ∨ ((k &&& (2147483647 : Int32)) % (19 : Int32)) = (17 : Int32) ∨ ((k &&& (2147483647 : Int32)) % (19 : Int32)) = (18 : Int32) := by
  have h1 := c_mask k (2147483647 : Int32) 31 (by decide) (by decide)
  have h2 := (c_irem (k &&& (2147483647 : Int32)) (19 : Int32) 19 (by decide)).1 (by omega)
  simp only [← Int32.toInt_inj]
  have e : ∀ i : Fin 19, (Int32.ofNat i.1).toInt = (i.1 : Int) := by decide
  have e0 : (0 : Int32).toInt = 0 := by decide
  have e1 : (1 : Int32).toInt = 1 := by decide
  have e2 : (2 : Int32).toInt = 2 := by decide
  have e3 : (3 : Int32).toInt = 3 := by decide
  have e4 : (4 : Int32).toInt = 4 := by decide
  have e5 : (5 : Int32).toInt = 5 := by decide
  have e6 : (6 : Int32).toInt = 6 := by decide
  have e7 : (7 : Int32).toInt = 7 := by decide
  have e8 : (8 : Int32).toInt = 8 := by decide
  have e9 : (9 : Int32).toInt = 9 := by decide
  have e10 : (10 : Int32).toInt = 10 := by decide
  have e11 : (11 : Int32).toInt = 11 := by decide
  have e12 : (12 : Int32).toInt = 12 := by decide
  have e13 : (13 : Int32).toInt = 13 := by decide
  have e14 : (14 : Int32).toInt = 14 := by decide
  have e15 : (15 : Int32).toInt = 15 := by decide
  have e16 : (16 : Int32).toInt = 16 := by decide
  have e17 : (17 : Int32).toInt = 17 := by decide
  have e18 : (18 : Int32).toInt = 18 := by decide
  omega
section Walk
variable {l : Launch} {Z : State} {a0 : Array Value} {w_Operator_EQUALS w_Operator_IN w_Operator_NOT_IN w_Operator_LESS_THAN w_Operator_STARTING_WITH w_Operator_GREATER_THAN w_Operator_CONTAINING w_Operator_IS_NULL w_Operator_BETWEEN w_Operator_FALSE w_Operator_IS_NOT_NULL w_Operator_NOT_EQUALS w_Operator_NOT_LIKE w_Operator_NOT_CONTAINING w_Operator_GREATER_THAN_OR_EQUAL w_Operator_ENDING_WITH w_Operator_LESS_THAN_OR_EQUAL w_Operator_TRUE w_Operator_LIKE : Addr}
theorem rm2_1 (B : Bg Z a0 w_Operator_EQUALS w_Operator_IN w_Operator_NOT_IN w_Operator_LESS_THAN w_Operator_STARTING_WITH w_Operator_GREATER_THAN w_Operator_CONTAINING w_Operator_IS_NULL w_Operator_BETWEEN w_Operator_FALSE w_Operator_IS_NOT_NULL w_Operator_NOT_EQUALS w_Operator_NOT_LIKE w_Operator_NOT_CONTAINING w_Operator_GREATER_THAN_OR_EQUAL w_Operator_ENDING_WITH w_Operator_LESS_THAN_OR_EQUAL w_Operator_TRUE w_Operator_LIKE) :
    Con l Z (⟨"com/example/unfussy_repo/unfussyrepo/query/OperatorTakesCollectionPinLaw", "pick", "(I)Lcom/example/unfussy_repo/unfussyrepo/query/Operator;"⟩ : MethodName) method_2_code 1 (some (.object "com/example/unfussy_repo/unfussyrepo/query/Operator")) ({ frames := 0, cells := 0, slots := 0, locals := 0 } : Room) #[(.int 0)] Z.heap (fun v h' L => v = some (.ref w_Operator_EQUALS) ∧ h' = Z.heap ∧ L = []) := by
  have hw := B.1
  obtain ⟨S_w_Operator_EQUALS, E_w_Operator_EQUALS, S_w_Operator_IN, E_w_Operator_IN, S_w_Operator_NOT_IN, E_w_Operator_NOT_IN, S_w_Operator_LESS_THAN, E_w_Operator_LESS_THAN, S_w_Operator_STARTING_WITH, E_w_Operator_STARTING_WITH, S_w_Operator_GREATER_THAN, E_w_Operator_GREATER_THAN, S_w_Operator_CONTAINING, E_w_Operator_CONTAINING, S_w_Operator_IS_NULL, E_w_Operator_IS_NULL, S_w_Operator_BETWEEN, E_w_Operator_BETWEEN, S_w_Operator_FALSE, E_w_Operator_FALSE, S_w_Operator_IS_NOT_NULL, E_w_Operator_IS_NOT_NULL, S_w_Operator_NOT_EQUALS, E_w_Operator_NOT_EQUALS, S_w_Operator_NOT_LIKE, E_w_Operator_NOT_LIKE, S_w_Operator_NOT_CONTAINING, E_w_Operator_NOT_CONTAINING, S_w_Operator_GREATER_THAN_OR_EQUAL, E_w_Operator_GREATER_THAN_OR_EQUAL, S_w_Operator_ENDING_WITH, E_w_Operator_ENDING_WITH, S_w_Operator_LESS_THAN_OR_EQUAL, E_w_Operator_LESS_THAN_OR_EQUAL, S_w_Operator_TRUE, E_w_Operator_TRUE, S_w_Operator_LIKE, E_w_Operator_LIKE, F_w_Operator_EQUALS_ordinal, F_w_Operator_IN_ordinal, F_w_Operator_NOT_IN_ordinal, F_w_Operator_LESS_THAN_ordinal, F_w_Operator_STARTING_WITH_ordinal, F_w_Operator_GREATER_THAN_ordinal, F_w_Operator_CONTAINING_ordinal, F_w_Operator_IS_NULL_ordinal, F_w_Operator_BETWEEN_ordinal, F_w_Operator_IN_arguments, F_w_Operator_FALSE_ordinal, F_w_Operator_IS_NOT_NULL_ordinal, F_w_Operator_NOT_EQUALS_ordinal, F_w_Operator_NOT_LIKE_ordinal, F_w_Operator_NOT_CONTAINING_ordinal, F_w_Operator_GREATER_THAN_OR_EQUAL_ordinal, F_w_Operator_ENDING_WITH_ordinal, F_w_Operator_LESS_THAN_OR_EQUAL_ordinal, F_w_Operator_TRUE_ordinal, F_w_Operator_NOT_IN_arguments, F_w_Operator_LIKE_ordinal, F_w_Operator_EQUALS_arguments, F_w_Operator_LESS_THAN_arguments, F_w_Operator_STARTING_WITH_arguments, F_w_Operator_GREATER_THAN_arguments, F_w_Operator_CONTAINING_arguments, F_w_Operator_IS_NULL_arguments, F_w_Operator_BETWEEN_arguments, F_w_Operator_FALSE_arguments, F_w_Operator_IS_NOT_NULL_arguments, F_w_Operator_NOT_EQUALS_arguments, F_w_Operator_NOT_LIKE_arguments, F_w_Operator_NOT_CONTAINING_arguments, F_w_Operator_GREATER_THAN_OR_EQUAL_arguments, F_w_Operator_ENDING_WITH_arguments, F_w_Operator_LESS_THAN_OR_EQUAL_arguments, F_w_Operator_TRUE_arguments, F_w_Operator_LIKE_arguments⟩ := B.2
  refine Con.of (plainFor_of_name pn1) (Ls := #[vI 0]) (fun _ => rfl) ?_
  intro p e s m below meth c T0 X0 H hml hZ hown hnm hret hlk e0
  refine gIloadN X0 H d1_0 rfl 1 rfl ?_
  refine gIfN X0 H d1_1 (by decide) 4 rfl ?_
  refine gGetS X0 H hZ hown (hw _ wd5) e0 S_w_Operator_EQUALS d1_4 7 rfl ?_
  intro T1 X1 e1
  exact gRetA X1 H hlk hret rfl rfl rfl d1_7 e1 ⟨rfl, rfl, rfl⟩
theorem rm6_2 (B : Bg Z a0 w_Operator_EQUALS w_Operator_IN w_Operator_NOT_IN w_Operator_LESS_THAN w_Operator_STARTING_WITH w_Operator_GREATER_THAN w_Operator_CONTAINING w_Operator_IS_NULL w_Operator_BETWEEN w_Operator_FALSE w_Operator_IS_NOT_NULL w_Operator_NOT_EQUALS w_Operator_NOT_LIKE w_Operator_NOT_CONTAINING w_Operator_GREATER_THAN_OR_EQUAL w_Operator_ENDING_WITH w_Operator_LESS_THAN_OR_EQUAL w_Operator_TRUE w_Operator_LIKE) :
    Con l Z (⟨"com/example/unfussy_repo/unfussyrepo/query/Operator", "takesCollection", "()Z"⟩ : MethodName) prog_53_method_5_code 1 (some .boolean) ({ frames := 0, cells := 0, slots := 0, locals := 0 } : Room) #[(.ref w_Operator_EQUALS)] Z.heap (fun v h' L => v = some (.int 0) ∧ h' = Z.heap ∧ L = []) := by
  have hw := B.1
  obtain ⟨S_w_Operator_EQUALS, E_w_Operator_EQUALS, S_w_Operator_IN, E_w_Operator_IN, S_w_Operator_NOT_IN, E_w_Operator_NOT_IN, S_w_Operator_LESS_THAN, E_w_Operator_LESS_THAN, S_w_Operator_STARTING_WITH, E_w_Operator_STARTING_WITH, S_w_Operator_GREATER_THAN, E_w_Operator_GREATER_THAN, S_w_Operator_CONTAINING, E_w_Operator_CONTAINING, S_w_Operator_IS_NULL, E_w_Operator_IS_NULL, S_w_Operator_BETWEEN, E_w_Operator_BETWEEN, S_w_Operator_FALSE, E_w_Operator_FALSE, S_w_Operator_IS_NOT_NULL, E_w_Operator_IS_NOT_NULL, S_w_Operator_NOT_EQUALS, E_w_Operator_NOT_EQUALS, S_w_Operator_NOT_LIKE, E_w_Operator_NOT_LIKE, S_w_Operator_NOT_CONTAINING, E_w_Operator_NOT_CONTAINING, S_w_Operator_GREATER_THAN_OR_EQUAL, E_w_Operator_GREATER_THAN_OR_EQUAL, S_w_Operator_ENDING_WITH, E_w_Operator_ENDING_WITH, S_w_Operator_LESS_THAN_OR_EQUAL, E_w_Operator_LESS_THAN_OR_EQUAL, S_w_Operator_TRUE, E_w_Operator_TRUE, S_w_Operator_LIKE, E_w_Operator_LIKE, F_w_Operator_EQUALS_ordinal, F_w_Operator_IN_ordinal, F_w_Operator_NOT_IN_ordinal, F_w_Operator_LESS_THAN_ordinal, F_w_Operator_STARTING_WITH_ordinal, F_w_Operator_GREATER_THAN_ordinal, F_w_Operator_CONTAINING_ordinal, F_w_Operator_IS_NULL_ordinal, F_w_Operator_BETWEEN_ordinal, F_w_Operator_IN_arguments, F_w_Operator_FALSE_ordinal, F_w_Operator_IS_NOT_NULL_ordinal, F_w_Operator_NOT_EQUALS_ordinal, F_w_Operator_NOT_LIKE_ordinal, F_w_Operator_NOT_CONTAINING_ordinal, F_w_Operator_GREATER_THAN_OR_EQUAL_ordinal, F_w_Operator_ENDING_WITH_ordinal, F_w_Operator_LESS_THAN_OR_EQUAL_ordinal, F_w_Operator_TRUE_ordinal, F_w_Operator_NOT_IN_arguments, F_w_Operator_LIKE_ordinal, F_w_Operator_EQUALS_arguments, F_w_Operator_LESS_THAN_arguments, F_w_Operator_STARTING_WITH_arguments, F_w_Operator_GREATER_THAN_arguments, F_w_Operator_CONTAINING_arguments, F_w_Operator_IS_NULL_arguments, F_w_Operator_BETWEEN_arguments, F_w_Operator_FALSE_arguments, F_w_Operator_IS_NOT_NULL_arguments, F_w_Operator_NOT_EQUALS_arguments, F_w_Operator_NOT_LIKE_arguments, F_w_Operator_NOT_CONTAINING_arguments, F_w_Operator_GREATER_THAN_OR_EQUAL_arguments, F_w_Operator_ENDING_WITH_arguments, F_w_Operator_LESS_THAN_OR_EQUAL_arguments, F_w_Operator_TRUE_arguments, F_w_Operator_LIKE_arguments⟩ := B.2
  refine Con.of (plainFor_of_name pn2) (Ls := #[vR w_Operator_EQUALS]) (fun _ => rfl) ?_
  intro p e s m below meth c T0 X0 H hml hZ hown hnm hret hlk e0
  refine gAloadN X0 H d2_0 rfl rfl 1 rfl ?_
  refine gGetS X0 H hZ hown (hw _ wd13) e0 S_w_Operator_IN d2_1 4 rfl ?_
  intro T4 X4 e4
  refine gAcmp X4 H d2_4 rfl rfl (same := false) (decide_eq_false fun q => (Fld.ne F_w_Operator_EQUALS_ordinal F_w_Operator_IN_ordinal (by decide)) (Value.ref.inj q)) (by decide) 7 (by decide) ?_
  refine gAloadN X4 H d2_7 rfl rfl 8 rfl ?_
  refine gGetS X4 H hZ hown (hw _ wd15) e4 S_w_Operator_NOT_IN d2_8 11 rfl ?_
  intro T5 X5 e5
  refine gAcmp X5 H d2_11 rfl rfl (same := false) (decide_eq_false fun q => (Fld.ne F_w_Operator_EQUALS_ordinal F_w_Operator_NOT_IN_ordinal (by decide)) (Value.ref.inj q)) (by decide) 18 (by decide) ?_
  refine gIconst X5 H d2_18 (z := 0) rfl 19 rfl ?_
  exact gRetN X5 H hlk hret (t := .boolean) (by simp) d2_19 e5 ⟨rfl, rfl, rfl⟩
theorem lawAll_0 (B : Bg Z a0 w_Operator_EQUALS w_Operator_IN w_Operator_NOT_IN w_Operator_LESS_THAN w_Operator_STARTING_WITH w_Operator_GREATER_THAN w_Operator_CONTAINING w_Operator_IS_NULL w_Operator_BETWEEN w_Operator_FALSE w_Operator_IS_NOT_NULL w_Operator_NOT_EQUALS w_Operator_NOT_LIKE w_Operator_NOT_CONTAINING w_Operator_GREATER_THAN_OR_EQUAL w_Operator_ENDING_WITH w_Operator_LESS_THAN_OR_EQUAL w_Operator_TRUE w_Operator_LIKE) (p0 : Int32) (ha0 : ((p0 &&& (2147483647 : Int32)) % (19 : Int32)) = (0 : Int32)) :
    Con l Z x code maxLocals ret room_1 #[(.int p0)] Z.heap (fun v h' L => v = some (.int 1) ∧ Fr Z.heap.size L) := by
  have hw := B.1
  obtain ⟨S_w_Operator_EQUALS, E_w_Operator_EQUALS, S_w_Operator_IN, E_w_Operator_IN, S_w_Operator_NOT_IN, E_w_Operator_NOT_IN, S_w_Operator_LESS_THAN, E_w_Operator_LESS_THAN, S_w_Operator_STARTING_WITH, E_w_Operator_STARTING_WITH, S_w_Operator_GREATER_THAN, E_w_Operator_GREATER_THAN, S_w_Operator_CONTAINING, E_w_Operator_CONTAINING, S_w_Operator_IS_NULL, E_w_Operator_IS_NULL, S_w_Operator_BETWEEN, E_w_Operator_BETWEEN, S_w_Operator_FALSE, E_w_Operator_FALSE, S_w_Operator_IS_NOT_NULL, E_w_Operator_IS_NOT_NULL, S_w_Operator_NOT_EQUALS, E_w_Operator_NOT_EQUALS, S_w_Operator_NOT_LIKE, E_w_Operator_NOT_LIKE, S_w_Operator_NOT_CONTAINING, E_w_Operator_NOT_CONTAINING, S_w_Operator_GREATER_THAN_OR_EQUAL, E_w_Operator_GREATER_THAN_OR_EQUAL, S_w_Operator_ENDING_WITH, E_w_Operator_ENDING_WITH, S_w_Operator_LESS_THAN_OR_EQUAL, E_w_Operator_LESS_THAN_OR_EQUAL, S_w_Operator_TRUE, E_w_Operator_TRUE, S_w_Operator_LIKE, E_w_Operator_LIKE, F_w_Operator_EQUALS_ordinal, F_w_Operator_IN_ordinal, F_w_Operator_NOT_IN_ordinal, F_w_Operator_LESS_THAN_ordinal, F_w_Operator_STARTING_WITH_ordinal, F_w_Operator_GREATER_THAN_ordinal, F_w_Operator_CONTAINING_ordinal, F_w_Operator_IS_NULL_ordinal, F_w_Operator_BETWEEN_ordinal, F_w_Operator_IN_arguments, F_w_Operator_FALSE_ordinal, F_w_Operator_IS_NOT_NULL_ordinal, F_w_Operator_NOT_EQUALS_ordinal, F_w_Operator_NOT_LIKE_ordinal, F_w_Operator_NOT_CONTAINING_ordinal, F_w_Operator_GREATER_THAN_OR_EQUAL_ordinal, F_w_Operator_ENDING_WITH_ordinal, F_w_Operator_LESS_THAN_OR_EQUAL_ordinal, F_w_Operator_TRUE_ordinal, F_w_Operator_NOT_IN_arguments, F_w_Operator_LIKE_ordinal, F_w_Operator_EQUALS_arguments, F_w_Operator_LESS_THAN_arguments, F_w_Operator_STARTING_WITH_arguments, F_w_Operator_GREATER_THAN_arguments, F_w_Operator_CONTAINING_arguments, F_w_Operator_IS_NULL_arguments, F_w_Operator_BETWEEN_arguments, F_w_Operator_FALSE_arguments, F_w_Operator_IS_NOT_NULL_arguments, F_w_Operator_NOT_EQUALS_arguments, F_w_Operator_NOT_LIKE_arguments, F_w_Operator_NOT_CONTAINING_arguments, F_w_Operator_GREATER_THAN_OR_EQUAL_arguments, F_w_Operator_ENDING_WITH_arguments, F_w_Operator_LESS_THAN_OR_EQUAL_arguments, F_w_Operator_TRUE_arguments, F_w_Operator_LIKE_arguments⟩ := B.2
  refine Con.of (plainFor_of_name pn0) (Ls := #[vI p0, .unset, .unset, .unset, .unset]) (fun _ => rfl) ?_
  intro p e s m below meth c T0 X0 H hml hZ hown hnm hret hlk e0
  refine gIloadN X0 H at_0 rfl 1 rfl ?_
  refine gLdc X0 H hZ hown (hw _ wd0) at_1 3 rfl ?_
  refine g_iand X0 H at_3 (z := (p0 &&& (2147483647 : Int32))) rfl 4 rfl ?_
  refine gBipush X0 H at_4 (z := 19) rfl 6 rfl ?_
  refine g_irem X0 H at_6 (by decide) (z := 0) ha0 7 rfl ?_
  refine gIstoreN X0 H at_7 (Ls' := #[vI p0, vI 0, .unset, .unset, .unset]) rfl 8 rfl ?_
  refine gIloadN X0 H at_8 rfl 9 rfl ?_
  refine gStatic X0 H hZ hown (hw _ wd1) (hw _ wd2) (by decide) (hw _ wd4) (hw _ wd3) (rm2_1 B) e0 hml rfl pd0 rfl (W := 0) (argsL := [(.int 0)]) (rest := []) rfl rfl at_9 12 rfl ?_
  intro v3 T3 L3 hq3 X3
  obtain ⟨rfl, e3, rfl⟩ := hq3
  show Go _ _ _ _ (State.setTop _ (mkF _ 12 _ [(.ref w_Operator_EQUALS)]))
  refine gAstoreN X3 H at_12 rfl (Ls' := #[vI p0, vI 0, vR w_Operator_EQUALS, .unset, .unset]) rfl 13 rfl ?_
  refine gAloadN X3 H at_13 rfl rfl 14 rfl ?_
  refine gVirt X3 H hZ hown (hw _ wd8) (hw _ wd9) (hw _ wd11) (hw _ wd10) (by decide) E_w_Operator_EQUALS (hw _ wd12) (hw _ wd6) (rm6_2 B) e3 hml rfl pd1 rfl (W := 0) (argsL := []) (rest := []) rfl rfl at_14 17 rfl ?_
  intro v7 T7 L7 hq7 X7
  obtain ⟨rfl, e7, rfl⟩ := hq7
  show Go _ _ _ _ (State.setTop _ (mkF _ 17 _ [(.int 0)]))
  refine gIstoreN X7 H at_17 (Ls' := #[vI p0, vI 0, vR w_Operator_EQUALS, vI 0, .unset]) rfl 18 rfl ?_
  refine gIloadN X7 H at_18 rfl 19 rfl ?_
  refine gBipush X7 H at_19 (z := 11) rfl 21 rfl ?_
  refine gCmpN X7 H at_21 (by decide) 24 rfl ?_
  refine gIloadN X7 H at_24 rfl 25 rfl ?_
  refine gBipush X7 H at_25 (z := 12) rfl 27 rfl ?_
  refine gCmpY X7 H at_27 (by decide) (by decide) 34 rfl ?_
  refine gIconst X7 H at_34 (z := 0) rfl 35 rfl ?_
  refine gIstore X7 H at_35 (Ls' := #[vI p0, vI 0, vR w_Operator_EQUALS, vI 0, vI 0]) rfl 37 rfl ?_
  refine gIloadN X7 H at_37 rfl 38 rfl ?_
  refine gIload X7 H at_38 rfl 40 rfl ?_
  refine gCmpY X7 H at_40 (by decide) (by decide) 45 rfl ?_
  refine gIloadN X7 H at_45 rfl 46 rfl ?_
  refine gIfY X7 H at_46 (by decide) (by decide) 70 rfl ?_
  refine gIconst X7 H at_70 (z := 1) rfl 71 rfl ?_
  exact gRetN X7 H hlk hret (t := .boolean) (by simp) at_71 e7 ⟨rfl, Fr.nil _⟩
theorem rm9_1 (B : Bg Z a0 w_Operator_EQUALS w_Operator_IN w_Operator_NOT_IN w_Operator_LESS_THAN w_Operator_STARTING_WITH w_Operator_GREATER_THAN w_Operator_CONTAINING w_Operator_IS_NULL w_Operator_BETWEEN w_Operator_FALSE w_Operator_IS_NOT_NULL w_Operator_NOT_EQUALS w_Operator_NOT_LIKE w_Operator_NOT_CONTAINING w_Operator_GREATER_THAN_OR_EQUAL w_Operator_ENDING_WITH w_Operator_LESS_THAN_OR_EQUAL w_Operator_TRUE w_Operator_LIKE) :
    Con l Z (⟨"com/example/unfussy_repo/unfussyrepo/query/OperatorTakesCollectionPinLaw", "pick", "(I)Lcom/example/unfussy_repo/unfussyrepo/query/Operator;"⟩ : MethodName) method_2_code 1 (some (.object "com/example/unfussy_repo/unfussyrepo/query/Operator")) ({ frames := 0, cells := 0, slots := 0, locals := 0 } : Room) #[(.int 1)] Z.heap (fun v h' L => v = some (.ref w_Operator_NOT_EQUALS) ∧ h' = Z.heap ∧ L = []) := by
  have hw := B.1
  obtain ⟨S_w_Operator_EQUALS, E_w_Operator_EQUALS, S_w_Operator_IN, E_w_Operator_IN, S_w_Operator_NOT_IN, E_w_Operator_NOT_IN, S_w_Operator_LESS_THAN, E_w_Operator_LESS_THAN, S_w_Operator_STARTING_WITH, E_w_Operator_STARTING_WITH, S_w_Operator_GREATER_THAN, E_w_Operator_GREATER_THAN, S_w_Operator_CONTAINING, E_w_Operator_CONTAINING, S_w_Operator_IS_NULL, E_w_Operator_IS_NULL, S_w_Operator_BETWEEN, E_w_Operator_BETWEEN, S_w_Operator_FALSE, E_w_Operator_FALSE, S_w_Operator_IS_NOT_NULL, E_w_Operator_IS_NOT_NULL, S_w_Operator_NOT_EQUALS, E_w_Operator_NOT_EQUALS, S_w_Operator_NOT_LIKE, E_w_Operator_NOT_LIKE, S_w_Operator_NOT_CONTAINING, E_w_Operator_NOT_CONTAINING, S_w_Operator_GREATER_THAN_OR_EQUAL, E_w_Operator_GREATER_THAN_OR_EQUAL, S_w_Operator_ENDING_WITH, E_w_Operator_ENDING_WITH, S_w_Operator_LESS_THAN_OR_EQUAL, E_w_Operator_LESS_THAN_OR_EQUAL, S_w_Operator_TRUE, E_w_Operator_TRUE, S_w_Operator_LIKE, E_w_Operator_LIKE, F_w_Operator_EQUALS_ordinal, F_w_Operator_IN_ordinal, F_w_Operator_NOT_IN_ordinal, F_w_Operator_LESS_THAN_ordinal, F_w_Operator_STARTING_WITH_ordinal, F_w_Operator_GREATER_THAN_ordinal, F_w_Operator_CONTAINING_ordinal, F_w_Operator_IS_NULL_ordinal, F_w_Operator_BETWEEN_ordinal, F_w_Operator_IN_arguments, F_w_Operator_FALSE_ordinal, F_w_Operator_IS_NOT_NULL_ordinal, F_w_Operator_NOT_EQUALS_ordinal, F_w_Operator_NOT_LIKE_ordinal, F_w_Operator_NOT_CONTAINING_ordinal, F_w_Operator_GREATER_THAN_OR_EQUAL_ordinal, F_w_Operator_ENDING_WITH_ordinal, F_w_Operator_LESS_THAN_OR_EQUAL_ordinal, F_w_Operator_TRUE_ordinal, F_w_Operator_NOT_IN_arguments, F_w_Operator_LIKE_ordinal, F_w_Operator_EQUALS_arguments, F_w_Operator_LESS_THAN_arguments, F_w_Operator_STARTING_WITH_arguments, F_w_Operator_GREATER_THAN_arguments, F_w_Operator_CONTAINING_arguments, F_w_Operator_IS_NULL_arguments, F_w_Operator_BETWEEN_arguments, F_w_Operator_FALSE_arguments, F_w_Operator_IS_NOT_NULL_arguments, F_w_Operator_NOT_EQUALS_arguments, F_w_Operator_NOT_LIKE_arguments, F_w_Operator_NOT_CONTAINING_arguments, F_w_Operator_GREATER_THAN_OR_EQUAL_arguments, F_w_Operator_ENDING_WITH_arguments, F_w_Operator_LESS_THAN_OR_EQUAL_arguments, F_w_Operator_TRUE_arguments, F_w_Operator_LIKE_arguments⟩ := B.2
  refine Con.of (plainFor_of_name pn1) (Ls := #[vI 1]) (fun _ => rfl) ?_
  intro p e s m below meth c T0 X0 H hml hZ hown hnm hret hlk e0
  refine gIloadN X0 H d1_0 rfl 1 rfl ?_
  refine gIfY X0 H d1_1 (by decide) (by decide) 8 rfl ?_
  refine gIloadN X0 H d1_8 rfl 9 rfl ?_
  refine gIconst X0 H d1_9 (z := 1) rfl 10 rfl ?_
  refine gCmpN X0 H d1_10 (by decide) 13 rfl ?_
  refine gGetS X0 H hZ hown (hw _ wd55) e0 S_w_Operator_NOT_EQUALS d1_13 16 rfl ?_
  intro T8 X8 e8
  exact gRetA X8 H hlk hret rfl rfl rfl d1_16 e8 ⟨rfl, rfl, rfl⟩
theorem rm13_2 (B : Bg Z a0 w_Operator_EQUALS w_Operator_IN w_Operator_NOT_IN w_Operator_LESS_THAN w_Operator_STARTING_WITH w_Operator_GREATER_THAN w_Operator_CONTAINING w_Operator_IS_NULL w_Operator_BETWEEN w_Operator_FALSE w_Operator_IS_NOT_NULL w_Operator_NOT_EQUALS w_Operator_NOT_LIKE w_Operator_NOT_CONTAINING w_Operator_GREATER_THAN_OR_EQUAL w_Operator_ENDING_WITH w_Operator_LESS_THAN_OR_EQUAL w_Operator_TRUE w_Operator_LIKE) :
    Con l Z (⟨"com/example/unfussy_repo/unfussyrepo/query/Operator", "takesCollection", "()Z"⟩ : MethodName) prog_53_method_5_code 1 (some .boolean) ({ frames := 0, cells := 0, slots := 0, locals := 0 } : Room) #[(.ref w_Operator_NOT_EQUALS)] Z.heap (fun v h' L => v = some (.int 0) ∧ h' = Z.heap ∧ L = []) := by
  have hw := B.1
  obtain ⟨S_w_Operator_EQUALS, E_w_Operator_EQUALS, S_w_Operator_IN, E_w_Operator_IN, S_w_Operator_NOT_IN, E_w_Operator_NOT_IN, S_w_Operator_LESS_THAN, E_w_Operator_LESS_THAN, S_w_Operator_STARTING_WITH, E_w_Operator_STARTING_WITH, S_w_Operator_GREATER_THAN, E_w_Operator_GREATER_THAN, S_w_Operator_CONTAINING, E_w_Operator_CONTAINING, S_w_Operator_IS_NULL, E_w_Operator_IS_NULL, S_w_Operator_BETWEEN, E_w_Operator_BETWEEN, S_w_Operator_FALSE, E_w_Operator_FALSE, S_w_Operator_IS_NOT_NULL, E_w_Operator_IS_NOT_NULL, S_w_Operator_NOT_EQUALS, E_w_Operator_NOT_EQUALS, S_w_Operator_NOT_LIKE, E_w_Operator_NOT_LIKE, S_w_Operator_NOT_CONTAINING, E_w_Operator_NOT_CONTAINING, S_w_Operator_GREATER_THAN_OR_EQUAL, E_w_Operator_GREATER_THAN_OR_EQUAL, S_w_Operator_ENDING_WITH, E_w_Operator_ENDING_WITH, S_w_Operator_LESS_THAN_OR_EQUAL, E_w_Operator_LESS_THAN_OR_EQUAL, S_w_Operator_TRUE, E_w_Operator_TRUE, S_w_Operator_LIKE, E_w_Operator_LIKE, F_w_Operator_EQUALS_ordinal, F_w_Operator_IN_ordinal, F_w_Operator_NOT_IN_ordinal, F_w_Operator_LESS_THAN_ordinal, F_w_Operator_STARTING_WITH_ordinal, F_w_Operator_GREATER_THAN_ordinal, F_w_Operator_CONTAINING_ordinal, F_w_Operator_IS_NULL_ordinal, F_w_Operator_BETWEEN_ordinal, F_w_Operator_IN_arguments, F_w_Operator_FALSE_ordinal, F_w_Operator_IS_NOT_NULL_ordinal, F_w_Operator_NOT_EQUALS_ordinal, F_w_Operator_NOT_LIKE_ordinal, F_w_Operator_NOT_CONTAINING_ordinal, F_w_Operator_GREATER_THAN_OR_EQUAL_ordinal, F_w_Operator_ENDING_WITH_ordinal, F_w_Operator_LESS_THAN_OR_EQUAL_ordinal, F_w_Operator_TRUE_ordinal, F_w_Operator_NOT_IN_arguments, F_w_Operator_LIKE_ordinal, F_w_Operator_EQUALS_arguments, F_w_Operator_LESS_THAN_arguments, F_w_Operator_STARTING_WITH_arguments, F_w_Operator_GREATER_THAN_arguments, F_w_Operator_CONTAINING_arguments, F_w_Operator_IS_NULL_arguments, F_w_Operator_BETWEEN_arguments, F_w_Operator_FALSE_arguments, F_w_Operator_IS_NOT_NULL_arguments, F_w_Operator_NOT_EQUALS_arguments, F_w_Operator_NOT_LIKE_arguments, F_w_Operator_NOT_CONTAINING_arguments, F_w_Operator_GREATER_THAN_OR_EQUAL_arguments, F_w_Operator_ENDING_WITH_arguments, F_w_Operator_LESS_THAN_OR_EQUAL_arguments, F_w_Operator_TRUE_arguments, F_w_Operator_LIKE_arguments⟩ := B.2
  refine Con.of (plainFor_of_name pn2) (Ls := #[vR w_Operator_NOT_EQUALS]) (fun _ => rfl) ?_
  intro p e s m below meth c T0 X0 H hml hZ hown hnm hret hlk e0
  refine gAloadN X0 H d2_0 rfl rfl 1 rfl ?_
  refine gGetS X0 H hZ hown (hw _ wd13) e0 S_w_Operator_IN d2_1 4 rfl ?_
  intro T11 X11 e11
  refine gAcmp X11 H d2_4 rfl rfl (same := false) (decide_eq_false fun q => (Fld.ne F_w_Operator_NOT_EQUALS_ordinal F_w_Operator_IN_ordinal (by decide)) (Value.ref.inj q)) (by decide) 7 (by decide) ?_
  refine gAloadN X11 H d2_7 rfl rfl 8 rfl ?_
  refine gGetS X11 H hZ hown (hw _ wd15) e11 S_w_Operator_NOT_IN d2_8 11 rfl ?_
  intro T12 X12 e12
  refine gAcmp X12 H d2_11 rfl rfl (same := false) (decide_eq_false fun q => (Fld.ne F_w_Operator_NOT_EQUALS_ordinal F_w_Operator_NOT_IN_ordinal (by decide)) (Value.ref.inj q)) (by decide) 18 (by decide) ?_
  refine gIconst X12 H d2_18 (z := 0) rfl 19 rfl ?_
  exact gRetN X12 H hlk hret (t := .boolean) (by simp) d2_19 e12 ⟨rfl, rfl, rfl⟩
theorem lawAll_1 (B : Bg Z a0 w_Operator_EQUALS w_Operator_IN w_Operator_NOT_IN w_Operator_LESS_THAN w_Operator_STARTING_WITH w_Operator_GREATER_THAN w_Operator_CONTAINING w_Operator_IS_NULL w_Operator_BETWEEN w_Operator_FALSE w_Operator_IS_NOT_NULL w_Operator_NOT_EQUALS w_Operator_NOT_LIKE w_Operator_NOT_CONTAINING w_Operator_GREATER_THAN_OR_EQUAL w_Operator_ENDING_WITH w_Operator_LESS_THAN_OR_EQUAL w_Operator_TRUE w_Operator_LIKE) (p0 : Int32) (ha0 : ((p0 &&& (2147483647 : Int32)) % (19 : Int32)) = (1 : Int32)) :
    Con l Z x code maxLocals ret room_1 #[(.int p0)] Z.heap (fun v h' L => v = some (.int 1) ∧ Fr Z.heap.size L) := by
  have hw := B.1
  obtain ⟨S_w_Operator_EQUALS, E_w_Operator_EQUALS, S_w_Operator_IN, E_w_Operator_IN, S_w_Operator_NOT_IN, E_w_Operator_NOT_IN, S_w_Operator_LESS_THAN, E_w_Operator_LESS_THAN, S_w_Operator_STARTING_WITH, E_w_Operator_STARTING_WITH, S_w_Operator_GREATER_THAN, E_w_Operator_GREATER_THAN, S_w_Operator_CONTAINING, E_w_Operator_CONTAINING, S_w_Operator_IS_NULL, E_w_Operator_IS_NULL, S_w_Operator_BETWEEN, E_w_Operator_BETWEEN, S_w_Operator_FALSE, E_w_Operator_FALSE, S_w_Operator_IS_NOT_NULL, E_w_Operator_IS_NOT_NULL, S_w_Operator_NOT_EQUALS, E_w_Operator_NOT_EQUALS, S_w_Operator_NOT_LIKE, E_w_Operator_NOT_LIKE, S_w_Operator_NOT_CONTAINING, E_w_Operator_NOT_CONTAINING, S_w_Operator_GREATER_THAN_OR_EQUAL, E_w_Operator_GREATER_THAN_OR_EQUAL, S_w_Operator_ENDING_WITH, E_w_Operator_ENDING_WITH, S_w_Operator_LESS_THAN_OR_EQUAL, E_w_Operator_LESS_THAN_OR_EQUAL, S_w_Operator_TRUE, E_w_Operator_TRUE, S_w_Operator_LIKE, E_w_Operator_LIKE, F_w_Operator_EQUALS_ordinal, F_w_Operator_IN_ordinal, F_w_Operator_NOT_IN_ordinal, F_w_Operator_LESS_THAN_ordinal, F_w_Operator_STARTING_WITH_ordinal, F_w_Operator_GREATER_THAN_ordinal, F_w_Operator_CONTAINING_ordinal, F_w_Operator_IS_NULL_ordinal, F_w_Operator_BETWEEN_ordinal, F_w_Operator_IN_arguments, F_w_Operator_FALSE_ordinal, F_w_Operator_IS_NOT_NULL_ordinal, F_w_Operator_NOT_EQUALS_ordinal, F_w_Operator_NOT_LIKE_ordinal, F_w_Operator_NOT_CONTAINING_ordinal, F_w_Operator_GREATER_THAN_OR_EQUAL_ordinal, F_w_Operator_ENDING_WITH_ordinal, F_w_Operator_LESS_THAN_OR_EQUAL_ordinal, F_w_Operator_TRUE_ordinal, F_w_Operator_NOT_IN_arguments, F_w_Operator_LIKE_ordinal, F_w_Operator_EQUALS_arguments, F_w_Operator_LESS_THAN_arguments, F_w_Operator_STARTING_WITH_arguments, F_w_Operator_GREATER_THAN_arguments, F_w_Operator_CONTAINING_arguments, F_w_Operator_IS_NULL_arguments, F_w_Operator_BETWEEN_arguments, F_w_Operator_FALSE_arguments, F_w_Operator_IS_NOT_NULL_arguments, F_w_Operator_NOT_EQUALS_arguments, F_w_Operator_NOT_LIKE_arguments, F_w_Operator_NOT_CONTAINING_arguments, F_w_Operator_GREATER_THAN_OR_EQUAL_arguments, F_w_Operator_ENDING_WITH_arguments, F_w_Operator_LESS_THAN_OR_EQUAL_arguments, F_w_Operator_TRUE_arguments, F_w_Operator_LIKE_arguments⟩ := B.2
  refine Con.of (plainFor_of_name pn0) (Ls := #[vI p0, .unset, .unset, .unset, .unset]) (fun _ => rfl) ?_
  intro p e s m below meth c T0 X0 H hml hZ hown hnm hret hlk e0
  refine gIloadN X0 H at_0 rfl 1 rfl ?_
  refine gLdc X0 H hZ hown (hw _ wd0) at_1 3 rfl ?_
  refine g_iand X0 H at_3 (z := (p0 &&& (2147483647 : Int32))) rfl 4 rfl ?_
  refine gBipush X0 H at_4 (z := 19) rfl 6 rfl ?_
  refine g_irem X0 H at_6 (by decide) (z := 1) ha0 7 rfl ?_
  refine gIstoreN X0 H at_7 (Ls' := #[vI p0, vI 1, .unset, .unset, .unset]) rfl 8 rfl ?_
  refine gIloadN X0 H at_8 rfl 9 rfl ?_
  refine gStatic X0 H hZ hown (hw _ wd1) (hw _ wd2) (by decide) (hw _ wd4) (hw _ wd3) (rm9_1 B) e0 hml rfl pd0 rfl (W := 0) (argsL := [(.int 1)]) (rest := []) rfl rfl at_9 12 rfl ?_
  intro v10 T10 L10 hq10 X10
  obtain ⟨rfl, e10, rfl⟩ := hq10
  show Go _ _ _ _ (State.setTop _ (mkF _ 12 _ [(.ref w_Operator_NOT_EQUALS)]))
  refine gAstoreN X10 H at_12 rfl (Ls' := #[vI p0, vI 1, vR w_Operator_NOT_EQUALS, .unset, .unset]) rfl 13 rfl ?_
  refine gAloadN X10 H at_13 rfl rfl 14 rfl ?_
  refine gVirt X10 H hZ hown (hw _ wd8) (hw _ wd9) (hw _ wd11) (hw _ wd10) (by decide) E_w_Operator_NOT_EQUALS (hw _ wd12) (hw _ wd6) (rm13_2 B) e10 hml rfl pd1 rfl (W := 0) (argsL := []) (rest := []) rfl rfl at_14 17 rfl ?_
  intro v14 T14 L14 hq14 X14
  obtain ⟨rfl, e14, rfl⟩ := hq14
  show Go _ _ _ _ (State.setTop _ (mkF _ 17 _ [(.int 0)]))
  refine gIstoreN X14 H at_17 (Ls' := #[vI p0, vI 1, vR w_Operator_NOT_EQUALS, vI 0, .unset]) rfl 18 rfl ?_
  refine gIloadN X14 H at_18 rfl 19 rfl ?_
  refine gBipush X14 H at_19 (z := 11) rfl 21 rfl ?_
  refine gCmpN X14 H at_21 (by decide) 24 rfl ?_
  refine gIloadN X14 H at_24 rfl 25 rfl ?_
  refine gBipush X14 H at_25 (z := 12) rfl 27 rfl ?_
  refine gCmpY X14 H at_27 (by decide) (by decide) 34 rfl ?_
  refine gIconst X14 H at_34 (z := 0) rfl 35 rfl ?_
  refine gIstore X14 H at_35 (Ls' := #[vI p0, vI 1, vR w_Operator_NOT_EQUALS, vI 0, vI 0]) rfl 37 rfl ?_
  refine gIloadN X14 H at_37 rfl 38 rfl ?_
  refine gIload X14 H at_38 rfl 40 rfl ?_
  refine gCmpY X14 H at_40 (by decide) (by decide) 45 rfl ?_
  refine gIloadN X14 H at_45 rfl 46 rfl ?_
  refine gIfY X14 H at_46 (by decide) (by decide) 70 rfl ?_
  refine gIconst X14 H at_70 (z := 1) rfl 71 rfl ?_
  exact gRetN X14 H hlk hret (t := .boolean) (by simp) at_71 e14 ⟨rfl, Fr.nil _⟩
theorem rm16_1 (B : Bg Z a0 w_Operator_EQUALS w_Operator_IN w_Operator_NOT_IN w_Operator_LESS_THAN w_Operator_STARTING_WITH w_Operator_GREATER_THAN w_Operator_CONTAINING w_Operator_IS_NULL w_Operator_BETWEEN w_Operator_FALSE w_Operator_IS_NOT_NULL w_Operator_NOT_EQUALS w_Operator_NOT_LIKE w_Operator_NOT_CONTAINING w_Operator_GREATER_THAN_OR_EQUAL w_Operator_ENDING_WITH w_Operator_LESS_THAN_OR_EQUAL w_Operator_TRUE w_Operator_LIKE) :
    Con l Z (⟨"com/example/unfussy_repo/unfussyrepo/query/OperatorTakesCollectionPinLaw", "pick", "(I)Lcom/example/unfussy_repo/unfussyrepo/query/Operator;"⟩ : MethodName) method_2_code 1 (some (.object "com/example/unfussy_repo/unfussyrepo/query/Operator")) ({ frames := 0, cells := 0, slots := 0, locals := 0 } : Room) #[(.int 2)] Z.heap (fun v h' L => v = some (.ref w_Operator_BETWEEN) ∧ h' = Z.heap ∧ L = []) := by
  have hw := B.1
  obtain ⟨S_w_Operator_EQUALS, E_w_Operator_EQUALS, S_w_Operator_IN, E_w_Operator_IN, S_w_Operator_NOT_IN, E_w_Operator_NOT_IN, S_w_Operator_LESS_THAN, E_w_Operator_LESS_THAN, S_w_Operator_STARTING_WITH, E_w_Operator_STARTING_WITH, S_w_Operator_GREATER_THAN, E_w_Operator_GREATER_THAN, S_w_Operator_CONTAINING, E_w_Operator_CONTAINING, S_w_Operator_IS_NULL, E_w_Operator_IS_NULL, S_w_Operator_BETWEEN, E_w_Operator_BETWEEN, S_w_Operator_FALSE, E_w_Operator_FALSE, S_w_Operator_IS_NOT_NULL, E_w_Operator_IS_NOT_NULL, S_w_Operator_NOT_EQUALS, E_w_Operator_NOT_EQUALS, S_w_Operator_NOT_LIKE, E_w_Operator_NOT_LIKE, S_w_Operator_NOT_CONTAINING, E_w_Operator_NOT_CONTAINING, S_w_Operator_GREATER_THAN_OR_EQUAL, E_w_Operator_GREATER_THAN_OR_EQUAL, S_w_Operator_ENDING_WITH, E_w_Operator_ENDING_WITH, S_w_Operator_LESS_THAN_OR_EQUAL, E_w_Operator_LESS_THAN_OR_EQUAL, S_w_Operator_TRUE, E_w_Operator_TRUE, S_w_Operator_LIKE, E_w_Operator_LIKE, F_w_Operator_EQUALS_ordinal, F_w_Operator_IN_ordinal, F_w_Operator_NOT_IN_ordinal, F_w_Operator_LESS_THAN_ordinal, F_w_Operator_STARTING_WITH_ordinal, F_w_Operator_GREATER_THAN_ordinal, F_w_Operator_CONTAINING_ordinal, F_w_Operator_IS_NULL_ordinal, F_w_Operator_BETWEEN_ordinal, F_w_Operator_IN_arguments, F_w_Operator_FALSE_ordinal, F_w_Operator_IS_NOT_NULL_ordinal, F_w_Operator_NOT_EQUALS_ordinal, F_w_Operator_NOT_LIKE_ordinal, F_w_Operator_NOT_CONTAINING_ordinal, F_w_Operator_GREATER_THAN_OR_EQUAL_ordinal, F_w_Operator_ENDING_WITH_ordinal, F_w_Operator_LESS_THAN_OR_EQUAL_ordinal, F_w_Operator_TRUE_ordinal, F_w_Operator_NOT_IN_arguments, F_w_Operator_LIKE_ordinal, F_w_Operator_EQUALS_arguments, F_w_Operator_LESS_THAN_arguments, F_w_Operator_STARTING_WITH_arguments, F_w_Operator_GREATER_THAN_arguments, F_w_Operator_CONTAINING_arguments, F_w_Operator_IS_NULL_arguments, F_w_Operator_BETWEEN_arguments, F_w_Operator_FALSE_arguments, F_w_Operator_IS_NOT_NULL_arguments, F_w_Operator_NOT_EQUALS_arguments, F_w_Operator_NOT_LIKE_arguments, F_w_Operator_NOT_CONTAINING_arguments, F_w_Operator_GREATER_THAN_OR_EQUAL_arguments, F_w_Operator_ENDING_WITH_arguments, F_w_Operator_LESS_THAN_OR_EQUAL_arguments, F_w_Operator_TRUE_arguments, F_w_Operator_LIKE_arguments⟩ := B.2
  refine Con.of (plainFor_of_name pn1) (Ls := #[vI 2]) (fun _ => rfl) ?_
  intro p e s m below meth c T0 X0 H hml hZ hown hnm hret hlk e0
  refine gIloadN X0 H d1_0 rfl 1 rfl ?_
  refine gIfY X0 H d1_1 (by decide) (by decide) 8 rfl ?_
  refine gIloadN X0 H d1_8 rfl 9 rfl ?_
  refine gIconst X0 H d1_9 (z := 1) rfl 10 rfl ?_
  refine gCmpY X0 H d1_10 (by decide) (by decide) 17 rfl ?_
  refine gIloadN X0 H d1_17 rfl 18 rfl ?_
  refine gIconst X0 H d1_18 (z := 2) rfl 19 rfl ?_
  refine gCmpN X0 H d1_19 (by decide) 22 rfl ?_
  refine gGetS X0 H hZ hown (hw _ wd27) e0 S_w_Operator_BETWEEN d1_22 25 rfl ?_
  intro T15 X15 e15
  exact gRetA X15 H hlk hret rfl rfl rfl d1_25 e15 ⟨rfl, rfl, rfl⟩
theorem rm20_2 (B : Bg Z a0 w_Operator_EQUALS w_Operator_IN w_Operator_NOT_IN w_Operator_LESS_THAN w_Operator_STARTING_WITH w_Operator_GREATER_THAN w_Operator_CONTAINING w_Operator_IS_NULL w_Operator_BETWEEN w_Operator_FALSE w_Operator_IS_NOT_NULL w_Operator_NOT_EQUALS w_Operator_NOT_LIKE w_Operator_NOT_CONTAINING w_Operator_GREATER_THAN_OR_EQUAL w_Operator_ENDING_WITH w_Operator_LESS_THAN_OR_EQUAL w_Operator_TRUE w_Operator_LIKE) :
    Con l Z (⟨"com/example/unfussy_repo/unfussyrepo/query/Operator", "takesCollection", "()Z"⟩ : MethodName) prog_53_method_5_code 1 (some .boolean) ({ frames := 0, cells := 0, slots := 0, locals := 0 } : Room) #[(.ref w_Operator_BETWEEN)] Z.heap (fun v h' L => v = some (.int 0) ∧ h' = Z.heap ∧ L = []) := by
  have hw := B.1
  obtain ⟨S_w_Operator_EQUALS, E_w_Operator_EQUALS, S_w_Operator_IN, E_w_Operator_IN, S_w_Operator_NOT_IN, E_w_Operator_NOT_IN, S_w_Operator_LESS_THAN, E_w_Operator_LESS_THAN, S_w_Operator_STARTING_WITH, E_w_Operator_STARTING_WITH, S_w_Operator_GREATER_THAN, E_w_Operator_GREATER_THAN, S_w_Operator_CONTAINING, E_w_Operator_CONTAINING, S_w_Operator_IS_NULL, E_w_Operator_IS_NULL, S_w_Operator_BETWEEN, E_w_Operator_BETWEEN, S_w_Operator_FALSE, E_w_Operator_FALSE, S_w_Operator_IS_NOT_NULL, E_w_Operator_IS_NOT_NULL, S_w_Operator_NOT_EQUALS, E_w_Operator_NOT_EQUALS, S_w_Operator_NOT_LIKE, E_w_Operator_NOT_LIKE, S_w_Operator_NOT_CONTAINING, E_w_Operator_NOT_CONTAINING, S_w_Operator_GREATER_THAN_OR_EQUAL, E_w_Operator_GREATER_THAN_OR_EQUAL, S_w_Operator_ENDING_WITH, E_w_Operator_ENDING_WITH, S_w_Operator_LESS_THAN_OR_EQUAL, E_w_Operator_LESS_THAN_OR_EQUAL, S_w_Operator_TRUE, E_w_Operator_TRUE, S_w_Operator_LIKE, E_w_Operator_LIKE, F_w_Operator_EQUALS_ordinal, F_w_Operator_IN_ordinal, F_w_Operator_NOT_IN_ordinal, F_w_Operator_LESS_THAN_ordinal, F_w_Operator_STARTING_WITH_ordinal, F_w_Operator_GREATER_THAN_ordinal, F_w_Operator_CONTAINING_ordinal, F_w_Operator_IS_NULL_ordinal, F_w_Operator_BETWEEN_ordinal, F_w_Operator_IN_arguments, F_w_Operator_FALSE_ordinal, F_w_Operator_IS_NOT_NULL_ordinal, F_w_Operator_NOT_EQUALS_ordinal, F_w_Operator_NOT_LIKE_ordinal, F_w_Operator_NOT_CONTAINING_ordinal, F_w_Operator_GREATER_THAN_OR_EQUAL_ordinal, F_w_Operator_ENDING_WITH_ordinal, F_w_Operator_LESS_THAN_OR_EQUAL_ordinal, F_w_Operator_TRUE_ordinal, F_w_Operator_NOT_IN_arguments, F_w_Operator_LIKE_ordinal, F_w_Operator_EQUALS_arguments, F_w_Operator_LESS_THAN_arguments, F_w_Operator_STARTING_WITH_arguments, F_w_Operator_GREATER_THAN_arguments, F_w_Operator_CONTAINING_arguments, F_w_Operator_IS_NULL_arguments, F_w_Operator_BETWEEN_arguments, F_w_Operator_FALSE_arguments, F_w_Operator_IS_NOT_NULL_arguments, F_w_Operator_NOT_EQUALS_arguments, F_w_Operator_NOT_LIKE_arguments, F_w_Operator_NOT_CONTAINING_arguments, F_w_Operator_GREATER_THAN_OR_EQUAL_arguments, F_w_Operator_ENDING_WITH_arguments, F_w_Operator_LESS_THAN_OR_EQUAL_arguments, F_w_Operator_TRUE_arguments, F_w_Operator_LIKE_arguments⟩ := B.2
  refine Con.of (plainFor_of_name pn2) (Ls := #[vR w_Operator_BETWEEN]) (fun _ => rfl) ?_
  intro p e s m below meth c T0 X0 H hml hZ hown hnm hret hlk e0
  refine gAloadN X0 H d2_0 rfl rfl 1 rfl ?_
  refine gGetS X0 H hZ hown (hw _ wd13) e0 S_w_Operator_IN d2_1 4 rfl ?_
  intro T18 X18 e18
  refine gAcmp X18 H d2_4 rfl rfl (same := false) (decide_eq_false fun q => (Fld.ne F_w_Operator_BETWEEN_ordinal F_w_Operator_IN_ordinal (by decide)) (Value.ref.inj q)) (by decide) 7 (by decide) ?_
  refine gAloadN X18 H d2_7 rfl rfl 8 rfl ?_
  refine gGetS X18 H hZ hown (hw _ wd15) e18 S_w_Operator_NOT_IN d2_8 11 rfl ?_
  intro T19 X19 e19
  refine gAcmp X19 H d2_11 rfl rfl (same := false) (decide_eq_false fun q => (Fld.ne F_w_Operator_BETWEEN_ordinal F_w_Operator_NOT_IN_ordinal (by decide)) (Value.ref.inj q)) (by decide) 18 (by decide) ?_
  refine gIconst X19 H d2_18 (z := 0) rfl 19 rfl ?_
  exact gRetN X19 H hlk hret (t := .boolean) (by simp) d2_19 e19 ⟨rfl, rfl, rfl⟩
theorem lawAll_2 (B : Bg Z a0 w_Operator_EQUALS w_Operator_IN w_Operator_NOT_IN w_Operator_LESS_THAN w_Operator_STARTING_WITH w_Operator_GREATER_THAN w_Operator_CONTAINING w_Operator_IS_NULL w_Operator_BETWEEN w_Operator_FALSE w_Operator_IS_NOT_NULL w_Operator_NOT_EQUALS w_Operator_NOT_LIKE w_Operator_NOT_CONTAINING w_Operator_GREATER_THAN_OR_EQUAL w_Operator_ENDING_WITH w_Operator_LESS_THAN_OR_EQUAL w_Operator_TRUE w_Operator_LIKE) (p0 : Int32) (ha0 : ((p0 &&& (2147483647 : Int32)) % (19 : Int32)) = (2 : Int32)) :
    Con l Z x code maxLocals ret room_1 #[(.int p0)] Z.heap (fun v h' L => v = some (.int 1) ∧ Fr Z.heap.size L) := by
  have hw := B.1
  obtain ⟨S_w_Operator_EQUALS, E_w_Operator_EQUALS, S_w_Operator_IN, E_w_Operator_IN, S_w_Operator_NOT_IN, E_w_Operator_NOT_IN, S_w_Operator_LESS_THAN, E_w_Operator_LESS_THAN, S_w_Operator_STARTING_WITH, E_w_Operator_STARTING_WITH, S_w_Operator_GREATER_THAN, E_w_Operator_GREATER_THAN, S_w_Operator_CONTAINING, E_w_Operator_CONTAINING, S_w_Operator_IS_NULL, E_w_Operator_IS_NULL, S_w_Operator_BETWEEN, E_w_Operator_BETWEEN, S_w_Operator_FALSE, E_w_Operator_FALSE, S_w_Operator_IS_NOT_NULL, E_w_Operator_IS_NOT_NULL, S_w_Operator_NOT_EQUALS, E_w_Operator_NOT_EQUALS, S_w_Operator_NOT_LIKE, E_w_Operator_NOT_LIKE, S_w_Operator_NOT_CONTAINING, E_w_Operator_NOT_CONTAINING, S_w_Operator_GREATER_THAN_OR_EQUAL, E_w_Operator_GREATER_THAN_OR_EQUAL, S_w_Operator_ENDING_WITH, E_w_Operator_ENDING_WITH, S_w_Operator_LESS_THAN_OR_EQUAL, E_w_Operator_LESS_THAN_OR_EQUAL, S_w_Operator_TRUE, E_w_Operator_TRUE, S_w_Operator_LIKE, E_w_Operator_LIKE, F_w_Operator_EQUALS_ordinal, F_w_Operator_IN_ordinal, F_w_Operator_NOT_IN_ordinal, F_w_Operator_LESS_THAN_ordinal, F_w_Operator_STARTING_WITH_ordinal, F_w_Operator_GREATER_THAN_ordinal, F_w_Operator_CONTAINING_ordinal, F_w_Operator_IS_NULL_ordinal, F_w_Operator_BETWEEN_ordinal, F_w_Operator_IN_arguments, F_w_Operator_FALSE_ordinal, F_w_Operator_IS_NOT_NULL_ordinal, F_w_Operator_NOT_EQUALS_ordinal, F_w_Operator_NOT_LIKE_ordinal, F_w_Operator_NOT_CONTAINING_ordinal, F_w_Operator_GREATER_THAN_OR_EQUAL_ordinal, F_w_Operator_ENDING_WITH_ordinal, F_w_Operator_LESS_THAN_OR_EQUAL_ordinal, F_w_Operator_TRUE_ordinal, F_w_Operator_NOT_IN_arguments, F_w_Operator_LIKE_ordinal, F_w_Operator_EQUALS_arguments, F_w_Operator_LESS_THAN_arguments, F_w_Operator_STARTING_WITH_arguments, F_w_Operator_GREATER_THAN_arguments, F_w_Operator_CONTAINING_arguments, F_w_Operator_IS_NULL_arguments, F_w_Operator_BETWEEN_arguments, F_w_Operator_FALSE_arguments, F_w_Operator_IS_NOT_NULL_arguments, F_w_Operator_NOT_EQUALS_arguments, F_w_Operator_NOT_LIKE_arguments, F_w_Operator_NOT_CONTAINING_arguments, F_w_Operator_GREATER_THAN_OR_EQUAL_arguments, F_w_Operator_ENDING_WITH_arguments, F_w_Operator_LESS_THAN_OR_EQUAL_arguments, F_w_Operator_TRUE_arguments, F_w_Operator_LIKE_arguments⟩ := B.2
  refine Con.of (plainFor_of_name pn0) (Ls := #[vI p0, .unset, .unset, .unset, .unset]) (fun _ => rfl) ?_
  intro p e s m below meth c T0 X0 H hml hZ hown hnm hret hlk e0
  refine gIloadN X0 H at_0 rfl 1 rfl ?_
  refine gLdc X0 H hZ hown (hw _ wd0) at_1 3 rfl ?_
  refine g_iand X0 H at_3 (z := (p0 &&& (2147483647 : Int32))) rfl 4 rfl ?_
  refine gBipush X0 H at_4 (z := 19) rfl 6 rfl ?_
  refine g_irem X0 H at_6 (by decide) (z := 2) ha0 7 rfl ?_
  refine gIstoreN X0 H at_7 (Ls' := #[vI p0, vI 2, .unset, .unset, .unset]) rfl 8 rfl ?_
  refine gIloadN X0 H at_8 rfl 9 rfl ?_
  refine gStatic X0 H hZ hown (hw _ wd1) (hw _ wd2) (by decide) (hw _ wd4) (hw _ wd3) (rm16_1 B) e0 hml rfl pd0 rfl (W := 0) (argsL := [(.int 2)]) (rest := []) rfl rfl at_9 12 rfl ?_
  intro v17 T17 L17 hq17 X17
  obtain ⟨rfl, e17, rfl⟩ := hq17
  show Go _ _ _ _ (State.setTop _ (mkF _ 12 _ [(.ref w_Operator_BETWEEN)]))
  refine gAstoreN X17 H at_12 rfl (Ls' := #[vI p0, vI 2, vR w_Operator_BETWEEN, .unset, .unset]) rfl 13 rfl ?_
  refine gAloadN X17 H at_13 rfl rfl 14 rfl ?_
  refine gVirt X17 H hZ hown (hw _ wd8) (hw _ wd9) (hw _ wd11) (hw _ wd10) (by decide) E_w_Operator_BETWEEN (hw _ wd12) (hw _ wd6) (rm20_2 B) e17 hml rfl pd1 rfl (W := 0) (argsL := []) (rest := []) rfl rfl at_14 17 rfl ?_
  intro v21 T21 L21 hq21 X21
  obtain ⟨rfl, e21, rfl⟩ := hq21
  show Go _ _ _ _ (State.setTop _ (mkF _ 17 _ [(.int 0)]))
  refine gIstoreN X21 H at_17 (Ls' := #[vI p0, vI 2, vR w_Operator_BETWEEN, vI 0, .unset]) rfl 18 rfl ?_
  refine gIloadN X21 H at_18 rfl 19 rfl ?_
  refine gBipush X21 H at_19 (z := 11) rfl 21 rfl ?_
  refine gCmpN X21 H at_21 (by decide) 24 rfl ?_
  refine gIloadN X21 H at_24 rfl 25 rfl ?_
  refine gBipush X21 H at_25 (z := 12) rfl 27 rfl ?_
  refine gCmpY X21 H at_27 (by decide) (by decide) 34 rfl ?_
  refine gIconst X21 H at_34 (z := 0) rfl 35 rfl ?_
  refine gIstore X21 H at_35 (Ls' := #[vI p0, vI 2, vR w_Operator_BETWEEN, vI 0, vI 0]) rfl 37 rfl ?_
  refine gIloadN X21 H at_37 rfl 38 rfl ?_
  refine gIload X21 H at_38 rfl 40 rfl ?_
  refine gCmpY X21 H at_40 (by decide) (by decide) 45 rfl ?_
  refine gIloadN X21 H at_45 rfl 46 rfl ?_
  refine gIfY X21 H at_46 (by decide) (by decide) 70 rfl ?_
  refine gIconst X21 H at_70 (z := 1) rfl 71 rfl ?_
  exact gRetN X21 H hlk hret (t := .boolean) (by simp) at_71 e21 ⟨rfl, Fr.nil _⟩
theorem rm23_1 (B : Bg Z a0 w_Operator_EQUALS w_Operator_IN w_Operator_NOT_IN w_Operator_LESS_THAN w_Operator_STARTING_WITH w_Operator_GREATER_THAN w_Operator_CONTAINING w_Operator_IS_NULL w_Operator_BETWEEN w_Operator_FALSE w_Operator_IS_NOT_NULL w_Operator_NOT_EQUALS w_Operator_NOT_LIKE w_Operator_NOT_CONTAINING w_Operator_GREATER_THAN_OR_EQUAL w_Operator_ENDING_WITH w_Operator_LESS_THAN_OR_EQUAL w_Operator_TRUE w_Operator_LIKE) :
    Con l Z (⟨"com/example/unfussy_repo/unfussyrepo/query/OperatorTakesCollectionPinLaw", "pick", "(I)Lcom/example/unfussy_repo/unfussyrepo/query/Operator;"⟩ : MethodName) method_2_code 1 (some (.object "com/example/unfussy_repo/unfussyrepo/query/Operator")) ({ frames := 0, cells := 0, slots := 0, locals := 0 } : Room) #[(.int 3)] Z.heap (fun v h' L => v = some (.ref w_Operator_LESS_THAN) ∧ h' = Z.heap ∧ L = []) := by
  have hw := B.1
  obtain ⟨S_w_Operator_EQUALS, E_w_Operator_EQUALS, S_w_Operator_IN, E_w_Operator_IN, S_w_Operator_NOT_IN, E_w_Operator_NOT_IN, S_w_Operator_LESS_THAN, E_w_Operator_LESS_THAN, S_w_Operator_STARTING_WITH, E_w_Operator_STARTING_WITH, S_w_Operator_GREATER_THAN, E_w_Operator_GREATER_THAN, S_w_Operator_CONTAINING, E_w_Operator_CONTAINING, S_w_Operator_IS_NULL, E_w_Operator_IS_NULL, S_w_Operator_BETWEEN, E_w_Operator_BETWEEN, S_w_Operator_FALSE, E_w_Operator_FALSE, S_w_Operator_IS_NOT_NULL, E_w_Operator_IS_NOT_NULL, S_w_Operator_NOT_EQUALS, E_w_Operator_NOT_EQUALS, S_w_Operator_NOT_LIKE, E_w_Operator_NOT_LIKE, S_w_Operator_NOT_CONTAINING, E_w_Operator_NOT_CONTAINING, S_w_Operator_GREATER_THAN_OR_EQUAL, E_w_Operator_GREATER_THAN_OR_EQUAL, S_w_Operator_ENDING_WITH, E_w_Operator_ENDING_WITH, S_w_Operator_LESS_THAN_OR_EQUAL, E_w_Operator_LESS_THAN_OR_EQUAL, S_w_Operator_TRUE, E_w_Operator_TRUE, S_w_Operator_LIKE, E_w_Operator_LIKE, F_w_Operator_EQUALS_ordinal, F_w_Operator_IN_ordinal, F_w_Operator_NOT_IN_ordinal, F_w_Operator_LESS_THAN_ordinal, F_w_Operator_STARTING_WITH_ordinal, F_w_Operator_GREATER_THAN_ordinal, F_w_Operator_CONTAINING_ordinal, F_w_Operator_IS_NULL_ordinal, F_w_Operator_BETWEEN_ordinal, F_w_Operator_IN_arguments, F_w_Operator_FALSE_ordinal, F_w_Operator_IS_NOT_NULL_ordinal, F_w_Operator_NOT_EQUALS_ordinal, F_w_Operator_NOT_LIKE_ordinal, F_w_Operator_NOT_CONTAINING_ordinal, F_w_Operator_GREATER_THAN_OR_EQUAL_ordinal, F_w_Operator_ENDING_WITH_ordinal, F_w_Operator_LESS_THAN_OR_EQUAL_ordinal, F_w_Operator_TRUE_ordinal, F_w_Operator_NOT_IN_arguments, F_w_Operator_LIKE_ordinal, F_w_Operator_EQUALS_arguments, F_w_Operator_LESS_THAN_arguments, F_w_Operator_STARTING_WITH_arguments, F_w_Operator_GREATER_THAN_arguments, F_w_Operator_CONTAINING_arguments, F_w_Operator_IS_NULL_arguments, F_w_Operator_BETWEEN_arguments, F_w_Operator_FALSE_arguments, F_w_Operator_IS_NOT_NULL_arguments, F_w_Operator_NOT_EQUALS_arguments, F_w_Operator_NOT_LIKE_arguments, F_w_Operator_NOT_CONTAINING_arguments, F_w_Operator_GREATER_THAN_OR_EQUAL_arguments, F_w_Operator_ENDING_WITH_arguments, F_w_Operator_LESS_THAN_OR_EQUAL_arguments, F_w_Operator_TRUE_arguments, F_w_Operator_LIKE_arguments⟩ := B.2
  refine Con.of (plainFor_of_name pn1) (Ls := #[vI 3]) (fun _ => rfl) ?_
  intro p e s m below meth c T0 X0 H hml hZ hown hnm hret hlk e0
  refine gIloadN X0 H d1_0 rfl 1 rfl ?_
  refine gIfY X0 H d1_1 (by decide) (by decide) 8 rfl ?_
  refine gIloadN X0 H d1_8 rfl 9 rfl ?_
  refine gIconst X0 H d1_9 (z := 1) rfl 10 rfl ?_
  refine gCmpY X0 H d1_10 (by decide) (by decide) 17 rfl ?_
  refine gIloadN X0 H d1_17 rfl 18 rfl ?_
  refine gIconst X0 H d1_18 (z := 2) rfl 19 rfl ?_
  refine gCmpY X0 H d1_19 (by decide) (by decide) 26 rfl ?_
  refine gIloadN X0 H d1_26 rfl 27 rfl ?_
  refine gIconst X0 H d1_27 (z := 3) rfl 28 rfl ?_
  refine gCmpN X0 H d1_28 (by decide) 31 rfl ?_
  refine gGetS X0 H hZ hown (hw _ wd17) e0 S_w_Operator_LESS_THAN d1_31 34 rfl ?_
  intro T22 X22 e22
  exact gRetA X22 H hlk hret rfl rfl rfl d1_34 e22 ⟨rfl, rfl, rfl⟩
theorem rm27_2 (B : Bg Z a0 w_Operator_EQUALS w_Operator_IN w_Operator_NOT_IN w_Operator_LESS_THAN w_Operator_STARTING_WITH w_Operator_GREATER_THAN w_Operator_CONTAINING w_Operator_IS_NULL w_Operator_BETWEEN w_Operator_FALSE w_Operator_IS_NOT_NULL w_Operator_NOT_EQUALS w_Operator_NOT_LIKE w_Operator_NOT_CONTAINING w_Operator_GREATER_THAN_OR_EQUAL w_Operator_ENDING_WITH w_Operator_LESS_THAN_OR_EQUAL w_Operator_TRUE w_Operator_LIKE) :
    Con l Z (⟨"com/example/unfussy_repo/unfussyrepo/query/Operator", "takesCollection", "()Z"⟩ : MethodName) prog_53_method_5_code 1 (some .boolean) ({ frames := 0, cells := 0, slots := 0, locals := 0 } : Room) #[(.ref w_Operator_LESS_THAN)] Z.heap (fun v h' L => v = some (.int 0) ∧ h' = Z.heap ∧ L = []) := by
  have hw := B.1
  obtain ⟨S_w_Operator_EQUALS, E_w_Operator_EQUALS, S_w_Operator_IN, E_w_Operator_IN, S_w_Operator_NOT_IN, E_w_Operator_NOT_IN, S_w_Operator_LESS_THAN, E_w_Operator_LESS_THAN, S_w_Operator_STARTING_WITH, E_w_Operator_STARTING_WITH, S_w_Operator_GREATER_THAN, E_w_Operator_GREATER_THAN, S_w_Operator_CONTAINING, E_w_Operator_CONTAINING, S_w_Operator_IS_NULL, E_w_Operator_IS_NULL, S_w_Operator_BETWEEN, E_w_Operator_BETWEEN, S_w_Operator_FALSE, E_w_Operator_FALSE, S_w_Operator_IS_NOT_NULL, E_w_Operator_IS_NOT_NULL, S_w_Operator_NOT_EQUALS, E_w_Operator_NOT_EQUALS, S_w_Operator_NOT_LIKE, E_w_Operator_NOT_LIKE, S_w_Operator_NOT_CONTAINING, E_w_Operator_NOT_CONTAINING, S_w_Operator_GREATER_THAN_OR_EQUAL, E_w_Operator_GREATER_THAN_OR_EQUAL, S_w_Operator_ENDING_WITH, E_w_Operator_ENDING_WITH, S_w_Operator_LESS_THAN_OR_EQUAL, E_w_Operator_LESS_THAN_OR_EQUAL, S_w_Operator_TRUE, E_w_Operator_TRUE, S_w_Operator_LIKE, E_w_Operator_LIKE, F_w_Operator_EQUALS_ordinal, F_w_Operator_IN_ordinal, F_w_Operator_NOT_IN_ordinal, F_w_Operator_LESS_THAN_ordinal, F_w_Operator_STARTING_WITH_ordinal, F_w_Operator_GREATER_THAN_ordinal, F_w_Operator_CONTAINING_ordinal, F_w_Operator_IS_NULL_ordinal, F_w_Operator_BETWEEN_ordinal, F_w_Operator_IN_arguments, F_w_Operator_FALSE_ordinal, F_w_Operator_IS_NOT_NULL_ordinal, F_w_Operator_NOT_EQUALS_ordinal, F_w_Operator_NOT_LIKE_ordinal, F_w_Operator_NOT_CONTAINING_ordinal, F_w_Operator_GREATER_THAN_OR_EQUAL_ordinal, F_w_Operator_ENDING_WITH_ordinal, F_w_Operator_LESS_THAN_OR_EQUAL_ordinal, F_w_Operator_TRUE_ordinal, F_w_Operator_NOT_IN_arguments, F_w_Operator_LIKE_ordinal, F_w_Operator_EQUALS_arguments, F_w_Operator_LESS_THAN_arguments, F_w_Operator_STARTING_WITH_arguments, F_w_Operator_GREATER_THAN_arguments, F_w_Operator_CONTAINING_arguments, F_w_Operator_IS_NULL_arguments, F_w_Operator_BETWEEN_arguments, F_w_Operator_FALSE_arguments, F_w_Operator_IS_NOT_NULL_arguments, F_w_Operator_NOT_EQUALS_arguments, F_w_Operator_NOT_LIKE_arguments, F_w_Operator_NOT_CONTAINING_arguments, F_w_Operator_GREATER_THAN_OR_EQUAL_arguments, F_w_Operator_ENDING_WITH_arguments, F_w_Operator_LESS_THAN_OR_EQUAL_arguments, F_w_Operator_TRUE_arguments, F_w_Operator_LIKE_arguments⟩ := B.2
  refine Con.of (plainFor_of_name pn2) (Ls := #[vR w_Operator_LESS_THAN]) (fun _ => rfl) ?_
  intro p e s m below meth c T0 X0 H hml hZ hown hnm hret hlk e0
  refine gAloadN X0 H d2_0 rfl rfl 1 rfl ?_
  refine gGetS X0 H hZ hown (hw _ wd13) e0 S_w_Operator_IN d2_1 4 rfl ?_
  intro T25 X25 e25
  refine gAcmp X25 H d2_4 rfl rfl (same := false) (decide_eq_false fun q => (Fld.ne F_w_Operator_LESS_THAN_ordinal F_w_Operator_IN_ordinal (by decide)) (Value.ref.inj q)) (by decide) 7 (by decide) ?_
  refine gAloadN X25 H d2_7 rfl rfl 8 rfl ?_
  refine gGetS X25 H hZ hown (hw _ wd15) e25 S_w_Operator_NOT_IN d2_8 11 rfl ?_
  intro T26 X26 e26
  refine gAcmp X26 H d2_11 rfl rfl (same := false) (decide_eq_false fun q => (Fld.ne F_w_Operator_LESS_THAN_ordinal F_w_Operator_NOT_IN_ordinal (by decide)) (Value.ref.inj q)) (by decide) 18 (by decide) ?_
  refine gIconst X26 H d2_18 (z := 0) rfl 19 rfl ?_
  exact gRetN X26 H hlk hret (t := .boolean) (by simp) d2_19 e26 ⟨rfl, rfl, rfl⟩
theorem lawAll_3 (B : Bg Z a0 w_Operator_EQUALS w_Operator_IN w_Operator_NOT_IN w_Operator_LESS_THAN w_Operator_STARTING_WITH w_Operator_GREATER_THAN w_Operator_CONTAINING w_Operator_IS_NULL w_Operator_BETWEEN w_Operator_FALSE w_Operator_IS_NOT_NULL w_Operator_NOT_EQUALS w_Operator_NOT_LIKE w_Operator_NOT_CONTAINING w_Operator_GREATER_THAN_OR_EQUAL w_Operator_ENDING_WITH w_Operator_LESS_THAN_OR_EQUAL w_Operator_TRUE w_Operator_LIKE) (p0 : Int32) (ha0 : ((p0 &&& (2147483647 : Int32)) % (19 : Int32)) = (3 : Int32)) :
    Con l Z x code maxLocals ret room_1 #[(.int p0)] Z.heap (fun v h' L => v = some (.int 1) ∧ Fr Z.heap.size L) := by
  have hw := B.1
  obtain ⟨S_w_Operator_EQUALS, E_w_Operator_EQUALS, S_w_Operator_IN, E_w_Operator_IN, S_w_Operator_NOT_IN, E_w_Operator_NOT_IN, S_w_Operator_LESS_THAN, E_w_Operator_LESS_THAN, S_w_Operator_STARTING_WITH, E_w_Operator_STARTING_WITH, S_w_Operator_GREATER_THAN, E_w_Operator_GREATER_THAN, S_w_Operator_CONTAINING, E_w_Operator_CONTAINING, S_w_Operator_IS_NULL, E_w_Operator_IS_NULL, S_w_Operator_BETWEEN, E_w_Operator_BETWEEN, S_w_Operator_FALSE, E_w_Operator_FALSE, S_w_Operator_IS_NOT_NULL, E_w_Operator_IS_NOT_NULL, S_w_Operator_NOT_EQUALS, E_w_Operator_NOT_EQUALS, S_w_Operator_NOT_LIKE, E_w_Operator_NOT_LIKE, S_w_Operator_NOT_CONTAINING, E_w_Operator_NOT_CONTAINING, S_w_Operator_GREATER_THAN_OR_EQUAL, E_w_Operator_GREATER_THAN_OR_EQUAL, S_w_Operator_ENDING_WITH, E_w_Operator_ENDING_WITH, S_w_Operator_LESS_THAN_OR_EQUAL, E_w_Operator_LESS_THAN_OR_EQUAL, S_w_Operator_TRUE, E_w_Operator_TRUE, S_w_Operator_LIKE, E_w_Operator_LIKE, F_w_Operator_EQUALS_ordinal, F_w_Operator_IN_ordinal, F_w_Operator_NOT_IN_ordinal, F_w_Operator_LESS_THAN_ordinal, F_w_Operator_STARTING_WITH_ordinal, F_w_Operator_GREATER_THAN_ordinal, F_w_Operator_CONTAINING_ordinal, F_w_Operator_IS_NULL_ordinal, F_w_Operator_BETWEEN_ordinal, F_w_Operator_IN_arguments, F_w_Operator_FALSE_ordinal, F_w_Operator_IS_NOT_NULL_ordinal, F_w_Operator_NOT_EQUALS_ordinal, F_w_Operator_NOT_LIKE_ordinal, F_w_Operator_NOT_CONTAINING_ordinal, F_w_Operator_GREATER_THAN_OR_EQUAL_ordinal, F_w_Operator_ENDING_WITH_ordinal, F_w_Operator_LESS_THAN_OR_EQUAL_ordinal, F_w_Operator_TRUE_ordinal, F_w_Operator_NOT_IN_arguments, F_w_Operator_LIKE_ordinal, F_w_Operator_EQUALS_arguments, F_w_Operator_LESS_THAN_arguments, F_w_Operator_STARTING_WITH_arguments, F_w_Operator_GREATER_THAN_arguments, F_w_Operator_CONTAINING_arguments, F_w_Operator_IS_NULL_arguments, F_w_Operator_BETWEEN_arguments, F_w_Operator_FALSE_arguments, F_w_Operator_IS_NOT_NULL_arguments, F_w_Operator_NOT_EQUALS_arguments, F_w_Operator_NOT_LIKE_arguments, F_w_Operator_NOT_CONTAINING_arguments, F_w_Operator_GREATER_THAN_OR_EQUAL_arguments, F_w_Operator_ENDING_WITH_arguments, F_w_Operator_LESS_THAN_OR_EQUAL_arguments, F_w_Operator_TRUE_arguments, F_w_Operator_LIKE_arguments⟩ := B.2
  refine Con.of (plainFor_of_name pn0) (Ls := #[vI p0, .unset, .unset, .unset, .unset]) (fun _ => rfl) ?_
  intro p e s m below meth c T0 X0 H hml hZ hown hnm hret hlk e0
  refine gIloadN X0 H at_0 rfl 1 rfl ?_
  refine gLdc X0 H hZ hown (hw _ wd0) at_1 3 rfl ?_
  refine g_iand X0 H at_3 (z := (p0 &&& (2147483647 : Int32))) rfl 4 rfl ?_
  refine gBipush X0 H at_4 (z := 19) rfl 6 rfl ?_
  refine g_irem X0 H at_6 (by decide) (z := 3) ha0 7 rfl ?_
  refine gIstoreN X0 H at_7 (Ls' := #[vI p0, vI 3, .unset, .unset, .unset]) rfl 8 rfl ?_
  refine gIloadN X0 H at_8 rfl 9 rfl ?_
  refine gStatic X0 H hZ hown (hw _ wd1) (hw _ wd2) (by decide) (hw _ wd4) (hw _ wd3) (rm23_1 B) e0 hml rfl pd0 rfl (W := 0) (argsL := [(.int 3)]) (rest := []) rfl rfl at_9 12 rfl ?_
  intro v24 T24 L24 hq24 X24
  obtain ⟨rfl, e24, rfl⟩ := hq24
  show Go _ _ _ _ (State.setTop _ (mkF _ 12 _ [(.ref w_Operator_LESS_THAN)]))
  refine gAstoreN X24 H at_12 rfl (Ls' := #[vI p0, vI 3, vR w_Operator_LESS_THAN, .unset, .unset]) rfl 13 rfl ?_
  refine gAloadN X24 H at_13 rfl rfl 14 rfl ?_
  refine gVirt X24 H hZ hown (hw _ wd8) (hw _ wd9) (hw _ wd11) (hw _ wd10) (by decide) E_w_Operator_LESS_THAN (hw _ wd12) (hw _ wd6) (rm27_2 B) e24 hml rfl pd1 rfl (W := 0) (argsL := []) (rest := []) rfl rfl at_14 17 rfl ?_
  intro v28 T28 L28 hq28 X28
  obtain ⟨rfl, e28, rfl⟩ := hq28
  show Go _ _ _ _ (State.setTop _ (mkF _ 17 _ [(.int 0)]))
  refine gIstoreN X28 H at_17 (Ls' := #[vI p0, vI 3, vR w_Operator_LESS_THAN, vI 0, .unset]) rfl 18 rfl ?_
  refine gIloadN X28 H at_18 rfl 19 rfl ?_
  refine gBipush X28 H at_19 (z := 11) rfl 21 rfl ?_
  refine gCmpN X28 H at_21 (by decide) 24 rfl ?_
  refine gIloadN X28 H at_24 rfl 25 rfl ?_
  refine gBipush X28 H at_25 (z := 12) rfl 27 rfl ?_
  refine gCmpY X28 H at_27 (by decide) (by decide) 34 rfl ?_
  refine gIconst X28 H at_34 (z := 0) rfl 35 rfl ?_
  refine gIstore X28 H at_35 (Ls' := #[vI p0, vI 3, vR w_Operator_LESS_THAN, vI 0, vI 0]) rfl 37 rfl ?_
  refine gIloadN X28 H at_37 rfl 38 rfl ?_
  refine gIload X28 H at_38 rfl 40 rfl ?_
  refine gCmpY X28 H at_40 (by decide) (by decide) 45 rfl ?_
  refine gIloadN X28 H at_45 rfl 46 rfl ?_
  refine gIfY X28 H at_46 (by decide) (by decide) 70 rfl ?_
  refine gIconst X28 H at_70 (z := 1) rfl 71 rfl ?_
  exact gRetN X28 H hlk hret (t := .boolean) (by simp) at_71 e28 ⟨rfl, Fr.nil _⟩
theorem rm30_1 (B : Bg Z a0 w_Operator_EQUALS w_Operator_IN w_Operator_NOT_IN w_Operator_LESS_THAN w_Operator_STARTING_WITH w_Operator_GREATER_THAN w_Operator_CONTAINING w_Operator_IS_NULL w_Operator_BETWEEN w_Operator_FALSE w_Operator_IS_NOT_NULL w_Operator_NOT_EQUALS w_Operator_NOT_LIKE w_Operator_NOT_CONTAINING w_Operator_GREATER_THAN_OR_EQUAL w_Operator_ENDING_WITH w_Operator_LESS_THAN_OR_EQUAL w_Operator_TRUE w_Operator_LIKE) :
    Con l Z (⟨"com/example/unfussy_repo/unfussyrepo/query/OperatorTakesCollectionPinLaw", "pick", "(I)Lcom/example/unfussy_repo/unfussyrepo/query/Operator;"⟩ : MethodName) method_2_code 1 (some (.object "com/example/unfussy_repo/unfussyrepo/query/Operator")) ({ frames := 0, cells := 0, slots := 0, locals := 0 } : Room) #[(.int 4)] Z.heap (fun v h' L => v = some (.ref w_Operator_LESS_THAN_OR_EQUAL) ∧ h' = Z.heap ∧ L = []) := by
  have hw := B.1
  obtain ⟨S_w_Operator_EQUALS, E_w_Operator_EQUALS, S_w_Operator_IN, E_w_Operator_IN, S_w_Operator_NOT_IN, E_w_Operator_NOT_IN, S_w_Operator_LESS_THAN, E_w_Operator_LESS_THAN, S_w_Operator_STARTING_WITH, E_w_Operator_STARTING_WITH, S_w_Operator_GREATER_THAN, E_w_Operator_GREATER_THAN, S_w_Operator_CONTAINING, E_w_Operator_CONTAINING, S_w_Operator_IS_NULL, E_w_Operator_IS_NULL, S_w_Operator_BETWEEN, E_w_Operator_BETWEEN, S_w_Operator_FALSE, E_w_Operator_FALSE, S_w_Operator_IS_NOT_NULL, E_w_Operator_IS_NOT_NULL, S_w_Operator_NOT_EQUALS, E_w_Operator_NOT_EQUALS, S_w_Operator_NOT_LIKE, E_w_Operator_NOT_LIKE, S_w_Operator_NOT_CONTAINING, E_w_Operator_NOT_CONTAINING, S_w_Operator_GREATER_THAN_OR_EQUAL, E_w_Operator_GREATER_THAN_OR_EQUAL, S_w_Operator_ENDING_WITH, E_w_Operator_ENDING_WITH, S_w_Operator_LESS_THAN_OR_EQUAL, E_w_Operator_LESS_THAN_OR_EQUAL, S_w_Operator_TRUE, E_w_Operator_TRUE, S_w_Operator_LIKE, E_w_Operator_LIKE, F_w_Operator_EQUALS_ordinal, F_w_Operator_IN_ordinal, F_w_Operator_NOT_IN_ordinal, F_w_Operator_LESS_THAN_ordinal, F_w_Operator_STARTING_WITH_ordinal, F_w_Operator_GREATER_THAN_ordinal, F_w_Operator_CONTAINING_ordinal, F_w_Operator_IS_NULL_ordinal, F_w_Operator_BETWEEN_ordinal, F_w_Operator_IN_arguments, F_w_Operator_FALSE_ordinal, F_w_Operator_IS_NOT_NULL_ordinal, F_w_Operator_NOT_EQUALS_ordinal, F_w_Operator_NOT_LIKE_ordinal, F_w_Operator_NOT_CONTAINING_ordinal, F_w_Operator_GREATER_THAN_OR_EQUAL_ordinal, F_w_Operator_ENDING_WITH_ordinal, F_w_Operator_LESS_THAN_OR_EQUAL_ordinal, F_w_Operator_TRUE_ordinal, F_w_Operator_NOT_IN_arguments, F_w_Operator_LIKE_ordinal, F_w_Operator_EQUALS_arguments, F_w_Operator_LESS_THAN_arguments, F_w_Operator_STARTING_WITH_arguments, F_w_Operator_GREATER_THAN_arguments, F_w_Operator_CONTAINING_arguments, F_w_Operator_IS_NULL_arguments, F_w_Operator_BETWEEN_arguments, F_w_Operator_FALSE_arguments, F_w_Operator_IS_NOT_NULL_arguments, F_w_Operator_NOT_EQUALS_arguments, F_w_Operator_NOT_LIKE_arguments, F_w_Operator_NOT_CONTAINING_arguments, F_w_Operator_GREATER_THAN_OR_EQUAL_arguments, F_w_Operator_ENDING_WITH_arguments, F_w_Operator_LESS_THAN_OR_EQUAL_arguments, F_w_Operator_TRUE_arguments, F_w_Operator_LIKE_arguments⟩ := B.2
  refine Con.of (plainFor_of_name pn1) (Ls := #[vI 4]) (fun _ => rfl) ?_
  intro p e s m below meth c T0 X0 H hml hZ hown hnm hret hlk e0
  refine gIloadN X0 H d1_0 rfl 1 rfl ?_
  refine gIfY X0 H d1_1 (by decide) (by decide) 8 rfl ?_
  refine gIloadN X0 H d1_8 rfl 9 rfl ?_
  refine gIconst X0 H d1_9 (z := 1) rfl 10 rfl ?_
  refine gCmpY X0 H d1_10 (by decide) (by decide) 17 rfl ?_
  refine gIloadN X0 H d1_17 rfl 18 rfl ?_
  refine gIconst X0 H d1_18 (z := 2) rfl 19 rfl ?_
  refine gCmpY X0 H d1_19 (by decide) (by decide) 26 rfl ?_
  refine gIloadN X0 H d1_26 rfl 27 rfl ?_
  refine gIconst X0 H d1_27 (z := 3) rfl 28 rfl ?_
  refine gCmpY X0 H d1_28 (by decide) (by decide) 35 rfl ?_
  refine gIloadN X0 H d1_35 rfl 36 rfl ?_
  refine gIconst X0 H d1_36 (z := 4) rfl 37 rfl ?_
  refine gCmpN X0 H d1_37 (by decide) 40 rfl ?_
  refine gGetS X0 H hZ hown (hw _ wd65) e0 S_w_Operator_LESS_THAN_OR_EQUAL d1_40 43 rfl ?_
  intro T29 X29 e29
  exact gRetA X29 H hlk hret rfl rfl rfl d1_43 e29 ⟨rfl, rfl, rfl⟩
theorem rm34_2 (B : Bg Z a0 w_Operator_EQUALS w_Operator_IN w_Operator_NOT_IN w_Operator_LESS_THAN w_Operator_STARTING_WITH w_Operator_GREATER_THAN w_Operator_CONTAINING w_Operator_IS_NULL w_Operator_BETWEEN w_Operator_FALSE w_Operator_IS_NOT_NULL w_Operator_NOT_EQUALS w_Operator_NOT_LIKE w_Operator_NOT_CONTAINING w_Operator_GREATER_THAN_OR_EQUAL w_Operator_ENDING_WITH w_Operator_LESS_THAN_OR_EQUAL w_Operator_TRUE w_Operator_LIKE) :
    Con l Z (⟨"com/example/unfussy_repo/unfussyrepo/query/Operator", "takesCollection", "()Z"⟩ : MethodName) prog_53_method_5_code 1 (some .boolean) ({ frames := 0, cells := 0, slots := 0, locals := 0 } : Room) #[(.ref w_Operator_LESS_THAN_OR_EQUAL)] Z.heap (fun v h' L => v = some (.int 0) ∧ h' = Z.heap ∧ L = []) := by
  have hw := B.1
  obtain ⟨S_w_Operator_EQUALS, E_w_Operator_EQUALS, S_w_Operator_IN, E_w_Operator_IN, S_w_Operator_NOT_IN, E_w_Operator_NOT_IN, S_w_Operator_LESS_THAN, E_w_Operator_LESS_THAN, S_w_Operator_STARTING_WITH, E_w_Operator_STARTING_WITH, S_w_Operator_GREATER_THAN, E_w_Operator_GREATER_THAN, S_w_Operator_CONTAINING, E_w_Operator_CONTAINING, S_w_Operator_IS_NULL, E_w_Operator_IS_NULL, S_w_Operator_BETWEEN, E_w_Operator_BETWEEN, S_w_Operator_FALSE, E_w_Operator_FALSE, S_w_Operator_IS_NOT_NULL, E_w_Operator_IS_NOT_NULL, S_w_Operator_NOT_EQUALS, E_w_Operator_NOT_EQUALS, S_w_Operator_NOT_LIKE, E_w_Operator_NOT_LIKE, S_w_Operator_NOT_CONTAINING, E_w_Operator_NOT_CONTAINING, S_w_Operator_GREATER_THAN_OR_EQUAL, E_w_Operator_GREATER_THAN_OR_EQUAL, S_w_Operator_ENDING_WITH, E_w_Operator_ENDING_WITH, S_w_Operator_LESS_THAN_OR_EQUAL, E_w_Operator_LESS_THAN_OR_EQUAL, S_w_Operator_TRUE, E_w_Operator_TRUE, S_w_Operator_LIKE, E_w_Operator_LIKE, F_w_Operator_EQUALS_ordinal, F_w_Operator_IN_ordinal, F_w_Operator_NOT_IN_ordinal, F_w_Operator_LESS_THAN_ordinal, F_w_Operator_STARTING_WITH_ordinal, F_w_Operator_GREATER_THAN_ordinal, F_w_Operator_CONTAINING_ordinal, F_w_Operator_IS_NULL_ordinal, F_w_Operator_BETWEEN_ordinal, F_w_Operator_IN_arguments, F_w_Operator_FALSE_ordinal, F_w_Operator_IS_NOT_NULL_ordinal, F_w_Operator_NOT_EQUALS_ordinal, F_w_Operator_NOT_LIKE_ordinal, F_w_Operator_NOT_CONTAINING_ordinal, F_w_Operator_GREATER_THAN_OR_EQUAL_ordinal, F_w_Operator_ENDING_WITH_ordinal, F_w_Operator_LESS_THAN_OR_EQUAL_ordinal, F_w_Operator_TRUE_ordinal, F_w_Operator_NOT_IN_arguments, F_w_Operator_LIKE_ordinal, F_w_Operator_EQUALS_arguments, F_w_Operator_LESS_THAN_arguments, F_w_Operator_STARTING_WITH_arguments, F_w_Operator_GREATER_THAN_arguments, F_w_Operator_CONTAINING_arguments, F_w_Operator_IS_NULL_arguments, F_w_Operator_BETWEEN_arguments, F_w_Operator_FALSE_arguments, F_w_Operator_IS_NOT_NULL_arguments, F_w_Operator_NOT_EQUALS_arguments, F_w_Operator_NOT_LIKE_arguments, F_w_Operator_NOT_CONTAINING_arguments, F_w_Operator_GREATER_THAN_OR_EQUAL_arguments, F_w_Operator_ENDING_WITH_arguments, F_w_Operator_LESS_THAN_OR_EQUAL_arguments, F_w_Operator_TRUE_arguments, F_w_Operator_LIKE_arguments⟩ := B.2
  refine Con.of (plainFor_of_name pn2) (Ls := #[vR w_Operator_LESS_THAN_OR_EQUAL]) (fun _ => rfl) ?_
  intro p e s m below meth c T0 X0 H hml hZ hown hnm hret hlk e0
  refine gAloadN X0 H d2_0 rfl rfl 1 rfl ?_
  refine gGetS X0 H hZ hown (hw _ wd13) e0 S_w_Operator_IN d2_1 4 rfl ?_
  intro T32 X32 e32
  refine gAcmp X32 H d2_4 rfl rfl (same := false) (decide_eq_false fun q => (Fld.ne F_w_Operator_LESS_THAN_OR_EQUAL_ordinal F_w_Operator_IN_ordinal (by decide)) (Value.ref.inj q)) (by decide) 7 (by decide) ?_
  refine gAloadN X32 H d2_7 rfl rfl 8 rfl ?_
  refine gGetS X32 H hZ hown (hw _ wd15) e32 S_w_Operator_NOT_IN d2_8 11 rfl ?_
  intro T33 X33 e33
  refine gAcmp X33 H d2_11 rfl rfl (same := false) (decide_eq_false fun q => (Fld.ne F_w_Operator_LESS_THAN_OR_EQUAL_ordinal F_w_Operator_NOT_IN_ordinal (by decide)) (Value.ref.inj q)) (by decide) 18 (by decide) ?_
  refine gIconst X33 H d2_18 (z := 0) rfl 19 rfl ?_
  exact gRetN X33 H hlk hret (t := .boolean) (by simp) d2_19 e33 ⟨rfl, rfl, rfl⟩
theorem lawAll_4 (B : Bg Z a0 w_Operator_EQUALS w_Operator_IN w_Operator_NOT_IN w_Operator_LESS_THAN w_Operator_STARTING_WITH w_Operator_GREATER_THAN w_Operator_CONTAINING w_Operator_IS_NULL w_Operator_BETWEEN w_Operator_FALSE w_Operator_IS_NOT_NULL w_Operator_NOT_EQUALS w_Operator_NOT_LIKE w_Operator_NOT_CONTAINING w_Operator_GREATER_THAN_OR_EQUAL w_Operator_ENDING_WITH w_Operator_LESS_THAN_OR_EQUAL w_Operator_TRUE w_Operator_LIKE) (p0 : Int32) (ha0 : ((p0 &&& (2147483647 : Int32)) % (19 : Int32)) = (4 : Int32)) :
    Con l Z x code maxLocals ret room_1 #[(.int p0)] Z.heap (fun v h' L => v = some (.int 1) ∧ Fr Z.heap.size L) := by
  have hw := B.1
  obtain ⟨S_w_Operator_EQUALS, E_w_Operator_EQUALS, S_w_Operator_IN, E_w_Operator_IN, S_w_Operator_NOT_IN, E_w_Operator_NOT_IN, S_w_Operator_LESS_THAN, E_w_Operator_LESS_THAN, S_w_Operator_STARTING_WITH, E_w_Operator_STARTING_WITH, S_w_Operator_GREATER_THAN, E_w_Operator_GREATER_THAN, S_w_Operator_CONTAINING, E_w_Operator_CONTAINING, S_w_Operator_IS_NULL, E_w_Operator_IS_NULL, S_w_Operator_BETWEEN, E_w_Operator_BETWEEN, S_w_Operator_FALSE, E_w_Operator_FALSE, S_w_Operator_IS_NOT_NULL, E_w_Operator_IS_NOT_NULL, S_w_Operator_NOT_EQUALS, E_w_Operator_NOT_EQUALS, S_w_Operator_NOT_LIKE, E_w_Operator_NOT_LIKE, S_w_Operator_NOT_CONTAINING, E_w_Operator_NOT_CONTAINING, S_w_Operator_GREATER_THAN_OR_EQUAL, E_w_Operator_GREATER_THAN_OR_EQUAL, S_w_Operator_ENDING_WITH, E_w_Operator_ENDING_WITH, S_w_Operator_LESS_THAN_OR_EQUAL, E_w_Operator_LESS_THAN_OR_EQUAL, S_w_Operator_TRUE, E_w_Operator_TRUE, S_w_Operator_LIKE, E_w_Operator_LIKE, F_w_Operator_EQUALS_ordinal, F_w_Operator_IN_ordinal, F_w_Operator_NOT_IN_ordinal, F_w_Operator_LESS_THAN_ordinal, F_w_Operator_STARTING_WITH_ordinal, F_w_Operator_GREATER_THAN_ordinal, F_w_Operator_CONTAINING_ordinal, F_w_Operator_IS_NULL_ordinal, F_w_Operator_BETWEEN_ordinal, F_w_Operator_IN_arguments, F_w_Operator_FALSE_ordinal, F_w_Operator_IS_NOT_NULL_ordinal, F_w_Operator_NOT_EQUALS_ordinal, F_w_Operator_NOT_LIKE_ordinal, F_w_Operator_NOT_CONTAINING_ordinal, F_w_Operator_GREATER_THAN_OR_EQUAL_ordinal, F_w_Operator_ENDING_WITH_ordinal, F_w_Operator_LESS_THAN_OR_EQUAL_ordinal, F_w_Operator_TRUE_ordinal, F_w_Operator_NOT_IN_arguments, F_w_Operator_LIKE_ordinal, F_w_Operator_EQUALS_arguments, F_w_Operator_LESS_THAN_arguments, F_w_Operator_STARTING_WITH_arguments, F_w_Operator_GREATER_THAN_arguments, F_w_Operator_CONTAINING_arguments, F_w_Operator_IS_NULL_arguments, F_w_Operator_BETWEEN_arguments, F_w_Operator_FALSE_arguments, F_w_Operator_IS_NOT_NULL_arguments, F_w_Operator_NOT_EQUALS_arguments, F_w_Operator_NOT_LIKE_arguments, F_w_Operator_NOT_CONTAINING_arguments, F_w_Operator_GREATER_THAN_OR_EQUAL_arguments, F_w_Operator_ENDING_WITH_arguments, F_w_Operator_LESS_THAN_OR_EQUAL_arguments, F_w_Operator_TRUE_arguments, F_w_Operator_LIKE_arguments⟩ := B.2
  refine Con.of (plainFor_of_name pn0) (Ls := #[vI p0, .unset, .unset, .unset, .unset]) (fun _ => rfl) ?_
  intro p e s m below meth c T0 X0 H hml hZ hown hnm hret hlk e0
  refine gIloadN X0 H at_0 rfl 1 rfl ?_
  refine gLdc X0 H hZ hown (hw _ wd0) at_1 3 rfl ?_
  refine g_iand X0 H at_3 (z := (p0 &&& (2147483647 : Int32))) rfl 4 rfl ?_
  refine gBipush X0 H at_4 (z := 19) rfl 6 rfl ?_
  refine g_irem X0 H at_6 (by decide) (z := 4) ha0 7 rfl ?_
  refine gIstoreN X0 H at_7 (Ls' := #[vI p0, vI 4, .unset, .unset, .unset]) rfl 8 rfl ?_
  refine gIloadN X0 H at_8 rfl 9 rfl ?_
  refine gStatic X0 H hZ hown (hw _ wd1) (hw _ wd2) (by decide) (hw _ wd4) (hw _ wd3) (rm30_1 B) e0 hml rfl pd0 rfl (W := 0) (argsL := [(.int 4)]) (rest := []) rfl rfl at_9 12 rfl ?_
  intro v31 T31 L31 hq31 X31
  obtain ⟨rfl, e31, rfl⟩ := hq31
  show Go _ _ _ _ (State.setTop _ (mkF _ 12 _ [(.ref w_Operator_LESS_THAN_OR_EQUAL)]))
  refine gAstoreN X31 H at_12 rfl (Ls' := #[vI p0, vI 4, vR w_Operator_LESS_THAN_OR_EQUAL, .unset, .unset]) rfl 13 rfl ?_
  refine gAloadN X31 H at_13 rfl rfl 14 rfl ?_
  refine gVirt X31 H hZ hown (hw _ wd8) (hw _ wd9) (hw _ wd11) (hw _ wd10) (by decide) E_w_Operator_LESS_THAN_OR_EQUAL (hw _ wd12) (hw _ wd6) (rm34_2 B) e31 hml rfl pd1 rfl (W := 0) (argsL := []) (rest := []) rfl rfl at_14 17 rfl ?_
  intro v35 T35 L35 hq35 X35
  obtain ⟨rfl, e35, rfl⟩ := hq35
  show Go _ _ _ _ (State.setTop _ (mkF _ 17 _ [(.int 0)]))
  refine gIstoreN X35 H at_17 (Ls' := #[vI p0, vI 4, vR w_Operator_LESS_THAN_OR_EQUAL, vI 0, .unset]) rfl 18 rfl ?_
  refine gIloadN X35 H at_18 rfl 19 rfl ?_
  refine gBipush X35 H at_19 (z := 11) rfl 21 rfl ?_
  refine gCmpN X35 H at_21 (by decide) 24 rfl ?_
  refine gIloadN X35 H at_24 rfl 25 rfl ?_
  refine gBipush X35 H at_25 (z := 12) rfl 27 rfl ?_
  refine gCmpY X35 H at_27 (by decide) (by decide) 34 rfl ?_
  refine gIconst X35 H at_34 (z := 0) rfl 35 rfl ?_
  refine gIstore X35 H at_35 (Ls' := #[vI p0, vI 4, vR w_Operator_LESS_THAN_OR_EQUAL, vI 0, vI 0]) rfl 37 rfl ?_
  refine gIloadN X35 H at_37 rfl 38 rfl ?_
  refine gIload X35 H at_38 rfl 40 rfl ?_
  refine gCmpY X35 H at_40 (by decide) (by decide) 45 rfl ?_
  refine gIloadN X35 H at_45 rfl 46 rfl ?_
  refine gIfY X35 H at_46 (by decide) (by decide) 70 rfl ?_
  refine gIconst X35 H at_70 (z := 1) rfl 71 rfl ?_
  exact gRetN X35 H hlk hret (t := .boolean) (by simp) at_71 e35 ⟨rfl, Fr.nil _⟩
theorem rm37_1 (B : Bg Z a0 w_Operator_EQUALS w_Operator_IN w_Operator_NOT_IN w_Operator_LESS_THAN w_Operator_STARTING_WITH w_Operator_GREATER_THAN w_Operator_CONTAINING w_Operator_IS_NULL w_Operator_BETWEEN w_Operator_FALSE w_Operator_IS_NOT_NULL w_Operator_NOT_EQUALS w_Operator_NOT_LIKE w_Operator_NOT_CONTAINING w_Operator_GREATER_THAN_OR_EQUAL w_Operator_ENDING_WITH w_Operator_LESS_THAN_OR_EQUAL w_Operator_TRUE w_Operator_LIKE) :
    Con l Z (⟨"com/example/unfussy_repo/unfussyrepo/query/OperatorTakesCollectionPinLaw", "pick", "(I)Lcom/example/unfussy_repo/unfussyrepo/query/Operator;"⟩ : MethodName) method_2_code 1 (some (.object "com/example/unfussy_repo/unfussyrepo/query/Operator")) ({ frames := 0, cells := 0, slots := 0, locals := 0 } : Room) #[(.int 5)] Z.heap (fun v h' L => v = some (.ref w_Operator_GREATER_THAN) ∧ h' = Z.heap ∧ L = []) := by
  have hw := B.1
  obtain ⟨S_w_Operator_EQUALS, E_w_Operator_EQUALS, S_w_Operator_IN, E_w_Operator_IN, S_w_Operator_NOT_IN, E_w_Operator_NOT_IN, S_w_Operator_LESS_THAN, E_w_Operator_LESS_THAN, S_w_Operator_STARTING_WITH, E_w_Operator_STARTING_WITH, S_w_Operator_GREATER_THAN, E_w_Operator_GREATER_THAN, S_w_Operator_CONTAINING, E_w_Operator_CONTAINING, S_w_Operator_IS_NULL, E_w_Operator_IS_NULL, S_w_Operator_BETWEEN, E_w_Operator_BETWEEN, S_w_Operator_FALSE, E_w_Operator_FALSE, S_w_Operator_IS_NOT_NULL, E_w_Operator_IS_NOT_NULL, S_w_Operator_NOT_EQUALS, E_w_Operator_NOT_EQUALS, S_w_Operator_NOT_LIKE, E_w_Operator_NOT_LIKE, S_w_Operator_NOT_CONTAINING, E_w_Operator_NOT_CONTAINING, S_w_Operator_GREATER_THAN_OR_EQUAL, E_w_Operator_GREATER_THAN_OR_EQUAL, S_w_Operator_ENDING_WITH, E_w_Operator_ENDING_WITH, S_w_Operator_LESS_THAN_OR_EQUAL, E_w_Operator_LESS_THAN_OR_EQUAL, S_w_Operator_TRUE, E_w_Operator_TRUE, S_w_Operator_LIKE, E_w_Operator_LIKE, F_w_Operator_EQUALS_ordinal, F_w_Operator_IN_ordinal, F_w_Operator_NOT_IN_ordinal, F_w_Operator_LESS_THAN_ordinal, F_w_Operator_STARTING_WITH_ordinal, F_w_Operator_GREATER_THAN_ordinal, F_w_Operator_CONTAINING_ordinal, F_w_Operator_IS_NULL_ordinal, F_w_Operator_BETWEEN_ordinal, F_w_Operator_IN_arguments, F_w_Operator_FALSE_ordinal, F_w_Operator_IS_NOT_NULL_ordinal, F_w_Operator_NOT_EQUALS_ordinal, F_w_Operator_NOT_LIKE_ordinal, F_w_Operator_NOT_CONTAINING_ordinal, F_w_Operator_GREATER_THAN_OR_EQUAL_ordinal, F_w_Operator_ENDING_WITH_ordinal, F_w_Operator_LESS_THAN_OR_EQUAL_ordinal, F_w_Operator_TRUE_ordinal, F_w_Operator_NOT_IN_arguments, F_w_Operator_LIKE_ordinal, F_w_Operator_EQUALS_arguments, F_w_Operator_LESS_THAN_arguments, F_w_Operator_STARTING_WITH_arguments, F_w_Operator_GREATER_THAN_arguments, F_w_Operator_CONTAINING_arguments, F_w_Operator_IS_NULL_arguments, F_w_Operator_BETWEEN_arguments, F_w_Operator_FALSE_arguments, F_w_Operator_IS_NOT_NULL_arguments, F_w_Operator_NOT_EQUALS_arguments, F_w_Operator_NOT_LIKE_arguments, F_w_Operator_NOT_CONTAINING_arguments, F_w_Operator_GREATER_THAN_OR_EQUAL_arguments, F_w_Operator_ENDING_WITH_arguments, F_w_Operator_LESS_THAN_OR_EQUAL_arguments, F_w_Operator_TRUE_arguments, F_w_Operator_LIKE_arguments⟩ := B.2
  refine Con.of (plainFor_of_name pn1) (Ls := #[vI 5]) (fun _ => rfl) ?_
  intro p e s m below meth c T0 X0 H hml hZ hown hnm hret hlk e0
  refine gIloadN X0 H d1_0 rfl 1 rfl ?_
  refine gIfY X0 H d1_1 (by decide) (by decide) 8 rfl ?_
  refine gIloadN X0 H d1_8 rfl 9 rfl ?_
  refine gIconst X0 H d1_9 (z := 1) rfl 10 rfl ?_
  refine gCmpY X0 H d1_10 (by decide) (by decide) 17 rfl ?_
  refine gIloadN X0 H d1_17 rfl 18 rfl ?_
  refine gIconst X0 H d1_18 (z := 2) rfl 19 rfl ?_
  refine gCmpY X0 H d1_19 (by decide) (by decide) 26 rfl ?_
  refine gIloadN X0 H d1_26 rfl 27 rfl ?_
  refine gIconst X0 H d1_27 (z := 3) rfl 28 rfl ?_
  refine gCmpY X0 H d1_28 (by decide) (by decide) 35 rfl ?_
  refine gIloadN X0 H d1_35 rfl 36 rfl ?_
  refine gIconst X0 H d1_36 (z := 4) rfl 37 rfl ?_
  refine gCmpY X0 H d1_37 (by decide) (by decide) 44 rfl ?_
  refine gIloadN X0 H d1_44 rfl 45 rfl ?_
  refine gIconst X0 H d1_45 (z := 5) rfl 46 rfl ?_
  refine gCmpN X0 H d1_46 (by decide) 49 rfl ?_
  refine gGetS X0 H hZ hown (hw _ wd21) e0 S_w_Operator_GREATER_THAN d1_49 52 rfl ?_
  intro T36 X36 e36
  exact gRetA X36 H hlk hret rfl rfl rfl d1_52 e36 ⟨rfl, rfl, rfl⟩
theorem rm41_2 (B : Bg Z a0 w_Operator_EQUALS w_Operator_IN w_Operator_NOT_IN w_Operator_LESS_THAN w_Operator_STARTING_WITH w_Operator_GREATER_THAN w_Operator_CONTAINING w_Operator_IS_NULL w_Operator_BETWEEN w_Operator_FALSE w_Operator_IS_NOT_NULL w_Operator_NOT_EQUALS w_Operator_NOT_LIKE w_Operator_NOT_CONTAINING w_Operator_GREATER_THAN_OR_EQUAL w_Operator_ENDING_WITH w_Operator_LESS_THAN_OR_EQUAL w_Operator_TRUE w_Operator_LIKE) :
    Con l Z (⟨"com/example/unfussy_repo/unfussyrepo/query/Operator", "takesCollection", "()Z"⟩ : MethodName) prog_53_method_5_code 1 (some .boolean) ({ frames := 0, cells := 0, slots := 0, locals := 0 } : Room) #[(.ref w_Operator_GREATER_THAN)] Z.heap (fun v h' L => v = some (.int 0) ∧ h' = Z.heap ∧ L = []) := by
  have hw := B.1
  obtain ⟨S_w_Operator_EQUALS, E_w_Operator_EQUALS, S_w_Operator_IN, E_w_Operator_IN, S_w_Operator_NOT_IN, E_w_Operator_NOT_IN, S_w_Operator_LESS_THAN, E_w_Operator_LESS_THAN, S_w_Operator_STARTING_WITH, E_w_Operator_STARTING_WITH, S_w_Operator_GREATER_THAN, E_w_Operator_GREATER_THAN, S_w_Operator_CONTAINING, E_w_Operator_CONTAINING, S_w_Operator_IS_NULL, E_w_Operator_IS_NULL, S_w_Operator_BETWEEN, E_w_Operator_BETWEEN, S_w_Operator_FALSE, E_w_Operator_FALSE, S_w_Operator_IS_NOT_NULL, E_w_Operator_IS_NOT_NULL, S_w_Operator_NOT_EQUALS, E_w_Operator_NOT_EQUALS, S_w_Operator_NOT_LIKE, E_w_Operator_NOT_LIKE, S_w_Operator_NOT_CONTAINING, E_w_Operator_NOT_CONTAINING, S_w_Operator_GREATER_THAN_OR_EQUAL, E_w_Operator_GREATER_THAN_OR_EQUAL, S_w_Operator_ENDING_WITH, E_w_Operator_ENDING_WITH, S_w_Operator_LESS_THAN_OR_EQUAL, E_w_Operator_LESS_THAN_OR_EQUAL, S_w_Operator_TRUE, E_w_Operator_TRUE, S_w_Operator_LIKE, E_w_Operator_LIKE, F_w_Operator_EQUALS_ordinal, F_w_Operator_IN_ordinal, F_w_Operator_NOT_IN_ordinal, F_w_Operator_LESS_THAN_ordinal, F_w_Operator_STARTING_WITH_ordinal, F_w_Operator_GREATER_THAN_ordinal, F_w_Operator_CONTAINING_ordinal, F_w_Operator_IS_NULL_ordinal, F_w_Operator_BETWEEN_ordinal, F_w_Operator_IN_arguments, F_w_Operator_FALSE_ordinal, F_w_Operator_IS_NOT_NULL_ordinal, F_w_Operator_NOT_EQUALS_ordinal, F_w_Operator_NOT_LIKE_ordinal, F_w_Operator_NOT_CONTAINING_ordinal, F_w_Operator_GREATER_THAN_OR_EQUAL_ordinal, F_w_Operator_ENDING_WITH_ordinal, F_w_Operator_LESS_THAN_OR_EQUAL_ordinal, F_w_Operator_TRUE_ordinal, F_w_Operator_NOT_IN_arguments, F_w_Operator_LIKE_ordinal, F_w_Operator_EQUALS_arguments, F_w_Operator_LESS_THAN_arguments, F_w_Operator_STARTING_WITH_arguments, F_w_Operator_GREATER_THAN_arguments, F_w_Operator_CONTAINING_arguments, F_w_Operator_IS_NULL_arguments, F_w_Operator_BETWEEN_arguments, F_w_Operator_FALSE_arguments, F_w_Operator_IS_NOT_NULL_arguments, F_w_Operator_NOT_EQUALS_arguments, F_w_Operator_NOT_LIKE_arguments, F_w_Operator_NOT_CONTAINING_arguments, F_w_Operator_GREATER_THAN_OR_EQUAL_arguments, F_w_Operator_ENDING_WITH_arguments, F_w_Operator_LESS_THAN_OR_EQUAL_arguments, F_w_Operator_TRUE_arguments, F_w_Operator_LIKE_arguments⟩ := B.2
  refine Con.of (plainFor_of_name pn2) (Ls := #[vR w_Operator_GREATER_THAN]) (fun _ => rfl) ?_
  intro p e s m below meth c T0 X0 H hml hZ hown hnm hret hlk e0
  refine gAloadN X0 H d2_0 rfl rfl 1 rfl ?_
  refine gGetS X0 H hZ hown (hw _ wd13) e0 S_w_Operator_IN d2_1 4 rfl ?_
  intro T39 X39 e39
  refine gAcmp X39 H d2_4 rfl rfl (same := false) (decide_eq_false fun q => (Fld.ne F_w_Operator_GREATER_THAN_ordinal F_w_Operator_IN_ordinal (by decide)) (Value.ref.inj q)) (by decide) 7 (by decide) ?_
  refine gAloadN X39 H d2_7 rfl rfl 8 rfl ?_
  refine gGetS X39 H hZ hown (hw _ wd15) e39 S_w_Operator_NOT_IN d2_8 11 rfl ?_
  intro T40 X40 e40
  refine gAcmp X40 H d2_11 rfl rfl (same := false) (decide_eq_false fun q => (Fld.ne F_w_Operator_GREATER_THAN_ordinal F_w_Operator_NOT_IN_ordinal (by decide)) (Value.ref.inj q)) (by decide) 18 (by decide) ?_
  refine gIconst X40 H d2_18 (z := 0) rfl 19 rfl ?_
  exact gRetN X40 H hlk hret (t := .boolean) (by simp) d2_19 e40 ⟨rfl, rfl, rfl⟩
theorem lawAll_5 (B : Bg Z a0 w_Operator_EQUALS w_Operator_IN w_Operator_NOT_IN w_Operator_LESS_THAN w_Operator_STARTING_WITH w_Operator_GREATER_THAN w_Operator_CONTAINING w_Operator_IS_NULL w_Operator_BETWEEN w_Operator_FALSE w_Operator_IS_NOT_NULL w_Operator_NOT_EQUALS w_Operator_NOT_LIKE w_Operator_NOT_CONTAINING w_Operator_GREATER_THAN_OR_EQUAL w_Operator_ENDING_WITH w_Operator_LESS_THAN_OR_EQUAL w_Operator_TRUE w_Operator_LIKE) (p0 : Int32) (ha0 : ((p0 &&& (2147483647 : Int32)) % (19 : Int32)) = (5 : Int32)) :
    Con l Z x code maxLocals ret room_1 #[(.int p0)] Z.heap (fun v h' L => v = some (.int 1) ∧ Fr Z.heap.size L) := by
  have hw := B.1
  obtain ⟨S_w_Operator_EQUALS, E_w_Operator_EQUALS, S_w_Operator_IN, E_w_Operator_IN, S_w_Operator_NOT_IN, E_w_Operator_NOT_IN, S_w_Operator_LESS_THAN, E_w_Operator_LESS_THAN, S_w_Operator_STARTING_WITH, E_w_Operator_STARTING_WITH, S_w_Operator_GREATER_THAN, E_w_Operator_GREATER_THAN, S_w_Operator_CONTAINING, E_w_Operator_CONTAINING, S_w_Operator_IS_NULL, E_w_Operator_IS_NULL, S_w_Operator_BETWEEN, E_w_Operator_BETWEEN, S_w_Operator_FALSE, E_w_Operator_FALSE, S_w_Operator_IS_NOT_NULL, E_w_Operator_IS_NOT_NULL, S_w_Operator_NOT_EQUALS, E_w_Operator_NOT_EQUALS, S_w_Operator_NOT_LIKE, E_w_Operator_NOT_LIKE, S_w_Operator_NOT_CONTAINING, E_w_Operator_NOT_CONTAINING, S_w_Operator_GREATER_THAN_OR_EQUAL, E_w_Operator_GREATER_THAN_OR_EQUAL, S_w_Operator_ENDING_WITH, E_w_Operator_ENDING_WITH, S_w_Operator_LESS_THAN_OR_EQUAL, E_w_Operator_LESS_THAN_OR_EQUAL, S_w_Operator_TRUE, E_w_Operator_TRUE, S_w_Operator_LIKE, E_w_Operator_LIKE, F_w_Operator_EQUALS_ordinal, F_w_Operator_IN_ordinal, F_w_Operator_NOT_IN_ordinal, F_w_Operator_LESS_THAN_ordinal, F_w_Operator_STARTING_WITH_ordinal, F_w_Operator_GREATER_THAN_ordinal, F_w_Operator_CONTAINING_ordinal, F_w_Operator_IS_NULL_ordinal, F_w_Operator_BETWEEN_ordinal, F_w_Operator_IN_arguments, F_w_Operator_FALSE_ordinal, F_w_Operator_IS_NOT_NULL_ordinal, F_w_Operator_NOT_EQUALS_ordinal, F_w_Operator_NOT_LIKE_ordinal, F_w_Operator_NOT_CONTAINING_ordinal, F_w_Operator_GREATER_THAN_OR_EQUAL_ordinal, F_w_Operator_ENDING_WITH_ordinal, F_w_Operator_LESS_THAN_OR_EQUAL_ordinal, F_w_Operator_TRUE_ordinal, F_w_Operator_NOT_IN_arguments, F_w_Operator_LIKE_ordinal, F_w_Operator_EQUALS_arguments, F_w_Operator_LESS_THAN_arguments, F_w_Operator_STARTING_WITH_arguments, F_w_Operator_GREATER_THAN_arguments, F_w_Operator_CONTAINING_arguments, F_w_Operator_IS_NULL_arguments, F_w_Operator_BETWEEN_arguments, F_w_Operator_FALSE_arguments, F_w_Operator_IS_NOT_NULL_arguments, F_w_Operator_NOT_EQUALS_arguments, F_w_Operator_NOT_LIKE_arguments, F_w_Operator_NOT_CONTAINING_arguments, F_w_Operator_GREATER_THAN_OR_EQUAL_arguments, F_w_Operator_ENDING_WITH_arguments, F_w_Operator_LESS_THAN_OR_EQUAL_arguments, F_w_Operator_TRUE_arguments, F_w_Operator_LIKE_arguments⟩ := B.2
  refine Con.of (plainFor_of_name pn0) (Ls := #[vI p0, .unset, .unset, .unset, .unset]) (fun _ => rfl) ?_
  intro p e s m below meth c T0 X0 H hml hZ hown hnm hret hlk e0
  refine gIloadN X0 H at_0 rfl 1 rfl ?_
  refine gLdc X0 H hZ hown (hw _ wd0) at_1 3 rfl ?_
  refine g_iand X0 H at_3 (z := (p0 &&& (2147483647 : Int32))) rfl 4 rfl ?_
  refine gBipush X0 H at_4 (z := 19) rfl 6 rfl ?_
  refine g_irem X0 H at_6 (by decide) (z := 5) ha0 7 rfl ?_
  refine gIstoreN X0 H at_7 (Ls' := #[vI p0, vI 5, .unset, .unset, .unset]) rfl 8 rfl ?_
  refine gIloadN X0 H at_8 rfl 9 rfl ?_
  refine gStatic X0 H hZ hown (hw _ wd1) (hw _ wd2) (by decide) (hw _ wd4) (hw _ wd3) (rm37_1 B) e0 hml rfl pd0 rfl (W := 0) (argsL := [(.int 5)]) (rest := []) rfl rfl at_9 12 rfl ?_
  intro v38 T38 L38 hq38 X38
  obtain ⟨rfl, e38, rfl⟩ := hq38
  show Go _ _ _ _ (State.setTop _ (mkF _ 12 _ [(.ref w_Operator_GREATER_THAN)]))
  refine gAstoreN X38 H at_12 rfl (Ls' := #[vI p0, vI 5, vR w_Operator_GREATER_THAN, .unset, .unset]) rfl 13 rfl ?_
  refine gAloadN X38 H at_13 rfl rfl 14 rfl ?_
  refine gVirt X38 H hZ hown (hw _ wd8) (hw _ wd9) (hw _ wd11) (hw _ wd10) (by decide) E_w_Operator_GREATER_THAN (hw _ wd12) (hw _ wd6) (rm41_2 B) e38 hml rfl pd1 rfl (W := 0) (argsL := []) (rest := []) rfl rfl at_14 17 rfl ?_
  intro v42 T42 L42 hq42 X42
  obtain ⟨rfl, e42, rfl⟩ := hq42
  show Go _ _ _ _ (State.setTop _ (mkF _ 17 _ [(.int 0)]))
  refine gIstoreN X42 H at_17 (Ls' := #[vI p0, vI 5, vR w_Operator_GREATER_THAN, vI 0, .unset]) rfl 18 rfl ?_
  refine gIloadN X42 H at_18 rfl 19 rfl ?_
  refine gBipush X42 H at_19 (z := 11) rfl 21 rfl ?_
  refine gCmpN X42 H at_21 (by decide) 24 rfl ?_
  refine gIloadN X42 H at_24 rfl 25 rfl ?_
  refine gBipush X42 H at_25 (z := 12) rfl 27 rfl ?_
  refine gCmpY X42 H at_27 (by decide) (by decide) 34 rfl ?_
  refine gIconst X42 H at_34 (z := 0) rfl 35 rfl ?_
  refine gIstore X42 H at_35 (Ls' := #[vI p0, vI 5, vR w_Operator_GREATER_THAN, vI 0, vI 0]) rfl 37 rfl ?_
  refine gIloadN X42 H at_37 rfl 38 rfl ?_
  refine gIload X42 H at_38 rfl 40 rfl ?_
  refine gCmpY X42 H at_40 (by decide) (by decide) 45 rfl ?_
  refine gIloadN X42 H at_45 rfl 46 rfl ?_
  refine gIfY X42 H at_46 (by decide) (by decide) 70 rfl ?_
  refine gIconst X42 H at_70 (z := 1) rfl 71 rfl ?_
  exact gRetN X42 H hlk hret (t := .boolean) (by simp) at_71 e42 ⟨rfl, Fr.nil _⟩
theorem rm44_1 (B : Bg Z a0 w_Operator_EQUALS w_Operator_IN w_Operator_NOT_IN w_Operator_LESS_THAN w_Operator_STARTING_WITH w_Operator_GREATER_THAN w_Operator_CONTAINING w_Operator_IS_NULL w_Operator_BETWEEN w_Operator_FALSE w_Operator_IS_NOT_NULL w_Operator_NOT_EQUALS w_Operator_NOT_LIKE w_Operator_NOT_CONTAINING w_Operator_GREATER_THAN_OR_EQUAL w_Operator_ENDING_WITH w_Operator_LESS_THAN_OR_EQUAL w_Operator_TRUE w_Operator_LIKE) :
    Con l Z (⟨"com/example/unfussy_repo/unfussyrepo/query/OperatorTakesCollectionPinLaw", "pick", "(I)Lcom/example/unfussy_repo/unfussyrepo/query/Operator;"⟩ : MethodName) method_2_code 1 (some (.object "com/example/unfussy_repo/unfussyrepo/query/Operator")) ({ frames := 0, cells := 0, slots := 0, locals := 0 } : Room) #[(.int 6)] Z.heap (fun v h' L => v = some (.ref w_Operator_GREATER_THAN_OR_EQUAL) ∧ h' = Z.heap ∧ L = []) := by
  have hw := B.1
  obtain ⟨S_w_Operator_EQUALS, E_w_Operator_EQUALS, S_w_Operator_IN, E_w_Operator_IN, S_w_Operator_NOT_IN, E_w_Operator_NOT_IN, S_w_Operator_LESS_THAN, E_w_Operator_LESS_THAN, S_w_Operator_STARTING_WITH, E_w_Operator_STARTING_WITH, S_w_Operator_GREATER_THAN, E_w_Operator_GREATER_THAN, S_w_Operator_CONTAINING, E_w_Operator_CONTAINING, S_w_Operator_IS_NULL, E_w_Operator_IS_NULL, S_w_Operator_BETWEEN, E_w_Operator_BETWEEN, S_w_Operator_FALSE, E_w_Operator_FALSE, S_w_Operator_IS_NOT_NULL, E_w_Operator_IS_NOT_NULL, S_w_Operator_NOT_EQUALS, E_w_Operator_NOT_EQUALS, S_w_Operator_NOT_LIKE, E_w_Operator_NOT_LIKE, S_w_Operator_NOT_CONTAINING, E_w_Operator_NOT_CONTAINING, S_w_Operator_GREATER_THAN_OR_EQUAL, E_w_Operator_GREATER_THAN_OR_EQUAL, S_w_Operator_ENDING_WITH, E_w_Operator_ENDING_WITH, S_w_Operator_LESS_THAN_OR_EQUAL, E_w_Operator_LESS_THAN_OR_EQUAL, S_w_Operator_TRUE, E_w_Operator_TRUE, S_w_Operator_LIKE, E_w_Operator_LIKE, F_w_Operator_EQUALS_ordinal, F_w_Operator_IN_ordinal, F_w_Operator_NOT_IN_ordinal, F_w_Operator_LESS_THAN_ordinal, F_w_Operator_STARTING_WITH_ordinal, F_w_Operator_GREATER_THAN_ordinal, F_w_Operator_CONTAINING_ordinal, F_w_Operator_IS_NULL_ordinal, F_w_Operator_BETWEEN_ordinal, F_w_Operator_IN_arguments, F_w_Operator_FALSE_ordinal, F_w_Operator_IS_NOT_NULL_ordinal, F_w_Operator_NOT_EQUALS_ordinal, F_w_Operator_NOT_LIKE_ordinal, F_w_Operator_NOT_CONTAINING_ordinal, F_w_Operator_GREATER_THAN_OR_EQUAL_ordinal, F_w_Operator_ENDING_WITH_ordinal, F_w_Operator_LESS_THAN_OR_EQUAL_ordinal, F_w_Operator_TRUE_ordinal, F_w_Operator_NOT_IN_arguments, F_w_Operator_LIKE_ordinal, F_w_Operator_EQUALS_arguments, F_w_Operator_LESS_THAN_arguments, F_w_Operator_STARTING_WITH_arguments, F_w_Operator_GREATER_THAN_arguments, F_w_Operator_CONTAINING_arguments, F_w_Operator_IS_NULL_arguments, F_w_Operator_BETWEEN_arguments, F_w_Operator_FALSE_arguments, F_w_Operator_IS_NOT_NULL_arguments, F_w_Operator_NOT_EQUALS_arguments, F_w_Operator_NOT_LIKE_arguments, F_w_Operator_NOT_CONTAINING_arguments, F_w_Operator_GREATER_THAN_OR_EQUAL_arguments, F_w_Operator_ENDING_WITH_arguments, F_w_Operator_LESS_THAN_OR_EQUAL_arguments, F_w_Operator_TRUE_arguments, F_w_Operator_LIKE_arguments⟩ := B.2
  refine Con.of (plainFor_of_name pn1) (Ls := #[vI 6]) (fun _ => rfl) ?_
  intro p e s m below meth c T0 X0 H hml hZ hown hnm hret hlk e0
  refine gIloadN X0 H d1_0 rfl 1 rfl ?_
  refine gIfY X0 H d1_1 (by decide) (by decide) 8 rfl ?_
  refine gIloadN X0 H d1_8 rfl 9 rfl ?_
  refine gIconst X0 H d1_9 (z := 1) rfl 10 rfl ?_
  refine gCmpY X0 H d1_10 (by decide) (by decide) 17 rfl ?_
  refine gIloadN X0 H d1_17 rfl 18 rfl ?_
  refine gIconst X0 H d1_18 (z := 2) rfl 19 rfl ?_
  refine gCmpY X0 H d1_19 (by decide) (by decide) 26 rfl ?_
  refine gIloadN X0 H d1_26 rfl 27 rfl ?_
  refine gIconst X0 H d1_27 (z := 3) rfl 28 rfl ?_
  refine gCmpY X0 H d1_28 (by decide) (by decide) 35 rfl ?_
  refine gIloadN X0 H d1_35 rfl 36 rfl ?_
  refine gIconst X0 H d1_36 (z := 4) rfl 37 rfl ?_
  refine gCmpY X0 H d1_37 (by decide) (by decide) 44 rfl ?_
  refine gIloadN X0 H d1_44 rfl 45 rfl ?_
  refine gIconst X0 H d1_45 (z := 5) rfl 46 rfl ?_
  refine gCmpY X0 H d1_46 (by decide) (by decide) 53 rfl ?_
  refine gIloadN X0 H d1_53 rfl 54 rfl ?_
  refine gBipush X0 H d1_54 (z := 6) rfl 56 rfl ?_
  refine gCmpN X0 H d1_56 (by decide) 59 rfl ?_
  refine gGetS X0 H hZ hown (hw _ wd61) e0 S_w_Operator_GREATER_THAN_OR_EQUAL d1_59 62 rfl ?_
  intro T43 X43 e43
  exact gRetA X43 H hlk hret rfl rfl rfl d1_62 e43 ⟨rfl, rfl, rfl⟩
theorem rm48_2 (B : Bg Z a0 w_Operator_EQUALS w_Operator_IN w_Operator_NOT_IN w_Operator_LESS_THAN w_Operator_STARTING_WITH w_Operator_GREATER_THAN w_Operator_CONTAINING w_Operator_IS_NULL w_Operator_BETWEEN w_Operator_FALSE w_Operator_IS_NOT_NULL w_Operator_NOT_EQUALS w_Operator_NOT_LIKE w_Operator_NOT_CONTAINING w_Operator_GREATER_THAN_OR_EQUAL w_Operator_ENDING_WITH w_Operator_LESS_THAN_OR_EQUAL w_Operator_TRUE w_Operator_LIKE) :
    Con l Z (⟨"com/example/unfussy_repo/unfussyrepo/query/Operator", "takesCollection", "()Z"⟩ : MethodName) prog_53_method_5_code 1 (some .boolean) ({ frames := 0, cells := 0, slots := 0, locals := 0 } : Room) #[(.ref w_Operator_GREATER_THAN_OR_EQUAL)] Z.heap (fun v h' L => v = some (.int 0) ∧ h' = Z.heap ∧ L = []) := by
  have hw := B.1
  obtain ⟨S_w_Operator_EQUALS, E_w_Operator_EQUALS, S_w_Operator_IN, E_w_Operator_IN, S_w_Operator_NOT_IN, E_w_Operator_NOT_IN, S_w_Operator_LESS_THAN, E_w_Operator_LESS_THAN, S_w_Operator_STARTING_WITH, E_w_Operator_STARTING_WITH, S_w_Operator_GREATER_THAN, E_w_Operator_GREATER_THAN, S_w_Operator_CONTAINING, E_w_Operator_CONTAINING, S_w_Operator_IS_NULL, E_w_Operator_IS_NULL, S_w_Operator_BETWEEN, E_w_Operator_BETWEEN, S_w_Operator_FALSE, E_w_Operator_FALSE, S_w_Operator_IS_NOT_NULL, E_w_Operator_IS_NOT_NULL, S_w_Operator_NOT_EQUALS, E_w_Operator_NOT_EQUALS, S_w_Operator_NOT_LIKE, E_w_Operator_NOT_LIKE, S_w_Operator_NOT_CONTAINING, E_w_Operator_NOT_CONTAINING, S_w_Operator_GREATER_THAN_OR_EQUAL, E_w_Operator_GREATER_THAN_OR_EQUAL, S_w_Operator_ENDING_WITH, E_w_Operator_ENDING_WITH, S_w_Operator_LESS_THAN_OR_EQUAL, E_w_Operator_LESS_THAN_OR_EQUAL, S_w_Operator_TRUE, E_w_Operator_TRUE, S_w_Operator_LIKE, E_w_Operator_LIKE, F_w_Operator_EQUALS_ordinal, F_w_Operator_IN_ordinal, F_w_Operator_NOT_IN_ordinal, F_w_Operator_LESS_THAN_ordinal, F_w_Operator_STARTING_WITH_ordinal, F_w_Operator_GREATER_THAN_ordinal, F_w_Operator_CONTAINING_ordinal, F_w_Operator_IS_NULL_ordinal, F_w_Operator_BETWEEN_ordinal, F_w_Operator_IN_arguments, F_w_Operator_FALSE_ordinal, F_w_Operator_IS_NOT_NULL_ordinal, F_w_Operator_NOT_EQUALS_ordinal, F_w_Operator_NOT_LIKE_ordinal, F_w_Operator_NOT_CONTAINING_ordinal, F_w_Operator_GREATER_THAN_OR_EQUAL_ordinal, F_w_Operator_ENDING_WITH_ordinal, F_w_Operator_LESS_THAN_OR_EQUAL_ordinal, F_w_Operator_TRUE_ordinal, F_w_Operator_NOT_IN_arguments, F_w_Operator_LIKE_ordinal, F_w_Operator_EQUALS_arguments, F_w_Operator_LESS_THAN_arguments, F_w_Operator_STARTING_WITH_arguments, F_w_Operator_GREATER_THAN_arguments, F_w_Operator_CONTAINING_arguments, F_w_Operator_IS_NULL_arguments, F_w_Operator_BETWEEN_arguments, F_w_Operator_FALSE_arguments, F_w_Operator_IS_NOT_NULL_arguments, F_w_Operator_NOT_EQUALS_arguments, F_w_Operator_NOT_LIKE_arguments, F_w_Operator_NOT_CONTAINING_arguments, F_w_Operator_GREATER_THAN_OR_EQUAL_arguments, F_w_Operator_ENDING_WITH_arguments, F_w_Operator_LESS_THAN_OR_EQUAL_arguments, F_w_Operator_TRUE_arguments, F_w_Operator_LIKE_arguments⟩ := B.2
  refine Con.of (plainFor_of_name pn2) (Ls := #[vR w_Operator_GREATER_THAN_OR_EQUAL]) (fun _ => rfl) ?_
  intro p e s m below meth c T0 X0 H hml hZ hown hnm hret hlk e0
  refine gAloadN X0 H d2_0 rfl rfl 1 rfl ?_
  refine gGetS X0 H hZ hown (hw _ wd13) e0 S_w_Operator_IN d2_1 4 rfl ?_
  intro T46 X46 e46
  refine gAcmp X46 H d2_4 rfl rfl (same := false) (decide_eq_false fun q => (Fld.ne F_w_Operator_GREATER_THAN_OR_EQUAL_ordinal F_w_Operator_IN_ordinal (by decide)) (Value.ref.inj q)) (by decide) 7 (by decide) ?_
  refine gAloadN X46 H d2_7 rfl rfl 8 rfl ?_
  refine gGetS X46 H hZ hown (hw _ wd15) e46 S_w_Operator_NOT_IN d2_8 11 rfl ?_
  intro T47 X47 e47
  refine gAcmp X47 H d2_11 rfl rfl (same := false) (decide_eq_false fun q => (Fld.ne F_w_Operator_GREATER_THAN_OR_EQUAL_ordinal F_w_Operator_NOT_IN_ordinal (by decide)) (Value.ref.inj q)) (by decide) 18 (by decide) ?_
  refine gIconst X47 H d2_18 (z := 0) rfl 19 rfl ?_
  exact gRetN X47 H hlk hret (t := .boolean) (by simp) d2_19 e47 ⟨rfl, rfl, rfl⟩
theorem lawAll_6 (B : Bg Z a0 w_Operator_EQUALS w_Operator_IN w_Operator_NOT_IN w_Operator_LESS_THAN w_Operator_STARTING_WITH w_Operator_GREATER_THAN w_Operator_CONTAINING w_Operator_IS_NULL w_Operator_BETWEEN w_Operator_FALSE w_Operator_IS_NOT_NULL w_Operator_NOT_EQUALS w_Operator_NOT_LIKE w_Operator_NOT_CONTAINING w_Operator_GREATER_THAN_OR_EQUAL w_Operator_ENDING_WITH w_Operator_LESS_THAN_OR_EQUAL w_Operator_TRUE w_Operator_LIKE) (p0 : Int32) (ha0 : ((p0 &&& (2147483647 : Int32)) % (19 : Int32)) = (6 : Int32)) :
    Con l Z x code maxLocals ret room_1 #[(.int p0)] Z.heap (fun v h' L => v = some (.int 1) ∧ Fr Z.heap.size L) := by
  have hw := B.1
  obtain ⟨S_w_Operator_EQUALS, E_w_Operator_EQUALS, S_w_Operator_IN, E_w_Operator_IN, S_w_Operator_NOT_IN, E_w_Operator_NOT_IN, S_w_Operator_LESS_THAN, E_w_Operator_LESS_THAN, S_w_Operator_STARTING_WITH, E_w_Operator_STARTING_WITH, S_w_Operator_GREATER_THAN, E_w_Operator_GREATER_THAN, S_w_Operator_CONTAINING, E_w_Operator_CONTAINING, S_w_Operator_IS_NULL, E_w_Operator_IS_NULL, S_w_Operator_BETWEEN, E_w_Operator_BETWEEN, S_w_Operator_FALSE, E_w_Operator_FALSE, S_w_Operator_IS_NOT_NULL, E_w_Operator_IS_NOT_NULL, S_w_Operator_NOT_EQUALS, E_w_Operator_NOT_EQUALS, S_w_Operator_NOT_LIKE, E_w_Operator_NOT_LIKE, S_w_Operator_NOT_CONTAINING, E_w_Operator_NOT_CONTAINING, S_w_Operator_GREATER_THAN_OR_EQUAL, E_w_Operator_GREATER_THAN_OR_EQUAL, S_w_Operator_ENDING_WITH, E_w_Operator_ENDING_WITH, S_w_Operator_LESS_THAN_OR_EQUAL, E_w_Operator_LESS_THAN_OR_EQUAL, S_w_Operator_TRUE, E_w_Operator_TRUE, S_w_Operator_LIKE, E_w_Operator_LIKE, F_w_Operator_EQUALS_ordinal, F_w_Operator_IN_ordinal, F_w_Operator_NOT_IN_ordinal, F_w_Operator_LESS_THAN_ordinal, F_w_Operator_STARTING_WITH_ordinal, F_w_Operator_GREATER_THAN_ordinal, F_w_Operator_CONTAINING_ordinal, F_w_Operator_IS_NULL_ordinal, F_w_Operator_BETWEEN_ordinal, F_w_Operator_IN_arguments, F_w_Operator_FALSE_ordinal, F_w_Operator_IS_NOT_NULL_ordinal, F_w_Operator_NOT_EQUALS_ordinal, F_w_Operator_NOT_LIKE_ordinal, F_w_Operator_NOT_CONTAINING_ordinal, F_w_Operator_GREATER_THAN_OR_EQUAL_ordinal, F_w_Operator_ENDING_WITH_ordinal, F_w_Operator_LESS_THAN_OR_EQUAL_ordinal, F_w_Operator_TRUE_ordinal, F_w_Operator_NOT_IN_arguments, F_w_Operator_LIKE_ordinal, F_w_Operator_EQUALS_arguments, F_w_Operator_LESS_THAN_arguments, F_w_Operator_STARTING_WITH_arguments, F_w_Operator_GREATER_THAN_arguments, F_w_Operator_CONTAINING_arguments, F_w_Operator_IS_NULL_arguments, F_w_Operator_BETWEEN_arguments, F_w_Operator_FALSE_arguments, F_w_Operator_IS_NOT_NULL_arguments, F_w_Operator_NOT_EQUALS_arguments, F_w_Operator_NOT_LIKE_arguments, F_w_Operator_NOT_CONTAINING_arguments, F_w_Operator_GREATER_THAN_OR_EQUAL_arguments, F_w_Operator_ENDING_WITH_arguments, F_w_Operator_LESS_THAN_OR_EQUAL_arguments, F_w_Operator_TRUE_arguments, F_w_Operator_LIKE_arguments⟩ := B.2
  refine Con.of (plainFor_of_name pn0) (Ls := #[vI p0, .unset, .unset, .unset, .unset]) (fun _ => rfl) ?_
  intro p e s m below meth c T0 X0 H hml hZ hown hnm hret hlk e0
  refine gIloadN X0 H at_0 rfl 1 rfl ?_
  refine gLdc X0 H hZ hown (hw _ wd0) at_1 3 rfl ?_
  refine g_iand X0 H at_3 (z := (p0 &&& (2147483647 : Int32))) rfl 4 rfl ?_
  refine gBipush X0 H at_4 (z := 19) rfl 6 rfl ?_
  refine g_irem X0 H at_6 (by decide) (z := 6) ha0 7 rfl ?_
  refine gIstoreN X0 H at_7 (Ls' := #[vI p0, vI 6, .unset, .unset, .unset]) rfl 8 rfl ?_
  refine gIloadN X0 H at_8 rfl 9 rfl ?_
  refine gStatic X0 H hZ hown (hw _ wd1) (hw _ wd2) (by decide) (hw _ wd4) (hw _ wd3) (rm44_1 B) e0 hml rfl pd0 rfl (W := 0) (argsL := [(.int 6)]) (rest := []) rfl rfl at_9 12 rfl ?_
  intro v45 T45 L45 hq45 X45
  obtain ⟨rfl, e45, rfl⟩ := hq45
  show Go _ _ _ _ (State.setTop _ (mkF _ 12 _ [(.ref w_Operator_GREATER_THAN_OR_EQUAL)]))
  refine gAstoreN X45 H at_12 rfl (Ls' := #[vI p0, vI 6, vR w_Operator_GREATER_THAN_OR_EQUAL, .unset, .unset]) rfl 13 rfl ?_
  refine gAloadN X45 H at_13 rfl rfl 14 rfl ?_
  refine gVirt X45 H hZ hown (hw _ wd8) (hw _ wd9) (hw _ wd11) (hw _ wd10) (by decide) E_w_Operator_GREATER_THAN_OR_EQUAL (hw _ wd12) (hw _ wd6) (rm48_2 B) e45 hml rfl pd1 rfl (W := 0) (argsL := []) (rest := []) rfl rfl at_14 17 rfl ?_
  intro v49 T49 L49 hq49 X49
  obtain ⟨rfl, e49, rfl⟩ := hq49
  show Go _ _ _ _ (State.setTop _ (mkF _ 17 _ [(.int 0)]))
  refine gIstoreN X49 H at_17 (Ls' := #[vI p0, vI 6, vR w_Operator_GREATER_THAN_OR_EQUAL, vI 0, .unset]) rfl 18 rfl ?_
  refine gIloadN X49 H at_18 rfl 19 rfl ?_
  refine gBipush X49 H at_19 (z := 11) rfl 21 rfl ?_
  refine gCmpN X49 H at_21 (by decide) 24 rfl ?_
  refine gIloadN X49 H at_24 rfl 25 rfl ?_
  refine gBipush X49 H at_25 (z := 12) rfl 27 rfl ?_
  refine gCmpY X49 H at_27 (by decide) (by decide) 34 rfl ?_
  refine gIconst X49 H at_34 (z := 0) rfl 35 rfl ?_
  refine gIstore X49 H at_35 (Ls' := #[vI p0, vI 6, vR w_Operator_GREATER_THAN_OR_EQUAL, vI 0, vI 0]) rfl 37 rfl ?_
  refine gIloadN X49 H at_37 rfl 38 rfl ?_
  refine gIload X49 H at_38 rfl 40 rfl ?_
  refine gCmpY X49 H at_40 (by decide) (by decide) 45 rfl ?_
  refine gIloadN X49 H at_45 rfl 46 rfl ?_
  refine gIfY X49 H at_46 (by decide) (by decide) 70 rfl ?_
  refine gIconst X49 H at_70 (z := 1) rfl 71 rfl ?_
  exact gRetN X49 H hlk hret (t := .boolean) (by simp) at_71 e49 ⟨rfl, Fr.nil _⟩
theorem rm51_1 (B : Bg Z a0 w_Operator_EQUALS w_Operator_IN w_Operator_NOT_IN w_Operator_LESS_THAN w_Operator_STARTING_WITH w_Operator_GREATER_THAN w_Operator_CONTAINING w_Operator_IS_NULL w_Operator_BETWEEN w_Operator_FALSE w_Operator_IS_NOT_NULL w_Operator_NOT_EQUALS w_Operator_NOT_LIKE w_Operator_NOT_CONTAINING w_Operator_GREATER_THAN_OR_EQUAL w_Operator_ENDING_WITH w_Operator_LESS_THAN_OR_EQUAL w_Operator_TRUE w_Operator_LIKE) :
    Con l Z (⟨"com/example/unfussy_repo/unfussyrepo/query/OperatorTakesCollectionPinLaw", "pick", "(I)Lcom/example/unfussy_repo/unfussyrepo/query/Operator;"⟩ : MethodName) method_2_code 1 (some (.object "com/example/unfussy_repo/unfussyrepo/query/Operator")) ({ frames := 0, cells := 0, slots := 0, locals := 0 } : Room) #[(.int 7)] Z.heap (fun v h' L => v = some (.ref w_Operator_IS_NULL) ∧ h' = Z.heap ∧ L = []) := by
  have hw := B.1
  obtain ⟨S_w_Operator_EQUALS, E_w_Operator_EQUALS, S_w_Operator_IN, E_w_Operator_IN, S_w_Operator_NOT_IN, E_w_Operator_NOT_IN, S_w_Operator_LESS_THAN, E_w_Operator_LESS_THAN, S_w_Operator_STARTING_WITH, E_w_Operator_STARTING_WITH, S_w_Operator_GREATER_THAN, E_w_Operator_GREATER_THAN, S_w_Operator_CONTAINING, E_w_Operator_CONTAINING, S_w_Operator_IS_NULL, E_w_Operator_IS_NULL, S_w_Operator_BETWEEN, E_w_Operator_BETWEEN, S_w_Operator_FALSE, E_w_Operator_FALSE, S_w_Operator_IS_NOT_NULL, E_w_Operator_IS_NOT_NULL, S_w_Operator_NOT_EQUALS, E_w_Operator_NOT_EQUALS, S_w_Operator_NOT_LIKE, E_w_Operator_NOT_LIKE, S_w_Operator_NOT_CONTAINING, E_w_Operator_NOT_CONTAINING, S_w_Operator_GREATER_THAN_OR_EQUAL, E_w_Operator_GREATER_THAN_OR_EQUAL, S_w_Operator_ENDING_WITH, E_w_Operator_ENDING_WITH, S_w_Operator_LESS_THAN_OR_EQUAL, E_w_Operator_LESS_THAN_OR_EQUAL, S_w_Operator_TRUE, E_w_Operator_TRUE, S_w_Operator_LIKE, E_w_Operator_LIKE, F_w_Operator_EQUALS_ordinal, F_w_Operator_IN_ordinal, F_w_Operator_NOT_IN_ordinal, F_w_Operator_LESS_THAN_ordinal, F_w_Operator_STARTING_WITH_ordinal, F_w_Operator_GREATER_THAN_ordinal, F_w_Operator_CONTAINING_ordinal, F_w_Operator_IS_NULL_ordinal, F_w_Operator_BETWEEN_ordinal, F_w_Operator_IN_arguments, F_w_Operator_FALSE_ordinal, F_w_Operator_IS_NOT_NULL_ordinal, F_w_Operator_NOT_EQUALS_ordinal, F_w_Operator_NOT_LIKE_ordinal, F_w_Operator_NOT_CONTAINING_ordinal, F_w_Operator_GREATER_THAN_OR_EQUAL_ordinal, F_w_Operator_ENDING_WITH_ordinal, F_w_Operator_LESS_THAN_OR_EQUAL_ordinal, F_w_Operator_TRUE_ordinal, F_w_Operator_NOT_IN_arguments, F_w_Operator_LIKE_ordinal, F_w_Operator_EQUALS_arguments, F_w_Operator_LESS_THAN_arguments, F_w_Operator_STARTING_WITH_arguments, F_w_Operator_GREATER_THAN_arguments, F_w_Operator_CONTAINING_arguments, F_w_Operator_IS_NULL_arguments, F_w_Operator_BETWEEN_arguments, F_w_Operator_FALSE_arguments, F_w_Operator_IS_NOT_NULL_arguments, F_w_Operator_NOT_EQUALS_arguments, F_w_Operator_NOT_LIKE_arguments, F_w_Operator_NOT_CONTAINING_arguments, F_w_Operator_GREATER_THAN_OR_EQUAL_arguments, F_w_Operator_ENDING_WITH_arguments, F_w_Operator_LESS_THAN_OR_EQUAL_arguments, F_w_Operator_TRUE_arguments, F_w_Operator_LIKE_arguments⟩ := B.2
  refine Con.of (plainFor_of_name pn1) (Ls := #[vI 7]) (fun _ => rfl) ?_
  intro p e s m below meth c T0 X0 H hml hZ hown hnm hret hlk e0
  refine gIloadN X0 H d1_0 rfl 1 rfl ?_
  refine gIfY X0 H d1_1 (by decide) (by decide) 8 rfl ?_
  refine gIloadN X0 H d1_8 rfl 9 rfl ?_
  refine gIconst X0 H d1_9 (z := 1) rfl 10 rfl ?_
  refine gCmpY X0 H d1_10 (by decide) (by decide) 17 rfl ?_
  refine gIloadN X0 H d1_17 rfl 18 rfl ?_
  refine gIconst X0 H d1_18 (z := 2) rfl 19 rfl ?_
  refine gCmpY X0 H d1_19 (by decide) (by decide) 26 rfl ?_
  refine gIloadN X0 H d1_26 rfl 27 rfl ?_
  refine gIconst X0 H d1_27 (z := 3) rfl 28 rfl ?_
  refine gCmpY X0 H d1_28 (by decide) (by decide) 35 rfl ?_
  refine gIloadN X0 H d1_35 rfl 36 rfl ?_
  refine gIconst X0 H d1_36 (z := 4) rfl 37 rfl ?_
  refine gCmpY X0 H d1_37 (by decide) (by decide) 44 rfl ?_
  refine gIloadN X0 H d1_44 rfl 45 rfl ?_
  refine gIconst X0 H d1_45 (z := 5) rfl 46 rfl ?_
  refine gCmpY X0 H d1_46 (by decide) (by decide) 53 rfl ?_
  refine gIloadN X0 H d1_53 rfl 54 rfl ?_
  refine gBipush X0 H d1_54 (z := 6) rfl 56 rfl ?_
  refine gCmpY X0 H d1_56 (by decide) (by decide) 63 rfl ?_
  refine gIloadN X0 H d1_63 rfl 64 rfl ?_
  refine gBipush X0 H d1_64 (z := 7) rfl 66 rfl ?_
  refine gCmpN X0 H d1_66 (by decide) 69 rfl ?_
  refine gGetS X0 H hZ hown (hw _ wd25) e0 S_w_Operator_IS_NULL d1_69 72 rfl ?_
  intro T50 X50 e50
  exact gRetA X50 H hlk hret rfl rfl rfl d1_72 e50 ⟨rfl, rfl, rfl⟩
theorem rm55_2 (B : Bg Z a0 w_Operator_EQUALS w_Operator_IN w_Operator_NOT_IN w_Operator_LESS_THAN w_Operator_STARTING_WITH w_Operator_GREATER_THAN w_Operator_CONTAINING w_Operator_IS_NULL w_Operator_BETWEEN w_Operator_FALSE w_Operator_IS_NOT_NULL w_Operator_NOT_EQUALS w_Operator_NOT_LIKE w_Operator_NOT_CONTAINING w_Operator_GREATER_THAN_OR_EQUAL w_Operator_ENDING_WITH w_Operator_LESS_THAN_OR_EQUAL w_Operator_TRUE w_Operator_LIKE) :
    Con l Z (⟨"com/example/unfussy_repo/unfussyrepo/query/Operator", "takesCollection", "()Z"⟩ : MethodName) prog_53_method_5_code 1 (some .boolean) ({ frames := 0, cells := 0, slots := 0, locals := 0 } : Room) #[(.ref w_Operator_IS_NULL)] Z.heap (fun v h' L => v = some (.int 0) ∧ h' = Z.heap ∧ L = []) := by
  have hw := B.1
  obtain ⟨S_w_Operator_EQUALS, E_w_Operator_EQUALS, S_w_Operator_IN, E_w_Operator_IN, S_w_Operator_NOT_IN, E_w_Operator_NOT_IN, S_w_Operator_LESS_THAN, E_w_Operator_LESS_THAN, S_w_Operator_STARTING_WITH, E_w_Operator_STARTING_WITH, S_w_Operator_GREATER_THAN, E_w_Operator_GREATER_THAN, S_w_Operator_CONTAINING, E_w_Operator_CONTAINING, S_w_Operator_IS_NULL, E_w_Operator_IS_NULL, S_w_Operator_BETWEEN, E_w_Operator_BETWEEN, S_w_Operator_FALSE, E_w_Operator_FALSE, S_w_Operator_IS_NOT_NULL, E_w_Operator_IS_NOT_NULL, S_w_Operator_NOT_EQUALS, E_w_Operator_NOT_EQUALS, S_w_Operator_NOT_LIKE, E_w_Operator_NOT_LIKE, S_w_Operator_NOT_CONTAINING, E_w_Operator_NOT_CONTAINING, S_w_Operator_GREATER_THAN_OR_EQUAL, E_w_Operator_GREATER_THAN_OR_EQUAL, S_w_Operator_ENDING_WITH, E_w_Operator_ENDING_WITH, S_w_Operator_LESS_THAN_OR_EQUAL, E_w_Operator_LESS_THAN_OR_EQUAL, S_w_Operator_TRUE, E_w_Operator_TRUE, S_w_Operator_LIKE, E_w_Operator_LIKE, F_w_Operator_EQUALS_ordinal, F_w_Operator_IN_ordinal, F_w_Operator_NOT_IN_ordinal, F_w_Operator_LESS_THAN_ordinal, F_w_Operator_STARTING_WITH_ordinal, F_w_Operator_GREATER_THAN_ordinal, F_w_Operator_CONTAINING_ordinal, F_w_Operator_IS_NULL_ordinal, F_w_Operator_BETWEEN_ordinal, F_w_Operator_IN_arguments, F_w_Operator_FALSE_ordinal, F_w_Operator_IS_NOT_NULL_ordinal, F_w_Operator_NOT_EQUALS_ordinal, F_w_Operator_NOT_LIKE_ordinal, F_w_Operator_NOT_CONTAINING_ordinal, F_w_Operator_GREATER_THAN_OR_EQUAL_ordinal, F_w_Operator_ENDING_WITH_ordinal, F_w_Operator_LESS_THAN_OR_EQUAL_ordinal, F_w_Operator_TRUE_ordinal, F_w_Operator_NOT_IN_arguments, F_w_Operator_LIKE_ordinal, F_w_Operator_EQUALS_arguments, F_w_Operator_LESS_THAN_arguments, F_w_Operator_STARTING_WITH_arguments, F_w_Operator_GREATER_THAN_arguments, F_w_Operator_CONTAINING_arguments, F_w_Operator_IS_NULL_arguments, F_w_Operator_BETWEEN_arguments, F_w_Operator_FALSE_arguments, F_w_Operator_IS_NOT_NULL_arguments, F_w_Operator_NOT_EQUALS_arguments, F_w_Operator_NOT_LIKE_arguments, F_w_Operator_NOT_CONTAINING_arguments, F_w_Operator_GREATER_THAN_OR_EQUAL_arguments, F_w_Operator_ENDING_WITH_arguments, F_w_Operator_LESS_THAN_OR_EQUAL_arguments, F_w_Operator_TRUE_arguments, F_w_Operator_LIKE_arguments⟩ := B.2
  refine Con.of (plainFor_of_name pn2) (Ls := #[vR w_Operator_IS_NULL]) (fun _ => rfl) ?_
  intro p e s m below meth c T0 X0 H hml hZ hown hnm hret hlk e0
  refine gAloadN X0 H d2_0 rfl rfl 1 rfl ?_
  refine gGetS X0 H hZ hown (hw _ wd13) e0 S_w_Operator_IN d2_1 4 rfl ?_
  intro T53 X53 e53
  refine gAcmp X53 H d2_4 rfl rfl (same := false) (decide_eq_false fun q => (Fld.ne F_w_Operator_IS_NULL_ordinal F_w_Operator_IN_ordinal (by decide)) (Value.ref.inj q)) (by decide) 7 (by decide) ?_
  refine gAloadN X53 H d2_7 rfl rfl 8 rfl ?_
  refine gGetS X53 H hZ hown (hw _ wd15) e53 S_w_Operator_NOT_IN d2_8 11 rfl ?_
  intro T54 X54 e54
  refine gAcmp X54 H d2_11 rfl rfl (same := false) (decide_eq_false fun q => (Fld.ne F_w_Operator_IS_NULL_ordinal F_w_Operator_NOT_IN_ordinal (by decide)) (Value.ref.inj q)) (by decide) 18 (by decide) ?_
  refine gIconst X54 H d2_18 (z := 0) rfl 19 rfl ?_
  exact gRetN X54 H hlk hret (t := .boolean) (by simp) d2_19 e54 ⟨rfl, rfl, rfl⟩
theorem lawAll_7 (B : Bg Z a0 w_Operator_EQUALS w_Operator_IN w_Operator_NOT_IN w_Operator_LESS_THAN w_Operator_STARTING_WITH w_Operator_GREATER_THAN w_Operator_CONTAINING w_Operator_IS_NULL w_Operator_BETWEEN w_Operator_FALSE w_Operator_IS_NOT_NULL w_Operator_NOT_EQUALS w_Operator_NOT_LIKE w_Operator_NOT_CONTAINING w_Operator_GREATER_THAN_OR_EQUAL w_Operator_ENDING_WITH w_Operator_LESS_THAN_OR_EQUAL w_Operator_TRUE w_Operator_LIKE) (p0 : Int32) (ha0 : ((p0 &&& (2147483647 : Int32)) % (19 : Int32)) = (7 : Int32)) :
    Con l Z x code maxLocals ret room_1 #[(.int p0)] Z.heap (fun v h' L => v = some (.int 1) ∧ Fr Z.heap.size L) := by
  have hw := B.1
  obtain ⟨S_w_Operator_EQUALS, E_w_Operator_EQUALS, S_w_Operator_IN, E_w_Operator_IN, S_w_Operator_NOT_IN, E_w_Operator_NOT_IN, S_w_Operator_LESS_THAN, E_w_Operator_LESS_THAN, S_w_Operator_STARTING_WITH, E_w_Operator_STARTING_WITH, S_w_Operator_GREATER_THAN, E_w_Operator_GREATER_THAN, S_w_Operator_CONTAINING, E_w_Operator_CONTAINING, S_w_Operator_IS_NULL, E_w_Operator_IS_NULL, S_w_Operator_BETWEEN, E_w_Operator_BETWEEN, S_w_Operator_FALSE, E_w_Operator_FALSE, S_w_Operator_IS_NOT_NULL, E_w_Operator_IS_NOT_NULL, S_w_Operator_NOT_EQUALS, E_w_Operator_NOT_EQUALS, S_w_Operator_NOT_LIKE, E_w_Operator_NOT_LIKE, S_w_Operator_NOT_CONTAINING, E_w_Operator_NOT_CONTAINING, S_w_Operator_GREATER_THAN_OR_EQUAL, E_w_Operator_GREATER_THAN_OR_EQUAL, S_w_Operator_ENDING_WITH, E_w_Operator_ENDING_WITH, S_w_Operator_LESS_THAN_OR_EQUAL, E_w_Operator_LESS_THAN_OR_EQUAL, S_w_Operator_TRUE, E_w_Operator_TRUE, S_w_Operator_LIKE, E_w_Operator_LIKE, F_w_Operator_EQUALS_ordinal, F_w_Operator_IN_ordinal, F_w_Operator_NOT_IN_ordinal, F_w_Operator_LESS_THAN_ordinal, F_w_Operator_STARTING_WITH_ordinal, F_w_Operator_GREATER_THAN_ordinal, F_w_Operator_CONTAINING_ordinal, F_w_Operator_IS_NULL_ordinal, F_w_Operator_BETWEEN_ordinal, F_w_Operator_IN_arguments, F_w_Operator_FALSE_ordinal, F_w_Operator_IS_NOT_NULL_ordinal, F_w_Operator_NOT_EQUALS_ordinal, F_w_Operator_NOT_LIKE_ordinal, F_w_Operator_NOT_CONTAINING_ordinal, F_w_Operator_GREATER_THAN_OR_EQUAL_ordinal, F_w_Operator_ENDING_WITH_ordinal, F_w_Operator_LESS_THAN_OR_EQUAL_ordinal, F_w_Operator_TRUE_ordinal, F_w_Operator_NOT_IN_arguments, F_w_Operator_LIKE_ordinal, F_w_Operator_EQUALS_arguments, F_w_Operator_LESS_THAN_arguments, F_w_Operator_STARTING_WITH_arguments, F_w_Operator_GREATER_THAN_arguments, F_w_Operator_CONTAINING_arguments, F_w_Operator_IS_NULL_arguments, F_w_Operator_BETWEEN_arguments, F_w_Operator_FALSE_arguments, F_w_Operator_IS_NOT_NULL_arguments, F_w_Operator_NOT_EQUALS_arguments, F_w_Operator_NOT_LIKE_arguments, F_w_Operator_NOT_CONTAINING_arguments, F_w_Operator_GREATER_THAN_OR_EQUAL_arguments, F_w_Operator_ENDING_WITH_arguments, F_w_Operator_LESS_THAN_OR_EQUAL_arguments, F_w_Operator_TRUE_arguments, F_w_Operator_LIKE_arguments⟩ := B.2
  refine Con.of (plainFor_of_name pn0) (Ls := #[vI p0, .unset, .unset, .unset, .unset]) (fun _ => rfl) ?_
  intro p e s m below meth c T0 X0 H hml hZ hown hnm hret hlk e0
  refine gIloadN X0 H at_0 rfl 1 rfl ?_
  refine gLdc X0 H hZ hown (hw _ wd0) at_1 3 rfl ?_
  refine g_iand X0 H at_3 (z := (p0 &&& (2147483647 : Int32))) rfl 4 rfl ?_
  refine gBipush X0 H at_4 (z := 19) rfl 6 rfl ?_
  refine g_irem X0 H at_6 (by decide) (z := 7) ha0 7 rfl ?_
  refine gIstoreN X0 H at_7 (Ls' := #[vI p0, vI 7, .unset, .unset, .unset]) rfl 8 rfl ?_
  refine gIloadN X0 H at_8 rfl 9 rfl ?_
  refine gStatic X0 H hZ hown (hw _ wd1) (hw _ wd2) (by decide) (hw _ wd4) (hw _ wd3) (rm51_1 B) e0 hml rfl pd0 rfl (W := 0) (argsL := [(.int 7)]) (rest := []) rfl rfl at_9 12 rfl ?_
  intro v52 T52 L52 hq52 X52
  obtain ⟨rfl, e52, rfl⟩ := hq52
  show Go _ _ _ _ (State.setTop _ (mkF _ 12 _ [(.ref w_Operator_IS_NULL)]))
  refine gAstoreN X52 H at_12 rfl (Ls' := #[vI p0, vI 7, vR w_Operator_IS_NULL, .unset, .unset]) rfl 13 rfl ?_
  refine gAloadN X52 H at_13 rfl rfl 14 rfl ?_
  refine gVirt X52 H hZ hown (hw _ wd8) (hw _ wd9) (hw _ wd11) (hw _ wd10) (by decide) E_w_Operator_IS_NULL (hw _ wd12) (hw _ wd6) (rm55_2 B) e52 hml rfl pd1 rfl (W := 0) (argsL := []) (rest := []) rfl rfl at_14 17 rfl ?_
  intro v56 T56 L56 hq56 X56
  obtain ⟨rfl, e56, rfl⟩ := hq56
  show Go _ _ _ _ (State.setTop _ (mkF _ 17 _ [(.int 0)]))
  refine gIstoreN X56 H at_17 (Ls' := #[vI p0, vI 7, vR w_Operator_IS_NULL, vI 0, .unset]) rfl 18 rfl ?_
  refine gIloadN X56 H at_18 rfl 19 rfl ?_
  refine gBipush X56 H at_19 (z := 11) rfl 21 rfl ?_
  refine gCmpN X56 H at_21 (by decide) 24 rfl ?_
  refine gIloadN X56 H at_24 rfl 25 rfl ?_
  refine gBipush X56 H at_25 (z := 12) rfl 27 rfl ?_
  refine gCmpY X56 H at_27 (by decide) (by decide) 34 rfl ?_
  refine gIconst X56 H at_34 (z := 0) rfl 35 rfl ?_
  refine gIstore X56 H at_35 (Ls' := #[vI p0, vI 7, vR w_Operator_IS_NULL, vI 0, vI 0]) rfl 37 rfl ?_
  refine gIloadN X56 H at_37 rfl 38 rfl ?_
  refine gIload X56 H at_38 rfl 40 rfl ?_
  refine gCmpY X56 H at_40 (by decide) (by decide) 45 rfl ?_
  refine gIloadN X56 H at_45 rfl 46 rfl ?_
  refine gIfY X56 H at_46 (by decide) (by decide) 70 rfl ?_
  refine gIconst X56 H at_70 (z := 1) rfl 71 rfl ?_
  exact gRetN X56 H hlk hret (t := .boolean) (by simp) at_71 e56 ⟨rfl, Fr.nil _⟩
theorem rm58_1 (B : Bg Z a0 w_Operator_EQUALS w_Operator_IN w_Operator_NOT_IN w_Operator_LESS_THAN w_Operator_STARTING_WITH w_Operator_GREATER_THAN w_Operator_CONTAINING w_Operator_IS_NULL w_Operator_BETWEEN w_Operator_FALSE w_Operator_IS_NOT_NULL w_Operator_NOT_EQUALS w_Operator_NOT_LIKE w_Operator_NOT_CONTAINING w_Operator_GREATER_THAN_OR_EQUAL w_Operator_ENDING_WITH w_Operator_LESS_THAN_OR_EQUAL w_Operator_TRUE w_Operator_LIKE) :
    Con l Z (⟨"com/example/unfussy_repo/unfussyrepo/query/OperatorTakesCollectionPinLaw", "pick", "(I)Lcom/example/unfussy_repo/unfussyrepo/query/Operator;"⟩ : MethodName) method_2_code 1 (some (.object "com/example/unfussy_repo/unfussyrepo/query/Operator")) ({ frames := 0, cells := 0, slots := 0, locals := 0 } : Room) #[(.int 8)] Z.heap (fun v h' L => v = some (.ref w_Operator_IS_NOT_NULL) ∧ h' = Z.heap ∧ L = []) := by
  have hw := B.1
  obtain ⟨S_w_Operator_EQUALS, E_w_Operator_EQUALS, S_w_Operator_IN, E_w_Operator_IN, S_w_Operator_NOT_IN, E_w_Operator_NOT_IN, S_w_Operator_LESS_THAN, E_w_Operator_LESS_THAN, S_w_Operator_STARTING_WITH, E_w_Operator_STARTING_WITH, S_w_Operator_GREATER_THAN, E_w_Operator_GREATER_THAN, S_w_Operator_CONTAINING, E_w_Operator_CONTAINING, S_w_Operator_IS_NULL, E_w_Operator_IS_NULL, S_w_Operator_BETWEEN, E_w_Operator_BETWEEN, S_w_Operator_FALSE, E_w_Operator_FALSE, S_w_Operator_IS_NOT_NULL, E_w_Operator_IS_NOT_NULL, S_w_Operator_NOT_EQUALS, E_w_Operator_NOT_EQUALS, S_w_Operator_NOT_LIKE, E_w_Operator_NOT_LIKE, S_w_Operator_NOT_CONTAINING, E_w_Operator_NOT_CONTAINING, S_w_Operator_GREATER_THAN_OR_EQUAL, E_w_Operator_GREATER_THAN_OR_EQUAL, S_w_Operator_ENDING_WITH, E_w_Operator_ENDING_WITH, S_w_Operator_LESS_THAN_OR_EQUAL, E_w_Operator_LESS_THAN_OR_EQUAL, S_w_Operator_TRUE, E_w_Operator_TRUE, S_w_Operator_LIKE, E_w_Operator_LIKE, F_w_Operator_EQUALS_ordinal, F_w_Operator_IN_ordinal, F_w_Operator_NOT_IN_ordinal, F_w_Operator_LESS_THAN_ordinal, F_w_Operator_STARTING_WITH_ordinal, F_w_Operator_GREATER_THAN_ordinal, F_w_Operator_CONTAINING_ordinal, F_w_Operator_IS_NULL_ordinal, F_w_Operator_BETWEEN_ordinal, F_w_Operator_IN_arguments, F_w_Operator_FALSE_ordinal, F_w_Operator_IS_NOT_NULL_ordinal, F_w_Operator_NOT_EQUALS_ordinal, F_w_Operator_NOT_LIKE_ordinal, F_w_Operator_NOT_CONTAINING_ordinal, F_w_Operator_GREATER_THAN_OR_EQUAL_ordinal, F_w_Operator_ENDING_WITH_ordinal, F_w_Operator_LESS_THAN_OR_EQUAL_ordinal, F_w_Operator_TRUE_ordinal, F_w_Operator_NOT_IN_arguments, F_w_Operator_LIKE_ordinal, F_w_Operator_EQUALS_arguments, F_w_Operator_LESS_THAN_arguments, F_w_Operator_STARTING_WITH_arguments, F_w_Operator_GREATER_THAN_arguments, F_w_Operator_CONTAINING_arguments, F_w_Operator_IS_NULL_arguments, F_w_Operator_BETWEEN_arguments, F_w_Operator_FALSE_arguments, F_w_Operator_IS_NOT_NULL_arguments, F_w_Operator_NOT_EQUALS_arguments, F_w_Operator_NOT_LIKE_arguments, F_w_Operator_NOT_CONTAINING_arguments, F_w_Operator_GREATER_THAN_OR_EQUAL_arguments, F_w_Operator_ENDING_WITH_arguments, F_w_Operator_LESS_THAN_OR_EQUAL_arguments, F_w_Operator_TRUE_arguments, F_w_Operator_LIKE_arguments⟩ := B.2
  refine Con.of (plainFor_of_name pn1) (Ls := #[vI 8]) (fun _ => rfl) ?_
  intro p e s m below meth c T0 X0 H hml hZ hown hnm hret hlk e0
  refine gIloadN X0 H d1_0 rfl 1 rfl ?_
  refine gIfY X0 H d1_1 (by decide) (by decide) 8 rfl ?_
  refine gIloadN X0 H d1_8 rfl 9 rfl ?_
  refine gIconst X0 H d1_9 (z := 1) rfl 10 rfl ?_
  refine gCmpY X0 H d1_10 (by decide) (by decide) 17 rfl ?_
  refine gIloadN X0 H d1_17 rfl 18 rfl ?_
  refine gIconst X0 H d1_18 (z := 2) rfl 19 rfl ?_
  refine gCmpY X0 H d1_19 (by decide) (by decide) 26 rfl ?_
  refine gIloadN X0 H d1_26 rfl 27 rfl ?_
  refine gIconst X0 H d1_27 (z := 3) rfl 28 rfl ?_
  refine gCmpY X0 H d1_28 (by decide) (by decide) 35 rfl ?_
  refine gIloadN X0 H d1_35 rfl 36 rfl ?_
  refine gIconst X0 H d1_36 (z := 4) rfl 37 rfl ?_
  refine gCmpY X0 H d1_37 (by decide) (by decide) 44 rfl ?_
  refine gIloadN X0 H d1_44 rfl 45 rfl ?_
  refine gIconst X0 H d1_45 (z := 5) rfl 46 rfl ?_
  refine gCmpY X0 H d1_46 (by decide) (by decide) 53 rfl ?_
  refine gIloadN X0 H d1_53 rfl 54 rfl ?_
  refine gBipush X0 H d1_54 (z := 6) rfl 56 rfl ?_
  refine gCmpY X0 H d1_56 (by decide) (by decide) 63 rfl ?_
  refine gIloadN X0 H d1_63 rfl 64 rfl ?_
  refine gBipush X0 H d1_64 (z := 7) rfl 66 rfl ?_
  refine gCmpY X0 H d1_66 (by decide) (by decide) 73 rfl ?_
  refine gIloadN X0 H d1_73 rfl 74 rfl ?_
  refine gBipush X0 H d1_74 (z := 8) rfl 76 rfl ?_
  refine gCmpN X0 H d1_76 (by decide) 79 rfl ?_
  refine gGetS X0 H hZ hown (hw _ wd53) e0 S_w_Operator_IS_NOT_NULL d1_79 82 rfl ?_
  intro T57 X57 e57
  exact gRetA X57 H hlk hret rfl rfl rfl d1_82 e57 ⟨rfl, rfl, rfl⟩
theorem rm62_2 (B : Bg Z a0 w_Operator_EQUALS w_Operator_IN w_Operator_NOT_IN w_Operator_LESS_THAN w_Operator_STARTING_WITH w_Operator_GREATER_THAN w_Operator_CONTAINING w_Operator_IS_NULL w_Operator_BETWEEN w_Operator_FALSE w_Operator_IS_NOT_NULL w_Operator_NOT_EQUALS w_Operator_NOT_LIKE w_Operator_NOT_CONTAINING w_Operator_GREATER_THAN_OR_EQUAL w_Operator_ENDING_WITH w_Operator_LESS_THAN_OR_EQUAL w_Operator_TRUE w_Operator_LIKE) :
    Con l Z (⟨"com/example/unfussy_repo/unfussyrepo/query/Operator", "takesCollection", "()Z"⟩ : MethodName) prog_53_method_5_code 1 (some .boolean) ({ frames := 0, cells := 0, slots := 0, locals := 0 } : Room) #[(.ref w_Operator_IS_NOT_NULL)] Z.heap (fun v h' L => v = some (.int 0) ∧ h' = Z.heap ∧ L = []) := by
  have hw := B.1
  obtain ⟨S_w_Operator_EQUALS, E_w_Operator_EQUALS, S_w_Operator_IN, E_w_Operator_IN, S_w_Operator_NOT_IN, E_w_Operator_NOT_IN, S_w_Operator_LESS_THAN, E_w_Operator_LESS_THAN, S_w_Operator_STARTING_WITH, E_w_Operator_STARTING_WITH, S_w_Operator_GREATER_THAN, E_w_Operator_GREATER_THAN, S_w_Operator_CONTAINING, E_w_Operator_CONTAINING, S_w_Operator_IS_NULL, E_w_Operator_IS_NULL, S_w_Operator_BETWEEN, E_w_Operator_BETWEEN, S_w_Operator_FALSE, E_w_Operator_FALSE, S_w_Operator_IS_NOT_NULL, E_w_Operator_IS_NOT_NULL, S_w_Operator_NOT_EQUALS, E_w_Operator_NOT_EQUALS, S_w_Operator_NOT_LIKE, E_w_Operator_NOT_LIKE, S_w_Operator_NOT_CONTAINING, E_w_Operator_NOT_CONTAINING, S_w_Operator_GREATER_THAN_OR_EQUAL, E_w_Operator_GREATER_THAN_OR_EQUAL, S_w_Operator_ENDING_WITH, E_w_Operator_ENDING_WITH, S_w_Operator_LESS_THAN_OR_EQUAL, E_w_Operator_LESS_THAN_OR_EQUAL, S_w_Operator_TRUE, E_w_Operator_TRUE, S_w_Operator_LIKE, E_w_Operator_LIKE, F_w_Operator_EQUALS_ordinal, F_w_Operator_IN_ordinal, F_w_Operator_NOT_IN_ordinal, F_w_Operator_LESS_THAN_ordinal, F_w_Operator_STARTING_WITH_ordinal, F_w_Operator_GREATER_THAN_ordinal, F_w_Operator_CONTAINING_ordinal, F_w_Operator_IS_NULL_ordinal, F_w_Operator_BETWEEN_ordinal, F_w_Operator_IN_arguments, F_w_Operator_FALSE_ordinal, F_w_Operator_IS_NOT_NULL_ordinal, F_w_Operator_NOT_EQUALS_ordinal, F_w_Operator_NOT_LIKE_ordinal, F_w_Operator_NOT_CONTAINING_ordinal, F_w_Operator_GREATER_THAN_OR_EQUAL_ordinal, F_w_Operator_ENDING_WITH_ordinal, F_w_Operator_LESS_THAN_OR_EQUAL_ordinal, F_w_Operator_TRUE_ordinal, F_w_Operator_NOT_IN_arguments, F_w_Operator_LIKE_ordinal, F_w_Operator_EQUALS_arguments, F_w_Operator_LESS_THAN_arguments, F_w_Operator_STARTING_WITH_arguments, F_w_Operator_GREATER_THAN_arguments, F_w_Operator_CONTAINING_arguments, F_w_Operator_IS_NULL_arguments, F_w_Operator_BETWEEN_arguments, F_w_Operator_FALSE_arguments, F_w_Operator_IS_NOT_NULL_arguments, F_w_Operator_NOT_EQUALS_arguments, F_w_Operator_NOT_LIKE_arguments, F_w_Operator_NOT_CONTAINING_arguments, F_w_Operator_GREATER_THAN_OR_EQUAL_arguments, F_w_Operator_ENDING_WITH_arguments, F_w_Operator_LESS_THAN_OR_EQUAL_arguments, F_w_Operator_TRUE_arguments, F_w_Operator_LIKE_arguments⟩ := B.2
  refine Con.of (plainFor_of_name pn2) (Ls := #[vR w_Operator_IS_NOT_NULL]) (fun _ => rfl) ?_
  intro p e s m below meth c T0 X0 H hml hZ hown hnm hret hlk e0
  refine gAloadN X0 H d2_0 rfl rfl 1 rfl ?_
  refine gGetS X0 H hZ hown (hw _ wd13) e0 S_w_Operator_IN d2_1 4 rfl ?_
  intro T60 X60 e60
  refine gAcmp X60 H d2_4 rfl rfl (same := false) (decide_eq_false fun q => (Fld.ne F_w_Operator_IS_NOT_NULL_ordinal F_w_Operator_IN_ordinal (by decide)) (Value.ref.inj q)) (by decide) 7 (by decide) ?_
  refine gAloadN X60 H d2_7 rfl rfl 8 rfl ?_
  refine gGetS X60 H hZ hown (hw _ wd15) e60 S_w_Operator_NOT_IN d2_8 11 rfl ?_
  intro T61 X61 e61
  refine gAcmp X61 H d2_11 rfl rfl (same := false) (decide_eq_false fun q => (Fld.ne F_w_Operator_IS_NOT_NULL_ordinal F_w_Operator_NOT_IN_ordinal (by decide)) (Value.ref.inj q)) (by decide) 18 (by decide) ?_
  refine gIconst X61 H d2_18 (z := 0) rfl 19 rfl ?_
  exact gRetN X61 H hlk hret (t := .boolean) (by simp) d2_19 e61 ⟨rfl, rfl, rfl⟩
theorem lawAll_8 (B : Bg Z a0 w_Operator_EQUALS w_Operator_IN w_Operator_NOT_IN w_Operator_LESS_THAN w_Operator_STARTING_WITH w_Operator_GREATER_THAN w_Operator_CONTAINING w_Operator_IS_NULL w_Operator_BETWEEN w_Operator_FALSE w_Operator_IS_NOT_NULL w_Operator_NOT_EQUALS w_Operator_NOT_LIKE w_Operator_NOT_CONTAINING w_Operator_GREATER_THAN_OR_EQUAL w_Operator_ENDING_WITH w_Operator_LESS_THAN_OR_EQUAL w_Operator_TRUE w_Operator_LIKE) (p0 : Int32) (ha0 : ((p0 &&& (2147483647 : Int32)) % (19 : Int32)) = (8 : Int32)) :
    Con l Z x code maxLocals ret room_1 #[(.int p0)] Z.heap (fun v h' L => v = some (.int 1) ∧ Fr Z.heap.size L) := by
  have hw := B.1
  obtain ⟨S_w_Operator_EQUALS, E_w_Operator_EQUALS, S_w_Operator_IN, E_w_Operator_IN, S_w_Operator_NOT_IN, E_w_Operator_NOT_IN, S_w_Operator_LESS_THAN, E_w_Operator_LESS_THAN, S_w_Operator_STARTING_WITH, E_w_Operator_STARTING_WITH, S_w_Operator_GREATER_THAN, E_w_Operator_GREATER_THAN, S_w_Operator_CONTAINING, E_w_Operator_CONTAINING, S_w_Operator_IS_NULL, E_w_Operator_IS_NULL, S_w_Operator_BETWEEN, E_w_Operator_BETWEEN, S_w_Operator_FALSE, E_w_Operator_FALSE, S_w_Operator_IS_NOT_NULL, E_w_Operator_IS_NOT_NULL, S_w_Operator_NOT_EQUALS, E_w_Operator_NOT_EQUALS, S_w_Operator_NOT_LIKE, E_w_Operator_NOT_LIKE, S_w_Operator_NOT_CONTAINING, E_w_Operator_NOT_CONTAINING, S_w_Operator_GREATER_THAN_OR_EQUAL, E_w_Operator_GREATER_THAN_OR_EQUAL, S_w_Operator_ENDING_WITH, E_w_Operator_ENDING_WITH, S_w_Operator_LESS_THAN_OR_EQUAL, E_w_Operator_LESS_THAN_OR_EQUAL, S_w_Operator_TRUE, E_w_Operator_TRUE, S_w_Operator_LIKE, E_w_Operator_LIKE, F_w_Operator_EQUALS_ordinal, F_w_Operator_IN_ordinal, F_w_Operator_NOT_IN_ordinal, F_w_Operator_LESS_THAN_ordinal, F_w_Operator_STARTING_WITH_ordinal, F_w_Operator_GREATER_THAN_ordinal, F_w_Operator_CONTAINING_ordinal, F_w_Operator_IS_NULL_ordinal, F_w_Operator_BETWEEN_ordinal, F_w_Operator_IN_arguments, F_w_Operator_FALSE_ordinal, F_w_Operator_IS_NOT_NULL_ordinal, F_w_Operator_NOT_EQUALS_ordinal, F_w_Operator_NOT_LIKE_ordinal, F_w_Operator_NOT_CONTAINING_ordinal, F_w_Operator_GREATER_THAN_OR_EQUAL_ordinal, F_w_Operator_ENDING_WITH_ordinal, F_w_Operator_LESS_THAN_OR_EQUAL_ordinal, F_w_Operator_TRUE_ordinal, F_w_Operator_NOT_IN_arguments, F_w_Operator_LIKE_ordinal, F_w_Operator_EQUALS_arguments, F_w_Operator_LESS_THAN_arguments, F_w_Operator_STARTING_WITH_arguments, F_w_Operator_GREATER_THAN_arguments, F_w_Operator_CONTAINING_arguments, F_w_Operator_IS_NULL_arguments, F_w_Operator_BETWEEN_arguments, F_w_Operator_FALSE_arguments, F_w_Operator_IS_NOT_NULL_arguments, F_w_Operator_NOT_EQUALS_arguments, F_w_Operator_NOT_LIKE_arguments, F_w_Operator_NOT_CONTAINING_arguments, F_w_Operator_GREATER_THAN_OR_EQUAL_arguments, F_w_Operator_ENDING_WITH_arguments, F_w_Operator_LESS_THAN_OR_EQUAL_arguments, F_w_Operator_TRUE_arguments, F_w_Operator_LIKE_arguments⟩ := B.2
  refine Con.of (plainFor_of_name pn0) (Ls := #[vI p0, .unset, .unset, .unset, .unset]) (fun _ => rfl) ?_
  intro p e s m below meth c T0 X0 H hml hZ hown hnm hret hlk e0
  refine gIloadN X0 H at_0 rfl 1 rfl ?_
  refine gLdc X0 H hZ hown (hw _ wd0) at_1 3 rfl ?_
  refine g_iand X0 H at_3 (z := (p0 &&& (2147483647 : Int32))) rfl 4 rfl ?_
  refine gBipush X0 H at_4 (z := 19) rfl 6 rfl ?_
  refine g_irem X0 H at_6 (by decide) (z := 8) ha0 7 rfl ?_
  refine gIstoreN X0 H at_7 (Ls' := #[vI p0, vI 8, .unset, .unset, .unset]) rfl 8 rfl ?_
  refine gIloadN X0 H at_8 rfl 9 rfl ?_
  refine gStatic X0 H hZ hown (hw _ wd1) (hw _ wd2) (by decide) (hw _ wd4) (hw _ wd3) (rm58_1 B) e0 hml rfl pd0 rfl (W := 0) (argsL := [(.int 8)]) (rest := []) rfl rfl at_9 12 rfl ?_
  intro v59 T59 L59 hq59 X59
  obtain ⟨rfl, e59, rfl⟩ := hq59
  show Go _ _ _ _ (State.setTop _ (mkF _ 12 _ [(.ref w_Operator_IS_NOT_NULL)]))
  refine gAstoreN X59 H at_12 rfl (Ls' := #[vI p0, vI 8, vR w_Operator_IS_NOT_NULL, .unset, .unset]) rfl 13 rfl ?_
  refine gAloadN X59 H at_13 rfl rfl 14 rfl ?_
  refine gVirt X59 H hZ hown (hw _ wd8) (hw _ wd9) (hw _ wd11) (hw _ wd10) (by decide) E_w_Operator_IS_NOT_NULL (hw _ wd12) (hw _ wd6) (rm62_2 B) e59 hml rfl pd1 rfl (W := 0) (argsL := []) (rest := []) rfl rfl at_14 17 rfl ?_
  intro v63 T63 L63 hq63 X63
  obtain ⟨rfl, e63, rfl⟩ := hq63
  show Go _ _ _ _ (State.setTop _ (mkF _ 17 _ [(.int 0)]))
  refine gIstoreN X63 H at_17 (Ls' := #[vI p0, vI 8, vR w_Operator_IS_NOT_NULL, vI 0, .unset]) rfl 18 rfl ?_
  refine gIloadN X63 H at_18 rfl 19 rfl ?_
  refine gBipush X63 H at_19 (z := 11) rfl 21 rfl ?_
  refine gCmpN X63 H at_21 (by decide) 24 rfl ?_
  refine gIloadN X63 H at_24 rfl 25 rfl ?_
  refine gBipush X63 H at_25 (z := 12) rfl 27 rfl ?_
  refine gCmpY X63 H at_27 (by decide) (by decide) 34 rfl ?_
  refine gIconst X63 H at_34 (z := 0) rfl 35 rfl ?_
  refine gIstore X63 H at_35 (Ls' := #[vI p0, vI 8, vR w_Operator_IS_NOT_NULL, vI 0, vI 0]) rfl 37 rfl ?_
  refine gIloadN X63 H at_37 rfl 38 rfl ?_
  refine gIload X63 H at_38 rfl 40 rfl ?_
  refine gCmpY X63 H at_40 (by decide) (by decide) 45 rfl ?_
  refine gIloadN X63 H at_45 rfl 46 rfl ?_
  refine gIfY X63 H at_46 (by decide) (by decide) 70 rfl ?_
  refine gIconst X63 H at_70 (z := 1) rfl 71 rfl ?_
  exact gRetN X63 H hlk hret (t := .boolean) (by simp) at_71 e63 ⟨rfl, Fr.nil _⟩
theorem rm65_1 (B : Bg Z a0 w_Operator_EQUALS w_Operator_IN w_Operator_NOT_IN w_Operator_LESS_THAN w_Operator_STARTING_WITH w_Operator_GREATER_THAN w_Operator_CONTAINING w_Operator_IS_NULL w_Operator_BETWEEN w_Operator_FALSE w_Operator_IS_NOT_NULL w_Operator_NOT_EQUALS w_Operator_NOT_LIKE w_Operator_NOT_CONTAINING w_Operator_GREATER_THAN_OR_EQUAL w_Operator_ENDING_WITH w_Operator_LESS_THAN_OR_EQUAL w_Operator_TRUE w_Operator_LIKE) :
    Con l Z (⟨"com/example/unfussy_repo/unfussyrepo/query/OperatorTakesCollectionPinLaw", "pick", "(I)Lcom/example/unfussy_repo/unfussyrepo/query/Operator;"⟩ : MethodName) method_2_code 1 (some (.object "com/example/unfussy_repo/unfussyrepo/query/Operator")) ({ frames := 0, cells := 0, slots := 0, locals := 0 } : Room) #[(.int 9)] Z.heap (fun v h' L => v = some (.ref w_Operator_TRUE) ∧ h' = Z.heap ∧ L = []) := by
  have hw := B.1
  obtain ⟨S_w_Operator_EQUALS, E_w_Operator_EQUALS, S_w_Operator_IN, E_w_Operator_IN, S_w_Operator_NOT_IN, E_w_Operator_NOT_IN, S_w_Operator_LESS_THAN, E_w_Operator_LESS_THAN, S_w_Operator_STARTING_WITH, E_w_Operator_STARTING_WITH, S_w_Operator_GREATER_THAN, E_w_Operator_GREATER_THAN, S_w_Operator_CONTAINING, E_w_Operator_CONTAINING, S_w_Operator_IS_NULL, E_w_Operator_IS_NULL, S_w_Operator_BETWEEN, E_w_Operator_BETWEEN, S_w_Operator_FALSE, E_w_Operator_FALSE, S_w_Operator_IS_NOT_NULL, E_w_Operator_IS_NOT_NULL, S_w_Operator_NOT_EQUALS, E_w_Operator_NOT_EQUALS, S_w_Operator_NOT_LIKE, E_w_Operator_NOT_LIKE, S_w_Operator_NOT_CONTAINING, E_w_Operator_NOT_CONTAINING, S_w_Operator_GREATER_THAN_OR_EQUAL, E_w_Operator_GREATER_THAN_OR_EQUAL, S_w_Operator_ENDING_WITH, E_w_Operator_ENDING_WITH, S_w_Operator_LESS_THAN_OR_EQUAL, E_w_Operator_LESS_THAN_OR_EQUAL, S_w_Operator_TRUE, E_w_Operator_TRUE, S_w_Operator_LIKE, E_w_Operator_LIKE, F_w_Operator_EQUALS_ordinal, F_w_Operator_IN_ordinal, F_w_Operator_NOT_IN_ordinal, F_w_Operator_LESS_THAN_ordinal, F_w_Operator_STARTING_WITH_ordinal, F_w_Operator_GREATER_THAN_ordinal, F_w_Operator_CONTAINING_ordinal, F_w_Operator_IS_NULL_ordinal, F_w_Operator_BETWEEN_ordinal, F_w_Operator_IN_arguments, F_w_Operator_FALSE_ordinal, F_w_Operator_IS_NOT_NULL_ordinal, F_w_Operator_NOT_EQUALS_ordinal, F_w_Operator_NOT_LIKE_ordinal, F_w_Operator_NOT_CONTAINING_ordinal, F_w_Operator_GREATER_THAN_OR_EQUAL_ordinal, F_w_Operator_ENDING_WITH_ordinal, F_w_Operator_LESS_THAN_OR_EQUAL_ordinal, F_w_Operator_TRUE_ordinal, F_w_Operator_NOT_IN_arguments, F_w_Operator_LIKE_ordinal, F_w_Operator_EQUALS_arguments, F_w_Operator_LESS_THAN_arguments, F_w_Operator_STARTING_WITH_arguments, F_w_Operator_GREATER_THAN_arguments, F_w_Operator_CONTAINING_arguments, F_w_Operator_IS_NULL_arguments, F_w_Operator_BETWEEN_arguments, F_w_Operator_FALSE_arguments, F_w_Operator_IS_NOT_NULL_arguments, F_w_Operator_NOT_EQUALS_arguments, F_w_Operator_NOT_LIKE_arguments, F_w_Operator_NOT_CONTAINING_arguments, F_w_Operator_GREATER_THAN_OR_EQUAL_arguments, F_w_Operator_ENDING_WITH_arguments, F_w_Operator_LESS_THAN_OR_EQUAL_arguments, F_w_Operator_TRUE_arguments, F_w_Operator_LIKE_arguments⟩ := B.2
  refine Con.of (plainFor_of_name pn1) (Ls := #[vI 9]) (fun _ => rfl) ?_
  intro p e s m below meth c T0 X0 H hml hZ hown hnm hret hlk e0
  refine gIloadN X0 H d1_0 rfl 1 rfl ?_
  refine gIfY X0 H d1_1 (by decide) (by decide) 8 rfl ?_
  refine gIloadN X0 H d1_8 rfl 9 rfl ?_
  refine gIconst X0 H d1_9 (z := 1) rfl 10 rfl ?_
  refine gCmpY X0 H d1_10 (by decide) (by decide) 17 rfl ?_
  refine gIloadN X0 H d1_17 rfl 18 rfl ?_
  refine gIconst X0 H d1_18 (z := 2) rfl 19 rfl ?_
  refine gCmpY X0 H d1_19 (by decide) (by decide) 26 rfl ?_
  refine gIloadN X0 H d1_26 rfl 27 rfl ?_
  refine gIconst X0 H d1_27 (z := 3) rfl 28 rfl ?_
  refine gCmpY X0 H d1_28 (by decide) (by decide) 35 rfl ?_
  refine gIloadN X0 H d1_35 rfl 36 rfl ?_
  refine gIconst X0 H d1_36 (z := 4) rfl 37 rfl ?_
  refine gCmpY X0 H d1_37 (by decide) (by decide) 44 rfl ?_
  refine gIloadN X0 H d1_44 rfl 45 rfl ?_
  refine gIconst X0 H d1_45 (z := 5) rfl 46 rfl ?_
  refine gCmpY X0 H d1_46 (by decide) (by decide) 53 rfl ?_
  refine gIloadN X0 H d1_53 rfl 54 rfl ?_
  refine gBipush X0 H d1_54 (z := 6) rfl 56 rfl ?_
  refine gCmpY X0 H d1_56 (by decide) (by decide) 63 rfl ?_
  refine gIloadN X0 H d1_63 rfl 64 rfl ?_
  refine gBipush X0 H d1_64 (z := 7) rfl 66 rfl ?_
  refine gCmpY X0 H d1_66 (by decide) (by decide) 73 rfl ?_
  refine gIloadN X0 H d1_73 rfl 74 rfl ?_
  refine gBipush X0 H d1_74 (z := 8) rfl 76 rfl ?_
  refine gCmpY X0 H d1_76 (by decide) (by decide) 83 rfl ?_
  refine gIloadN X0 H d1_83 rfl 84 rfl ?_
  refine gBipush X0 H d1_84 (z := 9) rfl 86 rfl ?_
  refine gCmpN X0 H d1_86 (by decide) 89 rfl ?_
  refine gGetS X0 H hZ hown (hw _ wd67) e0 S_w_Operator_TRUE d1_89 92 rfl ?_
  intro T64 X64 e64
  exact gRetA X64 H hlk hret rfl rfl rfl d1_92 e64 ⟨rfl, rfl, rfl⟩
theorem rm69_2 (B : Bg Z a0 w_Operator_EQUALS w_Operator_IN w_Operator_NOT_IN w_Operator_LESS_THAN w_Operator_STARTING_WITH w_Operator_GREATER_THAN w_Operator_CONTAINING w_Operator_IS_NULL w_Operator_BETWEEN w_Operator_FALSE w_Operator_IS_NOT_NULL w_Operator_NOT_EQUALS w_Operator_NOT_LIKE w_Operator_NOT_CONTAINING w_Operator_GREATER_THAN_OR_EQUAL w_Operator_ENDING_WITH w_Operator_LESS_THAN_OR_EQUAL w_Operator_TRUE w_Operator_LIKE) :
    Con l Z (⟨"com/example/unfussy_repo/unfussyrepo/query/Operator", "takesCollection", "()Z"⟩ : MethodName) prog_53_method_5_code 1 (some .boolean) ({ frames := 0, cells := 0, slots := 0, locals := 0 } : Room) #[(.ref w_Operator_TRUE)] Z.heap (fun v h' L => v = some (.int 0) ∧ h' = Z.heap ∧ L = []) := by
  have hw := B.1
  obtain ⟨S_w_Operator_EQUALS, E_w_Operator_EQUALS, S_w_Operator_IN, E_w_Operator_IN, S_w_Operator_NOT_IN, E_w_Operator_NOT_IN, S_w_Operator_LESS_THAN, E_w_Operator_LESS_THAN, S_w_Operator_STARTING_WITH, E_w_Operator_STARTING_WITH, S_w_Operator_GREATER_THAN, E_w_Operator_GREATER_THAN, S_w_Operator_CONTAINING, E_w_Operator_CONTAINING, S_w_Operator_IS_NULL, E_w_Operator_IS_NULL, S_w_Operator_BETWEEN, E_w_Operator_BETWEEN, S_w_Operator_FALSE, E_w_Operator_FALSE, S_w_Operator_IS_NOT_NULL, E_w_Operator_IS_NOT_NULL, S_w_Operator_NOT_EQUALS, E_w_Operator_NOT_EQUALS, S_w_Operator_NOT_LIKE, E_w_Operator_NOT_LIKE, S_w_Operator_NOT_CONTAINING, E_w_Operator_NOT_CONTAINING, S_w_Operator_GREATER_THAN_OR_EQUAL, E_w_Operator_GREATER_THAN_OR_EQUAL, S_w_Operator_ENDING_WITH, E_w_Operator_ENDING_WITH, S_w_Operator_LESS_THAN_OR_EQUAL, E_w_Operator_LESS_THAN_OR_EQUAL, S_w_Operator_TRUE, E_w_Operator_TRUE, S_w_Operator_LIKE, E_w_Operator_LIKE, F_w_Operator_EQUALS_ordinal, F_w_Operator_IN_ordinal, F_w_Operator_NOT_IN_ordinal, F_w_Operator_LESS_THAN_ordinal, F_w_Operator_STARTING_WITH_ordinal, F_w_Operator_GREATER_THAN_ordinal, F_w_Operator_CONTAINING_ordinal, F_w_Operator_IS_NULL_ordinal, F_w_Operator_BETWEEN_ordinal, F_w_Operator_IN_arguments, F_w_Operator_FALSE_ordinal, F_w_Operator_IS_NOT_NULL_ordinal, F_w_Operator_NOT_EQUALS_ordinal, F_w_Operator_NOT_LIKE_ordinal, F_w_Operator_NOT_CONTAINING_ordinal, F_w_Operator_GREATER_THAN_OR_EQUAL_ordinal, F_w_Operator_ENDING_WITH_ordinal, F_w_Operator_LESS_THAN_OR_EQUAL_ordinal, F_w_Operator_TRUE_ordinal, F_w_Operator_NOT_IN_arguments, F_w_Operator_LIKE_ordinal, F_w_Operator_EQUALS_arguments, F_w_Operator_LESS_THAN_arguments, F_w_Operator_STARTING_WITH_arguments, F_w_Operator_GREATER_THAN_arguments, F_w_Operator_CONTAINING_arguments, F_w_Operator_IS_NULL_arguments, F_w_Operator_BETWEEN_arguments, F_w_Operator_FALSE_arguments, F_w_Operator_IS_NOT_NULL_arguments, F_w_Operator_NOT_EQUALS_arguments, F_w_Operator_NOT_LIKE_arguments, F_w_Operator_NOT_CONTAINING_arguments, F_w_Operator_GREATER_THAN_OR_EQUAL_arguments, F_w_Operator_ENDING_WITH_arguments, F_w_Operator_LESS_THAN_OR_EQUAL_arguments, F_w_Operator_TRUE_arguments, F_w_Operator_LIKE_arguments⟩ := B.2
  refine Con.of (plainFor_of_name pn2) (Ls := #[vR w_Operator_TRUE]) (fun _ => rfl) ?_
  intro p e s m below meth c T0 X0 H hml hZ hown hnm hret hlk e0
  refine gAloadN X0 H d2_0 rfl rfl 1 rfl ?_
  refine gGetS X0 H hZ hown (hw _ wd13) e0 S_w_Operator_IN d2_1 4 rfl ?_
  intro T67 X67 e67
  refine gAcmp X67 H d2_4 rfl rfl (same := false) (decide_eq_false fun q => (Fld.ne F_w_Operator_TRUE_ordinal F_w_Operator_IN_ordinal (by decide)) (Value.ref.inj q)) (by decide) 7 (by decide) ?_
  refine gAloadN X67 H d2_7 rfl rfl 8 rfl ?_
  refine gGetS X67 H hZ hown (hw _ wd15) e67 S_w_Operator_NOT_IN d2_8 11 rfl ?_
  intro T68 X68 e68
  refine gAcmp X68 H d2_11 rfl rfl (same := false) (decide_eq_false fun q => (Fld.ne F_w_Operator_TRUE_ordinal F_w_Operator_NOT_IN_ordinal (by decide)) (Value.ref.inj q)) (by decide) 18 (by decide) ?_
  refine gIconst X68 H d2_18 (z := 0) rfl 19 rfl ?_
  exact gRetN X68 H hlk hret (t := .boolean) (by simp) d2_19 e68 ⟨rfl, rfl, rfl⟩
theorem lawAll_9 (B : Bg Z a0 w_Operator_EQUALS w_Operator_IN w_Operator_NOT_IN w_Operator_LESS_THAN w_Operator_STARTING_WITH w_Operator_GREATER_THAN w_Operator_CONTAINING w_Operator_IS_NULL w_Operator_BETWEEN w_Operator_FALSE w_Operator_IS_NOT_NULL w_Operator_NOT_EQUALS w_Operator_NOT_LIKE w_Operator_NOT_CONTAINING w_Operator_GREATER_THAN_OR_EQUAL w_Operator_ENDING_WITH w_Operator_LESS_THAN_OR_EQUAL w_Operator_TRUE w_Operator_LIKE) (p0 : Int32) (ha0 : ((p0 &&& (2147483647 : Int32)) % (19 : Int32)) = (9 : Int32)) :
    Con l Z x code maxLocals ret room_1 #[(.int p0)] Z.heap (fun v h' L => v = some (.int 1) ∧ Fr Z.heap.size L) := by
  have hw := B.1
  obtain ⟨S_w_Operator_EQUALS, E_w_Operator_EQUALS, S_w_Operator_IN, E_w_Operator_IN, S_w_Operator_NOT_IN, E_w_Operator_NOT_IN, S_w_Operator_LESS_THAN, E_w_Operator_LESS_THAN, S_w_Operator_STARTING_WITH, E_w_Operator_STARTING_WITH, S_w_Operator_GREATER_THAN, E_w_Operator_GREATER_THAN, S_w_Operator_CONTAINING, E_w_Operator_CONTAINING, S_w_Operator_IS_NULL, E_w_Operator_IS_NULL, S_w_Operator_BETWEEN, E_w_Operator_BETWEEN, S_w_Operator_FALSE, E_w_Operator_FALSE, S_w_Operator_IS_NOT_NULL, E_w_Operator_IS_NOT_NULL, S_w_Operator_NOT_EQUALS, E_w_Operator_NOT_EQUALS, S_w_Operator_NOT_LIKE, E_w_Operator_NOT_LIKE, S_w_Operator_NOT_CONTAINING, E_w_Operator_NOT_CONTAINING, S_w_Operator_GREATER_THAN_OR_EQUAL, E_w_Operator_GREATER_THAN_OR_EQUAL, S_w_Operator_ENDING_WITH, E_w_Operator_ENDING_WITH, S_w_Operator_LESS_THAN_OR_EQUAL, E_w_Operator_LESS_THAN_OR_EQUAL, S_w_Operator_TRUE, E_w_Operator_TRUE, S_w_Operator_LIKE, E_w_Operator_LIKE, F_w_Operator_EQUALS_ordinal, F_w_Operator_IN_ordinal, F_w_Operator_NOT_IN_ordinal, F_w_Operator_LESS_THAN_ordinal, F_w_Operator_STARTING_WITH_ordinal, F_w_Operator_GREATER_THAN_ordinal, F_w_Operator_CONTAINING_ordinal, F_w_Operator_IS_NULL_ordinal, F_w_Operator_BETWEEN_ordinal, F_w_Operator_IN_arguments, F_w_Operator_FALSE_ordinal, F_w_Operator_IS_NOT_NULL_ordinal, F_w_Operator_NOT_EQUALS_ordinal, F_w_Operator_NOT_LIKE_ordinal, F_w_Operator_NOT_CONTAINING_ordinal, F_w_Operator_GREATER_THAN_OR_EQUAL_ordinal, F_w_Operator_ENDING_WITH_ordinal, F_w_Operator_LESS_THAN_OR_EQUAL_ordinal, F_w_Operator_TRUE_ordinal, F_w_Operator_NOT_IN_arguments, F_w_Operator_LIKE_ordinal, F_w_Operator_EQUALS_arguments, F_w_Operator_LESS_THAN_arguments, F_w_Operator_STARTING_WITH_arguments, F_w_Operator_GREATER_THAN_arguments, F_w_Operator_CONTAINING_arguments, F_w_Operator_IS_NULL_arguments, F_w_Operator_BETWEEN_arguments, F_w_Operator_FALSE_arguments, F_w_Operator_IS_NOT_NULL_arguments, F_w_Operator_NOT_EQUALS_arguments, F_w_Operator_NOT_LIKE_arguments, F_w_Operator_NOT_CONTAINING_arguments, F_w_Operator_GREATER_THAN_OR_EQUAL_arguments, F_w_Operator_ENDING_WITH_arguments, F_w_Operator_LESS_THAN_OR_EQUAL_arguments, F_w_Operator_TRUE_arguments, F_w_Operator_LIKE_arguments⟩ := B.2
  refine Con.of (plainFor_of_name pn0) (Ls := #[vI p0, .unset, .unset, .unset, .unset]) (fun _ => rfl) ?_
  intro p e s m below meth c T0 X0 H hml hZ hown hnm hret hlk e0
  refine gIloadN X0 H at_0 rfl 1 rfl ?_
  refine gLdc X0 H hZ hown (hw _ wd0) at_1 3 rfl ?_
  refine g_iand X0 H at_3 (z := (p0 &&& (2147483647 : Int32))) rfl 4 rfl ?_
  refine gBipush X0 H at_4 (z := 19) rfl 6 rfl ?_
  refine g_irem X0 H at_6 (by decide) (z := 9) ha0 7 rfl ?_
  refine gIstoreN X0 H at_7 (Ls' := #[vI p0, vI 9, .unset, .unset, .unset]) rfl 8 rfl ?_
  refine gIloadN X0 H at_8 rfl 9 rfl ?_
  refine gStatic X0 H hZ hown (hw _ wd1) (hw _ wd2) (by decide) (hw _ wd4) (hw _ wd3) (rm65_1 B) e0 hml rfl pd0 rfl (W := 0) (argsL := [(.int 9)]) (rest := []) rfl rfl at_9 12 rfl ?_
  intro v66 T66 L66 hq66 X66
  obtain ⟨rfl, e66, rfl⟩ := hq66
  show Go _ _ _ _ (State.setTop _ (mkF _ 12 _ [(.ref w_Operator_TRUE)]))
  refine gAstoreN X66 H at_12 rfl (Ls' := #[vI p0, vI 9, vR w_Operator_TRUE, .unset, .unset]) rfl 13 rfl ?_
  refine gAloadN X66 H at_13 rfl rfl 14 rfl ?_
  refine gVirt X66 H hZ hown (hw _ wd8) (hw _ wd9) (hw _ wd11) (hw _ wd10) (by decide) E_w_Operator_TRUE (hw _ wd12) (hw _ wd6) (rm69_2 B) e66 hml rfl pd1 rfl (W := 0) (argsL := []) (rest := []) rfl rfl at_14 17 rfl ?_
  intro v70 T70 L70 hq70 X70
  obtain ⟨rfl, e70, rfl⟩ := hq70
  show Go _ _ _ _ (State.setTop _ (mkF _ 17 _ [(.int 0)]))
  refine gIstoreN X70 H at_17 (Ls' := #[vI p0, vI 9, vR w_Operator_TRUE, vI 0, .unset]) rfl 18 rfl ?_
  refine gIloadN X70 H at_18 rfl 19 rfl ?_
  refine gBipush X70 H at_19 (z := 11) rfl 21 rfl ?_
  refine gCmpN X70 H at_21 (by decide) 24 rfl ?_
  refine gIloadN X70 H at_24 rfl 25 rfl ?_
  refine gBipush X70 H at_25 (z := 12) rfl 27 rfl ?_
  refine gCmpY X70 H at_27 (by decide) (by decide) 34 rfl ?_
  refine gIconst X70 H at_34 (z := 0) rfl 35 rfl ?_
  refine gIstore X70 H at_35 (Ls' := #[vI p0, vI 9, vR w_Operator_TRUE, vI 0, vI 0]) rfl 37 rfl ?_
  refine gIloadN X70 H at_37 rfl 38 rfl ?_
  refine gIload X70 H at_38 rfl 40 rfl ?_
  refine gCmpY X70 H at_40 (by decide) (by decide) 45 rfl ?_
  refine gIloadN X70 H at_45 rfl 46 rfl ?_
  refine gIfY X70 H at_46 (by decide) (by decide) 70 rfl ?_
  refine gIconst X70 H at_70 (z := 1) rfl 71 rfl ?_
  exact gRetN X70 H hlk hret (t := .boolean) (by simp) at_71 e70 ⟨rfl, Fr.nil _⟩
theorem rm72_1 (B : Bg Z a0 w_Operator_EQUALS w_Operator_IN w_Operator_NOT_IN w_Operator_LESS_THAN w_Operator_STARTING_WITH w_Operator_GREATER_THAN w_Operator_CONTAINING w_Operator_IS_NULL w_Operator_BETWEEN w_Operator_FALSE w_Operator_IS_NOT_NULL w_Operator_NOT_EQUALS w_Operator_NOT_LIKE w_Operator_NOT_CONTAINING w_Operator_GREATER_THAN_OR_EQUAL w_Operator_ENDING_WITH w_Operator_LESS_THAN_OR_EQUAL w_Operator_TRUE w_Operator_LIKE) :
    Con l Z (⟨"com/example/unfussy_repo/unfussyrepo/query/OperatorTakesCollectionPinLaw", "pick", "(I)Lcom/example/unfussy_repo/unfussyrepo/query/Operator;"⟩ : MethodName) method_2_code 1 (some (.object "com/example/unfussy_repo/unfussyrepo/query/Operator")) ({ frames := 0, cells := 0, slots := 0, locals := 0 } : Room) #[(.int 10)] Z.heap (fun v h' L => v = some (.ref w_Operator_FALSE) ∧ h' = Z.heap ∧ L = []) := by
  have hw := B.1
  obtain ⟨S_w_Operator_EQUALS, E_w_Operator_EQUALS, S_w_Operator_IN, E_w_Operator_IN, S_w_Operator_NOT_IN, E_w_Operator_NOT_IN, S_w_Operator_LESS_THAN, E_w_Operator_LESS_THAN, S_w_Operator_STARTING_WITH, E_w_Operator_STARTING_WITH, S_w_Operator_GREATER_THAN, E_w_Operator_GREATER_THAN, S_w_Operator_CONTAINING, E_w_Operator_CONTAINING, S_w_Operator_IS_NULL, E_w_Operator_IS_NULL, S_w_Operator_BETWEEN, E_w_Operator_BETWEEN, S_w_Operator_FALSE, E_w_Operator_FALSE, S_w_Operator_IS_NOT_NULL, E_w_Operator_IS_NOT_NULL, S_w_Operator_NOT_EQUALS, E_w_Operator_NOT_EQUALS, S_w_Operator_NOT_LIKE, E_w_Operator_NOT_LIKE, S_w_Operator_NOT_CONTAINING, E_w_Operator_NOT_CONTAINING, S_w_Operator_GREATER_THAN_OR_EQUAL, E_w_Operator_GREATER_THAN_OR_EQUAL, S_w_Operator_ENDING_WITH, E_w_Operator_ENDING_WITH, S_w_Operator_LESS_THAN_OR_EQUAL, E_w_Operator_LESS_THAN_OR_EQUAL, S_w_Operator_TRUE, E_w_Operator_TRUE, S_w_Operator_LIKE, E_w_Operator_LIKE, F_w_Operator_EQUALS_ordinal, F_w_Operator_IN_ordinal, F_w_Operator_NOT_IN_ordinal, F_w_Operator_LESS_THAN_ordinal, F_w_Operator_STARTING_WITH_ordinal, F_w_Operator_GREATER_THAN_ordinal, F_w_Operator_CONTAINING_ordinal, F_w_Operator_IS_NULL_ordinal, F_w_Operator_BETWEEN_ordinal, F_w_Operator_IN_arguments, F_w_Operator_FALSE_ordinal, F_w_Operator_IS_NOT_NULL_ordinal, F_w_Operator_NOT_EQUALS_ordinal, F_w_Operator_NOT_LIKE_ordinal, F_w_Operator_NOT_CONTAINING_ordinal, F_w_Operator_GREATER_THAN_OR_EQUAL_ordinal, F_w_Operator_ENDING_WITH_ordinal, F_w_Operator_LESS_THAN_OR_EQUAL_ordinal, F_w_Operator_TRUE_ordinal, F_w_Operator_NOT_IN_arguments, F_w_Operator_LIKE_ordinal, F_w_Operator_EQUALS_arguments, F_w_Operator_LESS_THAN_arguments, F_w_Operator_STARTING_WITH_arguments, F_w_Operator_GREATER_THAN_arguments, F_w_Operator_CONTAINING_arguments, F_w_Operator_IS_NULL_arguments, F_w_Operator_BETWEEN_arguments, F_w_Operator_FALSE_arguments, F_w_Operator_IS_NOT_NULL_arguments, F_w_Operator_NOT_EQUALS_arguments, F_w_Operator_NOT_LIKE_arguments, F_w_Operator_NOT_CONTAINING_arguments, F_w_Operator_GREATER_THAN_OR_EQUAL_arguments, F_w_Operator_ENDING_WITH_arguments, F_w_Operator_LESS_THAN_OR_EQUAL_arguments, F_w_Operator_TRUE_arguments, F_w_Operator_LIKE_arguments⟩ := B.2
  refine Con.of (plainFor_of_name pn1) (Ls := #[vI 10]) (fun _ => rfl) ?_
  intro p e s m below meth c T0 X0 H hml hZ hown hnm hret hlk e0
  refine gIloadN X0 H d1_0 rfl 1 rfl ?_
  refine gIfY X0 H d1_1 (by decide) (by decide) 8 rfl ?_
  refine gIloadN X0 H d1_8 rfl 9 rfl ?_
  refine gIconst X0 H d1_9 (z := 1) rfl 10 rfl ?_
  refine gCmpY X0 H d1_10 (by decide) (by decide) 17 rfl ?_
  refine gIloadN X0 H d1_17 rfl 18 rfl ?_
  refine gIconst X0 H d1_18 (z := 2) rfl 19 rfl ?_
  refine gCmpY X0 H d1_19 (by decide) (by decide) 26 rfl ?_
  refine gIloadN X0 H d1_26 rfl 27 rfl ?_
  refine gIconst X0 H d1_27 (z := 3) rfl 28 rfl ?_
  refine gCmpY X0 H d1_28 (by decide) (by decide) 35 rfl ?_
  refine gIloadN X0 H d1_35 rfl 36 rfl ?_
  refine gIconst X0 H d1_36 (z := 4) rfl 37 rfl ?_
  refine gCmpY X0 H d1_37 (by decide) (by decide) 44 rfl ?_
  refine gIloadN X0 H d1_44 rfl 45 rfl ?_
  refine gIconst X0 H d1_45 (z := 5) rfl 46 rfl ?_
  refine gCmpY X0 H d1_46 (by decide) (by decide) 53 rfl ?_
  refine gIloadN X0 H d1_53 rfl 54 rfl ?_
  refine gBipush X0 H d1_54 (z := 6) rfl 56 rfl ?_
  refine gCmpY X0 H d1_56 (by decide) (by decide) 63 rfl ?_
  refine gIloadN X0 H d1_63 rfl 64 rfl ?_
  refine gBipush X0 H d1_64 (z := 7) rfl 66 rfl ?_
  refine gCmpY X0 H d1_66 (by decide) (by decide) 73 rfl ?_
  refine gIloadN X0 H d1_73 rfl 74 rfl ?_
  refine gBipush X0 H d1_74 (z := 8) rfl 76 rfl ?_
  refine gCmpY X0 H d1_76 (by decide) (by decide) 83 rfl ?_
  refine gIloadN X0 H d1_83 rfl 84 rfl ?_
  refine gBipush X0 H d1_84 (z := 9) rfl 86 rfl ?_
  refine gCmpY X0 H d1_86 (by decide) (by decide) 93 rfl ?_
  refine gIloadN X0 H d1_93 rfl 94 rfl ?_
  refine gBipush X0 H d1_94 (z := 10) rfl 96 rfl ?_
  refine gCmpN X0 H d1_96 (by decide) 99 rfl ?_
  refine gGetS X0 H hZ hown (hw _ wd51) e0 S_w_Operator_FALSE d1_99 102 rfl ?_
  intro T71 X71 e71
  exact gRetA X71 H hlk hret rfl rfl rfl d1_102 e71 ⟨rfl, rfl, rfl⟩
theorem rm76_2 (B : Bg Z a0 w_Operator_EQUALS w_Operator_IN w_Operator_NOT_IN w_Operator_LESS_THAN w_Operator_STARTING_WITH w_Operator_GREATER_THAN w_Operator_CONTAINING w_Operator_IS_NULL w_Operator_BETWEEN w_Operator_FALSE w_Operator_IS_NOT_NULL w_Operator_NOT_EQUALS w_Operator_NOT_LIKE w_Operator_NOT_CONTAINING w_Operator_GREATER_THAN_OR_EQUAL w_Operator_ENDING_WITH w_Operator_LESS_THAN_OR_EQUAL w_Operator_TRUE w_Operator_LIKE) :
    Con l Z (⟨"com/example/unfussy_repo/unfussyrepo/query/Operator", "takesCollection", "()Z"⟩ : MethodName) prog_53_method_5_code 1 (some .boolean) ({ frames := 0, cells := 0, slots := 0, locals := 0 } : Room) #[(.ref w_Operator_FALSE)] Z.heap (fun v h' L => v = some (.int 0) ∧ h' = Z.heap ∧ L = []) := by
  have hw := B.1
  obtain ⟨S_w_Operator_EQUALS, E_w_Operator_EQUALS, S_w_Operator_IN, E_w_Operator_IN, S_w_Operator_NOT_IN, E_w_Operator_NOT_IN, S_w_Operator_LESS_THAN, E_w_Operator_LESS_THAN, S_w_Operator_STARTING_WITH, E_w_Operator_STARTING_WITH, S_w_Operator_GREATER_THAN, E_w_Operator_GREATER_THAN, S_w_Operator_CONTAINING, E_w_Operator_CONTAINING, S_w_Operator_IS_NULL, E_w_Operator_IS_NULL, S_w_Operator_BETWEEN, E_w_Operator_BETWEEN, S_w_Operator_FALSE, E_w_Operator_FALSE, S_w_Operator_IS_NOT_NULL, E_w_Operator_IS_NOT_NULL, S_w_Operator_NOT_EQUALS, E_w_Operator_NOT_EQUALS, S_w_Operator_NOT_LIKE, E_w_Operator_NOT_LIKE, S_w_Operator_NOT_CONTAINING, E_w_Operator_NOT_CONTAINING, S_w_Operator_GREATER_THAN_OR_EQUAL, E_w_Operator_GREATER_THAN_OR_EQUAL, S_w_Operator_ENDING_WITH, E_w_Operator_ENDING_WITH, S_w_Operator_LESS_THAN_OR_EQUAL, E_w_Operator_LESS_THAN_OR_EQUAL, S_w_Operator_TRUE, E_w_Operator_TRUE, S_w_Operator_LIKE, E_w_Operator_LIKE, F_w_Operator_EQUALS_ordinal, F_w_Operator_IN_ordinal, F_w_Operator_NOT_IN_ordinal, F_w_Operator_LESS_THAN_ordinal, F_w_Operator_STARTING_WITH_ordinal, F_w_Operator_GREATER_THAN_ordinal, F_w_Operator_CONTAINING_ordinal, F_w_Operator_IS_NULL_ordinal, F_w_Operator_BETWEEN_ordinal, F_w_Operator_IN_arguments, F_w_Operator_FALSE_ordinal, F_w_Operator_IS_NOT_NULL_ordinal, F_w_Operator_NOT_EQUALS_ordinal, F_w_Operator_NOT_LIKE_ordinal, F_w_Operator_NOT_CONTAINING_ordinal, F_w_Operator_GREATER_THAN_OR_EQUAL_ordinal, F_w_Operator_ENDING_WITH_ordinal, F_w_Operator_LESS_THAN_OR_EQUAL_ordinal, F_w_Operator_TRUE_ordinal, F_w_Operator_NOT_IN_arguments, F_w_Operator_LIKE_ordinal, F_w_Operator_EQUALS_arguments, F_w_Operator_LESS_THAN_arguments, F_w_Operator_STARTING_WITH_arguments, F_w_Operator_GREATER_THAN_arguments, F_w_Operator_CONTAINING_arguments, F_w_Operator_IS_NULL_arguments, F_w_Operator_BETWEEN_arguments, F_w_Operator_FALSE_arguments, F_w_Operator_IS_NOT_NULL_arguments, F_w_Operator_NOT_EQUALS_arguments, F_w_Operator_NOT_LIKE_arguments, F_w_Operator_NOT_CONTAINING_arguments, F_w_Operator_GREATER_THAN_OR_EQUAL_arguments, F_w_Operator_ENDING_WITH_arguments, F_w_Operator_LESS_THAN_OR_EQUAL_arguments, F_w_Operator_TRUE_arguments, F_w_Operator_LIKE_arguments⟩ := B.2
  refine Con.of (plainFor_of_name pn2) (Ls := #[vR w_Operator_FALSE]) (fun _ => rfl) ?_
  intro p e s m below meth c T0 X0 H hml hZ hown hnm hret hlk e0
  refine gAloadN X0 H d2_0 rfl rfl 1 rfl ?_
  refine gGetS X0 H hZ hown (hw _ wd13) e0 S_w_Operator_IN d2_1 4 rfl ?_
  intro T74 X74 e74
  refine gAcmp X74 H d2_4 rfl rfl (same := false) (decide_eq_false fun q => (Fld.ne F_w_Operator_FALSE_ordinal F_w_Operator_IN_ordinal (by decide)) (Value.ref.inj q)) (by decide) 7 (by decide) ?_
  refine gAloadN X74 H d2_7 rfl rfl 8 rfl ?_
  refine gGetS X74 H hZ hown (hw _ wd15) e74 S_w_Operator_NOT_IN d2_8 11 rfl ?_
  intro T75 X75 e75
  refine gAcmp X75 H d2_11 rfl rfl (same := false) (decide_eq_false fun q => (Fld.ne F_w_Operator_FALSE_ordinal F_w_Operator_NOT_IN_ordinal (by decide)) (Value.ref.inj q)) (by decide) 18 (by decide) ?_
  refine gIconst X75 H d2_18 (z := 0) rfl 19 rfl ?_
  exact gRetN X75 H hlk hret (t := .boolean) (by simp) d2_19 e75 ⟨rfl, rfl, rfl⟩
theorem lawAll_10 (B : Bg Z a0 w_Operator_EQUALS w_Operator_IN w_Operator_NOT_IN w_Operator_LESS_THAN w_Operator_STARTING_WITH w_Operator_GREATER_THAN w_Operator_CONTAINING w_Operator_IS_NULL w_Operator_BETWEEN w_Operator_FALSE w_Operator_IS_NOT_NULL w_Operator_NOT_EQUALS w_Operator_NOT_LIKE w_Operator_NOT_CONTAINING w_Operator_GREATER_THAN_OR_EQUAL w_Operator_ENDING_WITH w_Operator_LESS_THAN_OR_EQUAL w_Operator_TRUE w_Operator_LIKE) (p0 : Int32) (ha0 : ((p0 &&& (2147483647 : Int32)) % (19 : Int32)) = (10 : Int32)) :
    Con l Z x code maxLocals ret room_1 #[(.int p0)] Z.heap (fun v h' L => v = some (.int 1) ∧ Fr Z.heap.size L) := by
  have hw := B.1
  obtain ⟨S_w_Operator_EQUALS, E_w_Operator_EQUALS, S_w_Operator_IN, E_w_Operator_IN, S_w_Operator_NOT_IN, E_w_Operator_NOT_IN, S_w_Operator_LESS_THAN, E_w_Operator_LESS_THAN, S_w_Operator_STARTING_WITH, E_w_Operator_STARTING_WITH, S_w_Operator_GREATER_THAN, E_w_Operator_GREATER_THAN, S_w_Operator_CONTAINING, E_w_Operator_CONTAINING, S_w_Operator_IS_NULL, E_w_Operator_IS_NULL, S_w_Operator_BETWEEN, E_w_Operator_BETWEEN, S_w_Operator_FALSE, E_w_Operator_FALSE, S_w_Operator_IS_NOT_NULL, E_w_Operator_IS_NOT_NULL, S_w_Operator_NOT_EQUALS, E_w_Operator_NOT_EQUALS, S_w_Operator_NOT_LIKE, E_w_Operator_NOT_LIKE, S_w_Operator_NOT_CONTAINING, E_w_Operator_NOT_CONTAINING, S_w_Operator_GREATER_THAN_OR_EQUAL, E_w_Operator_GREATER_THAN_OR_EQUAL, S_w_Operator_ENDING_WITH, E_w_Operator_ENDING_WITH, S_w_Operator_LESS_THAN_OR_EQUAL, E_w_Operator_LESS_THAN_OR_EQUAL, S_w_Operator_TRUE, E_w_Operator_TRUE, S_w_Operator_LIKE, E_w_Operator_LIKE, F_w_Operator_EQUALS_ordinal, F_w_Operator_IN_ordinal, F_w_Operator_NOT_IN_ordinal, F_w_Operator_LESS_THAN_ordinal, F_w_Operator_STARTING_WITH_ordinal, F_w_Operator_GREATER_THAN_ordinal, F_w_Operator_CONTAINING_ordinal, F_w_Operator_IS_NULL_ordinal, F_w_Operator_BETWEEN_ordinal, F_w_Operator_IN_arguments, F_w_Operator_FALSE_ordinal, F_w_Operator_IS_NOT_NULL_ordinal, F_w_Operator_NOT_EQUALS_ordinal, F_w_Operator_NOT_LIKE_ordinal, F_w_Operator_NOT_CONTAINING_ordinal, F_w_Operator_GREATER_THAN_OR_EQUAL_ordinal, F_w_Operator_ENDING_WITH_ordinal, F_w_Operator_LESS_THAN_OR_EQUAL_ordinal, F_w_Operator_TRUE_ordinal, F_w_Operator_NOT_IN_arguments, F_w_Operator_LIKE_ordinal, F_w_Operator_EQUALS_arguments, F_w_Operator_LESS_THAN_arguments, F_w_Operator_STARTING_WITH_arguments, F_w_Operator_GREATER_THAN_arguments, F_w_Operator_CONTAINING_arguments, F_w_Operator_IS_NULL_arguments, F_w_Operator_BETWEEN_arguments, F_w_Operator_FALSE_arguments, F_w_Operator_IS_NOT_NULL_arguments, F_w_Operator_NOT_EQUALS_arguments, F_w_Operator_NOT_LIKE_arguments, F_w_Operator_NOT_CONTAINING_arguments, F_w_Operator_GREATER_THAN_OR_EQUAL_arguments, F_w_Operator_ENDING_WITH_arguments, F_w_Operator_LESS_THAN_OR_EQUAL_arguments, F_w_Operator_TRUE_arguments, F_w_Operator_LIKE_arguments⟩ := B.2
  refine Con.of (plainFor_of_name pn0) (Ls := #[vI p0, .unset, .unset, .unset, .unset]) (fun _ => rfl) ?_
  intro p e s m below meth c T0 X0 H hml hZ hown hnm hret hlk e0
  refine gIloadN X0 H at_0 rfl 1 rfl ?_
  refine gLdc X0 H hZ hown (hw _ wd0) at_1 3 rfl ?_
  refine g_iand X0 H at_3 (z := (p0 &&& (2147483647 : Int32))) rfl 4 rfl ?_
  refine gBipush X0 H at_4 (z := 19) rfl 6 rfl ?_
  refine g_irem X0 H at_6 (by decide) (z := 10) ha0 7 rfl ?_
  refine gIstoreN X0 H at_7 (Ls' := #[vI p0, vI 10, .unset, .unset, .unset]) rfl 8 rfl ?_
  refine gIloadN X0 H at_8 rfl 9 rfl ?_
  refine gStatic X0 H hZ hown (hw _ wd1) (hw _ wd2) (by decide) (hw _ wd4) (hw _ wd3) (rm72_1 B) e0 hml rfl pd0 rfl (W := 0) (argsL := [(.int 10)]) (rest := []) rfl rfl at_9 12 rfl ?_
  intro v73 T73 L73 hq73 X73
  obtain ⟨rfl, e73, rfl⟩ := hq73
  show Go _ _ _ _ (State.setTop _ (mkF _ 12 _ [(.ref w_Operator_FALSE)]))
  refine gAstoreN X73 H at_12 rfl (Ls' := #[vI p0, vI 10, vR w_Operator_FALSE, .unset, .unset]) rfl 13 rfl ?_
  refine gAloadN X73 H at_13 rfl rfl 14 rfl ?_
  refine gVirt X73 H hZ hown (hw _ wd8) (hw _ wd9) (hw _ wd11) (hw _ wd10) (by decide) E_w_Operator_FALSE (hw _ wd12) (hw _ wd6) (rm76_2 B) e73 hml rfl pd1 rfl (W := 0) (argsL := []) (rest := []) rfl rfl at_14 17 rfl ?_
  intro v77 T77 L77 hq77 X77
  obtain ⟨rfl, e77, rfl⟩ := hq77
  show Go _ _ _ _ (State.setTop _ (mkF _ 17 _ [(.int 0)]))
  refine gIstoreN X77 H at_17 (Ls' := #[vI p0, vI 10, vR w_Operator_FALSE, vI 0, .unset]) rfl 18 rfl ?_
  refine gIloadN X77 H at_18 rfl 19 rfl ?_
  refine gBipush X77 H at_19 (z := 11) rfl 21 rfl ?_
  refine gCmpN X77 H at_21 (by decide) 24 rfl ?_
  refine gIloadN X77 H at_24 rfl 25 rfl ?_
  refine gBipush X77 H at_25 (z := 12) rfl 27 rfl ?_
  refine gCmpY X77 H at_27 (by decide) (by decide) 34 rfl ?_
  refine gIconst X77 H at_34 (z := 0) rfl 35 rfl ?_
  refine gIstore X77 H at_35 (Ls' := #[vI p0, vI 10, vR w_Operator_FALSE, vI 0, vI 0]) rfl 37 rfl ?_
  refine gIloadN X77 H at_37 rfl 38 rfl ?_
  refine gIload X77 H at_38 rfl 40 rfl ?_
  refine gCmpY X77 H at_40 (by decide) (by decide) 45 rfl ?_
  refine gIloadN X77 H at_45 rfl 46 rfl ?_
  refine gIfY X77 H at_46 (by decide) (by decide) 70 rfl ?_
  refine gIconst X77 H at_70 (z := 1) rfl 71 rfl ?_
  exact gRetN X77 H hlk hret (t := .boolean) (by simp) at_71 e77 ⟨rfl, Fr.nil _⟩
theorem rm79_1 (B : Bg Z a0 w_Operator_EQUALS w_Operator_IN w_Operator_NOT_IN w_Operator_LESS_THAN w_Operator_STARTING_WITH w_Operator_GREATER_THAN w_Operator_CONTAINING w_Operator_IS_NULL w_Operator_BETWEEN w_Operator_FALSE w_Operator_IS_NOT_NULL w_Operator_NOT_EQUALS w_Operator_NOT_LIKE w_Operator_NOT_CONTAINING w_Operator_GREATER_THAN_OR_EQUAL w_Operator_ENDING_WITH w_Operator_LESS_THAN_OR_EQUAL w_Operator_TRUE w_Operator_LIKE) :
    Con l Z (⟨"com/example/unfussy_repo/unfussyrepo/query/OperatorTakesCollectionPinLaw", "pick", "(I)Lcom/example/unfussy_repo/unfussyrepo/query/Operator;"⟩ : MethodName) method_2_code 1 (some (.object "com/example/unfussy_repo/unfussyrepo/query/Operator")) ({ frames := 0, cells := 0, slots := 0, locals := 0 } : Room) #[(.int 11)] Z.heap (fun v h' L => v = some (.ref w_Operator_IN) ∧ h' = Z.heap ∧ L = []) := by
  have hw := B.1
  obtain ⟨S_w_Operator_EQUALS, E_w_Operator_EQUALS, S_w_Operator_IN, E_w_Operator_IN, S_w_Operator_NOT_IN, E_w_Operator_NOT_IN, S_w_Operator_LESS_THAN, E_w_Operator_LESS_THAN, S_w_Operator_STARTING_WITH, E_w_Operator_STARTING_WITH, S_w_Operator_GREATER_THAN, E_w_Operator_GREATER_THAN, S_w_Operator_CONTAINING, E_w_Operator_CONTAINING, S_w_Operator_IS_NULL, E_w_Operator_IS_NULL, S_w_Operator_BETWEEN, E_w_Operator_BETWEEN, S_w_Operator_FALSE, E_w_Operator_FALSE, S_w_Operator_IS_NOT_NULL, E_w_Operator_IS_NOT_NULL, S_w_Operator_NOT_EQUALS, E_w_Operator_NOT_EQUALS, S_w_Operator_NOT_LIKE, E_w_Operator_NOT_LIKE, S_w_Operator_NOT_CONTAINING, E_w_Operator_NOT_CONTAINING, S_w_Operator_GREATER_THAN_OR_EQUAL, E_w_Operator_GREATER_THAN_OR_EQUAL, S_w_Operator_ENDING_WITH, E_w_Operator_ENDING_WITH, S_w_Operator_LESS_THAN_OR_EQUAL, E_w_Operator_LESS_THAN_OR_EQUAL, S_w_Operator_TRUE, E_w_Operator_TRUE, S_w_Operator_LIKE, E_w_Operator_LIKE, F_w_Operator_EQUALS_ordinal, F_w_Operator_IN_ordinal, F_w_Operator_NOT_IN_ordinal, F_w_Operator_LESS_THAN_ordinal, F_w_Operator_STARTING_WITH_ordinal, F_w_Operator_GREATER_THAN_ordinal, F_w_Operator_CONTAINING_ordinal, F_w_Operator_IS_NULL_ordinal, F_w_Operator_BETWEEN_ordinal, F_w_Operator_IN_arguments, F_w_Operator_FALSE_ordinal, F_w_Operator_IS_NOT_NULL_ordinal, F_w_Operator_NOT_EQUALS_ordinal, F_w_Operator_NOT_LIKE_ordinal, F_w_Operator_NOT_CONTAINING_ordinal, F_w_Operator_GREATER_THAN_OR_EQUAL_ordinal, F_w_Operator_ENDING_WITH_ordinal, F_w_Operator_LESS_THAN_OR_EQUAL_ordinal, F_w_Operator_TRUE_ordinal, F_w_Operator_NOT_IN_arguments, F_w_Operator_LIKE_ordinal, F_w_Operator_EQUALS_arguments, F_w_Operator_LESS_THAN_arguments, F_w_Operator_STARTING_WITH_arguments, F_w_Operator_GREATER_THAN_arguments, F_w_Operator_CONTAINING_arguments, F_w_Operator_IS_NULL_arguments, F_w_Operator_BETWEEN_arguments, F_w_Operator_FALSE_arguments, F_w_Operator_IS_NOT_NULL_arguments, F_w_Operator_NOT_EQUALS_arguments, F_w_Operator_NOT_LIKE_arguments, F_w_Operator_NOT_CONTAINING_arguments, F_w_Operator_GREATER_THAN_OR_EQUAL_arguments, F_w_Operator_ENDING_WITH_arguments, F_w_Operator_LESS_THAN_OR_EQUAL_arguments, F_w_Operator_TRUE_arguments, F_w_Operator_LIKE_arguments⟩ := B.2
  refine Con.of (plainFor_of_name pn1) (Ls := #[vI 11]) (fun _ => rfl) ?_
  intro p e s m below meth c T0 X0 H hml hZ hown hnm hret hlk e0
  refine gIloadN X0 H d1_0 rfl 1 rfl ?_
  refine gIfY X0 H d1_1 (by decide) (by decide) 8 rfl ?_
  refine gIloadN X0 H d1_8 rfl 9 rfl ?_
  refine gIconst X0 H d1_9 (z := 1) rfl 10 rfl ?_
  refine gCmpY X0 H d1_10 (by decide) (by decide) 17 rfl ?_
  refine gIloadN X0 H d1_17 rfl 18 rfl ?_
  refine gIconst X0 H d1_18 (z := 2) rfl 19 rfl ?_
  refine gCmpY X0 H d1_19 (by decide) (by decide) 26 rfl ?_
  refine gIloadN X0 H d1_26 rfl 27 rfl ?_
  refine gIconst X0 H d1_27 (z := 3) rfl 28 rfl ?_
  refine gCmpY X0 H d1_28 (by decide) (by decide) 35 rfl ?_
  refine gIloadN X0 H d1_35 rfl 36 rfl ?_
  refine gIconst X0 H d1_36 (z := 4) rfl 37 rfl ?_
  refine gCmpY X0 H d1_37 (by decide) (by decide) 44 rfl ?_
  refine gIloadN X0 H d1_44 rfl 45 rfl ?_
  refine gIconst X0 H d1_45 (z := 5) rfl 46 rfl ?_
  refine gCmpY X0 H d1_46 (by decide) (by decide) 53 rfl ?_
  refine gIloadN X0 H d1_53 rfl 54 rfl ?_
  refine gBipush X0 H d1_54 (z := 6) rfl 56 rfl ?_
  refine gCmpY X0 H d1_56 (by decide) (by decide) 63 rfl ?_
  refine gIloadN X0 H d1_63 rfl 64 rfl ?_
  refine gBipush X0 H d1_64 (z := 7) rfl 66 rfl ?_
  refine gCmpY X0 H d1_66 (by decide) (by decide) 73 rfl ?_
  refine gIloadN X0 H d1_73 rfl 74 rfl ?_
  refine gBipush X0 H d1_74 (z := 8) rfl 76 rfl ?_
  refine gCmpY X0 H d1_76 (by decide) (by decide) 83 rfl ?_
  refine gIloadN X0 H d1_83 rfl 84 rfl ?_
  refine gBipush X0 H d1_84 (z := 9) rfl 86 rfl ?_
  refine gCmpY X0 H d1_86 (by decide) (by decide) 93 rfl ?_
  refine gIloadN X0 H d1_93 rfl 94 rfl ?_
  refine gBipush X0 H d1_94 (z := 10) rfl 96 rfl ?_
  refine gCmpY X0 H d1_96 (by decide) (by decide) 103 rfl ?_
  refine gIloadN X0 H d1_103 rfl 104 rfl ?_
  refine gBipush X0 H d1_104 (z := 11) rfl 106 rfl ?_
  refine gCmpN X0 H d1_106 (by decide) 109 rfl ?_
  refine gGetS X0 H hZ hown (hw _ wd29) e0 S_w_Operator_IN d1_109 112 rfl ?_
  intro T78 X78 e78
  exact gRetA X78 H hlk hret rfl rfl rfl d1_112 e78 ⟨rfl, rfl, rfl⟩
theorem rm82_2 (B : Bg Z a0 w_Operator_EQUALS w_Operator_IN w_Operator_NOT_IN w_Operator_LESS_THAN w_Operator_STARTING_WITH w_Operator_GREATER_THAN w_Operator_CONTAINING w_Operator_IS_NULL w_Operator_BETWEEN w_Operator_FALSE w_Operator_IS_NOT_NULL w_Operator_NOT_EQUALS w_Operator_NOT_LIKE w_Operator_NOT_CONTAINING w_Operator_GREATER_THAN_OR_EQUAL w_Operator_ENDING_WITH w_Operator_LESS_THAN_OR_EQUAL w_Operator_TRUE w_Operator_LIKE) :
    Con l Z (⟨"com/example/unfussy_repo/unfussyrepo/query/Operator", "takesCollection", "()Z"⟩ : MethodName) prog_53_method_5_code 1 (some .boolean) ({ frames := 0, cells := 0, slots := 0, locals := 0 } : Room) #[(.ref w_Operator_IN)] Z.heap (fun v h' L => v = some (.int 1) ∧ h' = Z.heap ∧ L = []) := by
  have hw := B.1
  obtain ⟨S_w_Operator_EQUALS, E_w_Operator_EQUALS, S_w_Operator_IN, E_w_Operator_IN, S_w_Operator_NOT_IN, E_w_Operator_NOT_IN, S_w_Operator_LESS_THAN, E_w_Operator_LESS_THAN, S_w_Operator_STARTING_WITH, E_w_Operator_STARTING_WITH, S_w_Operator_GREATER_THAN, E_w_Operator_GREATER_THAN, S_w_Operator_CONTAINING, E_w_Operator_CONTAINING, S_w_Operator_IS_NULL, E_w_Operator_IS_NULL, S_w_Operator_BETWEEN, E_w_Operator_BETWEEN, S_w_Operator_FALSE, E_w_Operator_FALSE, S_w_Operator_IS_NOT_NULL, E_w_Operator_IS_NOT_NULL, S_w_Operator_NOT_EQUALS, E_w_Operator_NOT_EQUALS, S_w_Operator_NOT_LIKE, E_w_Operator_NOT_LIKE, S_w_Operator_NOT_CONTAINING, E_w_Operator_NOT_CONTAINING, S_w_Operator_GREATER_THAN_OR_EQUAL, E_w_Operator_GREATER_THAN_OR_EQUAL, S_w_Operator_ENDING_WITH, E_w_Operator_ENDING_WITH, S_w_Operator_LESS_THAN_OR_EQUAL, E_w_Operator_LESS_THAN_OR_EQUAL, S_w_Operator_TRUE, E_w_Operator_TRUE, S_w_Operator_LIKE, E_w_Operator_LIKE, F_w_Operator_EQUALS_ordinal, F_w_Operator_IN_ordinal, F_w_Operator_NOT_IN_ordinal, F_w_Operator_LESS_THAN_ordinal, F_w_Operator_STARTING_WITH_ordinal, F_w_Operator_GREATER_THAN_ordinal, F_w_Operator_CONTAINING_ordinal, F_w_Operator_IS_NULL_ordinal, F_w_Operator_BETWEEN_ordinal, F_w_Operator_IN_arguments, F_w_Operator_FALSE_ordinal, F_w_Operator_IS_NOT_NULL_ordinal, F_w_Operator_NOT_EQUALS_ordinal, F_w_Operator_NOT_LIKE_ordinal, F_w_Operator_NOT_CONTAINING_ordinal, F_w_Operator_GREATER_THAN_OR_EQUAL_ordinal, F_w_Operator_ENDING_WITH_ordinal, F_w_Operator_LESS_THAN_OR_EQUAL_ordinal, F_w_Operator_TRUE_ordinal, F_w_Operator_NOT_IN_arguments, F_w_Operator_LIKE_ordinal, F_w_Operator_EQUALS_arguments, F_w_Operator_LESS_THAN_arguments, F_w_Operator_STARTING_WITH_arguments, F_w_Operator_GREATER_THAN_arguments, F_w_Operator_CONTAINING_arguments, F_w_Operator_IS_NULL_arguments, F_w_Operator_BETWEEN_arguments, F_w_Operator_FALSE_arguments, F_w_Operator_IS_NOT_NULL_arguments, F_w_Operator_NOT_EQUALS_arguments, F_w_Operator_NOT_LIKE_arguments, F_w_Operator_NOT_CONTAINING_arguments, F_w_Operator_GREATER_THAN_OR_EQUAL_arguments, F_w_Operator_ENDING_WITH_arguments, F_w_Operator_LESS_THAN_OR_EQUAL_arguments, F_w_Operator_TRUE_arguments, F_w_Operator_LIKE_arguments⟩ := B.2
  refine Con.of (plainFor_of_name pn2) (Ls := #[vR w_Operator_IN]) (fun _ => rfl) ?_
  intro p e s m below meth c T0 X0 H hml hZ hown hnm hret hlk e0
  refine gAloadN X0 H d2_0 rfl rfl 1 rfl ?_
  refine gGetS X0 H hZ hown (hw _ wd13) e0 S_w_Operator_IN d2_1 4 rfl ?_
  intro T81 X81 e81
  refine gAcmp X81 H d2_4 rfl rfl (same := true) (decide_eq_true rfl) (by decide) 14 (by decide) ?_
  refine gIconst X81 H d2_14 (z := 1) rfl 15 rfl ?_
  refine gGoto X81 H d2_15 (by decide) 19 rfl ?_
  exact gRetN X81 H hlk hret (t := .boolean) (by simp) d2_19 e81 ⟨rfl, rfl, rfl⟩
theorem rm85_3 (B : Bg Z a0 w_Operator_EQUALS w_Operator_IN w_Operator_NOT_IN w_Operator_LESS_THAN w_Operator_STARTING_WITH w_Operator_GREATER_THAN w_Operator_CONTAINING w_Operator_IS_NULL w_Operator_BETWEEN w_Operator_FALSE w_Operator_IS_NOT_NULL w_Operator_NOT_EQUALS w_Operator_NOT_LIKE w_Operator_NOT_CONTAINING w_Operator_GREATER_THAN_OR_EQUAL w_Operator_ENDING_WITH w_Operator_LESS_THAN_OR_EQUAL w_Operator_TRUE w_Operator_LIKE) :
    Con l Z (⟨"com/example/unfussy_repo/unfussyrepo/query/Operator", "arguments", "()I"⟩ : MethodName) prog_53_method_4_code 1 (some .int) ({ frames := 0, cells := 0, slots := 0, locals := 0 } : Room) #[(.ref w_Operator_IN)] Z.heap (fun v h' L => v = some (.int 1) ∧ h' = Z.heap ∧ L = []) := by
  have hw := B.1
  obtain ⟨S_w_Operator_EQUALS, E_w_Operator_EQUALS, S_w_Operator_IN, E_w_Operator_IN, S_w_Operator_NOT_IN, E_w_Operator_NOT_IN, S_w_Operator_LESS_THAN, E_w_Operator_LESS_THAN, S_w_Operator_STARTING_WITH, E_w_Operator_STARTING_WITH, S_w_Operator_GREATER_THAN, E_w_Operator_GREATER_THAN, S_w_Operator_CONTAINING, E_w_Operator_CONTAINING, S_w_Operator_IS_NULL, E_w_Operator_IS_NULL, S_w_Operator_BETWEEN, E_w_Operator_BETWEEN, S_w_Operator_FALSE, E_w_Operator_FALSE, S_w_Operator_IS_NOT_NULL, E_w_Operator_IS_NOT_NULL, S_w_Operator_NOT_EQUALS, E_w_Operator_NOT_EQUALS, S_w_Operator_NOT_LIKE, E_w_Operator_NOT_LIKE, S_w_Operator_NOT_CONTAINING, E_w_Operator_NOT_CONTAINING, S_w_Operator_GREATER_THAN_OR_EQUAL, E_w_Operator_GREATER_THAN_OR_EQUAL, S_w_Operator_ENDING_WITH, E_w_Operator_ENDING_WITH, S_w_Operator_LESS_THAN_OR_EQUAL, E_w_Operator_LESS_THAN_OR_EQUAL, S_w_Operator_TRUE, E_w_Operator_TRUE, S_w_Operator_LIKE, E_w_Operator_LIKE, F_w_Operator_EQUALS_ordinal, F_w_Operator_IN_ordinal, F_w_Operator_NOT_IN_ordinal, F_w_Operator_LESS_THAN_ordinal, F_w_Operator_STARTING_WITH_ordinal, F_w_Operator_GREATER_THAN_ordinal, F_w_Operator_CONTAINING_ordinal, F_w_Operator_IS_NULL_ordinal, F_w_Operator_BETWEEN_ordinal, F_w_Operator_IN_arguments, F_w_Operator_FALSE_ordinal, F_w_Operator_IS_NOT_NULL_ordinal, F_w_Operator_NOT_EQUALS_ordinal, F_w_Operator_NOT_LIKE_ordinal, F_w_Operator_NOT_CONTAINING_ordinal, F_w_Operator_GREATER_THAN_OR_EQUAL_ordinal, F_w_Operator_ENDING_WITH_ordinal, F_w_Operator_LESS_THAN_OR_EQUAL_ordinal, F_w_Operator_TRUE_ordinal, F_w_Operator_NOT_IN_arguments, F_w_Operator_LIKE_ordinal, F_w_Operator_EQUALS_arguments, F_w_Operator_LESS_THAN_arguments, F_w_Operator_STARTING_WITH_arguments, F_w_Operator_GREATER_THAN_arguments, F_w_Operator_CONTAINING_arguments, F_w_Operator_IS_NULL_arguments, F_w_Operator_BETWEEN_arguments, F_w_Operator_FALSE_arguments, F_w_Operator_IS_NOT_NULL_arguments, F_w_Operator_NOT_EQUALS_arguments, F_w_Operator_NOT_LIKE_arguments, F_w_Operator_NOT_CONTAINING_arguments, F_w_Operator_GREATER_THAN_OR_EQUAL_arguments, F_w_Operator_ENDING_WITH_arguments, F_w_Operator_LESS_THAN_OR_EQUAL_arguments, F_w_Operator_TRUE_arguments, F_w_Operator_LIKE_arguments⟩ := B.2
  refine Con.of (plainFor_of_name pn3) (Ls := #[vR w_Operator_IN]) (fun _ => rfl) ?_
  intro p e s m below meth c T0 X0 H hml hZ hown hnm hret hlk e0
  refine gAloadN X0 H d3_0 rfl rfl 1 rfl ?_
  refine gGetF X0 H hZ hown (hw _ wd35) Via.refl e0 F_w_Operator_IN_arguments d3_1 4 rfl ?_
  intro T84 X84 e84
  exact gRetI X84 H hlk hret d3_4 e84 ⟨rfl, rfl, rfl⟩
theorem rm88_5 (B : Bg Z a0 w_Operator_EQUALS w_Operator_IN w_Operator_NOT_IN w_Operator_LESS_THAN w_Operator_STARTING_WITH w_Operator_GREATER_THAN w_Operator_CONTAINING w_Operator_IS_NULL w_Operator_BETWEEN w_Operator_FALSE w_Operator_IS_NOT_NULL w_Operator_NOT_EQUALS w_Operator_NOT_LIKE w_Operator_NOT_CONTAINING w_Operator_GREATER_THAN_OR_EQUAL w_Operator_ENDING_WITH w_Operator_LESS_THAN_OR_EQUAL w_Operator_TRUE w_Operator_LIKE) :
    Con l Z (⟨"java/lang/Enum", "ordinal", "()I"⟩ : MethodName) jdk_37_method_2_code 1 (some .int) ({ frames := 0, cells := 0, slots := 0, locals := 0 } : Room) #[(.ref w_Operator_IN)] Z.heap (fun v h' L => v = some (.int 11) ∧ h' = Z.heap ∧ L = []) := by
  have hw := B.1
  obtain ⟨S_w_Operator_EQUALS, E_w_Operator_EQUALS, S_w_Operator_IN, E_w_Operator_IN, S_w_Operator_NOT_IN, E_w_Operator_NOT_IN, S_w_Operator_LESS_THAN, E_w_Operator_LESS_THAN, S_w_Operator_STARTING_WITH, E_w_Operator_STARTING_WITH, S_w_Operator_GREATER_THAN, E_w_Operator_GREATER_THAN, S_w_Operator_CONTAINING, E_w_Operator_CONTAINING, S_w_Operator_IS_NULL, E_w_Operator_IS_NULL, S_w_Operator_BETWEEN, E_w_Operator_BETWEEN, S_w_Operator_FALSE, E_w_Operator_FALSE, S_w_Operator_IS_NOT_NULL, E_w_Operator_IS_NOT_NULL, S_w_Operator_NOT_EQUALS, E_w_Operator_NOT_EQUALS, S_w_Operator_NOT_LIKE, E_w_Operator_NOT_LIKE, S_w_Operator_NOT_CONTAINING, E_w_Operator_NOT_CONTAINING, S_w_Operator_GREATER_THAN_OR_EQUAL, E_w_Operator_GREATER_THAN_OR_EQUAL, S_w_Operator_ENDING_WITH, E_w_Operator_ENDING_WITH, S_w_Operator_LESS_THAN_OR_EQUAL, E_w_Operator_LESS_THAN_OR_EQUAL, S_w_Operator_TRUE, E_w_Operator_TRUE, S_w_Operator_LIKE, E_w_Operator_LIKE, F_w_Operator_EQUALS_ordinal, F_w_Operator_IN_ordinal, F_w_Operator_NOT_IN_ordinal, F_w_Operator_LESS_THAN_ordinal, F_w_Operator_STARTING_WITH_ordinal, F_w_Operator_GREATER_THAN_ordinal, F_w_Operator_CONTAINING_ordinal, F_w_Operator_IS_NULL_ordinal, F_w_Operator_BETWEEN_ordinal, F_w_Operator_IN_arguments, F_w_Operator_FALSE_ordinal, F_w_Operator_IS_NOT_NULL_ordinal, F_w_Operator_NOT_EQUALS_ordinal, F_w_Operator_NOT_LIKE_ordinal, F_w_Operator_NOT_CONTAINING_ordinal, F_w_Operator_GREATER_THAN_OR_EQUAL_ordinal, F_w_Operator_ENDING_WITH_ordinal, F_w_Operator_LESS_THAN_OR_EQUAL_ordinal, F_w_Operator_TRUE_ordinal, F_w_Operator_NOT_IN_arguments, F_w_Operator_LIKE_ordinal, F_w_Operator_EQUALS_arguments, F_w_Operator_LESS_THAN_arguments, F_w_Operator_STARTING_WITH_arguments, F_w_Operator_GREATER_THAN_arguments, F_w_Operator_CONTAINING_arguments, F_w_Operator_IS_NULL_arguments, F_w_Operator_BETWEEN_arguments, F_w_Operator_FALSE_arguments, F_w_Operator_IS_NOT_NULL_arguments, F_w_Operator_NOT_EQUALS_arguments, F_w_Operator_NOT_LIKE_arguments, F_w_Operator_NOT_CONTAINING_arguments, F_w_Operator_GREATER_THAN_OR_EQUAL_arguments, F_w_Operator_ENDING_WITH_arguments, F_w_Operator_LESS_THAN_OR_EQUAL_arguments, F_w_Operator_TRUE_arguments, F_w_Operator_LIKE_arguments⟩ := B.2
  refine Con.of (plainFor_of_name pn5) (Ls := #[vR w_Operator_IN]) (fun _ => rfl) ?_
  intro p e s m below meth c T0 X0 H hml hZ hown hnm hret hlk e0
  refine gAloadN X0 H d5_0 rfl rfl 1 rfl ?_
  refine gGetF X0 H hZ hown (hw _ wd49) Via.refl e0 F_w_Operator_IN_ordinal d5_1 4 rfl ?_
  intro T87 X87 e87
  exact gRetI X87 H hlk hret d5_4 e87 ⟨rfl, rfl, rfl⟩
theorem rm90_4 (B : Bg Z a0 w_Operator_EQUALS w_Operator_IN w_Operator_NOT_IN w_Operator_LESS_THAN w_Operator_STARTING_WITH w_Operator_GREATER_THAN w_Operator_CONTAINING w_Operator_IS_NULL w_Operator_BETWEEN w_Operator_FALSE w_Operator_IS_NOT_NULL w_Operator_NOT_EQUALS w_Operator_NOT_LIKE w_Operator_NOT_CONTAINING w_Operator_GREATER_THAN_OR_EQUAL w_Operator_ENDING_WITH w_Operator_LESS_THAN_OR_EQUAL w_Operator_TRUE w_Operator_LIKE) :
    Con l Z (⟨"com/example/unfussy_repo/unfussyrepo/query/Operator", "matchesText", "()Z"⟩ : MethodName) prog_53_method_6_code 1 (some .boolean) ({ frames := 1, cells := 0, slots := 0, locals := 12 } : Room) #[(.ref w_Operator_IN)] Z.heap (fun v h' L => v = some (.int 0) ∧ h' = Z.heap ∧ L = []) := by
  have hw := B.1
  obtain ⟨S_w_Operator_EQUALS, E_w_Operator_EQUALS, S_w_Operator_IN, E_w_Operator_IN, S_w_Operator_NOT_IN, E_w_Operator_NOT_IN, S_w_Operator_LESS_THAN, E_w_Operator_LESS_THAN, S_w_Operator_STARTING_WITH, E_w_Operator_STARTING_WITH, S_w_Operator_GREATER_THAN, E_w_Operator_GREATER_THAN, S_w_Operator_CONTAINING, E_w_Operator_CONTAINING, S_w_Operator_IS_NULL, E_w_Operator_IS_NULL, S_w_Operator_BETWEEN, E_w_Operator_BETWEEN, S_w_Operator_FALSE, E_w_Operator_FALSE, S_w_Operator_IS_NOT_NULL, E_w_Operator_IS_NOT_NULL, S_w_Operator_NOT_EQUALS, E_w_Operator_NOT_EQUALS, S_w_Operator_NOT_LIKE, E_w_Operator_NOT_LIKE, S_w_Operator_NOT_CONTAINING, E_w_Operator_NOT_CONTAINING, S_w_Operator_GREATER_THAN_OR_EQUAL, E_w_Operator_GREATER_THAN_OR_EQUAL, S_w_Operator_ENDING_WITH, E_w_Operator_ENDING_WITH, S_w_Operator_LESS_THAN_OR_EQUAL, E_w_Operator_LESS_THAN_OR_EQUAL, S_w_Operator_TRUE, E_w_Operator_TRUE, S_w_Operator_LIKE, E_w_Operator_LIKE, F_w_Operator_EQUALS_ordinal, F_w_Operator_IN_ordinal, F_w_Operator_NOT_IN_ordinal, F_w_Operator_LESS_THAN_ordinal, F_w_Operator_STARTING_WITH_ordinal, F_w_Operator_GREATER_THAN_ordinal, F_w_Operator_CONTAINING_ordinal, F_w_Operator_IS_NULL_ordinal, F_w_Operator_BETWEEN_ordinal, F_w_Operator_IN_arguments, F_w_Operator_FALSE_ordinal, F_w_Operator_IS_NOT_NULL_ordinal, F_w_Operator_NOT_EQUALS_ordinal, F_w_Operator_NOT_LIKE_ordinal, F_w_Operator_NOT_CONTAINING_ordinal, F_w_Operator_GREATER_THAN_OR_EQUAL_ordinal, F_w_Operator_ENDING_WITH_ordinal, F_w_Operator_LESS_THAN_OR_EQUAL_ordinal, F_w_Operator_TRUE_ordinal, F_w_Operator_NOT_IN_arguments, F_w_Operator_LIKE_ordinal, F_w_Operator_EQUALS_arguments, F_w_Operator_LESS_THAN_arguments, F_w_Operator_STARTING_WITH_arguments, F_w_Operator_GREATER_THAN_arguments, F_w_Operator_CONTAINING_arguments, F_w_Operator_IS_NULL_arguments, F_w_Operator_BETWEEN_arguments, F_w_Operator_FALSE_arguments, F_w_Operator_IS_NOT_NULL_arguments, F_w_Operator_NOT_EQUALS_arguments, F_w_Operator_NOT_LIKE_arguments, F_w_Operator_NOT_CONTAINING_arguments, F_w_Operator_GREATER_THAN_OR_EQUAL_arguments, F_w_Operator_ENDING_WITH_arguments, F_w_Operator_LESS_THAN_OR_EQUAL_arguments, F_w_Operator_TRUE_arguments, F_w_Operator_LIKE_arguments⟩ := B.2
  refine Con.of (plainFor_of_name pn4) (Ls := #[vR w_Operator_IN]) (fun _ => rfl) ?_
  intro p e s m below meth c T0 X0 H hml hZ hown hnm hret hlk e0
  refine gAloadN X0 H d4_0 rfl rfl 1 rfl ?_
  refine gVirtualUp X0 H hZ hown (hw _ wd42) (hw _ wd43) (hw _ wd44) (hw _ wd46) (hw _ wd45) (by decide) E_w_Operator_IN (hw _ wd48) (hw _ wd47) (rm88_5 B) e0 hml rfl pd2 rfl (W := 0) (argsL := []) (rest := []) rfl rfl d4_1 4 rfl ?_
  intro v89 T89 L89 hq89 X89
  obtain ⟨rfl, e89, rfl⟩ := hq89
  show Go _ _ _ _ (State.setTop _ (mkF _ 4 _ [(.int 11)]))
  refine gTswOut X89 H d4_4 (by decide) (by decide) 48 rfl ?_
  refine gIconst X89 H d4_48 (z := 0) rfl 49 rfl ?_
  exact gRetN X89 H hlk hret (t := .boolean) (by simp) d4_49 e89 ⟨rfl, rfl, rfl⟩
theorem lawAll_11 (B : Bg Z a0 w_Operator_EQUALS w_Operator_IN w_Operator_NOT_IN w_Operator_LESS_THAN w_Operator_STARTING_WITH w_Operator_GREATER_THAN w_Operator_CONTAINING w_Operator_IS_NULL w_Operator_BETWEEN w_Operator_FALSE w_Operator_IS_NOT_NULL w_Operator_NOT_EQUALS w_Operator_NOT_LIKE w_Operator_NOT_CONTAINING w_Operator_GREATER_THAN_OR_EQUAL w_Operator_ENDING_WITH w_Operator_LESS_THAN_OR_EQUAL w_Operator_TRUE w_Operator_LIKE) (p0 : Int32) (ha0 : ((p0 &&& (2147483647 : Int32)) % (19 : Int32)) = (11 : Int32)) :
    Con l Z x code maxLocals ret room_1 #[(.int p0)] Z.heap (fun v h' L => v = some (.int 1) ∧ Fr Z.heap.size L) := by
  have hw := B.1
  obtain ⟨S_w_Operator_EQUALS, E_w_Operator_EQUALS, S_w_Operator_IN, E_w_Operator_IN, S_w_Operator_NOT_IN, E_w_Operator_NOT_IN, S_w_Operator_LESS_THAN, E_w_Operator_LESS_THAN, S_w_Operator_STARTING_WITH, E_w_Operator_STARTING_WITH, S_w_Operator_GREATER_THAN, E_w_Operator_GREATER_THAN, S_w_Operator_CONTAINING, E_w_Operator_CONTAINING, S_w_Operator_IS_NULL, E_w_Operator_IS_NULL, S_w_Operator_BETWEEN, E_w_Operator_BETWEEN, S_w_Operator_FALSE, E_w_Operator_FALSE, S_w_Operator_IS_NOT_NULL, E_w_Operator_IS_NOT_NULL, S_w_Operator_NOT_EQUALS, E_w_Operator_NOT_EQUALS, S_w_Operator_NOT_LIKE, E_w_Operator_NOT_LIKE, S_w_Operator_NOT_CONTAINING, E_w_Operator_NOT_CONTAINING, S_w_Operator_GREATER_THAN_OR_EQUAL, E_w_Operator_GREATER_THAN_OR_EQUAL, S_w_Operator_ENDING_WITH, E_w_Operator_ENDING_WITH, S_w_Operator_LESS_THAN_OR_EQUAL, E_w_Operator_LESS_THAN_OR_EQUAL, S_w_Operator_TRUE, E_w_Operator_TRUE, S_w_Operator_LIKE, E_w_Operator_LIKE, F_w_Operator_EQUALS_ordinal, F_w_Operator_IN_ordinal, F_w_Operator_NOT_IN_ordinal, F_w_Operator_LESS_THAN_ordinal, F_w_Operator_STARTING_WITH_ordinal, F_w_Operator_GREATER_THAN_ordinal, F_w_Operator_CONTAINING_ordinal, F_w_Operator_IS_NULL_ordinal, F_w_Operator_BETWEEN_ordinal, F_w_Operator_IN_arguments, F_w_Operator_FALSE_ordinal, F_w_Operator_IS_NOT_NULL_ordinal, F_w_Operator_NOT_EQUALS_ordinal, F_w_Operator_NOT_LIKE_ordinal, F_w_Operator_NOT_CONTAINING_ordinal, F_w_Operator_GREATER_THAN_OR_EQUAL_ordinal, F_w_Operator_ENDING_WITH_ordinal, F_w_Operator_LESS_THAN_OR_EQUAL_ordinal, F_w_Operator_TRUE_ordinal, F_w_Operator_NOT_IN_arguments, F_w_Operator_LIKE_ordinal, F_w_Operator_EQUALS_arguments, F_w_Operator_LESS_THAN_arguments, F_w_Operator_STARTING_WITH_arguments, F_w_Operator_GREATER_THAN_arguments, F_w_Operator_CONTAINING_arguments, F_w_Operator_IS_NULL_arguments, F_w_Operator_BETWEEN_arguments, F_w_Operator_FALSE_arguments, F_w_Operator_IS_NOT_NULL_arguments, F_w_Operator_NOT_EQUALS_arguments, F_w_Operator_NOT_LIKE_arguments, F_w_Operator_NOT_CONTAINING_arguments, F_w_Operator_GREATER_THAN_OR_EQUAL_arguments, F_w_Operator_ENDING_WITH_arguments, F_w_Operator_LESS_THAN_OR_EQUAL_arguments, F_w_Operator_TRUE_arguments, F_w_Operator_LIKE_arguments⟩ := B.2
  refine Con.of (plainFor_of_name pn0) (Ls := #[vI p0, .unset, .unset, .unset, .unset]) (fun _ => rfl) ?_
  intro p e s m below meth c T0 X0 H hml hZ hown hnm hret hlk e0
  refine gIloadN X0 H at_0 rfl 1 rfl ?_
  refine gLdc X0 H hZ hown (hw _ wd0) at_1 3 rfl ?_
  refine g_iand X0 H at_3 (z := (p0 &&& (2147483647 : Int32))) rfl 4 rfl ?_
  refine gBipush X0 H at_4 (z := 19) rfl 6 rfl ?_
  refine g_irem X0 H at_6 (by decide) (z := 11) ha0 7 rfl ?_
  refine gIstoreN X0 H at_7 (Ls' := #[vI p0, vI 11, .unset, .unset, .unset]) rfl 8 rfl ?_
  refine gIloadN X0 H at_8 rfl 9 rfl ?_
  refine gStatic X0 H hZ hown (hw _ wd1) (hw _ wd2) (by decide) (hw _ wd4) (hw _ wd3) (rm79_1 B) e0 hml rfl pd0 rfl (W := 0) (argsL := [(.int 11)]) (rest := []) rfl rfl at_9 12 rfl ?_
  intro v80 T80 L80 hq80 X80
  obtain ⟨rfl, e80, rfl⟩ := hq80
  show Go _ _ _ _ (State.setTop _ (mkF _ 12 _ [(.ref w_Operator_IN)]))
  refine gAstoreN X80 H at_12 rfl (Ls' := #[vI p0, vI 11, vR w_Operator_IN, .unset, .unset]) rfl 13 rfl ?_
  refine gAloadN X80 H at_13 rfl rfl 14 rfl ?_
  refine gVirt X80 H hZ hown (hw _ wd8) (hw _ wd9) (hw _ wd11) (hw _ wd10) (by decide) E_w_Operator_IN (hw _ wd12) (hw _ wd6) (rm82_2 B) e80 hml rfl pd1 rfl (W := 0) (argsL := []) (rest := []) rfl rfl at_14 17 rfl ?_
  intro v83 T83 L83 hq83 X83
  obtain ⟨rfl, e83, rfl⟩ := hq83
  show Go _ _ _ _ (State.setTop _ (mkF _ 17 _ [(.int 1)]))
  refine gIstoreN X83 H at_17 (Ls' := #[vI p0, vI 11, vR w_Operator_IN, vI 1, .unset]) rfl 18 rfl ?_
  refine gIloadN X83 H at_18 rfl 19 rfl ?_
  refine gBipush X83 H at_19 (z := 11) rfl 21 rfl ?_
  refine gCmpY X83 H at_21 (by decide) (by decide) 30 rfl ?_
  refine gIconst X83 H at_30 (z := 1) rfl 31 rfl ?_
  refine gGoto X83 H at_31 (by decide) 35 rfl ?_
  refine gIstore X83 H at_35 (Ls' := #[vI p0, vI 11, vR w_Operator_IN, vI 1, vI 1]) rfl 37 rfl ?_
  refine gIloadN X83 H at_37 rfl 38 rfl ?_
  refine gIload X83 H at_38 rfl 40 rfl ?_
  refine gCmpY X83 H at_40 (by decide) (by decide) 45 rfl ?_
  refine gIloadN X83 H at_45 rfl 46 rfl ?_
  refine gIfN X83 H at_46 (by decide) 49 rfl ?_
  refine gAloadN X83 H at_49 rfl rfl 50 rfl ?_
  refine gVirt X83 H hZ hown (hw _ wd30) (hw _ wd31) (hw _ wd33) (hw _ wd32) (by decide) E_w_Operator_IN (hw _ wd34) (hw _ wd6) (rm85_3 B) e83 hml rfl pd2 rfl (W := 0) (argsL := []) (rest := []) rfl rfl at_50 53 rfl ?_
  intro v86 T86 L86 hq86 X86
  obtain ⟨rfl, e86, rfl⟩ := hq86
  show Go _ _ _ _ (State.setTop _ (mkF _ 53 _ [(.int 1)]))
  refine gIconst X86 H at_53 (z := 1) rfl 54 rfl ?_
  refine gCmpN X86 H at_54 (by decide) 57 rfl ?_
  refine gAloadN X86 H at_57 rfl rfl 58 rfl ?_
  refine gVirt X86 H hZ hown (hw _ wd37) (hw _ wd38) (hw _ wd40) (hw _ wd39) (by decide) E_w_Operator_IN (hw _ wd41) (hw _ wd6) (rm90_4 B) e86 hml rfl pd1 rfl (W := 0) (argsL := []) (rest := []) rfl rfl at_58 61 rfl ?_
  intro v91 T91 L91 hq91 X91
  obtain ⟨rfl, e91, rfl⟩ := hq91
  show Go _ _ _ _ (State.setTop _ (mkF _ 61 _ [(.int 0)]))
  refine gIfN X91 H at_61 (by decide) 64 rfl ?_
  refine gIconst X91 H at_64 (z := 1) rfl 65 rfl ?_
  refine gGoto X91 H at_65 (by decide) 69 rfl ?_
  exact gRetN X91 H hlk hret (t := .boolean) (by simp) at_69 e91 ⟨rfl, Fr.nil _⟩
theorem rm93_1 (B : Bg Z a0 w_Operator_EQUALS w_Operator_IN w_Operator_NOT_IN w_Operator_LESS_THAN w_Operator_STARTING_WITH w_Operator_GREATER_THAN w_Operator_CONTAINING w_Operator_IS_NULL w_Operator_BETWEEN w_Operator_FALSE w_Operator_IS_NOT_NULL w_Operator_NOT_EQUALS w_Operator_NOT_LIKE w_Operator_NOT_CONTAINING w_Operator_GREATER_THAN_OR_EQUAL w_Operator_ENDING_WITH w_Operator_LESS_THAN_OR_EQUAL w_Operator_TRUE w_Operator_LIKE) :
    Con l Z (⟨"com/example/unfussy_repo/unfussyrepo/query/OperatorTakesCollectionPinLaw", "pick", "(I)Lcom/example/unfussy_repo/unfussyrepo/query/Operator;"⟩ : MethodName) method_2_code 1 (some (.object "com/example/unfussy_repo/unfussyrepo/query/Operator")) ({ frames := 0, cells := 0, slots := 0, locals := 0 } : Room) #[(.int 12)] Z.heap (fun v h' L => v = some (.ref w_Operator_NOT_IN) ∧ h' = Z.heap ∧ L = []) := by
  have hw := B.1
  obtain ⟨S_w_Operator_EQUALS, E_w_Operator_EQUALS, S_w_Operator_IN, E_w_Operator_IN, S_w_Operator_NOT_IN, E_w_Operator_NOT_IN, S_w_Operator_LESS_THAN, E_w_Operator_LESS_THAN, S_w_Operator_STARTING_WITH, E_w_Operator_STARTING_WITH, S_w_Operator_GREATER_THAN, E_w_Operator_GREATER_THAN, S_w_Operator_CONTAINING, E_w_Operator_CONTAINING, S_w_Operator_IS_NULL, E_w_Operator_IS_NULL, S_w_Operator_BETWEEN, E_w_Operator_BETWEEN, S_w_Operator_FALSE, E_w_Operator_FALSE, S_w_Operator_IS_NOT_NULL, E_w_Operator_IS_NOT_NULL, S_w_Operator_NOT_EQUALS, E_w_Operator_NOT_EQUALS, S_w_Operator_NOT_LIKE, E_w_Operator_NOT_LIKE, S_w_Operator_NOT_CONTAINING, E_w_Operator_NOT_CONTAINING, S_w_Operator_GREATER_THAN_OR_EQUAL, E_w_Operator_GREATER_THAN_OR_EQUAL, S_w_Operator_ENDING_WITH, E_w_Operator_ENDING_WITH, S_w_Operator_LESS_THAN_OR_EQUAL, E_w_Operator_LESS_THAN_OR_EQUAL, S_w_Operator_TRUE, E_w_Operator_TRUE, S_w_Operator_LIKE, E_w_Operator_LIKE, F_w_Operator_EQUALS_ordinal, F_w_Operator_IN_ordinal, F_w_Operator_NOT_IN_ordinal, F_w_Operator_LESS_THAN_ordinal, F_w_Operator_STARTING_WITH_ordinal, F_w_Operator_GREATER_THAN_ordinal, F_w_Operator_CONTAINING_ordinal, F_w_Operator_IS_NULL_ordinal, F_w_Operator_BETWEEN_ordinal, F_w_Operator_IN_arguments, F_w_Operator_FALSE_ordinal, F_w_Operator_IS_NOT_NULL_ordinal, F_w_Operator_NOT_EQUALS_ordinal, F_w_Operator_NOT_LIKE_ordinal, F_w_Operator_NOT_CONTAINING_ordinal, F_w_Operator_GREATER_THAN_OR_EQUAL_ordinal, F_w_Operator_ENDING_WITH_ordinal, F_w_Operator_LESS_THAN_OR_EQUAL_ordinal, F_w_Operator_TRUE_ordinal, F_w_Operator_NOT_IN_arguments, F_w_Operator_LIKE_ordinal, F_w_Operator_EQUALS_arguments, F_w_Operator_LESS_THAN_arguments, F_w_Operator_STARTING_WITH_arguments, F_w_Operator_GREATER_THAN_arguments, F_w_Operator_CONTAINING_arguments, F_w_Operator_IS_NULL_arguments, F_w_Operator_BETWEEN_arguments, F_w_Operator_FALSE_arguments, F_w_Operator_IS_NOT_NULL_arguments, F_w_Operator_NOT_EQUALS_arguments, F_w_Operator_NOT_LIKE_arguments, F_w_Operator_NOT_CONTAINING_arguments, F_w_Operator_GREATER_THAN_OR_EQUAL_arguments, F_w_Operator_ENDING_WITH_arguments, F_w_Operator_LESS_THAN_OR_EQUAL_arguments, F_w_Operator_TRUE_arguments, F_w_Operator_LIKE_arguments⟩ := B.2
  refine Con.of (plainFor_of_name pn1) (Ls := #[vI 12]) (fun _ => rfl) ?_
  intro p e s m below meth c T0 X0 H hml hZ hown hnm hret hlk e0
  refine gIloadN X0 H d1_0 rfl 1 rfl ?_
  refine gIfY X0 H d1_1 (by decide) (by decide) 8 rfl ?_
  refine gIloadN X0 H d1_8 rfl 9 rfl ?_
  refine gIconst X0 H d1_9 (z := 1) rfl 10 rfl ?_
  refine gCmpY X0 H d1_10 (by decide) (by decide) 17 rfl ?_
  refine gIloadN X0 H d1_17 rfl 18 rfl ?_
  refine gIconst X0 H d1_18 (z := 2) rfl 19 rfl ?_
  refine gCmpY X0 H d1_19 (by decide) (by decide) 26 rfl ?_
  refine gIloadN X0 H d1_26 rfl 27 rfl ?_
  refine gIconst X0 H d1_27 (z := 3) rfl 28 rfl ?_
  refine gCmpY X0 H d1_28 (by decide) (by decide) 35 rfl ?_
  refine gIloadN X0 H d1_35 rfl 36 rfl ?_
  refine gIconst X0 H d1_36 (z := 4) rfl 37 rfl ?_
  refine gCmpY X0 H d1_37 (by decide) (by decide) 44 rfl ?_
  refine gIloadN X0 H d1_44 rfl 45 rfl ?_
  refine gIconst X0 H d1_45 (z := 5) rfl 46 rfl ?_
  refine gCmpY X0 H d1_46 (by decide) (by decide) 53 rfl ?_
  refine gIloadN X0 H d1_53 rfl 54 rfl ?_
  refine gBipush X0 H d1_54 (z := 6) rfl 56 rfl ?_
  refine gCmpY X0 H d1_56 (by decide) (by decide) 63 rfl ?_
  refine gIloadN X0 H d1_63 rfl 64 rfl ?_
  refine gBipush X0 H d1_64 (z := 7) rfl 66 rfl ?_
  refine gCmpY X0 H d1_66 (by decide) (by decide) 73 rfl ?_
  refine gIloadN X0 H d1_73 rfl 74 rfl ?_
  refine gBipush X0 H d1_74 (z := 8) rfl 76 rfl ?_
  refine gCmpY X0 H d1_76 (by decide) (by decide) 83 rfl ?_
  refine gIloadN X0 H d1_83 rfl 84 rfl ?_
  refine gBipush X0 H d1_84 (z := 9) rfl 86 rfl ?_
  refine gCmpY X0 H d1_86 (by decide) (by decide) 93 rfl ?_
  refine gIloadN X0 H d1_93 rfl 94 rfl ?_
  refine gBipush X0 H d1_94 (z := 10) rfl 96 rfl ?_
  refine gCmpY X0 H d1_96 (by decide) (by decide) 103 rfl ?_
  refine gIloadN X0 H d1_103 rfl 104 rfl ?_
  refine gBipush X0 H d1_104 (z := 11) rfl 106 rfl ?_
  refine gCmpY X0 H d1_106 (by decide) (by decide) 113 rfl ?_
  refine gIloadN X0 H d1_113 rfl 114 rfl ?_
  refine gBipush X0 H d1_114 (z := 12) rfl 116 rfl ?_
  refine gCmpN X0 H d1_116 (by decide) 119 rfl ?_
  refine gGetS X0 H hZ hown (hw _ wd69) e0 S_w_Operator_NOT_IN d1_119 122 rfl ?_
  intro T92 X92 e92
  exact gRetA X92 H hlk hret rfl rfl rfl d1_122 e92 ⟨rfl, rfl, rfl⟩
theorem rm97_2 (B : Bg Z a0 w_Operator_EQUALS w_Operator_IN w_Operator_NOT_IN w_Operator_LESS_THAN w_Operator_STARTING_WITH w_Operator_GREATER_THAN w_Operator_CONTAINING w_Operator_IS_NULL w_Operator_BETWEEN w_Operator_FALSE w_Operator_IS_NOT_NULL w_Operator_NOT_EQUALS w_Operator_NOT_LIKE w_Operator_NOT_CONTAINING w_Operator_GREATER_THAN_OR_EQUAL w_Operator_ENDING_WITH w_Operator_LESS_THAN_OR_EQUAL w_Operator_TRUE w_Operator_LIKE) :
    Con l Z (⟨"com/example/unfussy_repo/unfussyrepo/query/Operator", "takesCollection", "()Z"⟩ : MethodName) prog_53_method_5_code 1 (some .boolean) ({ frames := 0, cells := 0, slots := 0, locals := 0 } : Room) #[(.ref w_Operator_NOT_IN)] Z.heap (fun v h' L => v = some (.int 1) ∧ h' = Z.heap ∧ L = []) := by
  have hw := B.1
  obtain ⟨S_w_Operator_EQUALS, E_w_Operator_EQUALS, S_w_Operator_IN, E_w_Operator_IN, S_w_Operator_NOT_IN, E_w_Operator_NOT_IN, S_w_Operator_LESS_THAN, E_w_Operator_LESS_THAN, S_w_Operator_STARTING_WITH, E_w_Operator_STARTING_WITH, S_w_Operator_GREATER_THAN, E_w_Operator_GREATER_THAN, S_w_Operator_CONTAINING, E_w_Operator_CONTAINING, S_w_Operator_IS_NULL, E_w_Operator_IS_NULL, S_w_Operator_BETWEEN, E_w_Operator_BETWEEN, S_w_Operator_FALSE, E_w_Operator_FALSE, S_w_Operator_IS_NOT_NULL, E_w_Operator_IS_NOT_NULL, S_w_Operator_NOT_EQUALS, E_w_Operator_NOT_EQUALS, S_w_Operator_NOT_LIKE, E_w_Operator_NOT_LIKE, S_w_Operator_NOT_CONTAINING, E_w_Operator_NOT_CONTAINING, S_w_Operator_GREATER_THAN_OR_EQUAL, E_w_Operator_GREATER_THAN_OR_EQUAL, S_w_Operator_ENDING_WITH, E_w_Operator_ENDING_WITH, S_w_Operator_LESS_THAN_OR_EQUAL, E_w_Operator_LESS_THAN_OR_EQUAL, S_w_Operator_TRUE, E_w_Operator_TRUE, S_w_Operator_LIKE, E_w_Operator_LIKE, F_w_Operator_EQUALS_ordinal, F_w_Operator_IN_ordinal, F_w_Operator_NOT_IN_ordinal, F_w_Operator_LESS_THAN_ordinal, F_w_Operator_STARTING_WITH_ordinal, F_w_Operator_GREATER_THAN_ordinal, F_w_Operator_CONTAINING_ordinal, F_w_Operator_IS_NULL_ordinal, F_w_Operator_BETWEEN_ordinal, F_w_Operator_IN_arguments, F_w_Operator_FALSE_ordinal, F_w_Operator_IS_NOT_NULL_ordinal, F_w_Operator_NOT_EQUALS_ordinal, F_w_Operator_NOT_LIKE_ordinal, F_w_Operator_NOT_CONTAINING_ordinal, F_w_Operator_GREATER_THAN_OR_EQUAL_ordinal, F_w_Operator_ENDING_WITH_ordinal, F_w_Operator_LESS_THAN_OR_EQUAL_ordinal, F_w_Operator_TRUE_ordinal, F_w_Operator_NOT_IN_arguments, F_w_Operator_LIKE_ordinal, F_w_Operator_EQUALS_arguments, F_w_Operator_LESS_THAN_arguments, F_w_Operator_STARTING_WITH_arguments, F_w_Operator_GREATER_THAN_arguments, F_w_Operator_CONTAINING_arguments, F_w_Operator_IS_NULL_arguments, F_w_Operator_BETWEEN_arguments, F_w_Operator_FALSE_arguments, F_w_Operator_IS_NOT_NULL_arguments, F_w_Operator_NOT_EQUALS_arguments, F_w_Operator_NOT_LIKE_arguments, F_w_Operator_NOT_CONTAINING_arguments, F_w_Operator_GREATER_THAN_OR_EQUAL_arguments, F_w_Operator_ENDING_WITH_arguments, F_w_Operator_LESS_THAN_OR_EQUAL_arguments, F_w_Operator_TRUE_arguments, F_w_Operator_LIKE_arguments⟩ := B.2
  refine Con.of (plainFor_of_name pn2) (Ls := #[vR w_Operator_NOT_IN]) (fun _ => rfl) ?_
  intro p e s m below meth c T0 X0 H hml hZ hown hnm hret hlk e0
  refine gAloadN X0 H d2_0 rfl rfl 1 rfl ?_
  refine gGetS X0 H hZ hown (hw _ wd13) e0 S_w_Operator_IN d2_1 4 rfl ?_
  intro T95 X95 e95
  refine gAcmp X95 H d2_4 rfl rfl (same := false) (decide_eq_false fun q => (Fld.ne F_w_Operator_NOT_IN_ordinal F_w_Operator_IN_ordinal (by decide)) (Value.ref.inj q)) (by decide) 7 (by decide) ?_
  refine gAloadN X95 H d2_7 rfl rfl 8 rfl ?_
  refine gGetS X95 H hZ hown (hw _ wd15) e95 S_w_Operator_NOT_IN d2_8 11 rfl ?_
  intro T96 X96 e96
  refine gAcmp X96 H d2_11 rfl rfl (same := true) (decide_eq_true rfl) (by decide) 14 (by decide) ?_
  refine gIconst X96 H d2_14 (z := 1) rfl 15 rfl ?_
  refine gGoto X96 H d2_15 (by decide) 19 rfl ?_
  exact gRetN X96 H hlk hret (t := .boolean) (by simp) d2_19 e96 ⟨rfl, rfl, rfl⟩
theorem rm100_3 (B : Bg Z a0 w_Operator_EQUALS w_Operator_IN w_Operator_NOT_IN w_Operator_LESS_THAN w_Operator_STARTING_WITH w_Operator_GREATER_THAN w_Operator_CONTAINING w_Operator_IS_NULL w_Operator_BETWEEN w_Operator_FALSE w_Operator_IS_NOT_NULL w_Operator_NOT_EQUALS w_Operator_NOT_LIKE w_Operator_NOT_CONTAINING w_Operator_GREATER_THAN_OR_EQUAL w_Operator_ENDING_WITH w_Operator_LESS_THAN_OR_EQUAL w_Operator_TRUE w_Operator_LIKE) :
    Con l Z (⟨"com/example/unfussy_repo/unfussyrepo/query/Operator", "arguments", "()I"⟩ : MethodName) prog_53_method_4_code 1 (some .int) ({ frames := 0, cells := 0, slots := 0, locals := 0 } : Room) #[(.ref w_Operator_NOT_IN)] Z.heap (fun v h' L => v = some (.int 1) ∧ h' = Z.heap ∧ L = []) := by
  have hw := B.1
  obtain ⟨S_w_Operator_EQUALS, E_w_Operator_EQUALS, S_w_Operator_IN, E_w_Operator_IN, S_w_Operator_NOT_IN, E_w_Operator_NOT_IN, S_w_Operator_LESS_THAN, E_w_Operator_LESS_THAN, S_w_Operator_STARTING_WITH, E_w_Operator_STARTING_WITH, S_w_Operator_GREATER_THAN, E_w_Operator_GREATER_THAN, S_w_Operator_CONTAINING, E_w_Operator_CONTAINING, S_w_Operator_IS_NULL, E_w_Operator_IS_NULL, S_w_Operator_BETWEEN, E_w_Operator_BETWEEN, S_w_Operator_FALSE, E_w_Operator_FALSE, S_w_Operator_IS_NOT_NULL, E_w_Operator_IS_NOT_NULL, S_w_Operator_NOT_EQUALS, E_w_Operator_NOT_EQUALS, S_w_Operator_NOT_LIKE, E_w_Operator_NOT_LIKE, S_w_Operator_NOT_CONTAINING, E_w_Operator_NOT_CONTAINING, S_w_Operator_GREATER_THAN_OR_EQUAL, E_w_Operator_GREATER_THAN_OR_EQUAL, S_w_Operator_ENDING_WITH, E_w_Operator_ENDING_WITH, S_w_Operator_LESS_THAN_OR_EQUAL, E_w_Operator_LESS_THAN_OR_EQUAL, S_w_Operator_TRUE, E_w_Operator_TRUE, S_w_Operator_LIKE, E_w_Operator_LIKE, F_w_Operator_EQUALS_ordinal, F_w_Operator_IN_ordinal, F_w_Operator_NOT_IN_ordinal, F_w_Operator_LESS_THAN_ordinal, F_w_Operator_STARTING_WITH_ordinal, F_w_Operator_GREATER_THAN_ordinal, F_w_Operator_CONTAINING_ordinal, F_w_Operator_IS_NULL_ordinal, F_w_Operator_BETWEEN_ordinal, F_w_Operator_IN_arguments, F_w_Operator_FALSE_ordinal, F_w_Operator_IS_NOT_NULL_ordinal, F_w_Operator_NOT_EQUALS_ordinal, F_w_Operator_NOT_LIKE_ordinal, F_w_Operator_NOT_CONTAINING_ordinal, F_w_Operator_GREATER_THAN_OR_EQUAL_ordinal, F_w_Operator_ENDING_WITH_ordinal, F_w_Operator_LESS_THAN_OR_EQUAL_ordinal, F_w_Operator_TRUE_ordinal, F_w_Operator_NOT_IN_arguments, F_w_Operator_LIKE_ordinal, F_w_Operator_EQUALS_arguments, F_w_Operator_LESS_THAN_arguments, F_w_Operator_STARTING_WITH_arguments, F_w_Operator_GREATER_THAN_arguments, F_w_Operator_CONTAINING_arguments, F_w_Operator_IS_NULL_arguments, F_w_Operator_BETWEEN_arguments, F_w_Operator_FALSE_arguments, F_w_Operator_IS_NOT_NULL_arguments, F_w_Operator_NOT_EQUALS_arguments, F_w_Operator_NOT_LIKE_arguments, F_w_Operator_NOT_CONTAINING_arguments, F_w_Operator_GREATER_THAN_OR_EQUAL_arguments, F_w_Operator_ENDING_WITH_arguments, F_w_Operator_LESS_THAN_OR_EQUAL_arguments, F_w_Operator_TRUE_arguments, F_w_Operator_LIKE_arguments⟩ := B.2
  refine Con.of (plainFor_of_name pn3) (Ls := #[vR w_Operator_NOT_IN]) (fun _ => rfl) ?_
  intro p e s m below meth c T0 X0 H hml hZ hown hnm hret hlk e0
  refine gAloadN X0 H d3_0 rfl rfl 1 rfl ?_
  refine gGetF X0 H hZ hown (hw _ wd35) Via.refl e0 F_w_Operator_NOT_IN_arguments d3_1 4 rfl ?_
  intro T99 X99 e99
  exact gRetI X99 H hlk hret d3_4 e99 ⟨rfl, rfl, rfl⟩
theorem rm103_5 (B : Bg Z a0 w_Operator_EQUALS w_Operator_IN w_Operator_NOT_IN w_Operator_LESS_THAN w_Operator_STARTING_WITH w_Operator_GREATER_THAN w_Operator_CONTAINING w_Operator_IS_NULL w_Operator_BETWEEN w_Operator_FALSE w_Operator_IS_NOT_NULL w_Operator_NOT_EQUALS w_Operator_NOT_LIKE w_Operator_NOT_CONTAINING w_Operator_GREATER_THAN_OR_EQUAL w_Operator_ENDING_WITH w_Operator_LESS_THAN_OR_EQUAL w_Operator_TRUE w_Operator_LIKE) :
    Con l Z (⟨"java/lang/Enum", "ordinal", "()I"⟩ : MethodName) jdk_37_method_2_code 1 (some .int) ({ frames := 0, cells := 0, slots := 0, locals := 0 } : Room) #[(.ref w_Operator_NOT_IN)] Z.heap (fun v h' L => v = some (.int 12) ∧ h' = Z.heap ∧ L = []) := by
  have hw := B.1
  obtain ⟨S_w_Operator_EQUALS, E_w_Operator_EQUALS, S_w_Operator_IN, E_w_Operator_IN, S_w_Operator_NOT_IN, E_w_Operator_NOT_IN, S_w_Operator_LESS_THAN, E_w_Operator_LESS_THAN, S_w_Operator_STARTING_WITH, E_w_Operator_STARTING_WITH, S_w_Operator_GREATER_THAN, E_w_Operator_GREATER_THAN, S_w_Operator_CONTAINING, E_w_Operator_CONTAINING, S_w_Operator_IS_NULL, E_w_Operator_IS_NULL, S_w_Operator_BETWEEN, E_w_Operator_BETWEEN, S_w_Operator_FALSE, E_w_Operator_FALSE, S_w_Operator_IS_NOT_NULL, E_w_Operator_IS_NOT_NULL, S_w_Operator_NOT_EQUALS, E_w_Operator_NOT_EQUALS, S_w_Operator_NOT_LIKE, E_w_Operator_NOT_LIKE, S_w_Operator_NOT_CONTAINING, E_w_Operator_NOT_CONTAINING, S_w_Operator_GREATER_THAN_OR_EQUAL, E_w_Operator_GREATER_THAN_OR_EQUAL, S_w_Operator_ENDING_WITH, E_w_Operator_ENDING_WITH, S_w_Operator_LESS_THAN_OR_EQUAL, E_w_Operator_LESS_THAN_OR_EQUAL, S_w_Operator_TRUE, E_w_Operator_TRUE, S_w_Operator_LIKE, E_w_Operator_LIKE, F_w_Operator_EQUALS_ordinal, F_w_Operator_IN_ordinal, F_w_Operator_NOT_IN_ordinal, F_w_Operator_LESS_THAN_ordinal, F_w_Operator_STARTING_WITH_ordinal, F_w_Operator_GREATER_THAN_ordinal, F_w_Operator_CONTAINING_ordinal, F_w_Operator_IS_NULL_ordinal, F_w_Operator_BETWEEN_ordinal, F_w_Operator_IN_arguments, F_w_Operator_FALSE_ordinal, F_w_Operator_IS_NOT_NULL_ordinal, F_w_Operator_NOT_EQUALS_ordinal, F_w_Operator_NOT_LIKE_ordinal, F_w_Operator_NOT_CONTAINING_ordinal, F_w_Operator_GREATER_THAN_OR_EQUAL_ordinal, F_w_Operator_ENDING_WITH_ordinal, F_w_Operator_LESS_THAN_OR_EQUAL_ordinal, F_w_Operator_TRUE_ordinal, F_w_Operator_NOT_IN_arguments, F_w_Operator_LIKE_ordinal, F_w_Operator_EQUALS_arguments, F_w_Operator_LESS_THAN_arguments, F_w_Operator_STARTING_WITH_arguments, F_w_Operator_GREATER_THAN_arguments, F_w_Operator_CONTAINING_arguments, F_w_Operator_IS_NULL_arguments, F_w_Operator_BETWEEN_arguments, F_w_Operator_FALSE_arguments, F_w_Operator_IS_NOT_NULL_arguments, F_w_Operator_NOT_EQUALS_arguments, F_w_Operator_NOT_LIKE_arguments, F_w_Operator_NOT_CONTAINING_arguments, F_w_Operator_GREATER_THAN_OR_EQUAL_arguments, F_w_Operator_ENDING_WITH_arguments, F_w_Operator_LESS_THAN_OR_EQUAL_arguments, F_w_Operator_TRUE_arguments, F_w_Operator_LIKE_arguments⟩ := B.2
  refine Con.of (plainFor_of_name pn5) (Ls := #[vR w_Operator_NOT_IN]) (fun _ => rfl) ?_
  intro p e s m below meth c T0 X0 H hml hZ hown hnm hret hlk e0
  refine gAloadN X0 H d5_0 rfl rfl 1 rfl ?_
  refine gGetF X0 H hZ hown (hw _ wd49) Via.refl e0 F_w_Operator_NOT_IN_ordinal d5_1 4 rfl ?_
  intro T102 X102 e102
  exact gRetI X102 H hlk hret d5_4 e102 ⟨rfl, rfl, rfl⟩
theorem rm105_4 (B : Bg Z a0 w_Operator_EQUALS w_Operator_IN w_Operator_NOT_IN w_Operator_LESS_THAN w_Operator_STARTING_WITH w_Operator_GREATER_THAN w_Operator_CONTAINING w_Operator_IS_NULL w_Operator_BETWEEN w_Operator_FALSE w_Operator_IS_NOT_NULL w_Operator_NOT_EQUALS w_Operator_NOT_LIKE w_Operator_NOT_CONTAINING w_Operator_GREATER_THAN_OR_EQUAL w_Operator_ENDING_WITH w_Operator_LESS_THAN_OR_EQUAL w_Operator_TRUE w_Operator_LIKE) :
    Con l Z (⟨"com/example/unfussy_repo/unfussyrepo/query/Operator", "matchesText", "()Z"⟩ : MethodName) prog_53_method_6_code 1 (some .boolean) ({ frames := 1, cells := 0, slots := 0, locals := 12 } : Room) #[(.ref w_Operator_NOT_IN)] Z.heap (fun v h' L => v = some (.int 0) ∧ h' = Z.heap ∧ L = []) := by
  have hw := B.1
  obtain ⟨S_w_Operator_EQUALS, E_w_Operator_EQUALS, S_w_Operator_IN, E_w_Operator_IN, S_w_Operator_NOT_IN, E_w_Operator_NOT_IN, S_w_Operator_LESS_THAN, E_w_Operator_LESS_THAN, S_w_Operator_STARTING_WITH, E_w_Operator_STARTING_WITH, S_w_Operator_GREATER_THAN, E_w_Operator_GREATER_THAN, S_w_Operator_CONTAINING, E_w_Operator_CONTAINING, S_w_Operator_IS_NULL, E_w_Operator_IS_NULL, S_w_Operator_BETWEEN, E_w_Operator_BETWEEN, S_w_Operator_FALSE, E_w_Operator_FALSE, S_w_Operator_IS_NOT_NULL, E_w_Operator_IS_NOT_NULL, S_w_Operator_NOT_EQUALS, E_w_Operator_NOT_EQUALS, S_w_Operator_NOT_LIKE, E_w_Operator_NOT_LIKE, S_w_Operator_NOT_CONTAINING, E_w_Operator_NOT_CONTAINING, S_w_Operator_GREATER_THAN_OR_EQUAL, E_w_Operator_GREATER_THAN_OR_EQUAL, S_w_Operator_ENDING_WITH, E_w_Operator_ENDING_WITH, S_w_Operator_LESS_THAN_OR_EQUAL, E_w_Operator_LESS_THAN_OR_EQUAL, S_w_Operator_TRUE, E_w_Operator_TRUE, S_w_Operator_LIKE, E_w_Operator_LIKE, F_w_Operator_EQUALS_ordinal, F_w_Operator_IN_ordinal, F_w_Operator_NOT_IN_ordinal, F_w_Operator_LESS_THAN_ordinal, F_w_Operator_STARTING_WITH_ordinal, F_w_Operator_GREATER_THAN_ordinal, F_w_Operator_CONTAINING_ordinal, F_w_Operator_IS_NULL_ordinal, F_w_Operator_BETWEEN_ordinal, F_w_Operator_IN_arguments, F_w_Operator_FALSE_ordinal, F_w_Operator_IS_NOT_NULL_ordinal, F_w_Operator_NOT_EQUALS_ordinal, F_w_Operator_NOT_LIKE_ordinal, F_w_Operator_NOT_CONTAINING_ordinal, F_w_Operator_GREATER_THAN_OR_EQUAL_ordinal, F_w_Operator_ENDING_WITH_ordinal, F_w_Operator_LESS_THAN_OR_EQUAL_ordinal, F_w_Operator_TRUE_ordinal, F_w_Operator_NOT_IN_arguments, F_w_Operator_LIKE_ordinal, F_w_Operator_EQUALS_arguments, F_w_Operator_LESS_THAN_arguments, F_w_Operator_STARTING_WITH_arguments, F_w_Operator_GREATER_THAN_arguments, F_w_Operator_CONTAINING_arguments, F_w_Operator_IS_NULL_arguments, F_w_Operator_BETWEEN_arguments, F_w_Operator_FALSE_arguments, F_w_Operator_IS_NOT_NULL_arguments, F_w_Operator_NOT_EQUALS_arguments, F_w_Operator_NOT_LIKE_arguments, F_w_Operator_NOT_CONTAINING_arguments, F_w_Operator_GREATER_THAN_OR_EQUAL_arguments, F_w_Operator_ENDING_WITH_arguments, F_w_Operator_LESS_THAN_OR_EQUAL_arguments, F_w_Operator_TRUE_arguments, F_w_Operator_LIKE_arguments⟩ := B.2
  refine Con.of (plainFor_of_name pn4) (Ls := #[vR w_Operator_NOT_IN]) (fun _ => rfl) ?_
  intro p e s m below meth c T0 X0 H hml hZ hown hnm hret hlk e0
  refine gAloadN X0 H d4_0 rfl rfl 1 rfl ?_
  refine gVirtualUp X0 H hZ hown (hw _ wd42) (hw _ wd43) (hw _ wd44) (hw _ wd46) (hw _ wd45) (by decide) E_w_Operator_NOT_IN (hw _ wd48) (hw _ wd47) (rm103_5 B) e0 hml rfl pd2 rfl (W := 0) (argsL := []) (rest := []) rfl rfl d4_1 4 rfl ?_
  intro v104 T104 L104 hq104 X104
  obtain ⟨rfl, e104, rfl⟩ := hq104
  show Go _ _ _ _ (State.setTop _ (mkF _ 4 _ [(.int 12)]))
  refine gTswOut X104 H d4_4 (by decide) (by decide) 48 rfl ?_
  refine gIconst X104 H d4_48 (z := 0) rfl 49 rfl ?_
  exact gRetN X104 H hlk hret (t := .boolean) (by simp) d4_49 e104 ⟨rfl, rfl, rfl⟩
theorem lawAll_12 (B : Bg Z a0 w_Operator_EQUALS w_Operator_IN w_Operator_NOT_IN w_Operator_LESS_THAN w_Operator_STARTING_WITH w_Operator_GREATER_THAN w_Operator_CONTAINING w_Operator_IS_NULL w_Operator_BETWEEN w_Operator_FALSE w_Operator_IS_NOT_NULL w_Operator_NOT_EQUALS w_Operator_NOT_LIKE w_Operator_NOT_CONTAINING w_Operator_GREATER_THAN_OR_EQUAL w_Operator_ENDING_WITH w_Operator_LESS_THAN_OR_EQUAL w_Operator_TRUE w_Operator_LIKE) (p0 : Int32) (ha0 : ((p0 &&& (2147483647 : Int32)) % (19 : Int32)) = (12 : Int32)) :
    Con l Z x code maxLocals ret room_1 #[(.int p0)] Z.heap (fun v h' L => v = some (.int 1) ∧ Fr Z.heap.size L) := by
  have hw := B.1
  obtain ⟨S_w_Operator_EQUALS, E_w_Operator_EQUALS, S_w_Operator_IN, E_w_Operator_IN, S_w_Operator_NOT_IN, E_w_Operator_NOT_IN, S_w_Operator_LESS_THAN, E_w_Operator_LESS_THAN, S_w_Operator_STARTING_WITH, E_w_Operator_STARTING_WITH, S_w_Operator_GREATER_THAN, E_w_Operator_GREATER_THAN, S_w_Operator_CONTAINING, E_w_Operator_CONTAINING, S_w_Operator_IS_NULL, E_w_Operator_IS_NULL, S_w_Operator_BETWEEN, E_w_Operator_BETWEEN, S_w_Operator_FALSE, E_w_Operator_FALSE, S_w_Operator_IS_NOT_NULL, E_w_Operator_IS_NOT_NULL, S_w_Operator_NOT_EQUALS, E_w_Operator_NOT_EQUALS, S_w_Operator_NOT_LIKE, E_w_Operator_NOT_LIKE, S_w_Operator_NOT_CONTAINING, E_w_Operator_NOT_CONTAINING, S_w_Operator_GREATER_THAN_OR_EQUAL, E_w_Operator_GREATER_THAN_OR_EQUAL, S_w_Operator_ENDING_WITH, E_w_Operator_ENDING_WITH, S_w_Operator_LESS_THAN_OR_EQUAL, E_w_Operator_LESS_THAN_OR_EQUAL, S_w_Operator_TRUE, E_w_Operator_TRUE, S_w_Operator_LIKE, E_w_Operator_LIKE, F_w_Operator_EQUALS_ordinal, F_w_Operator_IN_ordinal, F_w_Operator_NOT_IN_ordinal, F_w_Operator_LESS_THAN_ordinal, F_w_Operator_STARTING_WITH_ordinal, F_w_Operator_GREATER_THAN_ordinal, F_w_Operator_CONTAINING_ordinal, F_w_Operator_IS_NULL_ordinal, F_w_Operator_BETWEEN_ordinal, F_w_Operator_IN_arguments, F_w_Operator_FALSE_ordinal, F_w_Operator_IS_NOT_NULL_ordinal, F_w_Operator_NOT_EQUALS_ordinal, F_w_Operator_NOT_LIKE_ordinal, F_w_Operator_NOT_CONTAINING_ordinal, F_w_Operator_GREATER_THAN_OR_EQUAL_ordinal, F_w_Operator_ENDING_WITH_ordinal, F_w_Operator_LESS_THAN_OR_EQUAL_ordinal, F_w_Operator_TRUE_ordinal, F_w_Operator_NOT_IN_arguments, F_w_Operator_LIKE_ordinal, F_w_Operator_EQUALS_arguments, F_w_Operator_LESS_THAN_arguments, F_w_Operator_STARTING_WITH_arguments, F_w_Operator_GREATER_THAN_arguments, F_w_Operator_CONTAINING_arguments, F_w_Operator_IS_NULL_arguments, F_w_Operator_BETWEEN_arguments, F_w_Operator_FALSE_arguments, F_w_Operator_IS_NOT_NULL_arguments, F_w_Operator_NOT_EQUALS_arguments, F_w_Operator_NOT_LIKE_arguments, F_w_Operator_NOT_CONTAINING_arguments, F_w_Operator_GREATER_THAN_OR_EQUAL_arguments, F_w_Operator_ENDING_WITH_arguments, F_w_Operator_LESS_THAN_OR_EQUAL_arguments, F_w_Operator_TRUE_arguments, F_w_Operator_LIKE_arguments⟩ := B.2
  refine Con.of (plainFor_of_name pn0) (Ls := #[vI p0, .unset, .unset, .unset, .unset]) (fun _ => rfl) ?_
  intro p e s m below meth c T0 X0 H hml hZ hown hnm hret hlk e0
  refine gIloadN X0 H at_0 rfl 1 rfl ?_
  refine gLdc X0 H hZ hown (hw _ wd0) at_1 3 rfl ?_
  refine g_iand X0 H at_3 (z := (p0 &&& (2147483647 : Int32))) rfl 4 rfl ?_
  refine gBipush X0 H at_4 (z := 19) rfl 6 rfl ?_
  refine g_irem X0 H at_6 (by decide) (z := 12) ha0 7 rfl ?_
  refine gIstoreN X0 H at_7 (Ls' := #[vI p0, vI 12, .unset, .unset, .unset]) rfl 8 rfl ?_
  refine gIloadN X0 H at_8 rfl 9 rfl ?_
  refine gStatic X0 H hZ hown (hw _ wd1) (hw _ wd2) (by decide) (hw _ wd4) (hw _ wd3) (rm93_1 B) e0 hml rfl pd0 rfl (W := 0) (argsL := [(.int 12)]) (rest := []) rfl rfl at_9 12 rfl ?_
  intro v94 T94 L94 hq94 X94
  obtain ⟨rfl, e94, rfl⟩ := hq94
  show Go _ _ _ _ (State.setTop _ (mkF _ 12 _ [(.ref w_Operator_NOT_IN)]))
  refine gAstoreN X94 H at_12 rfl (Ls' := #[vI p0, vI 12, vR w_Operator_NOT_IN, .unset, .unset]) rfl 13 rfl ?_
  refine gAloadN X94 H at_13 rfl rfl 14 rfl ?_
  refine gVirt X94 H hZ hown (hw _ wd8) (hw _ wd9) (hw _ wd11) (hw _ wd10) (by decide) E_w_Operator_NOT_IN (hw _ wd12) (hw _ wd6) (rm97_2 B) e94 hml rfl pd1 rfl (W := 0) (argsL := []) (rest := []) rfl rfl at_14 17 rfl ?_
  intro v98 T98 L98 hq98 X98
  obtain ⟨rfl, e98, rfl⟩ := hq98
  show Go _ _ _ _ (State.setTop _ (mkF _ 17 _ [(.int 1)]))
  refine gIstoreN X98 H at_17 (Ls' := #[vI p0, vI 12, vR w_Operator_NOT_IN, vI 1, .unset]) rfl 18 rfl ?_
  refine gIloadN X98 H at_18 rfl 19 rfl ?_
  refine gBipush X98 H at_19 (z := 11) rfl 21 rfl ?_
  refine gCmpN X98 H at_21 (by decide) 24 rfl ?_
  refine gIloadN X98 H at_24 rfl 25 rfl ?_
  refine gBipush X98 H at_25 (z := 12) rfl 27 rfl ?_
  refine gCmpN X98 H at_27 (by decide) 30 rfl ?_
  refine gIconst X98 H at_30 (z := 1) rfl 31 rfl ?_
  refine gGoto X98 H at_31 (by decide) 35 rfl ?_
  refine gIstore X98 H at_35 (Ls' := #[vI p0, vI 12, vR w_Operator_NOT_IN, vI 1, vI 1]) rfl 37 rfl ?_
  refine gIloadN X98 H at_37 rfl 38 rfl ?_
  refine gIload X98 H at_38 rfl 40 rfl ?_
  refine gCmpY X98 H at_40 (by decide) (by decide) 45 rfl ?_
  refine gIloadN X98 H at_45 rfl 46 rfl ?_
  refine gIfN X98 H at_46 (by decide) 49 rfl ?_
  refine gAloadN X98 H at_49 rfl rfl 50 rfl ?_
  refine gVirt X98 H hZ hown (hw _ wd30) (hw _ wd31) (hw _ wd33) (hw _ wd32) (by decide) E_w_Operator_NOT_IN (hw _ wd34) (hw _ wd6) (rm100_3 B) e98 hml rfl pd2 rfl (W := 0) (argsL := []) (rest := []) rfl rfl at_50 53 rfl ?_
  intro v101 T101 L101 hq101 X101
  obtain ⟨rfl, e101, rfl⟩ := hq101
  show Go _ _ _ _ (State.setTop _ (mkF _ 53 _ [(.int 1)]))
  refine gIconst X101 H at_53 (z := 1) rfl 54 rfl ?_
  refine gCmpN X101 H at_54 (by decide) 57 rfl ?_
  refine gAloadN X101 H at_57 rfl rfl 58 rfl ?_
  refine gVirt X101 H hZ hown (hw _ wd37) (hw _ wd38) (hw _ wd40) (hw _ wd39) (by decide) E_w_Operator_NOT_IN (hw _ wd41) (hw _ wd6) (rm105_4 B) e101 hml rfl pd1 rfl (W := 0) (argsL := []) (rest := []) rfl rfl at_58 61 rfl ?_
  intro v106 T106 L106 hq106 X106
  obtain ⟨rfl, e106, rfl⟩ := hq106
  show Go _ _ _ _ (State.setTop _ (mkF _ 61 _ [(.int 0)]))
  refine gIfN X106 H at_61 (by decide) 64 rfl ?_
  refine gIconst X106 H at_64 (z := 1) rfl 65 rfl ?_
  refine gGoto X106 H at_65 (by decide) 69 rfl ?_
  exact gRetN X106 H hlk hret (t := .boolean) (by simp) at_69 e106 ⟨rfl, Fr.nil _⟩
theorem rm108_1 (B : Bg Z a0 w_Operator_EQUALS w_Operator_IN w_Operator_NOT_IN w_Operator_LESS_THAN w_Operator_STARTING_WITH w_Operator_GREATER_THAN w_Operator_CONTAINING w_Operator_IS_NULL w_Operator_BETWEEN w_Operator_FALSE w_Operator_IS_NOT_NULL w_Operator_NOT_EQUALS w_Operator_NOT_LIKE w_Operator_NOT_CONTAINING w_Operator_GREATER_THAN_OR_EQUAL w_Operator_ENDING_WITH w_Operator_LESS_THAN_OR_EQUAL w_Operator_TRUE w_Operator_LIKE) :
    Con l Z (⟨"com/example/unfussy_repo/unfussyrepo/query/OperatorTakesCollectionPinLaw", "pick", "(I)Lcom/example/unfussy_repo/unfussyrepo/query/Operator;"⟩ : MethodName) method_2_code 1 (some (.object "com/example/unfussy_repo/unfussyrepo/query/Operator")) ({ frames := 0, cells := 0, slots := 0, locals := 0 } : Room) #[(.int 13)] Z.heap (fun v h' L => v = some (.ref w_Operator_LIKE) ∧ h' = Z.heap ∧ L = []) := by
  have hw := B.1
  obtain ⟨S_w_Operator_EQUALS, E_w_Operator_EQUALS, S_w_Operator_IN, E_w_Operator_IN, S_w_Operator_NOT_IN, E_w_Operator_NOT_IN, S_w_Operator_LESS_THAN, E_w_Operator_LESS_THAN, S_w_Operator_STARTING_WITH, E_w_Operator_STARTING_WITH, S_w_Operator_GREATER_THAN, E_w_Operator_GREATER_THAN, S_w_Operator_CONTAINING, E_w_Operator_CONTAINING, S_w_Operator_IS_NULL, E_w_Operator_IS_NULL, S_w_Operator_BETWEEN, E_w_Operator_BETWEEN, S_w_Operator_FALSE, E_w_Operator_FALSE, S_w_Operator_IS_NOT_NULL, E_w_Operator_IS_NOT_NULL, S_w_Operator_NOT_EQUALS, E_w_Operator_NOT_EQUALS, S_w_Operator_NOT_LIKE, E_w_Operator_NOT_LIKE, S_w_Operator_NOT_CONTAINING, E_w_Operator_NOT_CONTAINING, S_w_Operator_GREATER_THAN_OR_EQUAL, E_w_Operator_GREATER_THAN_OR_EQUAL, S_w_Operator_ENDING_WITH, E_w_Operator_ENDING_WITH, S_w_Operator_LESS_THAN_OR_EQUAL, E_w_Operator_LESS_THAN_OR_EQUAL, S_w_Operator_TRUE, E_w_Operator_TRUE, S_w_Operator_LIKE, E_w_Operator_LIKE, F_w_Operator_EQUALS_ordinal, F_w_Operator_IN_ordinal, F_w_Operator_NOT_IN_ordinal, F_w_Operator_LESS_THAN_ordinal, F_w_Operator_STARTING_WITH_ordinal, F_w_Operator_GREATER_THAN_ordinal, F_w_Operator_CONTAINING_ordinal, F_w_Operator_IS_NULL_ordinal, F_w_Operator_BETWEEN_ordinal, F_w_Operator_IN_arguments, F_w_Operator_FALSE_ordinal, F_w_Operator_IS_NOT_NULL_ordinal, F_w_Operator_NOT_EQUALS_ordinal, F_w_Operator_NOT_LIKE_ordinal, F_w_Operator_NOT_CONTAINING_ordinal, F_w_Operator_GREATER_THAN_OR_EQUAL_ordinal, F_w_Operator_ENDING_WITH_ordinal, F_w_Operator_LESS_THAN_OR_EQUAL_ordinal, F_w_Operator_TRUE_ordinal, F_w_Operator_NOT_IN_arguments, F_w_Operator_LIKE_ordinal, F_w_Operator_EQUALS_arguments, F_w_Operator_LESS_THAN_arguments, F_w_Operator_STARTING_WITH_arguments, F_w_Operator_GREATER_THAN_arguments, F_w_Operator_CONTAINING_arguments, F_w_Operator_IS_NULL_arguments, F_w_Operator_BETWEEN_arguments, F_w_Operator_FALSE_arguments, F_w_Operator_IS_NOT_NULL_arguments, F_w_Operator_NOT_EQUALS_arguments, F_w_Operator_NOT_LIKE_arguments, F_w_Operator_NOT_CONTAINING_arguments, F_w_Operator_GREATER_THAN_OR_EQUAL_arguments, F_w_Operator_ENDING_WITH_arguments, F_w_Operator_LESS_THAN_OR_EQUAL_arguments, F_w_Operator_TRUE_arguments, F_w_Operator_LIKE_arguments⟩ := B.2
  refine Con.of (plainFor_of_name pn1) (Ls := #[vI 13]) (fun _ => rfl) ?_
  intro p e s m below meth c T0 X0 H hml hZ hown hnm hret hlk e0
  refine gIloadN X0 H d1_0 rfl 1 rfl ?_
  refine gIfY X0 H d1_1 (by decide) (by decide) 8 rfl ?_
  refine gIloadN X0 H d1_8 rfl 9 rfl ?_
  refine gIconst X0 H d1_9 (z := 1) rfl 10 rfl ?_
  refine gCmpY X0 H d1_10 (by decide) (by decide) 17 rfl ?_
  refine gIloadN X0 H d1_17 rfl 18 rfl ?_
  refine gIconst X0 H d1_18 (z := 2) rfl 19 rfl ?_
  refine gCmpY X0 H d1_19 (by decide) (by decide) 26 rfl ?_
  refine gIloadN X0 H d1_26 rfl 27 rfl ?_
  refine gIconst X0 H d1_27 (z := 3) rfl 28 rfl ?_
  refine gCmpY X0 H d1_28 (by decide) (by decide) 35 rfl ?_
  refine gIloadN X0 H d1_35 rfl 36 rfl ?_
  refine gIconst X0 H d1_36 (z := 4) rfl 37 rfl ?_
  refine gCmpY X0 H d1_37 (by decide) (by decide) 44 rfl ?_
  refine gIloadN X0 H d1_44 rfl 45 rfl ?_
  refine gIconst X0 H d1_45 (z := 5) rfl 46 rfl ?_
  refine gCmpY X0 H d1_46 (by decide) (by decide) 53 rfl ?_
  refine gIloadN X0 H d1_53 rfl 54 rfl ?_
  refine gBipush X0 H d1_54 (z := 6) rfl 56 rfl ?_
  refine gCmpY X0 H d1_56 (by decide) (by decide) 63 rfl ?_
  refine gIloadN X0 H d1_63 rfl 64 rfl ?_
  refine gBipush X0 H d1_64 (z := 7) rfl 66 rfl ?_
  refine gCmpY X0 H d1_66 (by decide) (by decide) 73 rfl ?_
  refine gIloadN X0 H d1_73 rfl 74 rfl ?_
  refine gBipush X0 H d1_74 (z := 8) rfl 76 rfl ?_
  refine gCmpY X0 H d1_76 (by decide) (by decide) 83 rfl ?_
  refine gIloadN X0 H d1_83 rfl 84 rfl ?_
  refine gBipush X0 H d1_84 (z := 9) rfl 86 rfl ?_
  refine gCmpY X0 H d1_86 (by decide) (by decide) 93 rfl ?_
  refine gIloadN X0 H d1_93 rfl 94 rfl ?_
  refine gBipush X0 H d1_94 (z := 10) rfl 96 rfl ?_
  refine gCmpY X0 H d1_96 (by decide) (by decide) 103 rfl ?_
  refine gIloadN X0 H d1_103 rfl 104 rfl ?_
  refine gBipush X0 H d1_104 (z := 11) rfl 106 rfl ?_
  refine gCmpY X0 H d1_106 (by decide) (by decide) 113 rfl ?_
  refine gIloadN X0 H d1_113 rfl 114 rfl ?_
  refine gBipush X0 H d1_114 (z := 12) rfl 116 rfl ?_
  refine gCmpY X0 H d1_116 (by decide) (by decide) 123 rfl ?_
  refine gIloadN X0 H d1_123 rfl 124 rfl ?_
  refine gBipush X0 H d1_124 (z := 13) rfl 126 rfl ?_
  refine gCmpN X0 H d1_126 (by decide) 129 rfl ?_
  refine gGetS X0 H hZ hown (hw _ wd70) e0 S_w_Operator_LIKE d1_129 132 rfl ?_
  intro T107 X107 e107
  exact gRetA X107 H hlk hret rfl rfl rfl d1_132 e107 ⟨rfl, rfl, rfl⟩
theorem rm112_2 (B : Bg Z a0 w_Operator_EQUALS w_Operator_IN w_Operator_NOT_IN w_Operator_LESS_THAN w_Operator_STARTING_WITH w_Operator_GREATER_THAN w_Operator_CONTAINING w_Operator_IS_NULL w_Operator_BETWEEN w_Operator_FALSE w_Operator_IS_NOT_NULL w_Operator_NOT_EQUALS w_Operator_NOT_LIKE w_Operator_NOT_CONTAINING w_Operator_GREATER_THAN_OR_EQUAL w_Operator_ENDING_WITH w_Operator_LESS_THAN_OR_EQUAL w_Operator_TRUE w_Operator_LIKE) :
    Con l Z (⟨"com/example/unfussy_repo/unfussyrepo/query/Operator", "takesCollection", "()Z"⟩ : MethodName) prog_53_method_5_code 1 (some .boolean) ({ frames := 0, cells := 0, slots := 0, locals := 0 } : Room) #[(.ref w_Operator_LIKE)] Z.heap (fun v h' L => v = some (.int 0) ∧ h' = Z.heap ∧ L = []) := by
  have hw := B.1
  obtain ⟨S_w_Operator_EQUALS, E_w_Operator_EQUALS, S_w_Operator_IN, E_w_Operator_IN, S_w_Operator_NOT_IN, E_w_Operator_NOT_IN, S_w_Operator_LESS_THAN, E_w_Operator_LESS_THAN, S_w_Operator_STARTING_WITH, E_w_Operator_STARTING_WITH, S_w_Operator_GREATER_THAN, E_w_Operator_GREATER_THAN, S_w_Operator_CONTAINING, E_w_Operator_CONTAINING, S_w_Operator_IS_NULL, E_w_Operator_IS_NULL, S_w_Operator_BETWEEN, E_w_Operator_BETWEEN, S_w_Operator_FALSE, E_w_Operator_FALSE, S_w_Operator_IS_NOT_NULL, E_w_Operator_IS_NOT_NULL, S_w_Operator_NOT_EQUALS, E_w_Operator_NOT_EQUALS, S_w_Operator_NOT_LIKE, E_w_Operator_NOT_LIKE, S_w_Operator_NOT_CONTAINING, E_w_Operator_NOT_CONTAINING, S_w_Operator_GREATER_THAN_OR_EQUAL, E_w_Operator_GREATER_THAN_OR_EQUAL, S_w_Operator_ENDING_WITH, E_w_Operator_ENDING_WITH, S_w_Operator_LESS_THAN_OR_EQUAL, E_w_Operator_LESS_THAN_OR_EQUAL, S_w_Operator_TRUE, E_w_Operator_TRUE, S_w_Operator_LIKE, E_w_Operator_LIKE, F_w_Operator_EQUALS_ordinal, F_w_Operator_IN_ordinal, F_w_Operator_NOT_IN_ordinal, F_w_Operator_LESS_THAN_ordinal, F_w_Operator_STARTING_WITH_ordinal, F_w_Operator_GREATER_THAN_ordinal, F_w_Operator_CONTAINING_ordinal, F_w_Operator_IS_NULL_ordinal, F_w_Operator_BETWEEN_ordinal, F_w_Operator_IN_arguments, F_w_Operator_FALSE_ordinal, F_w_Operator_IS_NOT_NULL_ordinal, F_w_Operator_NOT_EQUALS_ordinal, F_w_Operator_NOT_LIKE_ordinal, F_w_Operator_NOT_CONTAINING_ordinal, F_w_Operator_GREATER_THAN_OR_EQUAL_ordinal, F_w_Operator_ENDING_WITH_ordinal, F_w_Operator_LESS_THAN_OR_EQUAL_ordinal, F_w_Operator_TRUE_ordinal, F_w_Operator_NOT_IN_arguments, F_w_Operator_LIKE_ordinal, F_w_Operator_EQUALS_arguments, F_w_Operator_LESS_THAN_arguments, F_w_Operator_STARTING_WITH_arguments, F_w_Operator_GREATER_THAN_arguments, F_w_Operator_CONTAINING_arguments, F_w_Operator_IS_NULL_arguments, F_w_Operator_BETWEEN_arguments, F_w_Operator_FALSE_arguments, F_w_Operator_IS_NOT_NULL_arguments, F_w_Operator_NOT_EQUALS_arguments, F_w_Operator_NOT_LIKE_arguments, F_w_Operator_NOT_CONTAINING_arguments, F_w_Operator_GREATER_THAN_OR_EQUAL_arguments, F_w_Operator_ENDING_WITH_arguments, F_w_Operator_LESS_THAN_OR_EQUAL_arguments, F_w_Operator_TRUE_arguments, F_w_Operator_LIKE_arguments⟩ := B.2
  refine Con.of (plainFor_of_name pn2) (Ls := #[vR w_Operator_LIKE]) (fun _ => rfl) ?_
  intro p e s m below meth c T0 X0 H hml hZ hown hnm hret hlk e0
  refine gAloadN X0 H d2_0 rfl rfl 1 rfl ?_
  refine gGetS X0 H hZ hown (hw _ wd13) e0 S_w_Operator_IN d2_1 4 rfl ?_
  intro T110 X110 e110
  refine gAcmp X110 H d2_4 rfl rfl (same := false) (decide_eq_false fun q => (Fld.ne F_w_Operator_LIKE_ordinal F_w_Operator_IN_ordinal (by decide)) (Value.ref.inj q)) (by decide) 7 (by decide) ?_
  refine gAloadN X110 H d2_7 rfl rfl 8 rfl ?_
  refine gGetS X110 H hZ hown (hw _ wd15) e110 S_w_Operator_NOT_IN d2_8 11 rfl ?_
  intro T111 X111 e111
  refine gAcmp X111 H d2_11 rfl rfl (same := false) (decide_eq_false fun q => (Fld.ne F_w_Operator_LIKE_ordinal F_w_Operator_NOT_IN_ordinal (by decide)) (Value.ref.inj q)) (by decide) 18 (by decide) ?_
  refine gIconst X111 H d2_18 (z := 0) rfl 19 rfl ?_
  exact gRetN X111 H hlk hret (t := .boolean) (by simp) d2_19 e111 ⟨rfl, rfl, rfl⟩
theorem lawAll_13 (B : Bg Z a0 w_Operator_EQUALS w_Operator_IN w_Operator_NOT_IN w_Operator_LESS_THAN w_Operator_STARTING_WITH w_Operator_GREATER_THAN w_Operator_CONTAINING w_Operator_IS_NULL w_Operator_BETWEEN w_Operator_FALSE w_Operator_IS_NOT_NULL w_Operator_NOT_EQUALS w_Operator_NOT_LIKE w_Operator_NOT_CONTAINING w_Operator_GREATER_THAN_OR_EQUAL w_Operator_ENDING_WITH w_Operator_LESS_THAN_OR_EQUAL w_Operator_TRUE w_Operator_LIKE) (p0 : Int32) (ha0 : ((p0 &&& (2147483647 : Int32)) % (19 : Int32)) = (13 : Int32)) :
    Con l Z x code maxLocals ret room_1 #[(.int p0)] Z.heap (fun v h' L => v = some (.int 1) ∧ Fr Z.heap.size L) := by
  have hw := B.1
  obtain ⟨S_w_Operator_EQUALS, E_w_Operator_EQUALS, S_w_Operator_IN, E_w_Operator_IN, S_w_Operator_NOT_IN, E_w_Operator_NOT_IN, S_w_Operator_LESS_THAN, E_w_Operator_LESS_THAN, S_w_Operator_STARTING_WITH, E_w_Operator_STARTING_WITH, S_w_Operator_GREATER_THAN, E_w_Operator_GREATER_THAN, S_w_Operator_CONTAINING, E_w_Operator_CONTAINING, S_w_Operator_IS_NULL, E_w_Operator_IS_NULL, S_w_Operator_BETWEEN, E_w_Operator_BETWEEN, S_w_Operator_FALSE, E_w_Operator_FALSE, S_w_Operator_IS_NOT_NULL, E_w_Operator_IS_NOT_NULL, S_w_Operator_NOT_EQUALS, E_w_Operator_NOT_EQUALS, S_w_Operator_NOT_LIKE, E_w_Operator_NOT_LIKE, S_w_Operator_NOT_CONTAINING, E_w_Operator_NOT_CONTAINING, S_w_Operator_GREATER_THAN_OR_EQUAL, E_w_Operator_GREATER_THAN_OR_EQUAL, S_w_Operator_ENDING_WITH, E_w_Operator_ENDING_WITH, S_w_Operator_LESS_THAN_OR_EQUAL, E_w_Operator_LESS_THAN_OR_EQUAL, S_w_Operator_TRUE, E_w_Operator_TRUE, S_w_Operator_LIKE, E_w_Operator_LIKE, F_w_Operator_EQUALS_ordinal, F_w_Operator_IN_ordinal, F_w_Operator_NOT_IN_ordinal, F_w_Operator_LESS_THAN_ordinal, F_w_Operator_STARTING_WITH_ordinal, F_w_Operator_GREATER_THAN_ordinal, F_w_Operator_CONTAINING_ordinal, F_w_Operator_IS_NULL_ordinal, F_w_Operator_BETWEEN_ordinal, F_w_Operator_IN_arguments, F_w_Operator_FALSE_ordinal, F_w_Operator_IS_NOT_NULL_ordinal, F_w_Operator_NOT_EQUALS_ordinal, F_w_Operator_NOT_LIKE_ordinal, F_w_Operator_NOT_CONTAINING_ordinal, F_w_Operator_GREATER_THAN_OR_EQUAL_ordinal, F_w_Operator_ENDING_WITH_ordinal, F_w_Operator_LESS_THAN_OR_EQUAL_ordinal, F_w_Operator_TRUE_ordinal, F_w_Operator_NOT_IN_arguments, F_w_Operator_LIKE_ordinal, F_w_Operator_EQUALS_arguments, F_w_Operator_LESS_THAN_arguments, F_w_Operator_STARTING_WITH_arguments, F_w_Operator_GREATER_THAN_arguments, F_w_Operator_CONTAINING_arguments, F_w_Operator_IS_NULL_arguments, F_w_Operator_BETWEEN_arguments, F_w_Operator_FALSE_arguments, F_w_Operator_IS_NOT_NULL_arguments, F_w_Operator_NOT_EQUALS_arguments, F_w_Operator_NOT_LIKE_arguments, F_w_Operator_NOT_CONTAINING_arguments, F_w_Operator_GREATER_THAN_OR_EQUAL_arguments, F_w_Operator_ENDING_WITH_arguments, F_w_Operator_LESS_THAN_OR_EQUAL_arguments, F_w_Operator_TRUE_arguments, F_w_Operator_LIKE_arguments⟩ := B.2
  refine Con.of (plainFor_of_name pn0) (Ls := #[vI p0, .unset, .unset, .unset, .unset]) (fun _ => rfl) ?_
  intro p e s m below meth c T0 X0 H hml hZ hown hnm hret hlk e0
  refine gIloadN X0 H at_0 rfl 1 rfl ?_
  refine gLdc X0 H hZ hown (hw _ wd0) at_1 3 rfl ?_
  refine g_iand X0 H at_3 (z := (p0 &&& (2147483647 : Int32))) rfl 4 rfl ?_
  refine gBipush X0 H at_4 (z := 19) rfl 6 rfl ?_
  refine g_irem X0 H at_6 (by decide) (z := 13) ha0 7 rfl ?_
  refine gIstoreN X0 H at_7 (Ls' := #[vI p0, vI 13, .unset, .unset, .unset]) rfl 8 rfl ?_
  refine gIloadN X0 H at_8 rfl 9 rfl ?_
  refine gStatic X0 H hZ hown (hw _ wd1) (hw _ wd2) (by decide) (hw _ wd4) (hw _ wd3) (rm108_1 B) e0 hml rfl pd0 rfl (W := 0) (argsL := [(.int 13)]) (rest := []) rfl rfl at_9 12 rfl ?_
  intro v109 T109 L109 hq109 X109
  obtain ⟨rfl, e109, rfl⟩ := hq109
  show Go _ _ _ _ (State.setTop _ (mkF _ 12 _ [(.ref w_Operator_LIKE)]))
  refine gAstoreN X109 H at_12 rfl (Ls' := #[vI p0, vI 13, vR w_Operator_LIKE, .unset, .unset]) rfl 13 rfl ?_
  refine gAloadN X109 H at_13 rfl rfl 14 rfl ?_
  refine gVirt X109 H hZ hown (hw _ wd8) (hw _ wd9) (hw _ wd11) (hw _ wd10) (by decide) E_w_Operator_LIKE (hw _ wd12) (hw _ wd6) (rm112_2 B) e109 hml rfl pd1 rfl (W := 0) (argsL := []) (rest := []) rfl rfl at_14 17 rfl ?_
  intro v113 T113 L113 hq113 X113
  obtain ⟨rfl, e113, rfl⟩ := hq113
  show Go _ _ _ _ (State.setTop _ (mkF _ 17 _ [(.int 0)]))
  refine gIstoreN X113 H at_17 (Ls' := #[vI p0, vI 13, vR w_Operator_LIKE, vI 0, .unset]) rfl 18 rfl ?_
  refine gIloadN X113 H at_18 rfl 19 rfl ?_
  refine gBipush X113 H at_19 (z := 11) rfl 21 rfl ?_
  refine gCmpN X113 H at_21 (by decide) 24 rfl ?_
  refine gIloadN X113 H at_24 rfl 25 rfl ?_
  refine gBipush X113 H at_25 (z := 12) rfl 27 rfl ?_
  refine gCmpY X113 H at_27 (by decide) (by decide) 34 rfl ?_
  refine gIconst X113 H at_34 (z := 0) rfl 35 rfl ?_
  refine gIstore X113 H at_35 (Ls' := #[vI p0, vI 13, vR w_Operator_LIKE, vI 0, vI 0]) rfl 37 rfl ?_
  refine gIloadN X113 H at_37 rfl 38 rfl ?_
  refine gIload X113 H at_38 rfl 40 rfl ?_
  refine gCmpY X113 H at_40 (by decide) (by decide) 45 rfl ?_
  refine gIloadN X113 H at_45 rfl 46 rfl ?_
  refine gIfY X113 H at_46 (by decide) (by decide) 70 rfl ?_
  refine gIconst X113 H at_70 (z := 1) rfl 71 rfl ?_
  exact gRetN X113 H hlk hret (t := .boolean) (by simp) at_71 e113 ⟨rfl, Fr.nil _⟩
theorem rm115_1 (B : Bg Z a0 w_Operator_EQUALS w_Operator_IN w_Operator_NOT_IN w_Operator_LESS_THAN w_Operator_STARTING_WITH w_Operator_GREATER_THAN w_Operator_CONTAINING w_Operator_IS_NULL w_Operator_BETWEEN w_Operator_FALSE w_Operator_IS_NOT_NULL w_Operator_NOT_EQUALS w_Operator_NOT_LIKE w_Operator_NOT_CONTAINING w_Operator_GREATER_THAN_OR_EQUAL w_Operator_ENDING_WITH w_Operator_LESS_THAN_OR_EQUAL w_Operator_TRUE w_Operator_LIKE) :
    Con l Z (⟨"com/example/unfussy_repo/unfussyrepo/query/OperatorTakesCollectionPinLaw", "pick", "(I)Lcom/example/unfussy_repo/unfussyrepo/query/Operator;"⟩ : MethodName) method_2_code 1 (some (.object "com/example/unfussy_repo/unfussyrepo/query/Operator")) ({ frames := 0, cells := 0, slots := 0, locals := 0 } : Room) #[(.int 14)] Z.heap (fun v h' L => v = some (.ref w_Operator_NOT_LIKE) ∧ h' = Z.heap ∧ L = []) := by
  have hw := B.1
  obtain ⟨S_w_Operator_EQUALS, E_w_Operator_EQUALS, S_w_Operator_IN, E_w_Operator_IN, S_w_Operator_NOT_IN, E_w_Operator_NOT_IN, S_w_Operator_LESS_THAN, E_w_Operator_LESS_THAN, S_w_Operator_STARTING_WITH, E_w_Operator_STARTING_WITH, S_w_Operator_GREATER_THAN, E_w_Operator_GREATER_THAN, S_w_Operator_CONTAINING, E_w_Operator_CONTAINING, S_w_Operator_IS_NULL, E_w_Operator_IS_NULL, S_w_Operator_BETWEEN, E_w_Operator_BETWEEN, S_w_Operator_FALSE, E_w_Operator_FALSE, S_w_Operator_IS_NOT_NULL, E_w_Operator_IS_NOT_NULL, S_w_Operator_NOT_EQUALS, E_w_Operator_NOT_EQUALS, S_w_Operator_NOT_LIKE, E_w_Operator_NOT_LIKE, S_w_Operator_NOT_CONTAINING, E_w_Operator_NOT_CONTAINING, S_w_Operator_GREATER_THAN_OR_EQUAL, E_w_Operator_GREATER_THAN_OR_EQUAL, S_w_Operator_ENDING_WITH, E_w_Operator_ENDING_WITH, S_w_Operator_LESS_THAN_OR_EQUAL, E_w_Operator_LESS_THAN_OR_EQUAL, S_w_Operator_TRUE, E_w_Operator_TRUE, S_w_Operator_LIKE, E_w_Operator_LIKE, F_w_Operator_EQUALS_ordinal, F_w_Operator_IN_ordinal, F_w_Operator_NOT_IN_ordinal, F_w_Operator_LESS_THAN_ordinal, F_w_Operator_STARTING_WITH_ordinal, F_w_Operator_GREATER_THAN_ordinal, F_w_Operator_CONTAINING_ordinal, F_w_Operator_IS_NULL_ordinal, F_w_Operator_BETWEEN_ordinal, F_w_Operator_IN_arguments, F_w_Operator_FALSE_ordinal, F_w_Operator_IS_NOT_NULL_ordinal, F_w_Operator_NOT_EQUALS_ordinal, F_w_Operator_NOT_LIKE_ordinal, F_w_Operator_NOT_CONTAINING_ordinal, F_w_Operator_GREATER_THAN_OR_EQUAL_ordinal, F_w_Operator_ENDING_WITH_ordinal, F_w_Operator_LESS_THAN_OR_EQUAL_ordinal, F_w_Operator_TRUE_ordinal, F_w_Operator_NOT_IN_arguments, F_w_Operator_LIKE_ordinal, F_w_Operator_EQUALS_arguments, F_w_Operator_LESS_THAN_arguments, F_w_Operator_STARTING_WITH_arguments, F_w_Operator_GREATER_THAN_arguments, F_w_Operator_CONTAINING_arguments, F_w_Operator_IS_NULL_arguments, F_w_Operator_BETWEEN_arguments, F_w_Operator_FALSE_arguments, F_w_Operator_IS_NOT_NULL_arguments, F_w_Operator_NOT_EQUALS_arguments, F_w_Operator_NOT_LIKE_arguments, F_w_Operator_NOT_CONTAINING_arguments, F_w_Operator_GREATER_THAN_OR_EQUAL_arguments, F_w_Operator_ENDING_WITH_arguments, F_w_Operator_LESS_THAN_OR_EQUAL_arguments, F_w_Operator_TRUE_arguments, F_w_Operator_LIKE_arguments⟩ := B.2
  refine Con.of (plainFor_of_name pn1) (Ls := #[vI 14]) (fun _ => rfl) ?_
  intro p e s m below meth c T0 X0 H hml hZ hown hnm hret hlk e0
  refine gIloadN X0 H d1_0 rfl 1 rfl ?_
  refine gIfY X0 H d1_1 (by decide) (by decide) 8 rfl ?_
  refine gIloadN X0 H d1_8 rfl 9 rfl ?_
  refine gIconst X0 H d1_9 (z := 1) rfl 10 rfl ?_
  refine gCmpY X0 H d1_10 (by decide) (by decide) 17 rfl ?_
  refine gIloadN X0 H d1_17 rfl 18 rfl ?_
  refine gIconst X0 H d1_18 (z := 2) rfl 19 rfl ?_
  refine gCmpY X0 H d1_19 (by decide) (by decide) 26 rfl ?_
  refine gIloadN X0 H d1_26 rfl 27 rfl ?_
  refine gIconst X0 H d1_27 (z := 3) rfl 28 rfl ?_
  refine gCmpY X0 H d1_28 (by decide) (by decide) 35 rfl ?_
  refine gIloadN X0 H d1_35 rfl 36 rfl ?_
  refine gIconst X0 H d1_36 (z := 4) rfl 37 rfl ?_
  refine gCmpY X0 H d1_37 (by decide) (by decide) 44 rfl ?_
  refine gIloadN X0 H d1_44 rfl 45 rfl ?_
  refine gIconst X0 H d1_45 (z := 5) rfl 46 rfl ?_
  refine gCmpY X0 H d1_46 (by decide) (by decide) 53 rfl ?_
  refine gIloadN X0 H d1_53 rfl 54 rfl ?_
  refine gBipush X0 H d1_54 (z := 6) rfl 56 rfl ?_
  refine gCmpY X0 H d1_56 (by decide) (by decide) 63 rfl ?_
  refine gIloadN X0 H d1_63 rfl 64 rfl ?_
  refine gBipush X0 H d1_64 (z := 7) rfl 66 rfl ?_
  refine gCmpY X0 H d1_66 (by decide) (by decide) 73 rfl ?_
  refine gIloadN X0 H d1_73 rfl 74 rfl ?_
  refine gBipush X0 H d1_74 (z := 8) rfl 76 rfl ?_
  refine gCmpY X0 H d1_76 (by decide) (by decide) 83 rfl ?_
  refine gIloadN X0 H d1_83 rfl 84 rfl ?_
  refine gBipush X0 H d1_84 (z := 9) rfl 86 rfl ?_
  refine gCmpY X0 H d1_86 (by decide) (by decide) 93 rfl ?_
  refine gIloadN X0 H d1_93 rfl 94 rfl ?_
  refine gBipush X0 H d1_94 (z := 10) rfl 96 rfl ?_
  refine gCmpY X0 H d1_96 (by decide) (by decide) 103 rfl ?_
  refine gIloadN X0 H d1_103 rfl 104 rfl ?_
  refine gBipush X0 H d1_104 (z := 11) rfl 106 rfl ?_
  refine gCmpY X0 H d1_106 (by decide) (by decide) 113 rfl ?_
  refine gIloadN X0 H d1_113 rfl 114 rfl ?_
  refine gBipush X0 H d1_114 (z := 12) rfl 116 rfl ?_
  refine gCmpY X0 H d1_116 (by decide) (by decide) 123 rfl ?_
  refine gIloadN X0 H d1_123 rfl 124 rfl ?_
  refine gBipush X0 H d1_124 (z := 13) rfl 126 rfl ?_
  refine gCmpY X0 H d1_126 (by decide) (by decide) 133 rfl ?_
  refine gIloadN X0 H d1_133 rfl 134 rfl ?_
  refine gBipush X0 H d1_134 (z := 14) rfl 136 rfl ?_
  refine gCmpN X0 H d1_136 (by decide) 139 rfl ?_
  refine gGetS X0 H hZ hown (hw _ wd57) e0 S_w_Operator_NOT_LIKE d1_139 142 rfl ?_
  intro T114 X114 e114
  exact gRetA X114 H hlk hret rfl rfl rfl d1_142 e114 ⟨rfl, rfl, rfl⟩
theorem rm119_2 (B : Bg Z a0 w_Operator_EQUALS w_Operator_IN w_Operator_NOT_IN w_Operator_LESS_THAN w_Operator_STARTING_WITH w_Operator_GREATER_THAN w_Operator_CONTAINING w_Operator_IS_NULL w_Operator_BETWEEN w_Operator_FALSE w_Operator_IS_NOT_NULL w_Operator_NOT_EQUALS w_Operator_NOT_LIKE w_Operator_NOT_CONTAINING w_Operator_GREATER_THAN_OR_EQUAL w_Operator_ENDING_WITH w_Operator_LESS_THAN_OR_EQUAL w_Operator_TRUE w_Operator_LIKE) :
    Con l Z (⟨"com/example/unfussy_repo/unfussyrepo/query/Operator", "takesCollection", "()Z"⟩ : MethodName) prog_53_method_5_code 1 (some .boolean) ({ frames := 0, cells := 0, slots := 0, locals := 0 } : Room) #[(.ref w_Operator_NOT_LIKE)] Z.heap (fun v h' L => v = some (.int 0) ∧ h' = Z.heap ∧ L = []) := by
  have hw := B.1
  obtain ⟨S_w_Operator_EQUALS, E_w_Operator_EQUALS, S_w_Operator_IN, E_w_Operator_IN, S_w_Operator_NOT_IN, E_w_Operator_NOT_IN, S_w_Operator_LESS_THAN, E_w_Operator_LESS_THAN, S_w_Operator_STARTING_WITH, E_w_Operator_STARTING_WITH, S_w_Operator_GREATER_THAN, E_w_Operator_GREATER_THAN, S_w_Operator_CONTAINING, E_w_Operator_CONTAINING, S_w_Operator_IS_NULL, E_w_Operator_IS_NULL, S_w_Operator_BETWEEN, E_w_Operator_BETWEEN, S_w_Operator_FALSE, E_w_Operator_FALSE, S_w_Operator_IS_NOT_NULL, E_w_Operator_IS_NOT_NULL, S_w_Operator_NOT_EQUALS, E_w_Operator_NOT_EQUALS, S_w_Operator_NOT_LIKE, E_w_Operator_NOT_LIKE, S_w_Operator_NOT_CONTAINING, E_w_Operator_NOT_CONTAINING, S_w_Operator_GREATER_THAN_OR_EQUAL, E_w_Operator_GREATER_THAN_OR_EQUAL, S_w_Operator_ENDING_WITH, E_w_Operator_ENDING_WITH, S_w_Operator_LESS_THAN_OR_EQUAL, E_w_Operator_LESS_THAN_OR_EQUAL, S_w_Operator_TRUE, E_w_Operator_TRUE, S_w_Operator_LIKE, E_w_Operator_LIKE, F_w_Operator_EQUALS_ordinal, F_w_Operator_IN_ordinal, F_w_Operator_NOT_IN_ordinal, F_w_Operator_LESS_THAN_ordinal, F_w_Operator_STARTING_WITH_ordinal, F_w_Operator_GREATER_THAN_ordinal, F_w_Operator_CONTAINING_ordinal, F_w_Operator_IS_NULL_ordinal, F_w_Operator_BETWEEN_ordinal, F_w_Operator_IN_arguments, F_w_Operator_FALSE_ordinal, F_w_Operator_IS_NOT_NULL_ordinal, F_w_Operator_NOT_EQUALS_ordinal, F_w_Operator_NOT_LIKE_ordinal, F_w_Operator_NOT_CONTAINING_ordinal, F_w_Operator_GREATER_THAN_OR_EQUAL_ordinal, F_w_Operator_ENDING_WITH_ordinal, F_w_Operator_LESS_THAN_OR_EQUAL_ordinal, F_w_Operator_TRUE_ordinal, F_w_Operator_NOT_IN_arguments, F_w_Operator_LIKE_ordinal, F_w_Operator_EQUALS_arguments, F_w_Operator_LESS_THAN_arguments, F_w_Operator_STARTING_WITH_arguments, F_w_Operator_GREATER_THAN_arguments, F_w_Operator_CONTAINING_arguments, F_w_Operator_IS_NULL_arguments, F_w_Operator_BETWEEN_arguments, F_w_Operator_FALSE_arguments, F_w_Operator_IS_NOT_NULL_arguments, F_w_Operator_NOT_EQUALS_arguments, F_w_Operator_NOT_LIKE_arguments, F_w_Operator_NOT_CONTAINING_arguments, F_w_Operator_GREATER_THAN_OR_EQUAL_arguments, F_w_Operator_ENDING_WITH_arguments, F_w_Operator_LESS_THAN_OR_EQUAL_arguments, F_w_Operator_TRUE_arguments, F_w_Operator_LIKE_arguments⟩ := B.2
  refine Con.of (plainFor_of_name pn2) (Ls := #[vR w_Operator_NOT_LIKE]) (fun _ => rfl) ?_
  intro p e s m below meth c T0 X0 H hml hZ hown hnm hret hlk e0
  refine gAloadN X0 H d2_0 rfl rfl 1 rfl ?_
  refine gGetS X0 H hZ hown (hw _ wd13) e0 S_w_Operator_IN d2_1 4 rfl ?_
  intro T117 X117 e117
  refine gAcmp X117 H d2_4 rfl rfl (same := false) (decide_eq_false fun q => (Fld.ne F_w_Operator_NOT_LIKE_ordinal F_w_Operator_IN_ordinal (by decide)) (Value.ref.inj q)) (by decide) 7 (by decide) ?_
  refine gAloadN X117 H d2_7 rfl rfl 8 rfl ?_
  refine gGetS X117 H hZ hown (hw _ wd15) e117 S_w_Operator_NOT_IN d2_8 11 rfl ?_
  intro T118 X118 e118
  refine gAcmp X118 H d2_11 rfl rfl (same := false) (decide_eq_false fun q => (Fld.ne F_w_Operator_NOT_LIKE_ordinal F_w_Operator_NOT_IN_ordinal (by decide)) (Value.ref.inj q)) (by decide) 18 (by decide) ?_
  refine gIconst X118 H d2_18 (z := 0) rfl 19 rfl ?_
  exact gRetN X118 H hlk hret (t := .boolean) (by simp) d2_19 e118 ⟨rfl, rfl, rfl⟩
theorem lawAll_14 (B : Bg Z a0 w_Operator_EQUALS w_Operator_IN w_Operator_NOT_IN w_Operator_LESS_THAN w_Operator_STARTING_WITH w_Operator_GREATER_THAN w_Operator_CONTAINING w_Operator_IS_NULL w_Operator_BETWEEN w_Operator_FALSE w_Operator_IS_NOT_NULL w_Operator_NOT_EQUALS w_Operator_NOT_LIKE w_Operator_NOT_CONTAINING w_Operator_GREATER_THAN_OR_EQUAL w_Operator_ENDING_WITH w_Operator_LESS_THAN_OR_EQUAL w_Operator_TRUE w_Operator_LIKE) (p0 : Int32) (ha0 : ((p0 &&& (2147483647 : Int32)) % (19 : Int32)) = (14 : Int32)) :
    Con l Z x code maxLocals ret room_1 #[(.int p0)] Z.heap (fun v h' L => v = some (.int 1) ∧ Fr Z.heap.size L) := by
  have hw := B.1
  obtain ⟨S_w_Operator_EQUALS, E_w_Operator_EQUALS, S_w_Operator_IN, E_w_Operator_IN, S_w_Operator_NOT_IN, E_w_Operator_NOT_IN, S_w_Operator_LESS_THAN, E_w_Operator_LESS_THAN, S_w_Operator_STARTING_WITH, E_w_Operator_STARTING_WITH, S_w_Operator_GREATER_THAN, E_w_Operator_GREATER_THAN, S_w_Operator_CONTAINING, E_w_Operator_CONTAINING, S_w_Operator_IS_NULL, E_w_Operator_IS_NULL, S_w_Operator_BETWEEN, E_w_Operator_BETWEEN, S_w_Operator_FALSE, E_w_Operator_FALSE, S_w_Operator_IS_NOT_NULL, E_w_Operator_IS_NOT_NULL, S_w_Operator_NOT_EQUALS, E_w_Operator_NOT_EQUALS, S_w_Operator_NOT_LIKE, E_w_Operator_NOT_LIKE, S_w_Operator_NOT_CONTAINING, E_w_Operator_NOT_CONTAINING, S_w_Operator_GREATER_THAN_OR_EQUAL, E_w_Operator_GREATER_THAN_OR_EQUAL, S_w_Operator_ENDING_WITH, E_w_Operator_ENDING_WITH, S_w_Operator_LESS_THAN_OR_EQUAL, E_w_Operator_LESS_THAN_OR_EQUAL, S_w_Operator_TRUE, E_w_Operator_TRUE, S_w_Operator_LIKE, E_w_Operator_LIKE, F_w_Operator_EQUALS_ordinal, F_w_Operator_IN_ordinal, F_w_Operator_NOT_IN_ordinal, F_w_Operator_LESS_THAN_ordinal, F_w_Operator_STARTING_WITH_ordinal, F_w_Operator_GREATER_THAN_ordinal, F_w_Operator_CONTAINING_ordinal, F_w_Operator_IS_NULL_ordinal, F_w_Operator_BETWEEN_ordinal, F_w_Operator_IN_arguments, F_w_Operator_FALSE_ordinal, F_w_Operator_IS_NOT_NULL_ordinal, F_w_Operator_NOT_EQUALS_ordinal, F_w_Operator_NOT_LIKE_ordinal, F_w_Operator_NOT_CONTAINING_ordinal, F_w_Operator_GREATER_THAN_OR_EQUAL_ordinal, F_w_Operator_ENDING_WITH_ordinal, F_w_Operator_LESS_THAN_OR_EQUAL_ordinal, F_w_Operator_TRUE_ordinal, F_w_Operator_NOT_IN_arguments, F_w_Operator_LIKE_ordinal, F_w_Operator_EQUALS_arguments, F_w_Operator_LESS_THAN_arguments, F_w_Operator_STARTING_WITH_arguments, F_w_Operator_GREATER_THAN_arguments, F_w_Operator_CONTAINING_arguments, F_w_Operator_IS_NULL_arguments, F_w_Operator_BETWEEN_arguments, F_w_Operator_FALSE_arguments, F_w_Operator_IS_NOT_NULL_arguments, F_w_Operator_NOT_EQUALS_arguments, F_w_Operator_NOT_LIKE_arguments, F_w_Operator_NOT_CONTAINING_arguments, F_w_Operator_GREATER_THAN_OR_EQUAL_arguments, F_w_Operator_ENDING_WITH_arguments, F_w_Operator_LESS_THAN_OR_EQUAL_arguments, F_w_Operator_TRUE_arguments, F_w_Operator_LIKE_arguments⟩ := B.2
  refine Con.of (plainFor_of_name pn0) (Ls := #[vI p0, .unset, .unset, .unset, .unset]) (fun _ => rfl) ?_
  intro p e s m below meth c T0 X0 H hml hZ hown hnm hret hlk e0
  refine gIloadN X0 H at_0 rfl 1 rfl ?_
  refine gLdc X0 H hZ hown (hw _ wd0) at_1 3 rfl ?_
  refine g_iand X0 H at_3 (z := (p0 &&& (2147483647 : Int32))) rfl 4 rfl ?_
  refine gBipush X0 H at_4 (z := 19) rfl 6 rfl ?_
  refine g_irem X0 H at_6 (by decide) (z := 14) ha0 7 rfl ?_
  refine gIstoreN X0 H at_7 (Ls' := #[vI p0, vI 14, .unset, .unset, .unset]) rfl 8 rfl ?_
  refine gIloadN X0 H at_8 rfl 9 rfl ?_
  refine gStatic X0 H hZ hown (hw _ wd1) (hw _ wd2) (by decide) (hw _ wd4) (hw _ wd3) (rm115_1 B) e0 hml rfl pd0 rfl (W := 0) (argsL := [(.int 14)]) (rest := []) rfl rfl at_9 12 rfl ?_
  intro v116 T116 L116 hq116 X116
  obtain ⟨rfl, e116, rfl⟩ := hq116
  show Go _ _ _ _ (State.setTop _ (mkF _ 12 _ [(.ref w_Operator_NOT_LIKE)]))
  refine gAstoreN X116 H at_12 rfl (Ls' := #[vI p0, vI 14, vR w_Operator_NOT_LIKE, .unset, .unset]) rfl 13 rfl ?_
  refine gAloadN X116 H at_13 rfl rfl 14 rfl ?_
  refine gVirt X116 H hZ hown (hw _ wd8) (hw _ wd9) (hw _ wd11) (hw _ wd10) (by decide) E_w_Operator_NOT_LIKE (hw _ wd12) (hw _ wd6) (rm119_2 B) e116 hml rfl pd1 rfl (W := 0) (argsL := []) (rest := []) rfl rfl at_14 17 rfl ?_
  intro v120 T120 L120 hq120 X120
  obtain ⟨rfl, e120, rfl⟩ := hq120
  show Go _ _ _ _ (State.setTop _ (mkF _ 17 _ [(.int 0)]))
  refine gIstoreN X120 H at_17 (Ls' := #[vI p0, vI 14, vR w_Operator_NOT_LIKE, vI 0, .unset]) rfl 18 rfl ?_
  refine gIloadN X120 H at_18 rfl 19 rfl ?_
  refine gBipush X120 H at_19 (z := 11) rfl 21 rfl ?_
  refine gCmpN X120 H at_21 (by decide) 24 rfl ?_
  refine gIloadN X120 H at_24 rfl 25 rfl ?_
  refine gBipush X120 H at_25 (z := 12) rfl 27 rfl ?_
  refine gCmpY X120 H at_27 (by decide) (by decide) 34 rfl ?_
  refine gIconst X120 H at_34 (z := 0) rfl 35 rfl ?_
  refine gIstore X120 H at_35 (Ls' := #[vI p0, vI 14, vR w_Operator_NOT_LIKE, vI 0, vI 0]) rfl 37 rfl ?_
  refine gIloadN X120 H at_37 rfl 38 rfl ?_
  refine gIload X120 H at_38 rfl 40 rfl ?_
  refine gCmpY X120 H at_40 (by decide) (by decide) 45 rfl ?_
  refine gIloadN X120 H at_45 rfl 46 rfl ?_
  refine gIfY X120 H at_46 (by decide) (by decide) 70 rfl ?_
  refine gIconst X120 H at_70 (z := 1) rfl 71 rfl ?_
  exact gRetN X120 H hlk hret (t := .boolean) (by simp) at_71 e120 ⟨rfl, Fr.nil _⟩
theorem rm122_1 (B : Bg Z a0 w_Operator_EQUALS w_Operator_IN w_Operator_NOT_IN w_Operator_LESS_THAN w_Operator_STARTING_WITH w_Operator_GREATER_THAN w_Operator_CONTAINING w_Operator_IS_NULL w_Operator_BETWEEN w_Operator_FALSE w_Operator_IS_NOT_NULL w_Operator_NOT_EQUALS w_Operator_NOT_LIKE w_Operator_NOT_CONTAINING w_Operator_GREATER_THAN_OR_EQUAL w_Operator_ENDING_WITH w_Operator_LESS_THAN_OR_EQUAL w_Operator_TRUE w_Operator_LIKE) :
    Con l Z (⟨"com/example/unfussy_repo/unfussyrepo/query/OperatorTakesCollectionPinLaw", "pick", "(I)Lcom/example/unfussy_repo/unfussyrepo/query/Operator;"⟩ : MethodName) method_2_code 1 (some (.object "com/example/unfussy_repo/unfussyrepo/query/Operator")) ({ frames := 0, cells := 0, slots := 0, locals := 0 } : Room) #[(.int 15)] Z.heap (fun v h' L => v = some (.ref w_Operator_STARTING_WITH) ∧ h' = Z.heap ∧ L = []) := by
  have hw := B.1
  obtain ⟨S_w_Operator_EQUALS, E_w_Operator_EQUALS, S_w_Operator_IN, E_w_Operator_IN, S_w_Operator_NOT_IN, E_w_Operator_NOT_IN, S_w_Operator_LESS_THAN, E_w_Operator_LESS_THAN, S_w_Operator_STARTING_WITH, E_w_Operator_STARTING_WITH, S_w_Operator_GREATER_THAN, E_w_Operator_GREATER_THAN, S_w_Operator_CONTAINING, E_w_Operator_CONTAINING, S_w_Operator_IS_NULL, E_w_Operator_IS_NULL, S_w_Operator_BETWEEN, E_w_Operator_BETWEEN, S_w_Operator_FALSE, E_w_Operator_FALSE, S_w_Operator_IS_NOT_NULL, E_w_Operator_IS_NOT_NULL, S_w_Operator_NOT_EQUALS, E_w_Operator_NOT_EQUALS, S_w_Operator_NOT_LIKE, E_w_Operator_NOT_LIKE, S_w_Operator_NOT_CONTAINING, E_w_Operator_NOT_CONTAINING, S_w_Operator_GREATER_THAN_OR_EQUAL, E_w_Operator_GREATER_THAN_OR_EQUAL, S_w_Operator_ENDING_WITH, E_w_Operator_ENDING_WITH, S_w_Operator_LESS_THAN_OR_EQUAL, E_w_Operator_LESS_THAN_OR_EQUAL, S_w_Operator_TRUE, E_w_Operator_TRUE, S_w_Operator_LIKE, E_w_Operator_LIKE, F_w_Operator_EQUALS_ordinal, F_w_Operator_IN_ordinal, F_w_Operator_NOT_IN_ordinal, F_w_Operator_LESS_THAN_ordinal, F_w_Operator_STARTING_WITH_ordinal, F_w_Operator_GREATER_THAN_ordinal, F_w_Operator_CONTAINING_ordinal, F_w_Operator_IS_NULL_ordinal, F_w_Operator_BETWEEN_ordinal, F_w_Operator_IN_arguments, F_w_Operator_FALSE_ordinal, F_w_Operator_IS_NOT_NULL_ordinal, F_w_Operator_NOT_EQUALS_ordinal, F_w_Operator_NOT_LIKE_ordinal, F_w_Operator_NOT_CONTAINING_ordinal, F_w_Operator_GREATER_THAN_OR_EQUAL_ordinal, F_w_Operator_ENDING_WITH_ordinal, F_w_Operator_LESS_THAN_OR_EQUAL_ordinal, F_w_Operator_TRUE_ordinal, F_w_Operator_NOT_IN_arguments, F_w_Operator_LIKE_ordinal, F_w_Operator_EQUALS_arguments, F_w_Operator_LESS_THAN_arguments, F_w_Operator_STARTING_WITH_arguments, F_w_Operator_GREATER_THAN_arguments, F_w_Operator_CONTAINING_arguments, F_w_Operator_IS_NULL_arguments, F_w_Operator_BETWEEN_arguments, F_w_Operator_FALSE_arguments, F_w_Operator_IS_NOT_NULL_arguments, F_w_Operator_NOT_EQUALS_arguments, F_w_Operator_NOT_LIKE_arguments, F_w_Operator_NOT_CONTAINING_arguments, F_w_Operator_GREATER_THAN_OR_EQUAL_arguments, F_w_Operator_ENDING_WITH_arguments, F_w_Operator_LESS_THAN_OR_EQUAL_arguments, F_w_Operator_TRUE_arguments, F_w_Operator_LIKE_arguments⟩ := B.2
  refine Con.of (plainFor_of_name pn1) (Ls := #[vI 15]) (fun _ => rfl) ?_
  intro p e s m below meth c T0 X0 H hml hZ hown hnm hret hlk e0
  refine gIloadN X0 H d1_0 rfl 1 rfl ?_
  refine gIfY X0 H d1_1 (by decide) (by decide) 8 rfl ?_
  refine gIloadN X0 H d1_8 rfl 9 rfl ?_
  refine gIconst X0 H d1_9 (z := 1) rfl 10 rfl ?_
  refine gCmpY X0 H d1_10 (by decide) (by decide) 17 rfl ?_
  refine gIloadN X0 H d1_17 rfl 18 rfl ?_
  refine gIconst X0 H d1_18 (z := 2) rfl 19 rfl ?_
  refine gCmpY X0 H d1_19 (by decide) (by decide) 26 rfl ?_
  refine gIloadN X0 H d1_26 rfl 27 rfl ?_
  refine gIconst X0 H d1_27 (z := 3) rfl 28 rfl ?_
  refine gCmpY X0 H d1_28 (by decide) (by decide) 35 rfl ?_
  refine gIloadN X0 H d1_35 rfl 36 rfl ?_
  refine gIconst X0 H d1_36 (z := 4) rfl 37 rfl ?_
  refine gCmpY X0 H d1_37 (by decide) (by decide) 44 rfl ?_
  refine gIloadN X0 H d1_44 rfl 45 rfl ?_
  refine gIconst X0 H d1_45 (z := 5) rfl 46 rfl ?_
  refine gCmpY X0 H d1_46 (by decide) (by decide) 53 rfl ?_
  refine gIloadN X0 H d1_53 rfl 54 rfl ?_
  refine gBipush X0 H d1_54 (z := 6) rfl 56 rfl ?_
  refine gCmpY X0 H d1_56 (by decide) (by decide) 63 rfl ?_
  refine gIloadN X0 H d1_63 rfl 64 rfl ?_
  refine gBipush X0 H d1_64 (z := 7) rfl 66 rfl ?_
  refine gCmpY X0 H d1_66 (by decide) (by decide) 73 rfl ?_
  refine gIloadN X0 H d1_73 rfl 74 rfl ?_
  refine gBipush X0 H d1_74 (z := 8) rfl 76 rfl ?_
  refine gCmpY X0 H d1_76 (by decide) (by decide) 83 rfl ?_
  refine gIloadN X0 H d1_83 rfl 84 rfl ?_
  refine gBipush X0 H d1_84 (z := 9) rfl 86 rfl ?_
  refine gCmpY X0 H d1_86 (by decide) (by decide) 93 rfl ?_
  refine gIloadN X0 H d1_93 rfl 94 rfl ?_
  refine gBipush X0 H d1_94 (z := 10) rfl 96 rfl ?_
  refine gCmpY X0 H d1_96 (by decide) (by decide) 103 rfl ?_
  refine gIloadN X0 H d1_103 rfl 104 rfl ?_
  refine gBipush X0 H d1_104 (z := 11) rfl 106 rfl ?_
  refine gCmpY X0 H d1_106 (by decide) (by decide) 113 rfl ?_
  refine gIloadN X0 H d1_113 rfl 114 rfl ?_
  refine gBipush X0 H d1_114 (z := 12) rfl 116 rfl ?_
  refine gCmpY X0 H d1_116 (by decide) (by decide) 123 rfl ?_
  refine gIloadN X0 H d1_123 rfl 124 rfl ?_
  refine gBipush X0 H d1_124 (z := 13) rfl 126 rfl ?_
  refine gCmpY X0 H d1_126 (by decide) (by decide) 133 rfl ?_
  refine gIloadN X0 H d1_133 rfl 134 rfl ?_
  refine gBipush X0 H d1_134 (z := 14) rfl 136 rfl ?_
  refine gCmpY X0 H d1_136 (by decide) (by decide) 143 rfl ?_
  refine gIloadN X0 H d1_143 rfl 144 rfl ?_
  refine gBipush X0 H d1_144 (z := 15) rfl 146 rfl ?_
  refine gCmpN X0 H d1_146 (by decide) 149 rfl ?_
  refine gGetS X0 H hZ hown (hw _ wd19) e0 S_w_Operator_STARTING_WITH d1_149 152 rfl ?_
  intro T121 X121 e121
  exact gRetA X121 H hlk hret rfl rfl rfl d1_152 e121 ⟨rfl, rfl, rfl⟩
theorem rm126_2 (B : Bg Z a0 w_Operator_EQUALS w_Operator_IN w_Operator_NOT_IN w_Operator_LESS_THAN w_Operator_STARTING_WITH w_Operator_GREATER_THAN w_Operator_CONTAINING w_Operator_IS_NULL w_Operator_BETWEEN w_Operator_FALSE w_Operator_IS_NOT_NULL w_Operator_NOT_EQUALS w_Operator_NOT_LIKE w_Operator_NOT_CONTAINING w_Operator_GREATER_THAN_OR_EQUAL w_Operator_ENDING_WITH w_Operator_LESS_THAN_OR_EQUAL w_Operator_TRUE w_Operator_LIKE) :
    Con l Z (⟨"com/example/unfussy_repo/unfussyrepo/query/Operator", "takesCollection", "()Z"⟩ : MethodName) prog_53_method_5_code 1 (some .boolean) ({ frames := 0, cells := 0, slots := 0, locals := 0 } : Room) #[(.ref w_Operator_STARTING_WITH)] Z.heap (fun v h' L => v = some (.int 0) ∧ h' = Z.heap ∧ L = []) := by
  have hw := B.1
  obtain ⟨S_w_Operator_EQUALS, E_w_Operator_EQUALS, S_w_Operator_IN, E_w_Operator_IN, S_w_Operator_NOT_IN, E_w_Operator_NOT_IN, S_w_Operator_LESS_THAN, E_w_Operator_LESS_THAN, S_w_Operator_STARTING_WITH, E_w_Operator_STARTING_WITH, S_w_Operator_GREATER_THAN, E_w_Operator_GREATER_THAN, S_w_Operator_CONTAINING, E_w_Operator_CONTAINING, S_w_Operator_IS_NULL, E_w_Operator_IS_NULL, S_w_Operator_BETWEEN, E_w_Operator_BETWEEN, S_w_Operator_FALSE, E_w_Operator_FALSE, S_w_Operator_IS_NOT_NULL, E_w_Operator_IS_NOT_NULL, S_w_Operator_NOT_EQUALS, E_w_Operator_NOT_EQUALS, S_w_Operator_NOT_LIKE, E_w_Operator_NOT_LIKE, S_w_Operator_NOT_CONTAINING, E_w_Operator_NOT_CONTAINING, S_w_Operator_GREATER_THAN_OR_EQUAL, E_w_Operator_GREATER_THAN_OR_EQUAL, S_w_Operator_ENDING_WITH, E_w_Operator_ENDING_WITH, S_w_Operator_LESS_THAN_OR_EQUAL, E_w_Operator_LESS_THAN_OR_EQUAL, S_w_Operator_TRUE, E_w_Operator_TRUE, S_w_Operator_LIKE, E_w_Operator_LIKE, F_w_Operator_EQUALS_ordinal, F_w_Operator_IN_ordinal, F_w_Operator_NOT_IN_ordinal, F_w_Operator_LESS_THAN_ordinal, F_w_Operator_STARTING_WITH_ordinal, F_w_Operator_GREATER_THAN_ordinal, F_w_Operator_CONTAINING_ordinal, F_w_Operator_IS_NULL_ordinal, F_w_Operator_BETWEEN_ordinal, F_w_Operator_IN_arguments, F_w_Operator_FALSE_ordinal, F_w_Operator_IS_NOT_NULL_ordinal, F_w_Operator_NOT_EQUALS_ordinal, F_w_Operator_NOT_LIKE_ordinal, F_w_Operator_NOT_CONTAINING_ordinal, F_w_Operator_GREATER_THAN_OR_EQUAL_ordinal, F_w_Operator_ENDING_WITH_ordinal, F_w_Operator_LESS_THAN_OR_EQUAL_ordinal, F_w_Operator_TRUE_ordinal, F_w_Operator_NOT_IN_arguments, F_w_Operator_LIKE_ordinal, F_w_Operator_EQUALS_arguments, F_w_Operator_LESS_THAN_arguments, F_w_Operator_STARTING_WITH_arguments, F_w_Operator_GREATER_THAN_arguments, F_w_Operator_CONTAINING_arguments, F_w_Operator_IS_NULL_arguments, F_w_Operator_BETWEEN_arguments, F_w_Operator_FALSE_arguments, F_w_Operator_IS_NOT_NULL_arguments, F_w_Operator_NOT_EQUALS_arguments, F_w_Operator_NOT_LIKE_arguments, F_w_Operator_NOT_CONTAINING_arguments, F_w_Operator_GREATER_THAN_OR_EQUAL_arguments, F_w_Operator_ENDING_WITH_arguments, F_w_Operator_LESS_THAN_OR_EQUAL_arguments, F_w_Operator_TRUE_arguments, F_w_Operator_LIKE_arguments⟩ := B.2
  refine Con.of (plainFor_of_name pn2) (Ls := #[vR w_Operator_STARTING_WITH]) (fun _ => rfl) ?_
  intro p e s m below meth c T0 X0 H hml hZ hown hnm hret hlk e0
  refine gAloadN X0 H d2_0 rfl rfl 1 rfl ?_
  refine gGetS X0 H hZ hown (hw _ wd13) e0 S_w_Operator_IN d2_1 4 rfl ?_
  intro T124 X124 e124
  refine gAcmp X124 H d2_4 rfl rfl (same := false) (decide_eq_false fun q => (Fld.ne F_w_Operator_STARTING_WITH_ordinal F_w_Operator_IN_ordinal (by decide)) (Value.ref.inj q)) (by decide) 7 (by decide) ?_
  refine gAloadN X124 H d2_7 rfl rfl 8 rfl ?_
  refine gGetS X124 H hZ hown (hw _ wd15) e124 S_w_Operator_NOT_IN d2_8 11 rfl ?_
  intro T125 X125 e125
  refine gAcmp X125 H d2_11 rfl rfl (same := false) (decide_eq_false fun q => (Fld.ne F_w_Operator_STARTING_WITH_ordinal F_w_Operator_NOT_IN_ordinal (by decide)) (Value.ref.inj q)) (by decide) 18 (by decide) ?_
  refine gIconst X125 H d2_18 (z := 0) rfl 19 rfl ?_
  exact gRetN X125 H hlk hret (t := .boolean) (by simp) d2_19 e125 ⟨rfl, rfl, rfl⟩
theorem lawAll_15 (B : Bg Z a0 w_Operator_EQUALS w_Operator_IN w_Operator_NOT_IN w_Operator_LESS_THAN w_Operator_STARTING_WITH w_Operator_GREATER_THAN w_Operator_CONTAINING w_Operator_IS_NULL w_Operator_BETWEEN w_Operator_FALSE w_Operator_IS_NOT_NULL w_Operator_NOT_EQUALS w_Operator_NOT_LIKE w_Operator_NOT_CONTAINING w_Operator_GREATER_THAN_OR_EQUAL w_Operator_ENDING_WITH w_Operator_LESS_THAN_OR_EQUAL w_Operator_TRUE w_Operator_LIKE) (p0 : Int32) (ha0 : ((p0 &&& (2147483647 : Int32)) % (19 : Int32)) = (15 : Int32)) :
    Con l Z x code maxLocals ret room_1 #[(.int p0)] Z.heap (fun v h' L => v = some (.int 1) ∧ Fr Z.heap.size L) := by
  have hw := B.1
  obtain ⟨S_w_Operator_EQUALS, E_w_Operator_EQUALS, S_w_Operator_IN, E_w_Operator_IN, S_w_Operator_NOT_IN, E_w_Operator_NOT_IN, S_w_Operator_LESS_THAN, E_w_Operator_LESS_THAN, S_w_Operator_STARTING_WITH, E_w_Operator_STARTING_WITH, S_w_Operator_GREATER_THAN, E_w_Operator_GREATER_THAN, S_w_Operator_CONTAINING, E_w_Operator_CONTAINING, S_w_Operator_IS_NULL, E_w_Operator_IS_NULL, S_w_Operator_BETWEEN, E_w_Operator_BETWEEN, S_w_Operator_FALSE, E_w_Operator_FALSE, S_w_Operator_IS_NOT_NULL, E_w_Operator_IS_NOT_NULL, S_w_Operator_NOT_EQUALS, E_w_Operator_NOT_EQUALS, S_w_Operator_NOT_LIKE, E_w_Operator_NOT_LIKE, S_w_Operator_NOT_CONTAINING, E_w_Operator_NOT_CONTAINING, S_w_Operator_GREATER_THAN_OR_EQUAL, E_w_Operator_GREATER_THAN_OR_EQUAL, S_w_Operator_ENDING_WITH, E_w_Operator_ENDING_WITH, S_w_Operator_LESS_THAN_OR_EQUAL, E_w_Operator_LESS_THAN_OR_EQUAL, S_w_Operator_TRUE, E_w_Operator_TRUE, S_w_Operator_LIKE, E_w_Operator_LIKE, F_w_Operator_EQUALS_ordinal, F_w_Operator_IN_ordinal, F_w_Operator_NOT_IN_ordinal, F_w_Operator_LESS_THAN_ordinal, F_w_Operator_STARTING_WITH_ordinal, F_w_Operator_GREATER_THAN_ordinal, F_w_Operator_CONTAINING_ordinal, F_w_Operator_IS_NULL_ordinal, F_w_Operator_BETWEEN_ordinal, F_w_Operator_IN_arguments, F_w_Operator_FALSE_ordinal, F_w_Operator_IS_NOT_NULL_ordinal, F_w_Operator_NOT_EQUALS_ordinal, F_w_Operator_NOT_LIKE_ordinal, F_w_Operator_NOT_CONTAINING_ordinal, F_w_Operator_GREATER_THAN_OR_EQUAL_ordinal, F_w_Operator_ENDING_WITH_ordinal, F_w_Operator_LESS_THAN_OR_EQUAL_ordinal, F_w_Operator_TRUE_ordinal, F_w_Operator_NOT_IN_arguments, F_w_Operator_LIKE_ordinal, F_w_Operator_EQUALS_arguments, F_w_Operator_LESS_THAN_arguments, F_w_Operator_STARTING_WITH_arguments, F_w_Operator_GREATER_THAN_arguments, F_w_Operator_CONTAINING_arguments, F_w_Operator_IS_NULL_arguments, F_w_Operator_BETWEEN_arguments, F_w_Operator_FALSE_arguments, F_w_Operator_IS_NOT_NULL_arguments, F_w_Operator_NOT_EQUALS_arguments, F_w_Operator_NOT_LIKE_arguments, F_w_Operator_NOT_CONTAINING_arguments, F_w_Operator_GREATER_THAN_OR_EQUAL_arguments, F_w_Operator_ENDING_WITH_arguments, F_w_Operator_LESS_THAN_OR_EQUAL_arguments, F_w_Operator_TRUE_arguments, F_w_Operator_LIKE_arguments⟩ := B.2
  refine Con.of (plainFor_of_name pn0) (Ls := #[vI p0, .unset, .unset, .unset, .unset]) (fun _ => rfl) ?_
  intro p e s m below meth c T0 X0 H hml hZ hown hnm hret hlk e0
  refine gIloadN X0 H at_0 rfl 1 rfl ?_
  refine gLdc X0 H hZ hown (hw _ wd0) at_1 3 rfl ?_
  refine g_iand X0 H at_3 (z := (p0 &&& (2147483647 : Int32))) rfl 4 rfl ?_
  refine gBipush X0 H at_4 (z := 19) rfl 6 rfl ?_
  refine g_irem X0 H at_6 (by decide) (z := 15) ha0 7 rfl ?_
  refine gIstoreN X0 H at_7 (Ls' := #[vI p0, vI 15, .unset, .unset, .unset]) rfl 8 rfl ?_
  refine gIloadN X0 H at_8 rfl 9 rfl ?_
  refine gStatic X0 H hZ hown (hw _ wd1) (hw _ wd2) (by decide) (hw _ wd4) (hw _ wd3) (rm122_1 B) e0 hml rfl pd0 rfl (W := 0) (argsL := [(.int 15)]) (rest := []) rfl rfl at_9 12 rfl ?_
  intro v123 T123 L123 hq123 X123
  obtain ⟨rfl, e123, rfl⟩ := hq123
  show Go _ _ _ _ (State.setTop _ (mkF _ 12 _ [(.ref w_Operator_STARTING_WITH)]))
  refine gAstoreN X123 H at_12 rfl (Ls' := #[vI p0, vI 15, vR w_Operator_STARTING_WITH, .unset, .unset]) rfl 13 rfl ?_
  refine gAloadN X123 H at_13 rfl rfl 14 rfl ?_
  refine gVirt X123 H hZ hown (hw _ wd8) (hw _ wd9) (hw _ wd11) (hw _ wd10) (by decide) E_w_Operator_STARTING_WITH (hw _ wd12) (hw _ wd6) (rm126_2 B) e123 hml rfl pd1 rfl (W := 0) (argsL := []) (rest := []) rfl rfl at_14 17 rfl ?_
  intro v127 T127 L127 hq127 X127
  obtain ⟨rfl, e127, rfl⟩ := hq127
  show Go _ _ _ _ (State.setTop _ (mkF _ 17 _ [(.int 0)]))
  refine gIstoreN X127 H at_17 (Ls' := #[vI p0, vI 15, vR w_Operator_STARTING_WITH, vI 0, .unset]) rfl 18 rfl ?_
  refine gIloadN X127 H at_18 rfl 19 rfl ?_
  refine gBipush X127 H at_19 (z := 11) rfl 21 rfl ?_
  refine gCmpN X127 H at_21 (by decide) 24 rfl ?_
  refine gIloadN X127 H at_24 rfl 25 rfl ?_
  refine gBipush X127 H at_25 (z := 12) rfl 27 rfl ?_
  refine gCmpY X127 H at_27 (by decide) (by decide) 34 rfl ?_
  refine gIconst X127 H at_34 (z := 0) rfl 35 rfl ?_
  refine gIstore X127 H at_35 (Ls' := #[vI p0, vI 15, vR w_Operator_STARTING_WITH, vI 0, vI 0]) rfl 37 rfl ?_
  refine gIloadN X127 H at_37 rfl 38 rfl ?_
  refine gIload X127 H at_38 rfl 40 rfl ?_
  refine gCmpY X127 H at_40 (by decide) (by decide) 45 rfl ?_
  refine gIloadN X127 H at_45 rfl 46 rfl ?_
  refine gIfY X127 H at_46 (by decide) (by decide) 70 rfl ?_
  refine gIconst X127 H at_70 (z := 1) rfl 71 rfl ?_
  exact gRetN X127 H hlk hret (t := .boolean) (by simp) at_71 e127 ⟨rfl, Fr.nil _⟩
theorem rm129_1 (B : Bg Z a0 w_Operator_EQUALS w_Operator_IN w_Operator_NOT_IN w_Operator_LESS_THAN w_Operator_STARTING_WITH w_Operator_GREATER_THAN w_Operator_CONTAINING w_Operator_IS_NULL w_Operator_BETWEEN w_Operator_FALSE w_Operator_IS_NOT_NULL w_Operator_NOT_EQUALS w_Operator_NOT_LIKE w_Operator_NOT_CONTAINING w_Operator_GREATER_THAN_OR_EQUAL w_Operator_ENDING_WITH w_Operator_LESS_THAN_OR_EQUAL w_Operator_TRUE w_Operator_LIKE) :
    Con l Z (⟨"com/example/unfussy_repo/unfussyrepo/query/OperatorTakesCollectionPinLaw", "pick", "(I)Lcom/example/unfussy_repo/unfussyrepo/query/Operator;"⟩ : MethodName) method_2_code 1 (some (.object "com/example/unfussy_repo/unfussyrepo/query/Operator")) ({ frames := 0, cells := 0, slots := 0, locals := 0 } : Room) #[(.int 16)] Z.heap (fun v h' L => v = some (.ref w_Operator_ENDING_WITH) ∧ h' = Z.heap ∧ L = []) := by
  have hw := B.1
  obtain ⟨S_w_Operator_EQUALS, E_w_Operator_EQUALS, S_w_Operator_IN, E_w_Operator_IN, S_w_Operator_NOT_IN, E_w_Operator_NOT_IN, S_w_Operator_LESS_THAN, E_w_Operator_LESS_THAN, S_w_Operator_STARTING_WITH, E_w_Operator_STARTING_WITH, S_w_Operator_GREATER_THAN, E_w_Operator_GREATER_THAN, S_w_Operator_CONTAINING, E_w_Operator_CONTAINING, S_w_Operator_IS_NULL, E_w_Operator_IS_NULL, S_w_Operator_BETWEEN, E_w_Operator_BETWEEN, S_w_Operator_FALSE, E_w_Operator_FALSE, S_w_Operator_IS_NOT_NULL, E_w_Operator_IS_NOT_NULL, S_w_Operator_NOT_EQUALS, E_w_Operator_NOT_EQUALS, S_w_Operator_NOT_LIKE, E_w_Operator_NOT_LIKE, S_w_Operator_NOT_CONTAINING, E_w_Operator_NOT_CONTAINING, S_w_Operator_GREATER_THAN_OR_EQUAL, E_w_Operator_GREATER_THAN_OR_EQUAL, S_w_Operator_ENDING_WITH, E_w_Operator_ENDING_WITH, S_w_Operator_LESS_THAN_OR_EQUAL, E_w_Operator_LESS_THAN_OR_EQUAL, S_w_Operator_TRUE, E_w_Operator_TRUE, S_w_Operator_LIKE, E_w_Operator_LIKE, F_w_Operator_EQUALS_ordinal, F_w_Operator_IN_ordinal, F_w_Operator_NOT_IN_ordinal, F_w_Operator_LESS_THAN_ordinal, F_w_Operator_STARTING_WITH_ordinal, F_w_Operator_GREATER_THAN_ordinal, F_w_Operator_CONTAINING_ordinal, F_w_Operator_IS_NULL_ordinal, F_w_Operator_BETWEEN_ordinal, F_w_Operator_IN_arguments, F_w_Operator_FALSE_ordinal, F_w_Operator_IS_NOT_NULL_ordinal, F_w_Operator_NOT_EQUALS_ordinal, F_w_Operator_NOT_LIKE_ordinal, F_w_Operator_NOT_CONTAINING_ordinal, F_w_Operator_GREATER_THAN_OR_EQUAL_ordinal, F_w_Operator_ENDING_WITH_ordinal, F_w_Operator_LESS_THAN_OR_EQUAL_ordinal, F_w_Operator_TRUE_ordinal, F_w_Operator_NOT_IN_arguments, F_w_Operator_LIKE_ordinal, F_w_Operator_EQUALS_arguments, F_w_Operator_LESS_THAN_arguments, F_w_Operator_STARTING_WITH_arguments, F_w_Operator_GREATER_THAN_arguments, F_w_Operator_CONTAINING_arguments, F_w_Operator_IS_NULL_arguments, F_w_Operator_BETWEEN_arguments, F_w_Operator_FALSE_arguments, F_w_Operator_IS_NOT_NULL_arguments, F_w_Operator_NOT_EQUALS_arguments, F_w_Operator_NOT_LIKE_arguments, F_w_Operator_NOT_CONTAINING_arguments, F_w_Operator_GREATER_THAN_OR_EQUAL_arguments, F_w_Operator_ENDING_WITH_arguments, F_w_Operator_LESS_THAN_OR_EQUAL_arguments, F_w_Operator_TRUE_arguments, F_w_Operator_LIKE_arguments⟩ := B.2
  refine Con.of (plainFor_of_name pn1) (Ls := #[vI 16]) (fun _ => rfl) ?_
  intro p e s m below meth c T0 X0 H hml hZ hown hnm hret hlk e0
  refine gIloadN X0 H d1_0 rfl 1 rfl ?_
  refine gIfY X0 H d1_1 (by decide) (by decide) 8 rfl ?_
  refine gIloadN X0 H d1_8 rfl 9 rfl ?_
  refine gIconst X0 H d1_9 (z := 1) rfl 10 rfl ?_
  refine gCmpY X0 H d1_10 (by decide) (by decide) 17 rfl ?_
  refine gIloadN X0 H d1_17 rfl 18 rfl ?_
  refine gIconst X0 H d1_18 (z := 2) rfl 19 rfl ?_
  refine gCmpY X0 H d1_19 (by decide) (by decide) 26 rfl ?_
  refine gIloadN X0 H d1_26 rfl 27 rfl ?_
  refine gIconst X0 H d1_27 (z := 3) rfl 28 rfl ?_
  refine gCmpY X0 H d1_28 (by decide) (by decide) 35 rfl ?_
  refine gIloadN X0 H d1_35 rfl 36 rfl ?_
  refine gIconst X0 H d1_36 (z := 4) rfl 37 rfl ?_
  refine gCmpY X0 H d1_37 (by decide) (by decide) 44 rfl ?_
  refine gIloadN X0 H d1_44 rfl 45 rfl ?_
  refine gIconst X0 H d1_45 (z := 5) rfl 46 rfl ?_
  refine gCmpY X0 H d1_46 (by decide) (by decide) 53 rfl ?_
  refine gIloadN X0 H d1_53 rfl 54 rfl ?_
  refine gBipush X0 H d1_54 (z := 6) rfl 56 rfl ?_
  refine gCmpY X0 H d1_56 (by decide) (by decide) 63 rfl ?_
  refine gIloadN X0 H d1_63 rfl 64 rfl ?_
  refine gBipush X0 H d1_64 (z := 7) rfl 66 rfl ?_
  refine gCmpY X0 H d1_66 (by decide) (by decide) 73 rfl ?_
  refine gIloadN X0 H d1_73 rfl 74 rfl ?_
  refine gBipush X0 H d1_74 (z := 8) rfl 76 rfl ?_
  refine gCmpY X0 H d1_76 (by decide) (by decide) 83 rfl ?_
  refine gIloadN X0 H d1_83 rfl 84 rfl ?_
  refine gBipush X0 H d1_84 (z := 9) rfl 86 rfl ?_
  refine gCmpY X0 H d1_86 (by decide) (by decide) 93 rfl ?_
  refine gIloadN X0 H d1_93 rfl 94 rfl ?_
  refine gBipush X0 H d1_94 (z := 10) rfl 96 rfl ?_
  refine gCmpY X0 H d1_96 (by decide) (by decide) 103 rfl ?_
  refine gIloadN X0 H d1_103 rfl 104 rfl ?_
  refine gBipush X0 H d1_104 (z := 11) rfl 106 rfl ?_
  refine gCmpY X0 H d1_106 (by decide) (by decide) 113 rfl ?_
  refine gIloadN X0 H d1_113 rfl 114 rfl ?_
  refine gBipush X0 H d1_114 (z := 12) rfl 116 rfl ?_
  refine gCmpY X0 H d1_116 (by decide) (by decide) 123 rfl ?_
  refine gIloadN X0 H d1_123 rfl 124 rfl ?_
  refine gBipush X0 H d1_124 (z := 13) rfl 126 rfl ?_
  refine gCmpY X0 H d1_126 (by decide) (by decide) 133 rfl ?_
  refine gIloadN X0 H d1_133 rfl 134 rfl ?_
  refine gBipush X0 H d1_134 (z := 14) rfl 136 rfl ?_
  refine gCmpY X0 H d1_136 (by decide) (by decide) 143 rfl ?_
  refine gIloadN X0 H d1_143 rfl 144 rfl ?_
  refine gBipush X0 H d1_144 (z := 15) rfl 146 rfl ?_
  refine gCmpY X0 H d1_146 (by decide) (by decide) 153 rfl ?_
  refine gIloadN X0 H d1_153 rfl 154 rfl ?_
  refine gBipush X0 H d1_154 (z := 16) rfl 156 rfl ?_
  refine gCmpN X0 H d1_156 (by decide) 159 rfl ?_
  refine gGetS X0 H hZ hown (hw _ wd63) e0 S_w_Operator_ENDING_WITH d1_159 162 rfl ?_
  intro T128 X128 e128
  exact gRetA X128 H hlk hret rfl rfl rfl d1_162 e128 ⟨rfl, rfl, rfl⟩
theorem rm133_2 (B : Bg Z a0 w_Operator_EQUALS w_Operator_IN w_Operator_NOT_IN w_Operator_LESS_THAN w_Operator_STARTING_WITH w_Operator_GREATER_THAN w_Operator_CONTAINING w_Operator_IS_NULL w_Operator_BETWEEN w_Operator_FALSE w_Operator_IS_NOT_NULL w_Operator_NOT_EQUALS w_Operator_NOT_LIKE w_Operator_NOT_CONTAINING w_Operator_GREATER_THAN_OR_EQUAL w_Operator_ENDING_WITH w_Operator_LESS_THAN_OR_EQUAL w_Operator_TRUE w_Operator_LIKE) :
    Con l Z (⟨"com/example/unfussy_repo/unfussyrepo/query/Operator", "takesCollection", "()Z"⟩ : MethodName) prog_53_method_5_code 1 (some .boolean) ({ frames := 0, cells := 0, slots := 0, locals := 0 } : Room) #[(.ref w_Operator_ENDING_WITH)] Z.heap (fun v h' L => v = some (.int 0) ∧ h' = Z.heap ∧ L = []) := by
  have hw := B.1
  obtain ⟨S_w_Operator_EQUALS, E_w_Operator_EQUALS, S_w_Operator_IN, E_w_Operator_IN, S_w_Operator_NOT_IN, E_w_Operator_NOT_IN, S_w_Operator_LESS_THAN, E_w_Operator_LESS_THAN, S_w_Operator_STARTING_WITH, E_w_Operator_STARTING_WITH, S_w_Operator_GREATER_THAN, E_w_Operator_GREATER_THAN, S_w_Operator_CONTAINING, E_w_Operator_CONTAINING, S_w_Operator_IS_NULL, E_w_Operator_IS_NULL, S_w_Operator_BETWEEN, E_w_Operator_BETWEEN, S_w_Operator_FALSE, E_w_Operator_FALSE, S_w_Operator_IS_NOT_NULL, E_w_Operator_IS_NOT_NULL, S_w_Operator_NOT_EQUALS, E_w_Operator_NOT_EQUALS, S_w_Operator_NOT_LIKE, E_w_Operator_NOT_LIKE, S_w_Operator_NOT_CONTAINING, E_w_Operator_NOT_CONTAINING, S_w_Operator_GREATER_THAN_OR_EQUAL, E_w_Operator_GREATER_THAN_OR_EQUAL, S_w_Operator_ENDING_WITH, E_w_Operator_ENDING_WITH, S_w_Operator_LESS_THAN_OR_EQUAL, E_w_Operator_LESS_THAN_OR_EQUAL, S_w_Operator_TRUE, E_w_Operator_TRUE, S_w_Operator_LIKE, E_w_Operator_LIKE, F_w_Operator_EQUALS_ordinal, F_w_Operator_IN_ordinal, F_w_Operator_NOT_IN_ordinal, F_w_Operator_LESS_THAN_ordinal, F_w_Operator_STARTING_WITH_ordinal, F_w_Operator_GREATER_THAN_ordinal, F_w_Operator_CONTAINING_ordinal, F_w_Operator_IS_NULL_ordinal, F_w_Operator_BETWEEN_ordinal, F_w_Operator_IN_arguments, F_w_Operator_FALSE_ordinal, F_w_Operator_IS_NOT_NULL_ordinal, F_w_Operator_NOT_EQUALS_ordinal, F_w_Operator_NOT_LIKE_ordinal, F_w_Operator_NOT_CONTAINING_ordinal, F_w_Operator_GREATER_THAN_OR_EQUAL_ordinal, F_w_Operator_ENDING_WITH_ordinal, F_w_Operator_LESS_THAN_OR_EQUAL_ordinal, F_w_Operator_TRUE_ordinal, F_w_Operator_NOT_IN_arguments, F_w_Operator_LIKE_ordinal, F_w_Operator_EQUALS_arguments, F_w_Operator_LESS_THAN_arguments, F_w_Operator_STARTING_WITH_arguments, F_w_Operator_GREATER_THAN_arguments, F_w_Operator_CONTAINING_arguments, F_w_Operator_IS_NULL_arguments, F_w_Operator_BETWEEN_arguments, F_w_Operator_FALSE_arguments, F_w_Operator_IS_NOT_NULL_arguments, F_w_Operator_NOT_EQUALS_arguments, F_w_Operator_NOT_LIKE_arguments, F_w_Operator_NOT_CONTAINING_arguments, F_w_Operator_GREATER_THAN_OR_EQUAL_arguments, F_w_Operator_ENDING_WITH_arguments, F_w_Operator_LESS_THAN_OR_EQUAL_arguments, F_w_Operator_TRUE_arguments, F_w_Operator_LIKE_arguments⟩ := B.2
  refine Con.of (plainFor_of_name pn2) (Ls := #[vR w_Operator_ENDING_WITH]) (fun _ => rfl) ?_
  intro p e s m below meth c T0 X0 H hml hZ hown hnm hret hlk e0
  refine gAloadN X0 H d2_0 rfl rfl 1 rfl ?_
  refine gGetS X0 H hZ hown (hw _ wd13) e0 S_w_Operator_IN d2_1 4 rfl ?_
  intro T131 X131 e131
  refine gAcmp X131 H d2_4 rfl rfl (same := false) (decide_eq_false fun q => (Fld.ne F_w_Operator_ENDING_WITH_ordinal F_w_Operator_IN_ordinal (by decide)) (Value.ref.inj q)) (by decide) 7 (by decide) ?_
  refine gAloadN X131 H d2_7 rfl rfl 8 rfl ?_
  refine gGetS X131 H hZ hown (hw _ wd15) e131 S_w_Operator_NOT_IN d2_8 11 rfl ?_
  intro T132 X132 e132
  refine gAcmp X132 H d2_11 rfl rfl (same := false) (decide_eq_false fun q => (Fld.ne F_w_Operator_ENDING_WITH_ordinal F_w_Operator_NOT_IN_ordinal (by decide)) (Value.ref.inj q)) (by decide) 18 (by decide) ?_
  refine gIconst X132 H d2_18 (z := 0) rfl 19 rfl ?_
  exact gRetN X132 H hlk hret (t := .boolean) (by simp) d2_19 e132 ⟨rfl, rfl, rfl⟩
theorem lawAll_16 (B : Bg Z a0 w_Operator_EQUALS w_Operator_IN w_Operator_NOT_IN w_Operator_LESS_THAN w_Operator_STARTING_WITH w_Operator_GREATER_THAN w_Operator_CONTAINING w_Operator_IS_NULL w_Operator_BETWEEN w_Operator_FALSE w_Operator_IS_NOT_NULL w_Operator_NOT_EQUALS w_Operator_NOT_LIKE w_Operator_NOT_CONTAINING w_Operator_GREATER_THAN_OR_EQUAL w_Operator_ENDING_WITH w_Operator_LESS_THAN_OR_EQUAL w_Operator_TRUE w_Operator_LIKE) (p0 : Int32) (ha0 : ((p0 &&& (2147483647 : Int32)) % (19 : Int32)) = (16 : Int32)) :
    Con l Z x code maxLocals ret room_1 #[(.int p0)] Z.heap (fun v h' L => v = some (.int 1) ∧ Fr Z.heap.size L) := by
  have hw := B.1
  obtain ⟨S_w_Operator_EQUALS, E_w_Operator_EQUALS, S_w_Operator_IN, E_w_Operator_IN, S_w_Operator_NOT_IN, E_w_Operator_NOT_IN, S_w_Operator_LESS_THAN, E_w_Operator_LESS_THAN, S_w_Operator_STARTING_WITH, E_w_Operator_STARTING_WITH, S_w_Operator_GREATER_THAN, E_w_Operator_GREATER_THAN, S_w_Operator_CONTAINING, E_w_Operator_CONTAINING, S_w_Operator_IS_NULL, E_w_Operator_IS_NULL, S_w_Operator_BETWEEN, E_w_Operator_BETWEEN, S_w_Operator_FALSE, E_w_Operator_FALSE, S_w_Operator_IS_NOT_NULL, E_w_Operator_IS_NOT_NULL, S_w_Operator_NOT_EQUALS, E_w_Operator_NOT_EQUALS, S_w_Operator_NOT_LIKE, E_w_Operator_NOT_LIKE, S_w_Operator_NOT_CONTAINING, E_w_Operator_NOT_CONTAINING, S_w_Operator_GREATER_THAN_OR_EQUAL, E_w_Operator_GREATER_THAN_OR_EQUAL, S_w_Operator_ENDING_WITH, E_w_Operator_ENDING_WITH, S_w_Operator_LESS_THAN_OR_EQUAL, E_w_Operator_LESS_THAN_OR_EQUAL, S_w_Operator_TRUE, E_w_Operator_TRUE, S_w_Operator_LIKE, E_w_Operator_LIKE, F_w_Operator_EQUALS_ordinal, F_w_Operator_IN_ordinal, F_w_Operator_NOT_IN_ordinal, F_w_Operator_LESS_THAN_ordinal, F_w_Operator_STARTING_WITH_ordinal, F_w_Operator_GREATER_THAN_ordinal, F_w_Operator_CONTAINING_ordinal, F_w_Operator_IS_NULL_ordinal, F_w_Operator_BETWEEN_ordinal, F_w_Operator_IN_arguments, F_w_Operator_FALSE_ordinal, F_w_Operator_IS_NOT_NULL_ordinal, F_w_Operator_NOT_EQUALS_ordinal, F_w_Operator_NOT_LIKE_ordinal, F_w_Operator_NOT_CONTAINING_ordinal, F_w_Operator_GREATER_THAN_OR_EQUAL_ordinal, F_w_Operator_ENDING_WITH_ordinal, F_w_Operator_LESS_THAN_OR_EQUAL_ordinal, F_w_Operator_TRUE_ordinal, F_w_Operator_NOT_IN_arguments, F_w_Operator_LIKE_ordinal, F_w_Operator_EQUALS_arguments, F_w_Operator_LESS_THAN_arguments, F_w_Operator_STARTING_WITH_arguments, F_w_Operator_GREATER_THAN_arguments, F_w_Operator_CONTAINING_arguments, F_w_Operator_IS_NULL_arguments, F_w_Operator_BETWEEN_arguments, F_w_Operator_FALSE_arguments, F_w_Operator_IS_NOT_NULL_arguments, F_w_Operator_NOT_EQUALS_arguments, F_w_Operator_NOT_LIKE_arguments, F_w_Operator_NOT_CONTAINING_arguments, F_w_Operator_GREATER_THAN_OR_EQUAL_arguments, F_w_Operator_ENDING_WITH_arguments, F_w_Operator_LESS_THAN_OR_EQUAL_arguments, F_w_Operator_TRUE_arguments, F_w_Operator_LIKE_arguments⟩ := B.2
  refine Con.of (plainFor_of_name pn0) (Ls := #[vI p0, .unset, .unset, .unset, .unset]) (fun _ => rfl) ?_
  intro p e s m below meth c T0 X0 H hml hZ hown hnm hret hlk e0
  refine gIloadN X0 H at_0 rfl 1 rfl ?_
  refine gLdc X0 H hZ hown (hw _ wd0) at_1 3 rfl ?_
  refine g_iand X0 H at_3 (z := (p0 &&& (2147483647 : Int32))) rfl 4 rfl ?_
  refine gBipush X0 H at_4 (z := 19) rfl 6 rfl ?_
  refine g_irem X0 H at_6 (by decide) (z := 16) ha0 7 rfl ?_
  refine gIstoreN X0 H at_7 (Ls' := #[vI p0, vI 16, .unset, .unset, .unset]) rfl 8 rfl ?_
  refine gIloadN X0 H at_8 rfl 9 rfl ?_
  refine gStatic X0 H hZ hown (hw _ wd1) (hw _ wd2) (by decide) (hw _ wd4) (hw _ wd3) (rm129_1 B) e0 hml rfl pd0 rfl (W := 0) (argsL := [(.int 16)]) (rest := []) rfl rfl at_9 12 rfl ?_
  intro v130 T130 L130 hq130 X130
  obtain ⟨rfl, e130, rfl⟩ := hq130
  show Go _ _ _ _ (State.setTop _ (mkF _ 12 _ [(.ref w_Operator_ENDING_WITH)]))
  refine gAstoreN X130 H at_12 rfl (Ls' := #[vI p0, vI 16, vR w_Operator_ENDING_WITH, .unset, .unset]) rfl 13 rfl ?_
  refine gAloadN X130 H at_13 rfl rfl 14 rfl ?_
  refine gVirt X130 H hZ hown (hw _ wd8) (hw _ wd9) (hw _ wd11) (hw _ wd10) (by decide) E_w_Operator_ENDING_WITH (hw _ wd12) (hw _ wd6) (rm133_2 B) e130 hml rfl pd1 rfl (W := 0) (argsL := []) (rest := []) rfl rfl at_14 17 rfl ?_
  intro v134 T134 L134 hq134 X134
  obtain ⟨rfl, e134, rfl⟩ := hq134
  show Go _ _ _ _ (State.setTop _ (mkF _ 17 _ [(.int 0)]))
  refine gIstoreN X134 H at_17 (Ls' := #[vI p0, vI 16, vR w_Operator_ENDING_WITH, vI 0, .unset]) rfl 18 rfl ?_
  refine gIloadN X134 H at_18 rfl 19 rfl ?_
  refine gBipush X134 H at_19 (z := 11) rfl 21 rfl ?_
  refine gCmpN X134 H at_21 (by decide) 24 rfl ?_
  refine gIloadN X134 H at_24 rfl 25 rfl ?_
  refine gBipush X134 H at_25 (z := 12) rfl 27 rfl ?_
  refine gCmpY X134 H at_27 (by decide) (by decide) 34 rfl ?_
  refine gIconst X134 H at_34 (z := 0) rfl 35 rfl ?_
  refine gIstore X134 H at_35 (Ls' := #[vI p0, vI 16, vR w_Operator_ENDING_WITH, vI 0, vI 0]) rfl 37 rfl ?_
  refine gIloadN X134 H at_37 rfl 38 rfl ?_
  refine gIload X134 H at_38 rfl 40 rfl ?_
  refine gCmpY X134 H at_40 (by decide) (by decide) 45 rfl ?_
  refine gIloadN X134 H at_45 rfl 46 rfl ?_
  refine gIfY X134 H at_46 (by decide) (by decide) 70 rfl ?_
  refine gIconst X134 H at_70 (z := 1) rfl 71 rfl ?_
  exact gRetN X134 H hlk hret (t := .boolean) (by simp) at_71 e134 ⟨rfl, Fr.nil _⟩
theorem rm136_1 (B : Bg Z a0 w_Operator_EQUALS w_Operator_IN w_Operator_NOT_IN w_Operator_LESS_THAN w_Operator_STARTING_WITH w_Operator_GREATER_THAN w_Operator_CONTAINING w_Operator_IS_NULL w_Operator_BETWEEN w_Operator_FALSE w_Operator_IS_NOT_NULL w_Operator_NOT_EQUALS w_Operator_NOT_LIKE w_Operator_NOT_CONTAINING w_Operator_GREATER_THAN_OR_EQUAL w_Operator_ENDING_WITH w_Operator_LESS_THAN_OR_EQUAL w_Operator_TRUE w_Operator_LIKE) :
    Con l Z (⟨"com/example/unfussy_repo/unfussyrepo/query/OperatorTakesCollectionPinLaw", "pick", "(I)Lcom/example/unfussy_repo/unfussyrepo/query/Operator;"⟩ : MethodName) method_2_code 1 (some (.object "com/example/unfussy_repo/unfussyrepo/query/Operator")) ({ frames := 0, cells := 0, slots := 0, locals := 0 } : Room) #[(.int 17)] Z.heap (fun v h' L => v = some (.ref w_Operator_CONTAINING) ∧ h' = Z.heap ∧ L = []) := by
  have hw := B.1
  obtain ⟨S_w_Operator_EQUALS, E_w_Operator_EQUALS, S_w_Operator_IN, E_w_Operator_IN, S_w_Operator_NOT_IN, E_w_Operator_NOT_IN, S_w_Operator_LESS_THAN, E_w_Operator_LESS_THAN, S_w_Operator_STARTING_WITH, E_w_Operator_STARTING_WITH, S_w_Operator_GREATER_THAN, E_w_Operator_GREATER_THAN, S_w_Operator_CONTAINING, E_w_Operator_CONTAINING, S_w_Operator_IS_NULL, E_w_Operator_IS_NULL, S_w_Operator_BETWEEN, E_w_Operator_BETWEEN, S_w_Operator_FALSE, E_w_Operator_FALSE, S_w_Operator_IS_NOT_NULL, E_w_Operator_IS_NOT_NULL, S_w_Operator_NOT_EQUALS, E_w_Operator_NOT_EQUALS, S_w_Operator_NOT_LIKE, E_w_Operator_NOT_LIKE, S_w_Operator_NOT_CONTAINING, E_w_Operator_NOT_CONTAINING, S_w_Operator_GREATER_THAN_OR_EQUAL, E_w_Operator_GREATER_THAN_OR_EQUAL, S_w_Operator_ENDING_WITH, E_w_Operator_ENDING_WITH, S_w_Operator_LESS_THAN_OR_EQUAL, E_w_Operator_LESS_THAN_OR_EQUAL, S_w_Operator_TRUE, E_w_Operator_TRUE, S_w_Operator_LIKE, E_w_Operator_LIKE, F_w_Operator_EQUALS_ordinal, F_w_Operator_IN_ordinal, F_w_Operator_NOT_IN_ordinal, F_w_Operator_LESS_THAN_ordinal, F_w_Operator_STARTING_WITH_ordinal, F_w_Operator_GREATER_THAN_ordinal, F_w_Operator_CONTAINING_ordinal, F_w_Operator_IS_NULL_ordinal, F_w_Operator_BETWEEN_ordinal, F_w_Operator_IN_arguments, F_w_Operator_FALSE_ordinal, F_w_Operator_IS_NOT_NULL_ordinal, F_w_Operator_NOT_EQUALS_ordinal, F_w_Operator_NOT_LIKE_ordinal, F_w_Operator_NOT_CONTAINING_ordinal, F_w_Operator_GREATER_THAN_OR_EQUAL_ordinal, F_w_Operator_ENDING_WITH_ordinal, F_w_Operator_LESS_THAN_OR_EQUAL_ordinal, F_w_Operator_TRUE_ordinal, F_w_Operator_NOT_IN_arguments, F_w_Operator_LIKE_ordinal, F_w_Operator_EQUALS_arguments, F_w_Operator_LESS_THAN_arguments, F_w_Operator_STARTING_WITH_arguments, F_w_Operator_GREATER_THAN_arguments, F_w_Operator_CONTAINING_arguments, F_w_Operator_IS_NULL_arguments, F_w_Operator_BETWEEN_arguments, F_w_Operator_FALSE_arguments, F_w_Operator_IS_NOT_NULL_arguments, F_w_Operator_NOT_EQUALS_arguments, F_w_Operator_NOT_LIKE_arguments, F_w_Operator_NOT_CONTAINING_arguments, F_w_Operator_GREATER_THAN_OR_EQUAL_arguments, F_w_Operator_ENDING_WITH_arguments, F_w_Operator_LESS_THAN_OR_EQUAL_arguments, F_w_Operator_TRUE_arguments, F_w_Operator_LIKE_arguments⟩ := B.2
  refine Con.of (plainFor_of_name pn1) (Ls := #[vI 17]) (fun _ => rfl) ?_
  intro p e s m below meth c T0 X0 H hml hZ hown hnm hret hlk e0
  refine gIloadN X0 H d1_0 rfl 1 rfl ?_
  refine gIfY X0 H d1_1 (by decide) (by decide) 8 rfl ?_
  refine gIloadN X0 H d1_8 rfl 9 rfl ?_
  refine gIconst X0 H d1_9 (z := 1) rfl 10 rfl ?_
  refine gCmpY X0 H d1_10 (by decide) (by decide) 17 rfl ?_
  refine gIloadN X0 H d1_17 rfl 18 rfl ?_
  refine gIconst X0 H d1_18 (z := 2) rfl 19 rfl ?_
  refine gCmpY X0 H d1_19 (by decide) (by decide) 26 rfl ?_
  refine gIloadN X0 H d1_26 rfl 27 rfl ?_
  refine gIconst X0 H d1_27 (z := 3) rfl 28 rfl ?_
  refine gCmpY X0 H d1_28 (by decide) (by decide) 35 rfl ?_
  refine gIloadN X0 H d1_35 rfl 36 rfl ?_
  refine gIconst X0 H d1_36 (z := 4) rfl 37 rfl ?_
  refine gCmpY X0 H d1_37 (by decide) (by decide) 44 rfl ?_
  refine gIloadN X0 H d1_44 rfl 45 rfl ?_
  refine gIconst X0 H d1_45 (z := 5) rfl 46 rfl ?_
  refine gCmpY X0 H d1_46 (by decide) (by decide) 53 rfl ?_
  refine gIloadN X0 H d1_53 rfl 54 rfl ?_
  refine gBipush X0 H d1_54 (z := 6) rfl 56 rfl ?_
  refine gCmpY X0 H d1_56 (by decide) (by decide) 63 rfl ?_
  refine gIloadN X0 H d1_63 rfl 64 rfl ?_
  refine gBipush X0 H d1_64 (z := 7) rfl 66 rfl ?_
  refine gCmpY X0 H d1_66 (by decide) (by decide) 73 rfl ?_
  refine gIloadN X0 H d1_73 rfl 74 rfl ?_
  refine gBipush X0 H d1_74 (z := 8) rfl 76 rfl ?_
  refine gCmpY X0 H d1_76 (by decide) (by decide) 83 rfl ?_
  refine gIloadN X0 H d1_83 rfl 84 rfl ?_
  refine gBipush X0 H d1_84 (z := 9) rfl 86 rfl ?_
  refine gCmpY X0 H d1_86 (by decide) (by decide) 93 rfl ?_
  refine gIloadN X0 H d1_93 rfl 94 rfl ?_
  refine gBipush X0 H d1_94 (z := 10) rfl 96 rfl ?_
  refine gCmpY X0 H d1_96 (by decide) (by decide) 103 rfl ?_
  refine gIloadN X0 H d1_103 rfl 104 rfl ?_
  refine gBipush X0 H d1_104 (z := 11) rfl 106 rfl ?_
  refine gCmpY X0 H d1_106 (by decide) (by decide) 113 rfl ?_
  refine gIloadN X0 H d1_113 rfl 114 rfl ?_
  refine gBipush X0 H d1_114 (z := 12) rfl 116 rfl ?_
  refine gCmpY X0 H d1_116 (by decide) (by decide) 123 rfl ?_
  refine gIloadN X0 H d1_123 rfl 124 rfl ?_
  refine gBipush X0 H d1_124 (z := 13) rfl 126 rfl ?_
  refine gCmpY X0 H d1_126 (by decide) (by decide) 133 rfl ?_
  refine gIloadN X0 H d1_133 rfl 134 rfl ?_
  refine gBipush X0 H d1_134 (z := 14) rfl 136 rfl ?_
  refine gCmpY X0 H d1_136 (by decide) (by decide) 143 rfl ?_
  refine gIloadN X0 H d1_143 rfl 144 rfl ?_
  refine gBipush X0 H d1_144 (z := 15) rfl 146 rfl ?_
  refine gCmpY X0 H d1_146 (by decide) (by decide) 153 rfl ?_
  refine gIloadN X0 H d1_153 rfl 154 rfl ?_
  refine gBipush X0 H d1_154 (z := 16) rfl 156 rfl ?_
  refine gCmpY X0 H d1_156 (by decide) (by decide) 163 rfl ?_
  refine gIloadN X0 H d1_163 rfl 164 rfl ?_
  refine gBipush X0 H d1_164 (z := 17) rfl 166 rfl ?_
  refine gCmpN X0 H d1_166 (by decide) 169 rfl ?_
  refine gGetS X0 H hZ hown (hw _ wd23) e0 S_w_Operator_CONTAINING d1_169 172 rfl ?_
  intro T135 X135 e135
  exact gRetA X135 H hlk hret rfl rfl rfl d1_172 e135 ⟨rfl, rfl, rfl⟩
theorem rm140_2 (B : Bg Z a0 w_Operator_EQUALS w_Operator_IN w_Operator_NOT_IN w_Operator_LESS_THAN w_Operator_STARTING_WITH w_Operator_GREATER_THAN w_Operator_CONTAINING w_Operator_IS_NULL w_Operator_BETWEEN w_Operator_FALSE w_Operator_IS_NOT_NULL w_Operator_NOT_EQUALS w_Operator_NOT_LIKE w_Operator_NOT_CONTAINING w_Operator_GREATER_THAN_OR_EQUAL w_Operator_ENDING_WITH w_Operator_LESS_THAN_OR_EQUAL w_Operator_TRUE w_Operator_LIKE) :
    Con l Z (⟨"com/example/unfussy_repo/unfussyrepo/query/Operator", "takesCollection", "()Z"⟩ : MethodName) prog_53_method_5_code 1 (some .boolean) ({ frames := 0, cells := 0, slots := 0, locals := 0 } : Room) #[(.ref w_Operator_CONTAINING)] Z.heap (fun v h' L => v = some (.int 0) ∧ h' = Z.heap ∧ L = []) := by
  have hw := B.1
  obtain ⟨S_w_Operator_EQUALS, E_w_Operator_EQUALS, S_w_Operator_IN, E_w_Operator_IN, S_w_Operator_NOT_IN, E_w_Operator_NOT_IN, S_w_Operator_LESS_THAN, E_w_Operator_LESS_THAN, S_w_Operator_STARTING_WITH, E_w_Operator_STARTING_WITH, S_w_Operator_GREATER_THAN, E_w_Operator_GREATER_THAN, S_w_Operator_CONTAINING, E_w_Operator_CONTAINING, S_w_Operator_IS_NULL, E_w_Operator_IS_NULL, S_w_Operator_BETWEEN, E_w_Operator_BETWEEN, S_w_Operator_FALSE, E_w_Operator_FALSE, S_w_Operator_IS_NOT_NULL, E_w_Operator_IS_NOT_NULL, S_w_Operator_NOT_EQUALS, E_w_Operator_NOT_EQUALS, S_w_Operator_NOT_LIKE, E_w_Operator_NOT_LIKE, S_w_Operator_NOT_CONTAINING, E_w_Operator_NOT_CONTAINING, S_w_Operator_GREATER_THAN_OR_EQUAL, E_w_Operator_GREATER_THAN_OR_EQUAL, S_w_Operator_ENDING_WITH, E_w_Operator_ENDING_WITH, S_w_Operator_LESS_THAN_OR_EQUAL, E_w_Operator_LESS_THAN_OR_EQUAL, S_w_Operator_TRUE, E_w_Operator_TRUE, S_w_Operator_LIKE, E_w_Operator_LIKE, F_w_Operator_EQUALS_ordinal, F_w_Operator_IN_ordinal, F_w_Operator_NOT_IN_ordinal, F_w_Operator_LESS_THAN_ordinal, F_w_Operator_STARTING_WITH_ordinal, F_w_Operator_GREATER_THAN_ordinal, F_w_Operator_CONTAINING_ordinal, F_w_Operator_IS_NULL_ordinal, F_w_Operator_BETWEEN_ordinal, F_w_Operator_IN_arguments, F_w_Operator_FALSE_ordinal, F_w_Operator_IS_NOT_NULL_ordinal, F_w_Operator_NOT_EQUALS_ordinal, F_w_Operator_NOT_LIKE_ordinal, F_w_Operator_NOT_CONTAINING_ordinal, F_w_Operator_GREATER_THAN_OR_EQUAL_ordinal, F_w_Operator_ENDING_WITH_ordinal, F_w_Operator_LESS_THAN_OR_EQUAL_ordinal, F_w_Operator_TRUE_ordinal, F_w_Operator_NOT_IN_arguments, F_w_Operator_LIKE_ordinal, F_w_Operator_EQUALS_arguments, F_w_Operator_LESS_THAN_arguments, F_w_Operator_STARTING_WITH_arguments, F_w_Operator_GREATER_THAN_arguments, F_w_Operator_CONTAINING_arguments, F_w_Operator_IS_NULL_arguments, F_w_Operator_BETWEEN_arguments, F_w_Operator_FALSE_arguments, F_w_Operator_IS_NOT_NULL_arguments, F_w_Operator_NOT_EQUALS_arguments, F_w_Operator_NOT_LIKE_arguments, F_w_Operator_NOT_CONTAINING_arguments, F_w_Operator_GREATER_THAN_OR_EQUAL_arguments, F_w_Operator_ENDING_WITH_arguments, F_w_Operator_LESS_THAN_OR_EQUAL_arguments, F_w_Operator_TRUE_arguments, F_w_Operator_LIKE_arguments⟩ := B.2
  refine Con.of (plainFor_of_name pn2) (Ls := #[vR w_Operator_CONTAINING]) (fun _ => rfl) ?_
  intro p e s m below meth c T0 X0 H hml hZ hown hnm hret hlk e0
  refine gAloadN X0 H d2_0 rfl rfl 1 rfl ?_
  refine gGetS X0 H hZ hown (hw _ wd13) e0 S_w_Operator_IN d2_1 4 rfl ?_
  intro T138 X138 e138
  refine gAcmp X138 H d2_4 rfl rfl (same := false) (decide_eq_false fun q => (Fld.ne F_w_Operator_CONTAINING_ordinal F_w_Operator_IN_ordinal (by decide)) (Value.ref.inj q)) (by decide) 7 (by decide) ?_
  refine gAloadN X138 H d2_7 rfl rfl 8 rfl ?_
  refine gGetS X138 H hZ hown (hw _ wd15) e138 S_w_Operator_NOT_IN d2_8 11 rfl ?_
  intro T139 X139 e139
  refine gAcmp X139 H d2_11 rfl rfl (same := false) (decide_eq_false fun q => (Fld.ne F_w_Operator_CONTAINING_ordinal F_w_Operator_NOT_IN_ordinal (by decide)) (Value.ref.inj q)) (by decide) 18 (by decide) ?_
  refine gIconst X139 H d2_18 (z := 0) rfl 19 rfl ?_
  exact gRetN X139 H hlk hret (t := .boolean) (by simp) d2_19 e139 ⟨rfl, rfl, rfl⟩
theorem lawAll_17 (B : Bg Z a0 w_Operator_EQUALS w_Operator_IN w_Operator_NOT_IN w_Operator_LESS_THAN w_Operator_STARTING_WITH w_Operator_GREATER_THAN w_Operator_CONTAINING w_Operator_IS_NULL w_Operator_BETWEEN w_Operator_FALSE w_Operator_IS_NOT_NULL w_Operator_NOT_EQUALS w_Operator_NOT_LIKE w_Operator_NOT_CONTAINING w_Operator_GREATER_THAN_OR_EQUAL w_Operator_ENDING_WITH w_Operator_LESS_THAN_OR_EQUAL w_Operator_TRUE w_Operator_LIKE) (p0 : Int32) (ha0 : ((p0 &&& (2147483647 : Int32)) % (19 : Int32)) = (17 : Int32)) :
    Con l Z x code maxLocals ret room_1 #[(.int p0)] Z.heap (fun v h' L => v = some (.int 1) ∧ Fr Z.heap.size L) := by
  have hw := B.1
  obtain ⟨S_w_Operator_EQUALS, E_w_Operator_EQUALS, S_w_Operator_IN, E_w_Operator_IN, S_w_Operator_NOT_IN, E_w_Operator_NOT_IN, S_w_Operator_LESS_THAN, E_w_Operator_LESS_THAN, S_w_Operator_STARTING_WITH, E_w_Operator_STARTING_WITH, S_w_Operator_GREATER_THAN, E_w_Operator_GREATER_THAN, S_w_Operator_CONTAINING, E_w_Operator_CONTAINING, S_w_Operator_IS_NULL, E_w_Operator_IS_NULL, S_w_Operator_BETWEEN, E_w_Operator_BETWEEN, S_w_Operator_FALSE, E_w_Operator_FALSE, S_w_Operator_IS_NOT_NULL, E_w_Operator_IS_NOT_NULL, S_w_Operator_NOT_EQUALS, E_w_Operator_NOT_EQUALS, S_w_Operator_NOT_LIKE, E_w_Operator_NOT_LIKE, S_w_Operator_NOT_CONTAINING, E_w_Operator_NOT_CONTAINING, S_w_Operator_GREATER_THAN_OR_EQUAL, E_w_Operator_GREATER_THAN_OR_EQUAL, S_w_Operator_ENDING_WITH, E_w_Operator_ENDING_WITH, S_w_Operator_LESS_THAN_OR_EQUAL, E_w_Operator_LESS_THAN_OR_EQUAL, S_w_Operator_TRUE, E_w_Operator_TRUE, S_w_Operator_LIKE, E_w_Operator_LIKE, F_w_Operator_EQUALS_ordinal, F_w_Operator_IN_ordinal, F_w_Operator_NOT_IN_ordinal, F_w_Operator_LESS_THAN_ordinal, F_w_Operator_STARTING_WITH_ordinal, F_w_Operator_GREATER_THAN_ordinal, F_w_Operator_CONTAINING_ordinal, F_w_Operator_IS_NULL_ordinal, F_w_Operator_BETWEEN_ordinal, F_w_Operator_IN_arguments, F_w_Operator_FALSE_ordinal, F_w_Operator_IS_NOT_NULL_ordinal, F_w_Operator_NOT_EQUALS_ordinal, F_w_Operator_NOT_LIKE_ordinal, F_w_Operator_NOT_CONTAINING_ordinal, F_w_Operator_GREATER_THAN_OR_EQUAL_ordinal, F_w_Operator_ENDING_WITH_ordinal, F_w_Operator_LESS_THAN_OR_EQUAL_ordinal, F_w_Operator_TRUE_ordinal, F_w_Operator_NOT_IN_arguments, F_w_Operator_LIKE_ordinal, F_w_Operator_EQUALS_arguments, F_w_Operator_LESS_THAN_arguments, F_w_Operator_STARTING_WITH_arguments, F_w_Operator_GREATER_THAN_arguments, F_w_Operator_CONTAINING_arguments, F_w_Operator_IS_NULL_arguments, F_w_Operator_BETWEEN_arguments, F_w_Operator_FALSE_arguments, F_w_Operator_IS_NOT_NULL_arguments, F_w_Operator_NOT_EQUALS_arguments, F_w_Operator_NOT_LIKE_arguments, F_w_Operator_NOT_CONTAINING_arguments, F_w_Operator_GREATER_THAN_OR_EQUAL_arguments, F_w_Operator_ENDING_WITH_arguments, F_w_Operator_LESS_THAN_OR_EQUAL_arguments, F_w_Operator_TRUE_arguments, F_w_Operator_LIKE_arguments⟩ := B.2
  refine Con.of (plainFor_of_name pn0) (Ls := #[vI p0, .unset, .unset, .unset, .unset]) (fun _ => rfl) ?_
  intro p e s m below meth c T0 X0 H hml hZ hown hnm hret hlk e0
  refine gIloadN X0 H at_0 rfl 1 rfl ?_
  refine gLdc X0 H hZ hown (hw _ wd0) at_1 3 rfl ?_
  refine g_iand X0 H at_3 (z := (p0 &&& (2147483647 : Int32))) rfl 4 rfl ?_
  refine gBipush X0 H at_4 (z := 19) rfl 6 rfl ?_
  refine g_irem X0 H at_6 (by decide) (z := 17) ha0 7 rfl ?_
  refine gIstoreN X0 H at_7 (Ls' := #[vI p0, vI 17, .unset, .unset, .unset]) rfl 8 rfl ?_
  refine gIloadN X0 H at_8 rfl 9 rfl ?_
  refine gStatic X0 H hZ hown (hw _ wd1) (hw _ wd2) (by decide) (hw _ wd4) (hw _ wd3) (rm136_1 B) e0 hml rfl pd0 rfl (W := 0) (argsL := [(.int 17)]) (rest := []) rfl rfl at_9 12 rfl ?_
  intro v137 T137 L137 hq137 X137
  obtain ⟨rfl, e137, rfl⟩ := hq137
  show Go _ _ _ _ (State.setTop _ (mkF _ 12 _ [(.ref w_Operator_CONTAINING)]))
  refine gAstoreN X137 H at_12 rfl (Ls' := #[vI p0, vI 17, vR w_Operator_CONTAINING, .unset, .unset]) rfl 13 rfl ?_
  refine gAloadN X137 H at_13 rfl rfl 14 rfl ?_
  refine gVirt X137 H hZ hown (hw _ wd8) (hw _ wd9) (hw _ wd11) (hw _ wd10) (by decide) E_w_Operator_CONTAINING (hw _ wd12) (hw _ wd6) (rm140_2 B) e137 hml rfl pd1 rfl (W := 0) (argsL := []) (rest := []) rfl rfl at_14 17 rfl ?_
  intro v141 T141 L141 hq141 X141
  obtain ⟨rfl, e141, rfl⟩ := hq141
  show Go _ _ _ _ (State.setTop _ (mkF _ 17 _ [(.int 0)]))
  refine gIstoreN X141 H at_17 (Ls' := #[vI p0, vI 17, vR w_Operator_CONTAINING, vI 0, .unset]) rfl 18 rfl ?_
  refine gIloadN X141 H at_18 rfl 19 rfl ?_
  refine gBipush X141 H at_19 (z := 11) rfl 21 rfl ?_
  refine gCmpN X141 H at_21 (by decide) 24 rfl ?_
  refine gIloadN X141 H at_24 rfl 25 rfl ?_
  refine gBipush X141 H at_25 (z := 12) rfl 27 rfl ?_
  refine gCmpY X141 H at_27 (by decide) (by decide) 34 rfl ?_
  refine gIconst X141 H at_34 (z := 0) rfl 35 rfl ?_
  refine gIstore X141 H at_35 (Ls' := #[vI p0, vI 17, vR w_Operator_CONTAINING, vI 0, vI 0]) rfl 37 rfl ?_
  refine gIloadN X141 H at_37 rfl 38 rfl ?_
  refine gIload X141 H at_38 rfl 40 rfl ?_
  refine gCmpY X141 H at_40 (by decide) (by decide) 45 rfl ?_
  refine gIloadN X141 H at_45 rfl 46 rfl ?_
  refine gIfY X141 H at_46 (by decide) (by decide) 70 rfl ?_
  refine gIconst X141 H at_70 (z := 1) rfl 71 rfl ?_
  exact gRetN X141 H hlk hret (t := .boolean) (by simp) at_71 e141 ⟨rfl, Fr.nil _⟩
theorem rm143_1 (B : Bg Z a0 w_Operator_EQUALS w_Operator_IN w_Operator_NOT_IN w_Operator_LESS_THAN w_Operator_STARTING_WITH w_Operator_GREATER_THAN w_Operator_CONTAINING w_Operator_IS_NULL w_Operator_BETWEEN w_Operator_FALSE w_Operator_IS_NOT_NULL w_Operator_NOT_EQUALS w_Operator_NOT_LIKE w_Operator_NOT_CONTAINING w_Operator_GREATER_THAN_OR_EQUAL w_Operator_ENDING_WITH w_Operator_LESS_THAN_OR_EQUAL w_Operator_TRUE w_Operator_LIKE) :
    Con l Z (⟨"com/example/unfussy_repo/unfussyrepo/query/OperatorTakesCollectionPinLaw", "pick", "(I)Lcom/example/unfussy_repo/unfussyrepo/query/Operator;"⟩ : MethodName) method_2_code 1 (some (.object "com/example/unfussy_repo/unfussyrepo/query/Operator")) ({ frames := 0, cells := 0, slots := 0, locals := 0 } : Room) #[(.int 18)] Z.heap (fun v h' L => v = some (.ref w_Operator_NOT_CONTAINING) ∧ h' = Z.heap ∧ L = []) := by
  have hw := B.1
  obtain ⟨S_w_Operator_EQUALS, E_w_Operator_EQUALS, S_w_Operator_IN, E_w_Operator_IN, S_w_Operator_NOT_IN, E_w_Operator_NOT_IN, S_w_Operator_LESS_THAN, E_w_Operator_LESS_THAN, S_w_Operator_STARTING_WITH, E_w_Operator_STARTING_WITH, S_w_Operator_GREATER_THAN, E_w_Operator_GREATER_THAN, S_w_Operator_CONTAINING, E_w_Operator_CONTAINING, S_w_Operator_IS_NULL, E_w_Operator_IS_NULL, S_w_Operator_BETWEEN, E_w_Operator_BETWEEN, S_w_Operator_FALSE, E_w_Operator_FALSE, S_w_Operator_IS_NOT_NULL, E_w_Operator_IS_NOT_NULL, S_w_Operator_NOT_EQUALS, E_w_Operator_NOT_EQUALS, S_w_Operator_NOT_LIKE, E_w_Operator_NOT_LIKE, S_w_Operator_NOT_CONTAINING, E_w_Operator_NOT_CONTAINING, S_w_Operator_GREATER_THAN_OR_EQUAL, E_w_Operator_GREATER_THAN_OR_EQUAL, S_w_Operator_ENDING_WITH, E_w_Operator_ENDING_WITH, S_w_Operator_LESS_THAN_OR_EQUAL, E_w_Operator_LESS_THAN_OR_EQUAL, S_w_Operator_TRUE, E_w_Operator_TRUE, S_w_Operator_LIKE, E_w_Operator_LIKE, F_w_Operator_EQUALS_ordinal, F_w_Operator_IN_ordinal, F_w_Operator_NOT_IN_ordinal, F_w_Operator_LESS_THAN_ordinal, F_w_Operator_STARTING_WITH_ordinal, F_w_Operator_GREATER_THAN_ordinal, F_w_Operator_CONTAINING_ordinal, F_w_Operator_IS_NULL_ordinal, F_w_Operator_BETWEEN_ordinal, F_w_Operator_IN_arguments, F_w_Operator_FALSE_ordinal, F_w_Operator_IS_NOT_NULL_ordinal, F_w_Operator_NOT_EQUALS_ordinal, F_w_Operator_NOT_LIKE_ordinal, F_w_Operator_NOT_CONTAINING_ordinal, F_w_Operator_GREATER_THAN_OR_EQUAL_ordinal, F_w_Operator_ENDING_WITH_ordinal, F_w_Operator_LESS_THAN_OR_EQUAL_ordinal, F_w_Operator_TRUE_ordinal, F_w_Operator_NOT_IN_arguments, F_w_Operator_LIKE_ordinal, F_w_Operator_EQUALS_arguments, F_w_Operator_LESS_THAN_arguments, F_w_Operator_STARTING_WITH_arguments, F_w_Operator_GREATER_THAN_arguments, F_w_Operator_CONTAINING_arguments, F_w_Operator_IS_NULL_arguments, F_w_Operator_BETWEEN_arguments, F_w_Operator_FALSE_arguments, F_w_Operator_IS_NOT_NULL_arguments, F_w_Operator_NOT_EQUALS_arguments, F_w_Operator_NOT_LIKE_arguments, F_w_Operator_NOT_CONTAINING_arguments, F_w_Operator_GREATER_THAN_OR_EQUAL_arguments, F_w_Operator_ENDING_WITH_arguments, F_w_Operator_LESS_THAN_OR_EQUAL_arguments, F_w_Operator_TRUE_arguments, F_w_Operator_LIKE_arguments⟩ := B.2
  refine Con.of (plainFor_of_name pn1) (Ls := #[vI 18]) (fun _ => rfl) ?_
  intro p e s m below meth c T0 X0 H hml hZ hown hnm hret hlk e0
  refine gIloadN X0 H d1_0 rfl 1 rfl ?_
  refine gIfY X0 H d1_1 (by decide) (by decide) 8 rfl ?_
  refine gIloadN X0 H d1_8 rfl 9 rfl ?_
  refine gIconst X0 H d1_9 (z := 1) rfl 10 rfl ?_
  refine gCmpY X0 H d1_10 (by decide) (by decide) 17 rfl ?_
  refine gIloadN X0 H d1_17 rfl 18 rfl ?_
  refine gIconst X0 H d1_18 (z := 2) rfl 19 rfl ?_
  refine gCmpY X0 H d1_19 (by decide) (by decide) 26 rfl ?_
  refine gIloadN X0 H d1_26 rfl 27 rfl ?_
  refine gIconst X0 H d1_27 (z := 3) rfl 28 rfl ?_
  refine gCmpY X0 H d1_28 (by decide) (by decide) 35 rfl ?_
  refine gIloadN X0 H d1_35 rfl 36 rfl ?_
  refine gIconst X0 H d1_36 (z := 4) rfl 37 rfl ?_
  refine gCmpY X0 H d1_37 (by decide) (by decide) 44 rfl ?_
  refine gIloadN X0 H d1_44 rfl 45 rfl ?_
  refine gIconst X0 H d1_45 (z := 5) rfl 46 rfl ?_
  refine gCmpY X0 H d1_46 (by decide) (by decide) 53 rfl ?_
  refine gIloadN X0 H d1_53 rfl 54 rfl ?_
  refine gBipush X0 H d1_54 (z := 6) rfl 56 rfl ?_
  refine gCmpY X0 H d1_56 (by decide) (by decide) 63 rfl ?_
  refine gIloadN X0 H d1_63 rfl 64 rfl ?_
  refine gBipush X0 H d1_64 (z := 7) rfl 66 rfl ?_
  refine gCmpY X0 H d1_66 (by decide) (by decide) 73 rfl ?_
  refine gIloadN X0 H d1_73 rfl 74 rfl ?_
  refine gBipush X0 H d1_74 (z := 8) rfl 76 rfl ?_
  refine gCmpY X0 H d1_76 (by decide) (by decide) 83 rfl ?_
  refine gIloadN X0 H d1_83 rfl 84 rfl ?_
  refine gBipush X0 H d1_84 (z := 9) rfl 86 rfl ?_
  refine gCmpY X0 H d1_86 (by decide) (by decide) 93 rfl ?_
  refine gIloadN X0 H d1_93 rfl 94 rfl ?_
  refine gBipush X0 H d1_94 (z := 10) rfl 96 rfl ?_
  refine gCmpY X0 H d1_96 (by decide) (by decide) 103 rfl ?_
  refine gIloadN X0 H d1_103 rfl 104 rfl ?_
  refine gBipush X0 H d1_104 (z := 11) rfl 106 rfl ?_
  refine gCmpY X0 H d1_106 (by decide) (by decide) 113 rfl ?_
  refine gIloadN X0 H d1_113 rfl 114 rfl ?_
  refine gBipush X0 H d1_114 (z := 12) rfl 116 rfl ?_
  refine gCmpY X0 H d1_116 (by decide) (by decide) 123 rfl ?_
  refine gIloadN X0 H d1_123 rfl 124 rfl ?_
  refine gBipush X0 H d1_124 (z := 13) rfl 126 rfl ?_
  refine gCmpY X0 H d1_126 (by decide) (by decide) 133 rfl ?_
  refine gIloadN X0 H d1_133 rfl 134 rfl ?_
  refine gBipush X0 H d1_134 (z := 14) rfl 136 rfl ?_
  refine gCmpY X0 H d1_136 (by decide) (by decide) 143 rfl ?_
  refine gIloadN X0 H d1_143 rfl 144 rfl ?_
  refine gBipush X0 H d1_144 (z := 15) rfl 146 rfl ?_
  refine gCmpY X0 H d1_146 (by decide) (by decide) 153 rfl ?_
  refine gIloadN X0 H d1_153 rfl 154 rfl ?_
  refine gBipush X0 H d1_154 (z := 16) rfl 156 rfl ?_
  refine gCmpY X0 H d1_156 (by decide) (by decide) 163 rfl ?_
  refine gIloadN X0 H d1_163 rfl 164 rfl ?_
  refine gBipush X0 H d1_164 (z := 17) rfl 166 rfl ?_
  refine gCmpY X0 H d1_166 (by decide) (by decide) 173 rfl ?_
  refine gGetS X0 H hZ hown (hw _ wd59) e0 S_w_Operator_NOT_CONTAINING d1_173 176 rfl ?_
  intro T142 X142 e142
  exact gRetA X142 H hlk hret rfl rfl rfl d1_176 e142 ⟨rfl, rfl, rfl⟩
theorem rm147_2 (B : Bg Z a0 w_Operator_EQUALS w_Operator_IN w_Operator_NOT_IN w_Operator_LESS_THAN w_Operator_STARTING_WITH w_Operator_GREATER_THAN w_Operator_CONTAINING w_Operator_IS_NULL w_Operator_BETWEEN w_Operator_FALSE w_Operator_IS_NOT_NULL w_Operator_NOT_EQUALS w_Operator_NOT_LIKE w_Operator_NOT_CONTAINING w_Operator_GREATER_THAN_OR_EQUAL w_Operator_ENDING_WITH w_Operator_LESS_THAN_OR_EQUAL w_Operator_TRUE w_Operator_LIKE) :
    Con l Z (⟨"com/example/unfussy_repo/unfussyrepo/query/Operator", "takesCollection", "()Z"⟩ : MethodName) prog_53_method_5_code 1 (some .boolean) ({ frames := 0, cells := 0, slots := 0, locals := 0 } : Room) #[(.ref w_Operator_NOT_CONTAINING)] Z.heap (fun v h' L => v = some (.int 0) ∧ h' = Z.heap ∧ L = []) := by
  have hw := B.1
  obtain ⟨S_w_Operator_EQUALS, E_w_Operator_EQUALS, S_w_Operator_IN, E_w_Operator_IN, S_w_Operator_NOT_IN, E_w_Operator_NOT_IN, S_w_Operator_LESS_THAN, E_w_Operator_LESS_THAN, S_w_Operator_STARTING_WITH, E_w_Operator_STARTING_WITH, S_w_Operator_GREATER_THAN, E_w_Operator_GREATER_THAN, S_w_Operator_CONTAINING, E_w_Operator_CONTAINING, S_w_Operator_IS_NULL, E_w_Operator_IS_NULL, S_w_Operator_BETWEEN, E_w_Operator_BETWEEN, S_w_Operator_FALSE, E_w_Operator_FALSE, S_w_Operator_IS_NOT_NULL, E_w_Operator_IS_NOT_NULL, S_w_Operator_NOT_EQUALS, E_w_Operator_NOT_EQUALS, S_w_Operator_NOT_LIKE, E_w_Operator_NOT_LIKE, S_w_Operator_NOT_CONTAINING, E_w_Operator_NOT_CONTAINING, S_w_Operator_GREATER_THAN_OR_EQUAL, E_w_Operator_GREATER_THAN_OR_EQUAL, S_w_Operator_ENDING_WITH, E_w_Operator_ENDING_WITH, S_w_Operator_LESS_THAN_OR_EQUAL, E_w_Operator_LESS_THAN_OR_EQUAL, S_w_Operator_TRUE, E_w_Operator_TRUE, S_w_Operator_LIKE, E_w_Operator_LIKE, F_w_Operator_EQUALS_ordinal, F_w_Operator_IN_ordinal, F_w_Operator_NOT_IN_ordinal, F_w_Operator_LESS_THAN_ordinal, F_w_Operator_STARTING_WITH_ordinal, F_w_Operator_GREATER_THAN_ordinal, F_w_Operator_CONTAINING_ordinal, F_w_Operator_IS_NULL_ordinal, F_w_Operator_BETWEEN_ordinal, F_w_Operator_IN_arguments, F_w_Operator_FALSE_ordinal, F_w_Operator_IS_NOT_NULL_ordinal, F_w_Operator_NOT_EQUALS_ordinal, F_w_Operator_NOT_LIKE_ordinal, F_w_Operator_NOT_CONTAINING_ordinal, F_w_Operator_GREATER_THAN_OR_EQUAL_ordinal, F_w_Operator_ENDING_WITH_ordinal, F_w_Operator_LESS_THAN_OR_EQUAL_ordinal, F_w_Operator_TRUE_ordinal, F_w_Operator_NOT_IN_arguments, F_w_Operator_LIKE_ordinal, F_w_Operator_EQUALS_arguments, F_w_Operator_LESS_THAN_arguments, F_w_Operator_STARTING_WITH_arguments, F_w_Operator_GREATER_THAN_arguments, F_w_Operator_CONTAINING_arguments, F_w_Operator_IS_NULL_arguments, F_w_Operator_BETWEEN_arguments, F_w_Operator_FALSE_arguments, F_w_Operator_IS_NOT_NULL_arguments, F_w_Operator_NOT_EQUALS_arguments, F_w_Operator_NOT_LIKE_arguments, F_w_Operator_NOT_CONTAINING_arguments, F_w_Operator_GREATER_THAN_OR_EQUAL_arguments, F_w_Operator_ENDING_WITH_arguments, F_w_Operator_LESS_THAN_OR_EQUAL_arguments, F_w_Operator_TRUE_arguments, F_w_Operator_LIKE_arguments⟩ := B.2
  refine Con.of (plainFor_of_name pn2) (Ls := #[vR w_Operator_NOT_CONTAINING]) (fun _ => rfl) ?_
  intro p e s m below meth c T0 X0 H hml hZ hown hnm hret hlk e0
  refine gAloadN X0 H d2_0 rfl rfl 1 rfl ?_
  refine gGetS X0 H hZ hown (hw _ wd13) e0 S_w_Operator_IN d2_1 4 rfl ?_
  intro T145 X145 e145
  refine gAcmp X145 H d2_4 rfl rfl (same := false) (decide_eq_false fun q => (Fld.ne F_w_Operator_NOT_CONTAINING_ordinal F_w_Operator_IN_ordinal (by decide)) (Value.ref.inj q)) (by decide) 7 (by decide) ?_
  refine gAloadN X145 H d2_7 rfl rfl 8 rfl ?_
  refine gGetS X145 H hZ hown (hw _ wd15) e145 S_w_Operator_NOT_IN d2_8 11 rfl ?_
  intro T146 X146 e146
  refine gAcmp X146 H d2_11 rfl rfl (same := false) (decide_eq_false fun q => (Fld.ne F_w_Operator_NOT_CONTAINING_ordinal F_w_Operator_NOT_IN_ordinal (by decide)) (Value.ref.inj q)) (by decide) 18 (by decide) ?_
  refine gIconst X146 H d2_18 (z := 0) rfl 19 rfl ?_
  exact gRetN X146 H hlk hret (t := .boolean) (by simp) d2_19 e146 ⟨rfl, rfl, rfl⟩
theorem lawAll_18 (B : Bg Z a0 w_Operator_EQUALS w_Operator_IN w_Operator_NOT_IN w_Operator_LESS_THAN w_Operator_STARTING_WITH w_Operator_GREATER_THAN w_Operator_CONTAINING w_Operator_IS_NULL w_Operator_BETWEEN w_Operator_FALSE w_Operator_IS_NOT_NULL w_Operator_NOT_EQUALS w_Operator_NOT_LIKE w_Operator_NOT_CONTAINING w_Operator_GREATER_THAN_OR_EQUAL w_Operator_ENDING_WITH w_Operator_LESS_THAN_OR_EQUAL w_Operator_TRUE w_Operator_LIKE) (p0 : Int32) (ha0 : ((p0 &&& (2147483647 : Int32)) % (19 : Int32)) = (18 : Int32)) :
    Con l Z x code maxLocals ret room_1 #[(.int p0)] Z.heap (fun v h' L => v = some (.int 1) ∧ Fr Z.heap.size L) := by
  have hw := B.1
  obtain ⟨S_w_Operator_EQUALS, E_w_Operator_EQUALS, S_w_Operator_IN, E_w_Operator_IN, S_w_Operator_NOT_IN, E_w_Operator_NOT_IN, S_w_Operator_LESS_THAN, E_w_Operator_LESS_THAN, S_w_Operator_STARTING_WITH, E_w_Operator_STARTING_WITH, S_w_Operator_GREATER_THAN, E_w_Operator_GREATER_THAN, S_w_Operator_CONTAINING, E_w_Operator_CONTAINING, S_w_Operator_IS_NULL, E_w_Operator_IS_NULL, S_w_Operator_BETWEEN, E_w_Operator_BETWEEN, S_w_Operator_FALSE, E_w_Operator_FALSE, S_w_Operator_IS_NOT_NULL, E_w_Operator_IS_NOT_NULL, S_w_Operator_NOT_EQUALS, E_w_Operator_NOT_EQUALS, S_w_Operator_NOT_LIKE, E_w_Operator_NOT_LIKE, S_w_Operator_NOT_CONTAINING, E_w_Operator_NOT_CONTAINING, S_w_Operator_GREATER_THAN_OR_EQUAL, E_w_Operator_GREATER_THAN_OR_EQUAL, S_w_Operator_ENDING_WITH, E_w_Operator_ENDING_WITH, S_w_Operator_LESS_THAN_OR_EQUAL, E_w_Operator_LESS_THAN_OR_EQUAL, S_w_Operator_TRUE, E_w_Operator_TRUE, S_w_Operator_LIKE, E_w_Operator_LIKE, F_w_Operator_EQUALS_ordinal, F_w_Operator_IN_ordinal, F_w_Operator_NOT_IN_ordinal, F_w_Operator_LESS_THAN_ordinal, F_w_Operator_STARTING_WITH_ordinal, F_w_Operator_GREATER_THAN_ordinal, F_w_Operator_CONTAINING_ordinal, F_w_Operator_IS_NULL_ordinal, F_w_Operator_BETWEEN_ordinal, F_w_Operator_IN_arguments, F_w_Operator_FALSE_ordinal, F_w_Operator_IS_NOT_NULL_ordinal, F_w_Operator_NOT_EQUALS_ordinal, F_w_Operator_NOT_LIKE_ordinal, F_w_Operator_NOT_CONTAINING_ordinal, F_w_Operator_GREATER_THAN_OR_EQUAL_ordinal, F_w_Operator_ENDING_WITH_ordinal, F_w_Operator_LESS_THAN_OR_EQUAL_ordinal, F_w_Operator_TRUE_ordinal, F_w_Operator_NOT_IN_arguments, F_w_Operator_LIKE_ordinal, F_w_Operator_EQUALS_arguments, F_w_Operator_LESS_THAN_arguments, F_w_Operator_STARTING_WITH_arguments, F_w_Operator_GREATER_THAN_arguments, F_w_Operator_CONTAINING_arguments, F_w_Operator_IS_NULL_arguments, F_w_Operator_BETWEEN_arguments, F_w_Operator_FALSE_arguments, F_w_Operator_IS_NOT_NULL_arguments, F_w_Operator_NOT_EQUALS_arguments, F_w_Operator_NOT_LIKE_arguments, F_w_Operator_NOT_CONTAINING_arguments, F_w_Operator_GREATER_THAN_OR_EQUAL_arguments, F_w_Operator_ENDING_WITH_arguments, F_w_Operator_LESS_THAN_OR_EQUAL_arguments, F_w_Operator_TRUE_arguments, F_w_Operator_LIKE_arguments⟩ := B.2
  refine Con.of (plainFor_of_name pn0) (Ls := #[vI p0, .unset, .unset, .unset, .unset]) (fun _ => rfl) ?_
  intro p e s m below meth c T0 X0 H hml hZ hown hnm hret hlk e0
  refine gIloadN X0 H at_0 rfl 1 rfl ?_
  refine gLdc X0 H hZ hown (hw _ wd0) at_1 3 rfl ?_
  refine g_iand X0 H at_3 (z := (p0 &&& (2147483647 : Int32))) rfl 4 rfl ?_
  refine gBipush X0 H at_4 (z := 19) rfl 6 rfl ?_
  refine g_irem X0 H at_6 (by decide) (z := 18) ha0 7 rfl ?_
  refine gIstoreN X0 H at_7 (Ls' := #[vI p0, vI 18, .unset, .unset, .unset]) rfl 8 rfl ?_
  refine gIloadN X0 H at_8 rfl 9 rfl ?_
  refine gStatic X0 H hZ hown (hw _ wd1) (hw _ wd2) (by decide) (hw _ wd4) (hw _ wd3) (rm143_1 B) e0 hml rfl pd0 rfl (W := 0) (argsL := [(.int 18)]) (rest := []) rfl rfl at_9 12 rfl ?_
  intro v144 T144 L144 hq144 X144
  obtain ⟨rfl, e144, rfl⟩ := hq144
  show Go _ _ _ _ (State.setTop _ (mkF _ 12 _ [(.ref w_Operator_NOT_CONTAINING)]))
  refine gAstoreN X144 H at_12 rfl (Ls' := #[vI p0, vI 18, vR w_Operator_NOT_CONTAINING, .unset, .unset]) rfl 13 rfl ?_
  refine gAloadN X144 H at_13 rfl rfl 14 rfl ?_
  refine gVirt X144 H hZ hown (hw _ wd8) (hw _ wd9) (hw _ wd11) (hw _ wd10) (by decide) E_w_Operator_NOT_CONTAINING (hw _ wd12) (hw _ wd6) (rm147_2 B) e144 hml rfl pd1 rfl (W := 0) (argsL := []) (rest := []) rfl rfl at_14 17 rfl ?_
  intro v148 T148 L148 hq148 X148
  obtain ⟨rfl, e148, rfl⟩ := hq148
  show Go _ _ _ _ (State.setTop _ (mkF _ 17 _ [(.int 0)]))
  refine gIstoreN X148 H at_17 (Ls' := #[vI p0, vI 18, vR w_Operator_NOT_CONTAINING, vI 0, .unset]) rfl 18 rfl ?_
  refine gIloadN X148 H at_18 rfl 19 rfl ?_
  refine gBipush X148 H at_19 (z := 11) rfl 21 rfl ?_
  refine gCmpN X148 H at_21 (by decide) 24 rfl ?_
  refine gIloadN X148 H at_24 rfl 25 rfl ?_
  refine gBipush X148 H at_25 (z := 12) rfl 27 rfl ?_
  refine gCmpY X148 H at_27 (by decide) (by decide) 34 rfl ?_
  refine gIconst X148 H at_34 (z := 0) rfl 35 rfl ?_
  refine gIstore X148 H at_35 (Ls' := #[vI p0, vI 18, vR w_Operator_NOT_CONTAINING, vI 0, vI 0]) rfl 37 rfl ?_
  refine gIloadN X148 H at_37 rfl 38 rfl ?_
  refine gIload X148 H at_38 rfl 40 rfl ?_
  refine gCmpY X148 H at_40 (by decide) (by decide) 45 rfl ?_
  refine gIloadN X148 H at_45 rfl 46 rfl ?_
  refine gIfY X148 H at_46 (by decide) (by decide) 70 rfl ?_
  refine gIconst X148 H at_70 (z := 1) rfl 71 rfl ?_
  exact gRetN X148 H hlk hret (t := .boolean) (by simp) at_71 e148 ⟨rfl, Fr.nil _⟩
theorem lawAll (B : Bg Z a0 w_Operator_EQUALS w_Operator_IN w_Operator_NOT_IN w_Operator_LESS_THAN w_Operator_STARTING_WITH w_Operator_GREATER_THAN w_Operator_CONTAINING w_Operator_IS_NULL w_Operator_BETWEEN w_Operator_FALSE w_Operator_IS_NOT_NULL w_Operator_NOT_EQUALS w_Operator_NOT_LIKE w_Operator_NOT_CONTAINING w_Operator_GREATER_THAN_OR_EQUAL w_Operator_ENDING_WITH w_Operator_LESS_THAN_OR_EQUAL w_Operator_TRUE w_Operator_LIKE) (p0 : Int32) :
    Con l Z x code maxLocals ret room_1 #[(.int p0)] Z.heap (fun v h' L => v = some (.int 1) ∧ Fr Z.heap.size L) := by
  rcases mod_cases p0 with ha0 | ha0 | ha0 | ha0 | ha0 | ha0 | ha0 | ha0 | ha0 | ha0 | ha0 | ha0 | ha0 | ha0 | ha0 | ha0 | ha0 | ha0 | ha0
  · exact lawAll_0 B p0 ha0
  · exact lawAll_1 B p0 ha0
  · exact lawAll_2 B p0 ha0
  · exact lawAll_3 B p0 ha0
  · exact lawAll_4 B p0 ha0
  · exact lawAll_5 B p0 ha0
  · exact lawAll_6 B p0 ha0
  · exact lawAll_7 B p0 ha0
  · exact lawAll_8 B p0 ha0
  · exact lawAll_9 B p0 ha0
  · exact lawAll_10 B p0 ha0
  · exact lawAll_11 B p0 ha0
  · exact lawAll_12 B p0 ha0
  · exact lawAll_13 B p0 ha0
  · exact lawAll_14 B p0 ha0
  · exact lawAll_15 B p0 ha0
  · exact lawAll_16 B p0 ha0
  · exact lawAll_17 B p0 ha0
  · exact lawAll_18 B p0 ha0
end Walk
set_option maxHeartbeats 4000000 in
theorem comes_1 {Post : Tables → Env → Array Value → State → Outcome → State → Prop} (hpost : ∀ tb e args s v u, (limb_1_1.after args s (.returned v) u = true ∧ limb_1_2.after args s (.returned v) u = true ∧ True) → FrameEnd s (.returned v) u (Jvm.fieldLocs frame_1_writes args s ++ Jvm.arrayLocs frame_1_arrays args s ++ Jvm.staticLocs frame_1_statics s) 0 0 → Post tb e args s (.returned v) u) :
    ArmFor flags0 classFile x code maxLocals ret World_1 tables_1 room_1 Calls_1 rest_1 Pre_1 Post := by
  intro l hfl _ _ p e ha hc hk s m args below hf hA hF happ hP
  obtain ⟨hcalls, hrest, hpre⟩ := hP
  obtain ⟨-, -, -, hnamed, -, -, -, hat⟩ := (Spec.applies_iff hf).mp happ
  obtain ⟨hg, hn⟩ := and_e (Cond.before_iff.mp (show (Jvm.Cond.and given_1 narrow_1).before args s = true from hpre))
  obtain ⟨n1, n2⟩ := and_e hg
  obtain ⟨w0, rfl⟩ : ∃ w0 : Value, args = #[w0] := by
    have hs : args.size = 1 := by simpa [Cond.value, given_1] using n1
    obtain ⟨L⟩ := args
    match L, hs with
    | [w0], _ => exact ⟨w0, rfl⟩
  have hfit : Fit s := fun {y c} hc i hi => by
    obtain ⟨ha, rfl⟩ := Array.getElem?_eq_some_iff.mp hc
    have q := List.all_eq_true.mp ((Array.all_eq_true_iff_forall_mem.mp hF) _ (Array.getElem_mem ha)) i (List.mem_range.mpr hi)
    simpa [Array.getElem?_eq_getElem hi] using q
  have hw := fun d (hd : d ∈ tables_1) => atoms_spec (ws := Jvm.Cond.code x code maxLocals ret :: tables_1) hat d (List.mem_cons_of_mem _ hd)
  obtain ⟨i0, ei0⟩ := is_v n2
  obtain rfl : w0 = (.int i0) := Option.some.inj ei0
  obtain ⟨n3, n4⟩ := and_e hn
  obtain ⟨n5, n6⟩ := and_e n4
  obtain ⟨n7, n8⟩ := and_e n6
  obtain ⟨n9, n10⟩ := and_e n8
  obtain ⟨n11, n12⟩ := and_e n10
  obtain ⟨n13, n14⟩ := and_e n12
  obtain ⟨n15, n16⟩ := and_e n14
  obtain ⟨n17, n18⟩ := and_e n16
  obtain ⟨n19, n20⟩ := and_e n18
  obtain ⟨n21, n22⟩ := and_e n20
  obtain ⟨n23, n24⟩ := and_e n22
  obtain ⟨n25, n26⟩ := and_e n24
  obtain ⟨n27, n28⟩ := and_e n26
  obtain ⟨n29, n30⟩ := and_e n28
  obtain ⟨n31, n32⟩ := and_e n30
  obtain ⟨n33, n34⟩ := and_e n32
  obtain ⟨n35, n36⟩ := and_e n34
  obtain ⟨n37, n38⟩ := and_e n36
  obtain ⟨n39, n40⟩ := and_e n38
  obtain ⟨n41, n42⟩ := and_e n40
  obtain ⟨n43, n44⟩ := and_e n42
  obtain ⟨n45, n46⟩ := and_e n44
  obtain ⟨n47, n48⟩ := and_e n46
  obtain ⟨n49, n50⟩ := and_e n48
  obtain ⟨n51, n52⟩ := and_e n50
  obtain ⟨n53, n54⟩ := and_e n52
  obtain ⟨n55, n56⟩ := and_e n54
  obtain ⟨n57, n58⟩ := and_e n56
  obtain ⟨n59, n60⟩ := and_e n58
  obtain ⟨n61, n62⟩ := and_e n60
  obtain ⟨n63, n64⟩ := and_e n62
  obtain ⟨n65, n66⟩ := and_e n64
  obtain ⟨n67, n68⟩ := and_e n66
  obtain ⟨n69, n70⟩ := and_e n68
  obtain ⟨n71, n72⟩ := and_e n70
  obtain ⟨n73, n74⟩ := and_e n72
  obtain ⟨n75, n76⟩ := and_e n74
  obtain ⟨n77, n78⟩ := and_e n76
  obtain ⟨n79, n80⟩ := and_e n78
  obtain ⟨n81, n82⟩ := and_e n80
  obtain ⟨n83, n84⟩ := and_e n82
  obtain ⟨n85, n86⟩ := and_e n84
  obtain ⟨n87, n88⟩ := and_e n86
  obtain ⟨n89, n90⟩ := and_e n88
  obtain ⟨n91, n92⟩ := and_e n90
  obtain ⟨n93, n94⟩ := and_e n92
  obtain ⟨n95, n96⟩ := and_e n94
  obtain ⟨n97, n98⟩ := and_e n96
  obtain ⟨n99, n100⟩ := and_e n98
  obtain ⟨n101, n102⟩ := and_e n100
  obtain ⟨n103, n104⟩ := and_e n102
  obtain ⟨n105, n106⟩ := and_e n104
  obtain ⟨n107, n108⟩ := and_e n106
  obtain ⟨n109, n110⟩ := and_e n108
  obtain ⟨n111, n112⟩ := and_e n110
  obtain ⟨n113, n114⟩ := and_e n112
  obtain ⟨w_Operator_EQUALS, ev_w_Operator_EQUALS⟩ := exa_v n3
  obtain ⟨w_Operator_IN, ev_w_Operator_IN⟩ := exa_v n5
  obtain ⟨w_Operator_NOT_IN, ev_w_Operator_NOT_IN⟩ := exa_v n11
  obtain ⟨w_Operator_LESS_THAN, ev_w_Operator_LESS_THAN⟩ := exa_v n15
  obtain ⟨w_Operator_STARTING_WITH, ev_w_Operator_STARTING_WITH⟩ := exa_v n19
  obtain ⟨w_Operator_GREATER_THAN, ev_w_Operator_GREATER_THAN⟩ := exa_v n23
  obtain ⟨w_Operator_CONTAINING, ev_w_Operator_CONTAINING⟩ := exa_v n27
  obtain ⟨w_Operator_IS_NULL, ev_w_Operator_IS_NULL⟩ := exa_v n31
  obtain ⟨w_Operator_BETWEEN, ev_w_Operator_BETWEEN⟩ := exa_v n35
  obtain ⟨w_Operator_FALSE, ev_w_Operator_FALSE⟩ := exa_v n41
  obtain ⟨w_Operator_IS_NOT_NULL, ev_w_Operator_IS_NOT_NULL⟩ := exa_v n45
  obtain ⟨w_Operator_NOT_EQUALS, ev_w_Operator_NOT_EQUALS⟩ := exa_v n49
  obtain ⟨w_Operator_NOT_LIKE, ev_w_Operator_NOT_LIKE⟩ := exa_v n53
  obtain ⟨w_Operator_NOT_CONTAINING, ev_w_Operator_NOT_CONTAINING⟩ := exa_v n57
  obtain ⟨w_Operator_GREATER_THAN_OR_EQUAL, ev_w_Operator_GREATER_THAN_OR_EQUAL⟩ := exa_v n61
  obtain ⟨w_Operator_ENDING_WITH, ev_w_Operator_ENDING_WITH⟩ := exa_v n65
  obtain ⟨w_Operator_LESS_THAN_OR_EQUAL, ev_w_Operator_LESS_THAN_OR_EQUAL⟩ := exa_v n69
  obtain ⟨w_Operator_TRUE, ev_w_Operator_TRUE⟩ := exa_v n73
  obtain ⟨w_Operator_LIKE, ev_w_Operator_LIKE⟩ := exa_v n79
  have W : World s w_Operator_EQUALS w_Operator_IN w_Operator_NOT_IN w_Operator_LESS_THAN w_Operator_STARTING_WITH w_Operator_GREATER_THAN w_Operator_CONTAINING w_Operator_IS_NULL w_Operator_BETWEEN w_Operator_FALSE w_Operator_IS_NOT_NULL w_Operator_NOT_EQUALS w_Operator_NOT_LIKE w_Operator_NOT_CONTAINING w_Operator_GREATER_THAN_OR_EQUAL w_Operator_ENDING_WITH w_Operator_LESS_THAN_OR_EQUAL w_Operator_TRUE w_Operator_LIKE := ⟨Sta.start ev_w_Operator_EQUALS (Or.inr ⟨(hw _ wd6), (hw _ wd7)⟩), Exa.start ev_w_Operator_EQUALS n3, Sta.start ev_w_Operator_IN (Or.inr ⟨(hw _ wd6), (hw _ wd14)⟩), Exa.start ev_w_Operator_IN n5, Sta.start ev_w_Operator_NOT_IN (Or.inr ⟨(hw _ wd6), (hw _ wd16)⟩), Exa.start ev_w_Operator_NOT_IN n11, Sta.start ev_w_Operator_LESS_THAN (Or.inr ⟨(hw _ wd6), (hw _ wd18)⟩), Exa.start ev_w_Operator_LESS_THAN n15, Sta.start ev_w_Operator_STARTING_WITH (Or.inr ⟨(hw _ wd6), (hw _ wd20)⟩), Exa.start ev_w_Operator_STARTING_WITH n19, Sta.start ev_w_Operator_GREATER_THAN (Or.inr ⟨(hw _ wd6), (hw _ wd22)⟩), Exa.start ev_w_Operator_GREATER_THAN n23, Sta.start ev_w_Operator_CONTAINING (Or.inr ⟨(hw _ wd6), (hw _ wd24)⟩), Exa.start ev_w_Operator_CONTAINING n27, Sta.start ev_w_Operator_IS_NULL (Or.inr ⟨(hw _ wd6), (hw _ wd26)⟩), Exa.start ev_w_Operator_IS_NULL n31, Sta.start ev_w_Operator_BETWEEN (Or.inr ⟨(hw _ wd6), (hw _ wd28)⟩), Exa.start ev_w_Operator_BETWEEN n35, Sta.start ev_w_Operator_FALSE (Or.inr ⟨(hw _ wd6), (hw _ wd52)⟩), Exa.start ev_w_Operator_FALSE n41, Sta.start ev_w_Operator_IS_NOT_NULL (Or.inr ⟨(hw _ wd6), (hw _ wd54)⟩), Exa.start ev_w_Operator_IS_NOT_NULL n45, Sta.start ev_w_Operator_NOT_EQUALS (Or.inr ⟨(hw _ wd6), (hw _ wd56)⟩), Exa.start ev_w_Operator_NOT_EQUALS n49, Sta.start ev_w_Operator_NOT_LIKE (Or.inr ⟨(hw _ wd6), (hw _ wd58)⟩), Exa.start ev_w_Operator_NOT_LIKE n53, Sta.start ev_w_Operator_NOT_CONTAINING (Or.inr ⟨(hw _ wd6), (hw _ wd60)⟩), Exa.start ev_w_Operator_NOT_CONTAINING n57, Sta.start ev_w_Operator_GREATER_THAN_OR_EQUAL (Or.inr ⟨(hw _ wd6), (hw _ wd62)⟩), Exa.start ev_w_Operator_GREATER_THAN_OR_EQUAL n61, Sta.start ev_w_Operator_ENDING_WITH (Or.inr ⟨(hw _ wd6), (hw _ wd64)⟩), Exa.start ev_w_Operator_ENDING_WITH n65, Sta.start ev_w_Operator_LESS_THAN_OR_EQUAL (Or.inr ⟨(hw _ wd6), (hw _ wd66)⟩), Exa.start ev_w_Operator_LESS_THAN_OR_EQUAL n69, Sta.start ev_w_Operator_TRUE (Or.inr ⟨(hw _ wd6), (hw _ wd68)⟩), Exa.start ev_w_Operator_TRUE n73, Sta.start ev_w_Operator_LIKE (Or.inr ⟨(hw _ wd6), (hw _ wd71)⟩), Exa.start ev_w_Operator_LIKE n79, eqI ev_w_Operator_EQUALS n7, eqI ev_w_Operator_IN n9, eqI ev_w_Operator_NOT_IN n13, eqI ev_w_Operator_LESS_THAN n17, eqI ev_w_Operator_STARTING_WITH n21, eqI ev_w_Operator_GREATER_THAN n25, eqI ev_w_Operator_CONTAINING n29, eqI ev_w_Operator_IS_NULL n33, eqI ev_w_Operator_BETWEEN n37, eqI ev_w_Operator_IN n39, eqI ev_w_Operator_FALSE n43, eqI ev_w_Operator_IS_NOT_NULL n47, eqI ev_w_Operator_NOT_EQUALS n51, eqI ev_w_Operator_NOT_LIKE n55, eqI ev_w_Operator_NOT_CONTAINING n59, eqI ev_w_Operator_GREATER_THAN_OR_EQUAL n63, eqI ev_w_Operator_ENDING_WITH n67, eqI ev_w_Operator_LESS_THAN_OR_EQUAL n71, eqI ev_w_Operator_TRUE n75, eqI ev_w_Operator_NOT_IN n77, eqI ev_w_Operator_LIKE n81, eqI ev_w_Operator_EQUALS n83, eqI ev_w_Operator_LESS_THAN n85, eqI ev_w_Operator_STARTING_WITH n87, eqI ev_w_Operator_GREATER_THAN n89, eqI ev_w_Operator_CONTAINING n91, eqI ev_w_Operator_IS_NULL n93, eqI ev_w_Operator_BETWEEN n95, eqI ev_w_Operator_FALSE n97, eqI ev_w_Operator_IS_NOT_NULL n99, eqI ev_w_Operator_NOT_EQUALS n101, eqI ev_w_Operator_NOT_LIKE n103, eqI ev_w_Operator_NOT_CONTAINING n105, eqI ev_w_Operator_GREATER_THAN_OR_EQUAL n107, eqI ev_w_Operator_ENDING_WITH n109, eqI ev_w_Operator_LESS_THAN_OR_EQUAL n111, eqI ev_w_Operator_TRUE n113, eqI ev_w_Operator_LIKE n114⟩
  have B : Bg s _ w_Operator_EQUALS w_Operator_IN w_Operator_NOT_IN w_Operator_LESS_THAN w_Operator_STARTING_WITH w_Operator_GREATER_THAN w_Operator_CONTAINING w_Operator_IS_NULL w_Operator_BETWEEN w_Operator_FALSE w_Operator_IS_NOT_NULL w_Operator_NOT_EQUALS w_Operator_NOT_LIKE w_Operator_NOT_CONTAINING w_Operator_GREATER_THAN_OR_EQUAL w_Operator_ENDING_WITH w_Operator_LESS_THAN_OR_EQUAL w_Operator_TRUE w_Operator_LIKE := ⟨hw, W⟩
  obtain ⟨n, o, h1, h2, h3, _, L, rfl, ⟨rfl, N⟩, hq⟩ := (lawAll (l := l) B i0) tables_1 p e ha hc hk s m _ below hf ((Spec.applies_iff_loose hf).mp happ).1 ⟨rfl, State.Warmed39.refl s, rfl⟩ trivial
  refine ⟨n, _, h1, h2, h3, hpost _ _ _ _ _ _ ⟨Cond.after_iff.mpr rfl, Cond.after_iff.mpr (eq_i res_at (Term.int_eval (1)) rfl), trivial⟩ ⟨hq.1, hq.2.1, (hq.2.2.sift fun y hy => Or.inr (N y hy)).mono (by decide) (by decide)⟩⟩
theorem main_1_1 : Claimed_1_1 := comes_1 fun _ _ _ _ _ _ h hF => ⟨h.1, hF⟩
theorem main_1_2 : Claimed_1_2 := comes_1 fun _ _ _ _ _ _ h hF => ⟨h.2.1, hF⟩
end Jvm.Pilot.@@N@@
namespace Jvm.Pilot.@@N@@
open Jvm Jvm.ClassFile Sem Op Lib Jvm.Free Jvm.Stand Jvm.Pilot.@@N@@.Jvm.D
/-! MADE BY PROGRAM (witnessworld.py) out of the Statement's table words and the real class files: 12 classes; the members and pool entries that the words name. The judged class is class 1, her method 2. -/
namespace start1
open Jvm.ClassFile
def u (s : String) : CpInfo := .utf8 (stringToUtf16 s)
/-- a pool by its gaps: so many unusable entries, then the entry; so many at the end -/
def gap : Nat → List CpInfo → List CpInfo
  | 0, r => r
  | n + 1, r => .unusable :: gap n r
def poolList (es : List (Nat × CpInfo)) (last : Nat) : List CpInfo := es.foldr (fun e r => gap e.1 (e.2 :: r)) (gap last [])
def pool (es : List (Nat × CpInfo)) (last : Nat) : Array CpInfo := ⟨poolList es last⟩
def fileOf (pool : Array CpInfo) (this : Nat) (attrs : Array Attribute := #[]) (ms : Array MethodInfo := #[]) (fl : Nat := 33) (sup : Nat := 0) (ifs : Array Nat := #[]) (fds : Array FieldInfo := #[]) : ClassFile where
  minorVersion := 0
  majorVersion := 65
  constantPool := pool
  accessFlags := fl
  thisClass := this
  superClass := sup
  interfaces := ifs
  fields := fds
  methods := ms
  attributes := attrs
def plain (name : String) (sup : Option ClassId) : Class where
  name := name
  kind := .ordinary
  loader := none
  accessFlags := 33
  super := sup
  interfaces := #[]
  cf := none
  fields := #[]
  methods := #[]
  instanceTypes := #[]
  staticTypes := #[]
  resolved := #[]
  callSites := []
  init := .initialized
  statics := none
  mirror := none

def pool0 : Array CpInfo := pool [(5, u "<init>"), (0, u "()V"), (1, .class_ 10), (1, u "java/lang/Object")] 113

def k0m0 : Method := { name := "<init>", desc := "()V", sig := { parameters := [], returnType := none }, accessFlags := 1, code := none }
/-- java/lang/Object -/
def k0 : Class := { plain "java/lang/Object" none with
  accessFlags := 33
  interfaces := #[]
  cf := some (fileOf pool0 8 #[] #[{ accessFlags := 1, nameIndex := 5, descriptorIndex := 6, attributes := #[] }] 33 0 #[] #[])
  fields := #[]
  methods := #[k0m0]
  instanceTypes := #[]
  staticTypes := #[]
  resolved := Array.replicate 124 none
  statics := none }

def pool1 : Array CpInfo := pool [(2, .class_ 4), (1, u "java/lang/Object"), (0, u "<init>"), (0, u "()V"), (0, .fieldref 8 9), (0, .class_ 10), (0, .nameAndType 11 12), (0, u "com/example/unfussy_repo/unfussyrepo/query/Operator"), (0, u "EQUALS"), (0, u "Lcom/example/unfussy_repo/unfussyrepo/query/Operator;"), (0, .fieldref 8 14), (0, .nameAndType 15 12), (0, u "NOT_EQUALS"), (0, .fieldref 8 17), (0, .nameAndType 18 12), (0, u "BETWEEN"), (0, .fieldref 8 20), (0, .nameAndType 21 12), (0, u "LESS_THAN"), (0, .fieldref 8 23), (0, .nameAndType 24 12), (0, u "LESS_THAN_OR_EQUAL"), (0, .fieldref 8 26), (0, .nameAndType 27 12), (0, u "GREATER_THAN"), (0, .fieldref 8 29), (0, .nameAndType 30 12), (0, u "GREATER_THAN_OR_EQUAL"), (0, .fieldref 8 32), (0, .nameAndType 33 12), (0, u "IS_NULL"), (0, .fieldref 8 35), (0, .nameAndType 36 12), (0, u "IS_NOT_NULL"), (0, .fieldref 8 38), (0, .nameAndType 39 12), (0, u "TRUE"), (0, .fieldref 8 41), (0, .nameAndType 42 12), (0, u "FALSE"), (0, .fieldref 8 44), (0, .nameAndType 45 12), (0, u "IN"), (0, .fieldref 8 47), (0, .nameAndType 48 12), (0, u "NOT_IN"), (0, .fieldref 8 50), (0, .nameAndType 51 12), (0, u "LIKE"), (0, .fieldref 8 53), (0, .nameAndType 54 12), (0, u "NOT_LIKE"), (0, .fieldref 8 56), (0, .nameAndType 57 12), (0, u "STARTING_WITH"), (0, .fieldref 8 59), (0, .nameAndType 60 12), (0, u "ENDING_WITH"), (0, .fieldref 8 62), (0, .nameAndType 63 12), (0, u "CONTAINING"), (0, .fieldref 8 65), (0, .nameAndType 66 12), (0, u "NOT_CONTAINING"), (0, .integer 2147483647), (0, .methodref 69 70), (0, .class_ 71), (0, .nameAndType 72 73), (0, u "com/example/unfussy_repo/unfussyrepo/query/OperatorTakesCollectionPinLaw"), (0, u "pick"), (0, u "(I)Lcom/example/unfussy_repo/unfussyrepo/query/Operator;"), (0, .methodref 8 75), (0, .nameAndType 76 77), (0, u "takesCollection"), (0, u "()Z"), (0, .methodref 8 79), (0, .nameAndType 80 81), (0, u "arguments"), (0, u "()I"), (0, .methodref 8 83), (0, .nameAndType 84 77), (0, u "matchesText"), (3, u "law"), (0, u "(I)Z")] 2

def k1m0 : Method := { name := "<init>", desc := "()V", sig := { parameters := [], returnType := none }, accessFlags := 1, code := none }
def k1c1 : Code := { maxStack := 2, maxLocals := 1, code := method_2_code, exceptionTable := #[], attributes := #[] }
def k1m1 : Method := { name := "pick", desc := "(I)Lcom/example/unfussy_repo/unfussyrepo/query/Operator;", sig := { parameters := [.int], returnType := some (.object "com/example/unfussy_repo/unfussyrepo/query/Operator") }, accessFlags := 10, code := some k1c1 }
def k1c2 : Code := { maxStack := 2, maxLocals := 5, code := code, exceptionTable := #[], attributes := #[] }
def k1m2 : Method := { name := "law", desc := "(I)Z", sig := { parameters := [.int], returnType := some .boolean }, accessFlags := 9, code := some k1c2 }
/-- com/example/unfussy_repo/unfussyrepo/query/OperatorTakesCollectionPinLaw -/
def k1 : Class := { plain "com/example/unfussy_repo/unfussyrepo/query/OperatorTakesCollectionPinLaw" (some 0) with
  accessFlags := 49
  interfaces := #[]
  cf := some (fileOf pool1 69 #[] #[{ accessFlags := 1, nameIndex := 5, descriptorIndex := 6, attributes := #[] }, { accessFlags := 10, nameIndex := 72, descriptorIndex := 73, attributes := #[] }, { accessFlags := 9, nameIndex := 88, descriptorIndex := 89, attributes := #[] }] 49 2 #[] #[])
  fields := #[]
  methods := #[k1m0, k1m1, k1m2]
  instanceTypes := #[]
  staticTypes := #[]
  resolved := Array.replicate 92 none
  statics := none }

def pool2 : Array CpInfo := pool [(1, .class_ 2), (0, u "java/lang/constant/Constable"), (0, .class_ 4), (0, u "java/lang/Object")] 6

/-- java/lang/constant/Constable -/
def k2 : Class := { plain "java/lang/constant/Constable" (some 0) with
  accessFlags := 1537
  interfaces := #[]
  cf := some (fileOf pool2 1 #[] #[] 1537 3 #[] #[])
  fields := #[]
  methods := #[]
  instanceTypes := #[]
  staticTypes := #[]
  resolved := Array.replicate 11 none
  statics := none }

def pool3 : Array CpInfo := pool [(1, .class_ 2), (0, u "java/lang/Comparable"), (0, .class_ 4), (0, u "java/lang/Object")] 7

/-- java/lang/Comparable -/
def k3 : Class := { plain "java/lang/Comparable" (some 0) with
  accessFlags := 1537
  interfaces := #[]
  cf := some (fileOf pool3 1 #[] #[] 1537 3 #[] #[])
  fields := #[]
  methods := #[]
  instanceTypes := #[]
  staticTypes := #[]
  resolved := Array.replicate 12 none
  statics := none }

def pool4 : Array CpInfo := pool [(1, .class_ 2), (0, u "java/io/Serializable"), (0, .class_ 4), (0, u "java/lang/Object")] 2

/-- java/io/Serializable -/
def k4 : Class := { plain "java/io/Serializable" (some 0) with
  accessFlags := 1537
  interfaces := #[]
  cf := some (fileOf pool4 1 #[] #[] 1537 3 #[] #[])
  fields := #[]
  methods := #[]
  instanceTypes := #[]
  staticTypes := #[]
  resolved := Array.replicate 7 none
  statics := none }

def pool5 : Array CpInfo := pool [(2, .class_ 4), (1, u "java/lang/Enum"), (0, u "name"), (0, u "Ljava/lang/String;"), (0, .fieldref 2 8), (0, .nameAndType 9 10), (0, u "ordinal"), (0, u "I"), (1, .class_ 14), (1, u "java/lang/Object"), (4, u "hash"), (86, .class_ 108), (1, u "java/lang/Enum$EnumDesc"), (2, .class_ 112), (0, u "java/lang/constant/Constable"), (0, .class_ 114), (0, u "java/lang/Comparable"), (0, .class_ 116), (0, u "java/io/Serializable"), (9, u "()I")] 77

def k5c0 : Code := { maxStack := 1, maxLocals := 1, code := jdk_37_method_2_code, exceptionTable := #[], attributes := #[] }
def k5m0 : Method := { name := "ordinal", desc := "()I", sig := { parameters := [], returnType := some .int }, accessFlags := 17, code := some k5c0 }
/-- java/lang/Enum -/
def k5 : Class := { plain "java/lang/Enum" (some 0) with
  accessFlags := 1057
  interfaces := #[2, 3, 4]
  cf := some (fileOf pool5 2 #[.nestMembers #[106]] #[{ accessFlags := 17, nameIndex := 9, descriptorIndex := 126, attributes := #[] }] 1057 12 #[111, 113, 115] #[{ accessFlags := 18, nameIndex := 5, descriptorIndex := 6, attributes := #[] }, { accessFlags := 18, nameIndex := 9, descriptorIndex := 10, attributes := #[] }, { accessFlags := 2, nameIndex := 19, descriptorIndex := 10, attributes := #[] }])
  fields := #[{ name := "name", type := (.object "java/lang/String"), accessFlags := 18, slot := 0, constantValue := 0 }, { name := "ordinal", type := .int, accessFlags := 18, slot := 1, constantValue := 0 }, { name := "hash", type := .int, accessFlags := 2, slot := 2, constantValue := 0 }]
  methods := #[k5m0]
  instanceTypes := #[(.object "java/lang/String"), .int, .int]
  staticTypes := #[]
  resolved := Array.replicate 204 none
  statics := none }

def pool6 : Array CpInfo := pool [(1, .class_ 2), (0, u "com/example/unfussy_repo/unfussyrepo/query/Operator"), (2, u "EQUALS"), (0, u "Lcom/example/unfussy_repo/unfussyrepo/query/Operator;"), (2, u "NOT_EQUALS"), (2, u "BETWEEN"), (2, u "LESS_THAN"), (2, u "LESS_THAN_OR_EQUAL"), (2, u "GREATER_THAN"), (2, u "GREATER_THAN_OR_EQUAL"), (2, u "IS_NULL"), (2, u "IS_NOT_NULL"), (2, u "TRUE"), (2, u "FALSE"), (0, .fieldref 1 38), (0, .nameAndType 39 6), (0, u "IN"), (0, .fieldref 1 41), (0, .nameAndType 42 6), (0, u "NOT_IN"), (2, u "LIKE"), (2, u "NOT_LIKE"), (2, u "STARTING_WITH"), (2, u "ENDING_WITH"), (2, u "CONTAINING"), (2, u "NOT_CONTAINING"), (2, u "$VALUES"), (0, u "[Lcom/example/unfussy_repo/unfussyrepo/query/Operator;"), (6, .class_ 73), (1, u "java/lang/Enum"), (6, .fieldref 1 81), (0, .nameAndType 82 83), (0, u "arguments"), (0, u "I"), (8, u "keywords"), (0, u "Ljava/util/List;"), (0, .methodref 1 95), (0, .nameAndType 96 97), (0, u "ordinal"), (0, u "()I"), (4, u "matchesText"), (0, u "()Z"), (132, u "takesCollection")] 13

def k6c0 : Code := { maxStack := 1, maxLocals := 1, code := prog_53_method_4_code, exceptionTable := #[], attributes := #[] }
def k6m0 : Method := { name := "arguments", desc := "()I", sig := { parameters := [], returnType := some .int }, accessFlags := 1, code := some k6c0 }
def k6c1 : Code := { maxStack := 2, maxLocals := 1, code := prog_53_method_5_code, exceptionTable := #[], attributes := #[] }
def k6m1 : Method := { name := "takesCollection", desc := "()Z", sig := { parameters := [], returnType := some .boolean }, accessFlags := 1, code := some k6c1 }
def k6c2 : Code := { maxStack := 1, maxLocals := 1, code := prog_53_method_6_code, exceptionTable := #[], attributes := #[] }
def k6m2 : Method := { name := "matchesText", desc := "()Z", sig := { parameters := [], returnType := some .boolean }, accessFlags := 1, code := some k6c2 }
/-- com/example/unfussy_repo/unfussyrepo/query/Operator -/
def k6 : Class := { plain "com/example/unfussy_repo/unfussyrepo/query/Operator" (some 5) with
  accessFlags := 16433
  interfaces := #[]
  cf := some (fileOf pool6 1 #[] #[{ accessFlags := 1, nameIndex := 82, descriptorIndex := 97, attributes := #[] }, { accessFlags := 1, nameIndex := 236, descriptorIndex := 103, attributes := #[] }, { accessFlags := 1, nameIndex := 102, descriptorIndex := 103, attributes := #[] }] 16433 71 #[] #[{ accessFlags := 16409, nameIndex := 5, descriptorIndex := 6, attributes := #[] }, { accessFlags := 16409, nameIndex := 9, descriptorIndex := 6, attributes := #[] }, { accessFlags := 16409, nameIndex := 12, descriptorIndex := 6, attributes := #[] }, { accessFlags := 16409, nameIndex := 15, descriptorIndex := 6, attributes := #[] }, { accessFlags := 16409, nameIndex := 18, descriptorIndex := 6, attributes := #[] }, { accessFlags := 16409, nameIndex := 21, descriptorIndex := 6, attributes := #[] }, { accessFlags := 16409, nameIndex := 24, descriptorIndex := 6, attributes := #[] }, { accessFlags := 16409, nameIndex := 27, descriptorIndex := 6, attributes := #[] }, { accessFlags := 16409, nameIndex := 30, descriptorIndex := 6, attributes := #[] }, { accessFlags := 16409, nameIndex := 33, descriptorIndex := 6, attributes := #[] }, { accessFlags := 16409, nameIndex := 36, descriptorIndex := 6, attributes := #[] }, { accessFlags := 16409, nameIndex := 39, descriptorIndex := 6, attributes := #[] }, { accessFlags := 16409, nameIndex := 42, descriptorIndex := 6, attributes := #[] }, { accessFlags := 16409, nameIndex := 45, descriptorIndex := 6, attributes := #[] }, { accessFlags := 16409, nameIndex := 48, descriptorIndex := 6, attributes := #[] }, { accessFlags := 16409, nameIndex := 51, descriptorIndex := 6, attributes := #[] }, { accessFlags := 16409, nameIndex := 54, descriptorIndex := 6, attributes := #[] }, { accessFlags := 16409, nameIndex := 57, descriptorIndex := 6, attributes := #[] }, { accessFlags := 16409, nameIndex := 60, descriptorIndex := 6, attributes := #[] }, { accessFlags := 18, nameIndex := 82, descriptorIndex := 83, attributes := #[] }, { accessFlags := 18, nameIndex := 92, descriptorIndex := 93, attributes := #[] }, { accessFlags := 4122, nameIndex := 63, descriptorIndex := 64, attributes := #[] }])
  fields := #[{ name := "EQUALS", type := (.object "com/example/unfussy_repo/unfussyrepo/query/Operator"), accessFlags := 16409, slot := 0, constantValue := 0 }, { name := "NOT_EQUALS", type := (.object "com/example/unfussy_repo/unfussyrepo/query/Operator"), accessFlags := 16409, slot := 1, constantValue := 0 }, { name := "BETWEEN", type := (.object "com/example/unfussy_repo/unfussyrepo/query/Operator"), accessFlags := 16409, slot := 2, constantValue := 0 }, { name := "LESS_THAN", type := (.object "com/example/unfussy_repo/unfussyrepo/query/Operator"), accessFlags := 16409, slot := 3, constantValue := 0 }, { name := "LESS_THAN_OR_EQUAL", type := (.object "com/example/unfussy_repo/unfussyrepo/query/Operator"), accessFlags := 16409, slot := 4, constantValue := 0 }, { name := "GREATER_THAN", type := (.object "com/example/unfussy_repo/unfussyrepo/query/Operator"), accessFlags := 16409, slot := 5, constantValue := 0 }, { name := "GREATER_THAN_OR_EQUAL", type := (.object "com/example/unfussy_repo/unfussyrepo/query/Operator"), accessFlags := 16409, slot := 6, constantValue := 0 }, { name := "IS_NULL", type := (.object "com/example/unfussy_repo/unfussyrepo/query/Operator"), accessFlags := 16409, slot := 7, constantValue := 0 }, { name := "IS_NOT_NULL", type := (.object "com/example/unfussy_repo/unfussyrepo/query/Operator"), accessFlags := 16409, slot := 8, constantValue := 0 }, { name := "TRUE", type := (.object "com/example/unfussy_repo/unfussyrepo/query/Operator"), accessFlags := 16409, slot := 9, constantValue := 0 }, { name := "FALSE", type := (.object "com/example/unfussy_repo/unfussyrepo/query/Operator"), accessFlags := 16409, slot := 10, constantValue := 0 }, { name := "IN", type := (.object "com/example/unfussy_repo/unfussyrepo/query/Operator"), accessFlags := 16409, slot := 11, constantValue := 0 }, { name := "NOT_IN", type := (.object "com/example/unfussy_repo/unfussyrepo/query/Operator"), accessFlags := 16409, slot := 12, constantValue := 0 }, { name := "LIKE", type := (.object "com/example/unfussy_repo/unfussyrepo/query/Operator"), accessFlags := 16409, slot := 13, constantValue := 0 }, { name := "NOT_LIKE", type := (.object "com/example/unfussy_repo/unfussyrepo/query/Operator"), accessFlags := 16409, slot := 14, constantValue := 0 }, { name := "STARTING_WITH", type := (.object "com/example/unfussy_repo/unfussyrepo/query/Operator"), accessFlags := 16409, slot := 15, constantValue := 0 }, { name := "ENDING_WITH", type := (.object "com/example/unfussy_repo/unfussyrepo/query/Operator"), accessFlags := 16409, slot := 16, constantValue := 0 }, { name := "CONTAINING", type := (.object "com/example/unfussy_repo/unfussyrepo/query/Operator"), accessFlags := 16409, slot := 17, constantValue := 0 }, { name := "NOT_CONTAINING", type := (.object "com/example/unfussy_repo/unfussyrepo/query/Operator"), accessFlags := 16409, slot := 18, constantValue := 0 }, { name := "arguments", type := .int, accessFlags := 18, slot := 3, constantValue := 0 }, { name := "keywords", type := (.object "java/util/List"), accessFlags := 18, slot := 4, constantValue := 0 }, { name := "$VALUES", type := (.array (.object "com/example/unfussy_repo/unfussyrepo/query/Operator")), accessFlags := 4122, slot := 19, constantValue := 0 }]
  methods := #[k6m0, k6m1, k6m2]
  instanceTypes := #[(.object "java/lang/String"), .int, .int, .int, (.object "java/util/List")]
  staticTypes := #[(.object "com/example/unfussy_repo/unfussyrepo/query/Operator"), (.object "com/example/unfussy_repo/unfussyrepo/query/Operator"), (.object "com/example/unfussy_repo/unfussyrepo/query/Operator"), (.object "com/example/unfussy_repo/unfussyrepo/query/Operator"), (.object "com/example/unfussy_repo/unfussyrepo/query/Operator"), (.object "com/example/unfussy_repo/unfussyrepo/query/Operator"), (.object "com/example/unfussy_repo/unfussyrepo/query/Operator"), (.object "com/example/unfussy_repo/unfussyrepo/query/Operator"), (.object "com/example/unfussy_repo/unfussyrepo/query/Operator"), (.object "com/example/unfussy_repo/unfussyrepo/query/Operator"), (.object "com/example/unfussy_repo/unfussyrepo/query/Operator"), (.object "com/example/unfussy_repo/unfussyrepo/query/Operator"), (.object "com/example/unfussy_repo/unfussyrepo/query/Operator"), (.object "com/example/unfussy_repo/unfussyrepo/query/Operator"), (.object "com/example/unfussy_repo/unfussyrepo/query/Operator"), (.object "com/example/unfussy_repo/unfussyrepo/query/Operator"), (.object "com/example/unfussy_repo/unfussyrepo/query/Operator"), (.object "com/example/unfussy_repo/unfussyrepo/query/Operator"), (.object "com/example/unfussy_repo/unfussyrepo/query/Operator"), (.array (.object "com/example/unfussy_repo/unfussyrepo/query/Operator"))]
  resolved := Array.replicate 250 none
  statics := some 0 }

def pool7 : Array CpInfo := pool [(1, u "java/lang/Cloneable"), (0, .class_ 1), (0, u "java/lang/Object"), (0, .class_ 3)] 3

/-- java/lang/Cloneable -/
def k7 : Class := { plain "java/lang/Cloneable" (some 0) with
  accessFlags := 1537
  interfaces := #[]
  cf := some (fileOf pool7 2 #[] #[] 1537 4 #[] #[])
  fields := #[]
  methods := #[]
  instanceTypes := #[]
  staticTypes := #[]
  resolved := Array.replicate 8 none
  statics := none }

/-- the primitive byte -/
def k8 : Class := { plain "byte" none with kind := .primitive 'B', accessFlags := 0x411 }
/-- [B -/
def k9 : Class := { plain "[B" (some 0) with kind := .array 8 .byte, interfaces := #[7, 4], accessFlags := 1041 }

/-- the primitive int -/
def k10 : Class := { plain "int" none with kind := .primitive 'I', accessFlags := 0x411 }
/-- [I -/
def k11 : Class := { plain "[I" (some 0) with kind := .array 10 .int, interfaces := #[7, 4], accessFlags := 1041 }

def heap : Heap := #[{ cls := 6, slots := #[.ref 1, .ref 12, .ref 9, .ref 4, .ref 17, .ref 6, .ref 15, .ref 8, .ref 11, .ref 18, .ref 10, .ref 2, .ref 3, .ref 19, .ref 13, .ref 5, .ref 16, .ref 7, .ref 14, .null], vm := .statics 6 },
  { cls := 6, slots := #[.null, .int 0, .int 0, .int 1, .null], vm := .none },
  { cls := 6, slots := #[.null, .int 11, .int 0, .int 1, .null], vm := .none },
  { cls := 6, slots := #[.null, .int 12, .int 0, .int 1, .null], vm := .none },
  { cls := 6, slots := #[.null, .int 3, .int 0, .int 1, .null], vm := .none },
  { cls := 6, slots := #[.null, .int 15, .int 0, .int 1, .null], vm := .none },
  { cls := 6, slots := #[.null, .int 5, .int 0, .int 1, .null], vm := .none },
  { cls := 6, slots := #[.null, .int 17, .int 0, .int 1, .null], vm := .none },
  { cls := 6, slots := #[.null, .int 7, .int 0, .int 0, .null], vm := .none },
  { cls := 6, slots := #[.null, .int 2, .int 0, .int 2, .null], vm := .none },
  { cls := 6, slots := #[.null, .int 10, .int 0, .int 0, .null], vm := .none },
  { cls := 6, slots := #[.null, .int 8, .int 0, .int 0, .null], vm := .none },
  { cls := 6, slots := #[.null, .int 1, .int 0, .int 1, .null], vm := .none },
  { cls := 6, slots := #[.null, .int 14, .int 0, .int 1, .null], vm := .none },
  { cls := 6, slots := #[.null, .int 18, .int 0, .int 1, .null], vm := .none },
  { cls := 6, slots := #[.null, .int 6, .int 0, .int 1, .null], vm := .none },
  { cls := 6, slots := #[.null, .int 16, .int 0, .int 1, .null], vm := .none },
  { cls := 6, slots := #[.null, .int 4, .int 0, .int 1, .null], vm := .none },
  { cls := 6, slots := #[.null, .int 9, .int 0, .int 0, .null], vm := .none },
  { cls := 6, slots := #[.null, .int 13, .int 0, .int 1, .null], vm := .none }]
def classes : Array Class := #[k0, k1, k2, k3, k4, k5, k6, k7, k8, k9, k10, k11]
def interned : List (Array UInt16 × Addr) := []
def slotsUsed : Nat := 115
def theMethod : MethodId := ⟨1, 2⟩
def args0 : Array Value := #[.int 5]
def aboutOver (below : List Frame) : State where
  vm := { classes := classes, interned := interned.toArray }
  heap := heap
  slotsUsed := slotsUsed
  threads := #[{ frames := .invoking theMethod args0 :: below }]
def below0 : List Frame := [.native { method := ⟨0, 0⟩, args := #[] }]
def about1 : State := aboutOver below0
def p0 : Program := .bare "" "" ""
def e0 : Env := launch0.env 0 0 0
theorem w_frames : about1.frames = Frame.invoking theMethod args0 :: below0 := rfl
set_option maxRecDepth 65536 in
theorem w_args : argsFit about1.vm theMethod args0 = true := by decide +kernel
set_option maxRecDepth 65536 in
theorem w_heap : heapFits about1 = true := by decide +kernel
set_option maxRecDepth 65536 in
theorem w_runnable : about1.curStatus? = some .runnable := by decide +kernel
set_option maxRecDepth 65536 in
theorem w_alone : about1.alone = true := by decide +kernel
set_option maxRecDepth 65536 in
theorem w_named : about1.methodNamed? x = some theMethod := by decide +kernel
set_option maxRecDepth 65536 in
theorem w_hears : about1.hears theMethod below0 = true := by decide +kernel
set_option maxRecDepth 65536 in
theorem w_ripe : about1.ripe theMethod args0 below0 = true := by decide +kernel
theorem w_running : about1.status = .running := rfl
set_option maxRecDepth 65536 in
theorem w_room : about1.hasRoom e0.platform room_1 = true :=
  launch0.hasRoom_least _ room_1 (by decide +kernel) (by decide +kernel) (by decide +kernel) (by decide +kernel) (by decide +kernel) (by decide +kernel)
theorem allAtoms_all (ts : List Jvm.Cond) (a : Array Jvm.Value) (st : Jvm.State) : (allAtoms ts).before a st = ts.all (fun c => c.before a st) := by
  induction ts with
  | nil => rfl
  | cons c t ih =>
    show (Jvm.Cond.and c (allAtoms t)).before a st = _
    rw [Jvm.Cond.before_and, ih, List.all_cons]
def words1 : List Jvm.Cond := Jvm.Cond.code x code maxLocals ret :: tables_1
/-- a 'code' word, met by the world's own term for the bytes: nothing is compared byte by byte -/
theorem code_word {y : MethodName} {bytes : ByteArray} {mx : Nat} {rt : Option FieldType} {a : Array Value} {s : State} {m : MethodId} {meth : Method} {c : Code} (h1 : s.methodNamed? y = some m) (h2 : s.vm.method? m = some meth) (h3 : meth.code = some c) (h4 : c.code = bytes)
    (h5 : (c.maxLocals == mx && c.exceptionTable.isEmpty && decide (c.maxStack ≤ mostOperands) && decide (meth.sig.returnType = rt) && !meth.locks && decide (parseMethodDescriptor y.desc = some meth.sig)) = true) : (Jvm.Cond.code y bytes mx rt).before a s = true := by
  simp only [Bool.and_eq_true, beq_iff_eq, Bool.not_eq_true', decide_eq_true_eq] at h5
  obtain ⟨⟨⟨⟨⟨g1, g2⟩, g3⟩, g4⟩, g5⟩, g6⟩ := h5
  simp [Cond.before, Cond.holds, Cond.value, h1, h2, h3, h4, g1, g2, g3, g4, g5, g6]
def isCode : Jvm.Cond → Bool
  | .code _ _ _ _ => true
  | _ => false
theorem all_split {L : List Jvm.Cond} {P : Jvm.Cond → Bool} (h1 : L.all (fun c => isCode c || P c) = true) (h2 : ∀ c ∈ L.filter isCode, P c = true) : L.all P = true := by
  refine List.all_eq_true.mpr fun c hc => ?_
  have h := List.all_eq_true.mp h1 c hc
  rcases Bool.eq_false_or_eq_true (isCode c) with hi | hi
  · exact h2 c (List.mem_filter.mpr ⟨hc, hi⟩)
  · simpa [hi] using h
set_option maxRecDepth 65536 in
theorem w_c0 : (Jvm.Cond.code x code maxLocals ret).before args0 about1 = true := code_word (m := ⟨1, 2⟩) (meth := k1m2) (c := k1c2) (by decide +kernel) rfl rfl rfl (by decide +kernel)
set_option maxRecDepth 65536 in
theorem w_c1 : (Jvm.Cond.code ({ cls := "com/example/unfussy_repo/unfussyrepo/query/OperatorTakesCollectionPinLaw", name := "pick", desc := "(I)Lcom/example/unfussy_repo/unfussyrepo/query/Operator;" } : Jvm.MethodName) method_2_code (1 : Nat) (Option.some (Jvm.ClassFile.FieldType.object "com/example/unfussy_repo/unfussyrepo/query/Operator"))).before args0 about1 = true := code_word (m := ⟨1, 1⟩) (meth := k1m1) (c := k1c1) (by decide +kernel) rfl rfl rfl (by decide +kernel)
set_option maxRecDepth 65536 in
theorem w_c2 : (Jvm.Cond.code ({ cls := "com/example/unfussy_repo/unfussyrepo/query/Operator", name := "takesCollection", desc := "()Z" } : Jvm.MethodName) prog_53_method_5_code (1 : Nat) (Option.some Jvm.ClassFile.FieldType.boolean)).before args0 about1 = true := code_word (m := ⟨6, 1⟩) (meth := k6m1) (c := k6c1) (by decide +kernel) rfl rfl rfl (by decide +kernel)
set_option maxRecDepth 65536 in
theorem w_c3 : (Jvm.Cond.code ({ cls := "com/example/unfussy_repo/unfussyrepo/query/Operator", name := "arguments", desc := "()I" } : Jvm.MethodName) prog_53_method_4_code (1 : Nat) (Option.some Jvm.ClassFile.FieldType.int)).before args0 about1 = true := code_word (m := ⟨6, 0⟩) (meth := k6m0) (c := k6c0) (by decide +kernel) rfl rfl rfl (by decide +kernel)
set_option maxRecDepth 65536 in
theorem w_c4 : (Jvm.Cond.code ({ cls := "com/example/unfussy_repo/unfussyrepo/query/Operator", name := "matchesText", desc := "()Z" } : Jvm.MethodName) prog_53_method_6_code (1 : Nat) (Option.some Jvm.ClassFile.FieldType.boolean)).before args0 about1 = true := code_word (m := ⟨6, 2⟩) (meth := k6m2) (c := k6c2) (by decide +kernel) rfl rfl rfl (by decide +kernel)
set_option maxRecDepth 65536 in
theorem w_c5 : (Jvm.Cond.code ({ cls := "java/lang/Enum", name := "ordinal", desc := "()I" } : Jvm.MethodName) jdk_37_method_2_code (1 : Nat) (Option.some Jvm.ClassFile.FieldType.int)).before args0 about1 = true := code_word (m := ⟨5, 0⟩) (meth := k5m0) (c := k5c0) (by decide +kernel) rfl rfl rfl (by decide +kernel)
def codes1 : List Jvm.Cond := [Jvm.Cond.code x code maxLocals ret, Jvm.Cond.code ({ cls := "com/example/unfussy_repo/unfussyrepo/query/OperatorTakesCollectionPinLaw", name := "pick", desc := "(I)Lcom/example/unfussy_repo/unfussyrepo/query/Operator;" } : Jvm.MethodName) method_2_code (1 : Nat) (Option.some (Jvm.ClassFile.FieldType.object "com/example/unfussy_repo/unfussyrepo/query/Operator")), Jvm.Cond.code ({ cls := "com/example/unfussy_repo/unfussyrepo/query/Operator", name := "takesCollection", desc := "()Z" } : Jvm.MethodName) prog_53_method_5_code (1 : Nat) (Option.some Jvm.ClassFile.FieldType.boolean), Jvm.Cond.code ({ cls := "com/example/unfussy_repo/unfussyrepo/query/Operator", name := "arguments", desc := "()I" } : Jvm.MethodName) prog_53_method_4_code (1 : Nat) (Option.some Jvm.ClassFile.FieldType.int), Jvm.Cond.code ({ cls := "com/example/unfussy_repo/unfussyrepo/query/Operator", name := "matchesText", desc := "()Z" } : Jvm.MethodName) prog_53_method_6_code (1 : Nat) (Option.some Jvm.ClassFile.FieldType.boolean), Jvm.Cond.code ({ cls := "java/lang/Enum", name := "ordinal", desc := "()I" } : Jvm.MethodName) jdk_37_method_2_code (1 : Nat) (Option.some Jvm.ClassFile.FieldType.int)]
set_option maxRecDepth 65536 in
theorem codes_eq : words1.filter isCode = codes1 := rfl
theorem w_codes : ∀ c ∈ words1.filter isCode, c.before args0 about1 = true := by
  rw [codes_eq]
  intro c hc
  simp only [codes1, List.mem_cons, List.not_mem_nil, or_false] at hc
  rcases hc with rfl | rfl | rfl | rfl | rfl | rfl
  · exact w_c0
  · exact w_c1
  · exact w_c2
  · exact w_c3
  · exact w_c4
  · exact w_c5
set_option maxRecDepth 65536 in
theorem w_t1 : (words1.take 24).all (fun c => isCode c || c.before args0 about1) = true := by decide +kernel
set_option maxRecDepth 65536 in
theorem w_t2 : ((words1.drop 24).take 24).all (fun c => isCode c || c.before args0 about1) = true := by decide +kernel
set_option maxRecDepth 65536 in
theorem w_t3 : (((words1.drop 24).drop 24).take 24).all (fun c => isCode c || c.before args0 about1) = true := by decide +kernel
set_option maxRecDepth 65536 in
theorem w_t4 : (((words1.drop 24).drop 24).drop 24).all (fun c => isCode c || c.before args0 about1) = true := by decide +kernel
theorem w_tables : (allAtoms (Jvm.Cond.code x code maxLocals ret :: tables_1)).before args0 about1 = true := by
  rw [allAtoms_all]
  show words1.all (fun c => c.before args0 about1) = true
  refine all_split ?_ w_codes
  rw [← List.take_append_drop 24 words1, List.all_append, w_t1, ← List.take_append_drop 24 (words1.drop 24), List.all_append, w_t2, ← List.take_append_drop 24 ((words1.drop 24).drop 24), List.all_append, w_t3, w_t4]
  rfl
set_option maxRecDepth 65536 in
theorem w_case : (Jvm.Cond.and given_1 narrow_1).before args0 about1 = true := by decide +kernel
theorem w_applies : (headSpec (Jvm.Cond.code x code maxLocals ret :: tables_1) room_1).applies x e0.platform about1 = true :=
  (Spec.applies_iff w_frames).mpr ⟨w_running, w_runnable, w_alone, w_named, w_hears, w_ripe, w_room, w_tables⟩
theorem atStart : AtStart classFile x code maxLocals ret World_1 tables_1 room_1 Calls_1 rest_1 Pre_1 launch0 p0 e0 about1 theMethod args0 below0 :=
  ⟨lists_1, trivial, launch0.admits_env _ _ _, launch0.least_env, fairChoices_fair.cas, fairChoices_fair.clock, w_frames, w_args, w_heap, w_applies, trivial, trivial, w_case⟩
end start1
theorem witness_1 : WitnessClaimed_1 := ⟨start1.p0, start1.e0, start1.about1, start1.theMethod, start1.args0, start1.below0, start1.atStart⟩
end Jvm.Pilot.@@N@@
