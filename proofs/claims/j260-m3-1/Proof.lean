import JvmDerived
import JvmDerived.Pilot.@@N@@Statement
import JvmDerived.Pilot.@@N@@Code
set_option linter.unusedVariables false
set_option linter.unusedSimpArgs false
set_option maxRecDepth 65536
set_option maxHeartbeats 8000000
namespace Jvm.Pilot.@@N@@
open Jvm Jvm.ClassFile Sem Op Lib Jvm.Free Jvm.Stand Jvm.LawKit Jvm.RoadKit Bundle Jvm.Pilot.@@N@@.Jvm.D
abbrev vI (x : Int32) : Slot := .val (.int x)
abbrev vJ (x : Int64) : Slot := .val (.long x)
abbrev vR (x : Addr) : Slot := .val (.ref x)
abbrev vN : Slot := .val .null
/-- the run from S comes to an end at which K holds -/
def Go (p : Program) (e : Env) (below : List Frame) (K : State → Outcome → Prop) (S : State) : Prop := ∃ t o, Steps p.tables e below S t ∧ K t o
theorem Go.via {p : Program} {e : Env} {below : List Frame} {K : State → Outcome → Prop} {A B : State} (h : ∀ t, Steps p.tables e below B t → Steps p.tables e below A t) (g : Go p e below K B) : Go p e below K A := by
  obtain ⟨t, o, h1, h2⟩ := g; exact ⟨t, o, h t h1, h2⟩
/-- a method's end: what it returned, the heap and the places written answer Q -/
def EndK (s : State) (below : List Frame) (Q : Option Value → Heap → List Loc → Prop) (C S : Nat) (t : State) (o : Outcome) : Prop := t.status = .running ∧ Ended t below o ∧ ∃ v L, o = .returned v ∧ Q v t.heap L ∧ FrameEnd s o t L C S
/-- a method's contract -/
def Con (l : Launch) (Z : State) (y : MethodName) (bytes : ByteArray) (maxL : Nat) (ret : Option FieldType) (rm : Room) (as : Array Value) (h : Heap) (Q : Option Value → Heap → List Loc → Prop) : Prop :=
  ∀ ws, MetFree l y (head1 (Jvm.Cond.code y bytes maxL ret :: ws) rm) (fun a U => a = as ∧ Z.Warmed39 U.vm ∧ U.heap = h) (fun _ _ _ _ _ => True) (fun _ U o U' => ∃ v L, o = .returned v ∧ Q v U'.heap L ∧ FrameEnd U o U' L rm.cells rm.slots)
theorem Con.of {l : Launch} {Z : State} {y : MethodName} {bytes : ByteArray} {maxL : Nat} {ret : Option FieldType} {rm : Room} {as : Array Value} {h : Heap} {Q : Option Value → Heap → List Loc → Prop} {Ls : Array Slot} (hp : plainFor y = true) (hfr : ∀ m, entryFrame m as maxL = mkF m 0 Ls [])
    (body : ∀ (p : Program) (e : Env) (s : State) (m : MethodId) (below : List Frame) (meth : Method) (c : Code) (T : State), Stand p l e rm s m as below meth c T [] 0 0 → p.tables.exec = Jvm.exec ∧ c.code = bytes → c.maxLocals = maxL → Z.Warmed39 s.vm → s.vm.findClass y.cls = some m.cls → meth.name = y.name → meth.sig.returnType = ret → meth.locks = false → T.heap = h → Go p e below (EndK s below Q rm.cells rm.slots) (T.setTop (mkF m 0 Ls []))) :
    Con l Z y bytes maxL ret rm as h Q := by
  intro ws
  refine MetFree.of_bodySF hp hisR ?_
  intro p e s m args below meth c s₁ Bd hml hP hK
  obtain ⟨rfl, hZ, hh⟩ := hP
  have e0 : s₁.heap = h := by rw [← hh, Bd.state]; rfl
  obtain ⟨t, o, h1, h2⟩ := body p e s m below meth c s₁ (Stand.of_body Bd) ⟨Bd.exec, Bd.bytes⟩ hml hZ (findClass_of_methodNamed Bd.named) (name_of_methodNamed Bd.named Bd.method).1 Bd.returns Bd.notSynchronized e0
  exact ⟨t, o, castTop (hfr m) h1, h2⟩
section Steps
variable {p : Program} {l : Launch} {e : Env} {R : Room} {s : State} {m : MethodId} {args : Array Value} {below : List Frame} {meth : Method} {c : Code} {T : State} {locs : List Loc} {cells slots : Nat} {K : State → Outcome → Prop} {Z : State} {a0 : Array Value} {h : Heap} {bs : ByteArray} {Ls Ls' : Array Slot} {st : List Value} {pc pc' : Nat}

theorem gIloadN (X : Stand p l e R s m args below meth c T locs cells slots) (H : p.tables.exec = Jvm.exec ∧ c.code = bs) {k : Fin 4} {v : Int32} (hd : decode bs pc = .ok (.iload_n k, 1)) (hl : Ls[k.val]? = some (.val (.int v))) (pc' : Nat) (hp : pc + 1 = pc') (g : Go p e below K (T.setTop (mkF m pc' Ls (.int v :: st)))) : Go p e below K (T.setTop (mkF m pc Ls (st))) := by
  subst hp
  exact Go.via (fun t k => XS.iloadN (g := mkF m pc Ls (st)) X.here H.1 rfl (hb H.2 hd) hl k) g

theorem gAloadN (X : Stand p l e R s m args below meth c T locs cells slots) (H : p.tables.exec = Jvm.exec ∧ c.code = bs) {k : Fin 4} {v : Value} (hd : decode bs pc = .ok (.aload_n k, 1)) (hl : Ls[k.val]? = some (.val v)) (hv : v.isRef = true) (pc' : Nat) (hp : pc + 1 = pc') (g : Go p e below K (T.setTop (mkF m pc' Ls (v :: st)))) : Go p e below K (T.setTop (mkF m pc Ls (st))) := by
  subst hp
  exact Go.via (fun t k => XS.aloadN (g := mkF m pc Ls (st)) X.here H.1 rfl (hb H.2 hd) hl hv k) g

theorem gAstoreN (X : Stand p l e R s m args below meth c T locs cells slots) (H : p.tables.exec = Jvm.exec ∧ c.code = bs) {k : Fin 4} {v : Value} (hd : decode bs pc = .ok (.astore_n k, 1)) (hv : v.isRef = true) (hl : storeLocals Ls k.val v = some Ls') (pc' : Nat) (hp : pc + 1 = pc') (g : Go p e below K (T.setTop (mkF m pc' Ls' (st)))) : Go p e below K (T.setTop (mkF m pc Ls (v :: st))) := by
  subst hp
  exact Go.via (fun t k => XS.astoreN (g := mkF m pc Ls (v :: st)) X.here H.1 rfl (hb H.2 hd) rfl hv hl k) g

theorem gIload (X : Stand p l e R s m args below meth c T locs cells slots) (H : p.tables.exec = Jvm.exec ∧ c.code = bs) {k : Nat} {v : Int32} (hd : decode bs pc = .ok (.iload k, 2)) (hl : Ls[k]? = some (.val (.int v))) (pc' : Nat) (hp : pc + 2 = pc') (g : Go p e below K (T.setTop (mkF m pc' Ls (.int v :: st)))) : Go p e below K (T.setTop (mkF m pc Ls (st))) := by
  subst hp
  exact Go.via (fun t k => XS.iload (g := mkF m pc Ls (st)) X.here H.1 rfl (hb H.2 hd) hl k) g

theorem gIstore (X : Stand p l e R s m args below meth c T locs cells slots) (H : p.tables.exec = Jvm.exec ∧ c.code = bs) {k : Nat} {v : Int32} (hd : decode bs pc = .ok (.istore k, 2)) (hl : storeLocals Ls k (.int v) = some Ls') (pc' : Nat) (hp : pc + 2 = pc') (g : Go p e below K (T.setTop (mkF m pc' Ls' (st)))) : Go p e below K (T.setTop (mkF m pc Ls (.int v :: st))) := by
  subst hp
  exact Go.via (fun t k => XS.istore (g := mkF m pc Ls (.int v :: st)) X.here H.1 rfl (hb H.2 hd) rfl hl k) g

theorem gIconst (X : Stand p l e R s m args below meth c T locs cells slots) (H : p.tables.exec = Jvm.exec ∧ c.code = bs) {i : Int} {z : Int32} (hd : decode bs pc = .ok (.iconst i, 1)) (hz : Int32.ofInt i = z) (pc' : Nat) (hp : pc + 1 = pc') (g : Go p e below K (T.setTop (mkF m pc' Ls (.int z :: st)))) : Go p e below K (T.setTop (mkF m pc Ls (st))) := by
  subst hp hz
  exact Go.via (fun t k => XS.iconst (g := mkF m pc Ls (st)) X.here H.1 rfl (hb H.2 hd) k) g

theorem gBipush (X : Stand p l e R s m args below meth c T locs cells slots) (H : p.tables.exec = Jvm.exec ∧ c.code = bs) {i : Int} {z : Int32} (hd : decode bs pc = .ok (.bipush i, 2)) (hz : (Int8.ofInt i).toInt32 = z) (pc' : Nat) (hp : pc + 2 = pc') (g : Go p e below K (T.setTop (mkF m pc' Ls (.int z :: st)))) : Go p e below K (T.setTop (mkF m pc Ls (st))) := by
  subst hp hz
  exact Go.via (fun t k => XS.bipush (g := mkF m pc Ls (st)) X.here H.1 rfl (hb H.2 hd) k) g

theorem g_iadd (X : Stand p l e R s m args below meth c T locs cells slots) (H : p.tables.exec = Jvm.exec ∧ c.code = bs) {x y z : Int32} (hd : decode bs pc = .ok (.iadd, 1)) (hz : x + y = z) (pc' : Nat) (hp : pc + 1 = pc') (g : Go p e below K (T.setTop (mkF m pc' Ls (.int z :: st)))) : Go p e below K (T.setTop (mkF m pc Ls (.int y :: .int x :: st))) := by
  subst hp hz
  exact Go.via (fun t k => XS.iadd (g := mkF m pc Ls (.int y :: .int x :: st)) X.here H.1 rfl (hb H.2 hd) rfl k) g

theorem g_imul (X : Stand p l e R s m args below meth c T locs cells slots) (H : p.tables.exec = Jvm.exec ∧ c.code = bs) {x y z : Int32} (hd : decode bs pc = .ok (.imul, 1)) (hz : x * y = z) (pc' : Nat) (hp : pc + 1 = pc') (g : Go p e below K (T.setTop (mkF m pc' Ls (.int z :: st)))) : Go p e below K (T.setTop (mkF m pc Ls (.int y :: .int x :: st))) := by
  subst hp hz
  exact Go.via (fun t k => XS.imul (g := mkF m pc Ls (.int y :: .int x :: st)) X.here H.1 rfl (hb H.2 hd) rfl k) g

theorem g_iand (X : Stand p l e R s m args below meth c T locs cells slots) (H : p.tables.exec = Jvm.exec ∧ c.code = bs) {x y z : Int32} (hd : decode bs pc = .ok (.iand, 1)) (hz : x &&& y = z) (pc' : Nat) (hp : pc + 1 = pc') (g : Go p e below K (T.setTop (mkF m pc' Ls (.int z :: st)))) : Go p e below K (T.setTop (mkF m pc Ls (.int y :: .int x :: st))) := by
  subst hp hz
  exact Go.via (fun t k => XS.iand (g := mkF m pc Ls (.int y :: .int x :: st)) X.here H.1 rfl (hb H.2 hd) rfl k) g

theorem g_irem (X : Stand p l e R s m args below meth c T locs cells slots) (H : p.tables.exec = Jvm.exec ∧ c.code = bs) {x y z : Int32} (hd : decode bs pc = .ok (.irem, 1)) (hy : y ≠ 0) (hz : x % y = z) (pc' : Nat) (hp : pc + 1 = pc') (g : Go p e below K (T.setTop (mkF m pc' Ls (.int z :: st)))) : Go p e below K (T.setTop (mkF m pc Ls (.int y :: .int x :: st))) := by
  subst hp hz
  exact Go.via (fun t k => iremM (g := mkF m pc Ls (.int y :: .int x :: st)) X H.1 rfl (hb H.2 hd) rfl hy k) g

theorem gDup (X : Stand p l e R s m args below meth c T locs cells slots) (H : p.tables.exec = Jvm.exec ∧ c.code = bs) {v : Value} (hd : decode bs pc = .ok (.dup, 1)) (hc : v.category = 1) (pc' : Nat) (hp : pc + 1 = pc') (g : Go p e below K (T.setTop (mkF m pc' Ls (v :: v :: st)))) : Go p e below K (T.setTop (mkF m pc Ls (v :: st))) := by
  subst hp
  exact Go.via (fun t k => XS.dup (g := mkF m pc Ls (v :: st)) X.here H.1 rfl (hb H.2 hd) rfl hc k) g

theorem gGoto (X : Stand p l e R s m args below meth c T locs cells slots) (H : p.tables.exec = Jvm.exec ∧ c.code = bs)  {o : Int} (hd : decode bs pc = .ok (.goto o, 3)) (ho : 0 ≤ (pc : Int) + o) (pc' : Nat) (hp : ((pc : Int) + o).toNat = pc') (g : Go p e below K (T.setTop (mkF m pc' Ls (st)))) : Go p e below K (T.setTop (mkF m pc Ls (st))) :=
  Go.via (fun t k => XS.goto (g := mkF m pc Ls (st)) X.here H.1 rfl rfl (hb H.2 hd) ho hp k) g

theorem gIfY (X : Stand p l e R s m args below meth c T locs cells slots) (H : p.tables.exec = Jvm.exec ∧ c.code = bs) {cd : ClassFile.Cond} {x : Int32} {o : Int} (hd : decode bs pc = .ok (.ifCond cd o, 3)) (hc : ifCond.holds cd x = true) (ho : 0 ≤ (pc : Int) + o) (pc' : Nat) (hp : ((pc : Int) + o).toNat = pc') (g : Go p e below K (T.setTop (mkF m pc' Ls (st)))) : Go p e below K (T.setTop (mkF m pc Ls (.int x :: st))) :=
  Go.via (fun t k => XS.ifYes (g := mkF m pc Ls (.int x :: st)) X.here H.1 rfl rfl (hb H.2 hd) rfl hc ho hp k) g

theorem gIfN (X : Stand p l e R s m args below meth c T locs cells slots) (H : p.tables.exec = Jvm.exec ∧ c.code = bs) {o : Int} {cd : ClassFile.Cond} {x : Int32} (hd : decode bs pc = .ok (.ifCond cd o, 3)) (hc : ifCond.holds cd x = false) (pc' : Nat) (hp : pc + 3 = pc') (g : Go p e below K (T.setTop (mkF m pc' Ls (st)))) : Go p e below K (T.setTop (mkF m pc Ls (.int x :: st))) := by
  subst hp
  exact Go.via (fun t k => XS.ifNo (g := mkF m pc Ls (.int x :: st)) X.here H.1 rfl (hb H.2 hd) rfl hc k) g

theorem gCmpN (X : Stand p l e R s m args below meth c T locs cells slots) (H : p.tables.exec = Jvm.exec ∧ c.code = bs) {o : Int} {cd : ClassFile.Cond} {x y : Int32} (hd : decode bs pc = .ok (.if_icmp cd o, 3)) (hc : if_icmp.holds cd x y = false) (pc' : Nat) (hp : pc + 3 = pc') (g : Go p e below K (T.setTop (mkF m pc' Ls (st)))) : Go p e below K (T.setTop (mkF m pc Ls (.int y :: .int x :: st))) := by
  subst hp
  exact Go.via (fun t k => XS.icmpNo (g := mkF m pc Ls (.int y :: .int x :: st)) X.here H.1 rfl (hb H.2 hd) rfl hc k) g

theorem gTswIn (X : Stand p l e R s m args below meth c T locs cells slots) (H : p.tables.exec = Jvm.exec ∧ c.code = bs) {dflt low high : Int} {offs : Array Int} {len : Nat} {o : Int} {i : Int32} (hd : decode bs pc = .ok (.tableswitch dflt low high offs, len)) (hin : ¬ (i.toInt < low ∨ i.toInt > high)) (hoff : offs[(i.toInt - low).toNat]? = some o) (ho : 0 ≤ (pc : Int) + o) (pc' : Nat) (hp : ((pc : Int) + o).toNat = pc') (g : Go p e below K (T.setTop (mkF m pc' Ls (st)))) : Go p e below K (T.setTop (mkF m pc Ls (.int i :: st))) :=
  Go.via (fun t k => XS.tswIn (g := mkF m pc Ls (.int i :: st)) X.here H.1 rfl rfl (hb H.2 hd) rfl hin hoff ho hp k) g

theorem gTswOut (X : Stand p l e R s m args below meth c T locs cells slots) (H : p.tables.exec = Jvm.exec ∧ c.code = bs) {dflt low high : Int} {offs : Array Int} {len : Nat} {i : Int32} (hd : decode bs pc = .ok (.tableswitch dflt low high offs, len)) (hout : i.toInt < low ∨ i.toInt > high) (ho : 0 ≤ (pc : Int) + dflt) (pc' : Nat) (hp : ((pc : Int) + dflt).toNat = pc') (g : Go p e below K (T.setTop (mkF m pc' Ls (st)))) : Go p e below K (T.setTop (mkF m pc Ls (.int i :: st))) :=
  Go.via (fun t k => XS.tswOut (g := mkF m pc Ls (.int i :: st)) X.here H.1 rfl rfl (hb H.2 hd) rfl hout ho hp k) g

theorem gLdc (X : Stand p l e R s m args below meth c T locs cells slots) (H : p.tables.exec = Jvm.exec ∧ c.code = bs) (hZ : Z.Warmed39 s.vm) {own : String} {index : Nat} (hown : s.vm.findClass own = some m.cls) {v : Int32} (w : (Cond.constant own index v).before a0 Z = true) (hd : decode bs pc = .ok (.ldc index, 2)) (pc' : Nat) (hp : pc + 2 = pc') (g : Go p e below K (T.setTop (mkF m pc' Ls (.int v :: st)))) : Go p e below K (T.setTop (mkF m pc Ls (st))) := by
  subst hp
  exact Go.via (X.ldcInt H.1 hown (mvT hZ w) (g := mkF m pc Ls st) rfl (hb H.2 hd)) g

theorem gGetS (X : Stand p l e R s m args below meth c T locs cells slots) (H : p.tables.exec = Jvm.exec ∧ c.code = bs) (hZ : Z.Warmed39 s.vm) {own : String} {index : Nat} (hown : s.vm.findClass own = some m.cls) {O n d : String} {v : Value} (w : (Cond.fieldLink own index O n d).before a0 Z = true) (eT : T.heap = h) (F : Sta Z h O n d v) (hd : decode bs pc = .ok (.getstatic index, 3)) (pc' : Nat) (hp : pc + 3 = pc') (g : ∀ T', Stand p l e R s m args below meth c T' locs cells slots → T'.heap = h → Go p e below K (T'.setTop (mkF m pc' Ls (v :: st)))) : Go p e below K (T.setTop (mkF m pc Ls (st))) := by
  subst hp
  obtain ⟨T', X', e', k⟩ := getS2 X H.1 hZ hown (host := "") (Or.inl w) Via.refl eT F (g := mkF m pc Ls st) rfl (hb H.2 hd)
  exact Go.via k (g T' X' e')

theorem gGetF (X : Stand p l e R s m args below meth c T locs cells slots) (H : p.tables.exec = Jvm.exec ∧ c.code = bs) (hZ : Z.Warmed39 s.vm) {own : String} {index : Nat} (hown : s.vm.findClass own = some m.cls) {R0 O n d : String} {a : Addr} {v : Value} (w : (Cond.fieldLink own index R0 n d).before a0 Z = true) (via : Via Z R0 O n d) (eT : T.heap = h) (F : Fld Z h a O n d v) (hd : decode bs pc = .ok (.getfield index, 3)) (pc' : Nat) (hp : pc + 3 = pc') (g : ∀ T', Stand p l e R s m args below meth c T' locs cells slots → T'.heap = h → Go p e below K (T'.setTop (mkF m pc' Ls (v :: st)))) : Go p e below K (T.setTop (mkF m pc Ls (.ref a :: st))) := by
  subst hp
  obtain ⟨T', X', e', k⟩ := getF X H.1 hZ hown (host := "") (Or.inl w) via eT F (g := mkF m pc Ls (.ref a :: st)) rfl rfl (hb H.2 hd)
  exact Go.via k (g T' X' e')

theorem gVirtualUp (X : Stand p l e R s m args below meth c T locs cells slots) (H : p.tables.exec = Jvm.exec ∧ c.code = bs) (hZ : Z.Warmed39 s.vm) {own : String} {index : Nat} (hown : s.vm.findClass own = some m.cls) {C : String} {y z : MethodName} {bytes : ByteArray} {maxL : Nat} {ret : Option FieldType} {rm : Room} {as : Array Value} {Q : Option Value → Heap → List Loc → Prop} {W maxO : Nat} {argsL rest : List Value} {ps : List FieldType} {r : Option FieldType} {owner : String} (wl : (Cond.methodLink own index y).before a0 Z = true) (wsm : (Cond.sameMethod y.cls owner y.name y.desc).before a0 Z = true) (wd : (Cond.declares ⟨owner, y.name, y.desc⟩).before a0 Z = true) (wse : (Cond.selects C y z).before a0 Z = true) (wi : (Cond.instanceMethod z).before a0 Z = true) (hy : owner ≠ "java/lang/invoke/MethodHandle" ∧ owner ≠ "java/lang/invoke/VarHandle") {b : Addr} (E : Exa Z h b C) (wc : (Cond.code z bytes maxL ret).before a0 Z = true) (wz : (Cond.initialized (z).cls).before a0 Z = true) (M : Con l Z z bytes maxL ret rm as h Q) (eT : T.heap = h) (hml : c.maxLocals = maxO) (hs : Ls.size = maxO) (hpd : parseMethodDescriptor y.desc = some ⟨ps, r⟩) (hlen : argsL.length = ps.length) (hstack : st = argsL.reverse ++ .ref b :: rest) (has : (.ref b :: argsL).toArray = as) (hd : decode bs pc = .ok (.invokevirtual index, 3)) (pc' : Nat) (hp : pc + 3 = pc')
    (g : ∀ v T' L, Q v T'.heap L → Stand p l e R s m args below meth c T' (locs ++ L) (cells + rm.cells) (slots + rm.slots) → Go p e below K (T'.setTop (mkF m pc' Ls (v.toList ++ rest)))) (hW : (rest.map fun v => v.category).sum ≤ W := by exact Nat.le_of_eq rfl) (hf : rm.frames + 1 ≤ R.frames := by decide) (hl : W + (maxL + 11) + rm.locals ≤ R.locals := by decide) (hc : cells + rm.cells ≤ R.cells := by decide) (hsl : slots + rm.slots ≤ R.slots := by decide) : Go p e below K (T.setTop (mkF m pc Ls (st))) := by
  subst hp has
  obtain ⟨cB, kB, q1, q2, q3⟩ := isOf hZ eT E
  obtain ⟨v, _, ⟨T', L', k', n'⟩, -, X', ⟨L, hQ, l', y', z'⟩, k⟩ := X.virtualBackUp H.1 (x := y) (y := z) hown (mvT hZ wl) (mvT hZ wsm) (mvT hZ wd) hy (mvT hZ wse) (mvT hZ wi) (backOf (W := W) (M []) hZ wc wz hf hl) q1 q3 (g := mkF m pc Ls st) rfl (hs.trans hml.symm) (Steps.refl _) (argsL := argsL) (rest := rest) (lenOf hpd hlen) hstack (by show 2 * 0 + _ ≤ _; omega) (hb H.2 hd) (fun _ _ => ⟨rfl, eT, hc, hsl⟩)
  dsimp only [Pt.U, Pt.locs, Pt.cells, Pt.slots] at X' l' y' z' k hQ
  subst l' y' z'
  exact Go.via (fun t q => k.trans q) (g v T' L hQ X')

theorem gRetN (X : Stand p l e R s m args below meth c T locs cells slots) (H : p.tables.exec = Jvm.exec ∧ c.code = bs) (hlk : meth.locks = false) {Q : Option Value → Heap → List Loc → Prop} {C S : Nat} {t : FieldType} {z : Int32} (hret : meth.sig.returnType = some t) (ht : t = .boolean ∨ t = .byte ∨ t = .char ∨ t = .short) (hd : decode bs pc = .ok (.ireturn, 1)) (eT : T.heap = h) (q : Q (some (.int (nar t z))) h locs) (hC : cells ≤ C := by decide) (hS : slots ≤ S := by decide) : Go p e below (EndK s below Q C S) (T.setTop (mkF m pc Ls (.int z :: st))) := by
  subst eT
  obtain ⟨fs, hr, hrun, hended, hW, hsame⟩ := X.leave (v := (some (.int (nar t z)))) (fun h => by rw [hret] at h; cases h) hlk
  exact ⟨_, _, retN X H.1 hret ht (hb H.2 hd) hr, hrun, hended, _, _, rfl, q, ⟨_, rfl⟩, hW, hsame.mono hC hS⟩

theorem gRetI (X : Stand p l e R s m args below meth c T locs cells slots) (H : p.tables.exec = Jvm.exec ∧ c.code = bs) (hlk : meth.locks = false) {Q : Option Value → Heap → List Loc → Prop} {C S : Nat} {z : Int32} (hret : meth.sig.returnType = some .int) (hd : decode bs pc = .ok (.ireturn, 1)) (eT : T.heap = h) (q : Q (some (.int z)) h locs) (hC : cells ≤ C := by decide) (hS : slots ≤ S := by decide) : Go p e below (EndK s below Q C S) (T.setTop (mkF m pc Ls (.int z :: st))) := by
  subst eT
  obtain ⟨fs, hr, hrun, hended, hW, hsame⟩ := X.leave (v := (some (.int z))) (fun h => by rw [hret] at h; cases h) hlk
  exact ⟨_, _, retOut X H.1 hret rfl (Or.inl ⟨rfl, Or.inl rfl, z, rfl⟩) (hb H.2 hd) hr, hrun, hended, _, _, rfl, q, ⟨_, rfl⟩, hW, hsame.mono hC hS⟩

theorem gNewP (X : Stand p l e R s m args below meth c T locs cells slots) (H : p.tables.exec = Jvm.exec ∧ c.code = bs) (hZ : Z.Warmed39 s.vm) {aty : ArrayType} (w : (Cond.arrayClass (newarray.typeOf aty)).before a0 Z = true) (eT : T.heap = h) {n : Int32} (hn : ¬ n < 0) {cap : Nat} (hcap : n.toNatClampNeg ≤ cap) (hb8 : cap * 8 ≤ 536870912) {vs : List Value} (hvs : List.replicate cap (defaultValue (newarray.typeOf aty)) = vs) (hc : cells + 1 ≤ R.cells) (hsl : slots + cap ≤ R.slots) (hd : decode bs pc = .ok (.newarray aty, 2)) (pc' : Nat) (hp : pc + 2 = pc')
    (g : ∀ T' h' b k, Stand p l e R s m args below meth c T' locs (cells + 1) (slots + cap) → T'.heap = h' → h.size = b → Ext h h' → Arv Z h' b k (newarray.typeOf aty) n vs (defaultValue (newarray.typeOf aty)) → Go p e below K (T'.setTop (mkF m pc' Ls (.ref b :: st)))) : Go p e below K (T.setTop (mkF m pc Ls (.int n :: st))) := by
  subst hp
  obtain ⟨T', h', k', X', e', E', A', k⟩ := newP X H.1 hZ w eT (g := mkF m pc Ls (.int n :: st)) rfl (hb H.2 hd) rfl hn hcap hb8 hc hsl
  refine Go.via k (g T' h' _ k' X' e' rfl E' ?_)
  rw [← hvs]
  exact (Arv.new A' hn).pad (pad_rep [] _ _)

theorem gNewR (X : Stand p l e R s m args below meth c T locs cells slots) (H : p.tables.exec = Jvm.exec ∧ c.code = bs) (hZ : Z.Warmed39 s.vm) {own : String} {index : Nat} (hown : s.vm.findClass own = some m.cls) {C : String} (w1 : (Cond.classLink own index C).before a0 Z = true) (w2 : (Cond.arrayOver (.object C)).before a0 Z = true) (eT : T.heap = h) {n : Int32} (hn : ¬ n < 0) {cap : Nat} (hcap : n.toNatClampNeg ≤ cap) (hb8 : cap * 8 ≤ 536870912) {vs : List Value} (hvs : List.replicate cap Value.null = vs) (hc : cells + 1 ≤ R.cells) (hsl : slots + cap ≤ R.slots) (hd : decode bs pc = .ok (.anewarray index, 3)) (pc' : Nat) (hp : pc + 3 = pc')
    (g : ∀ T' h' b k, Stand p l e R s m args below meth c T' locs (cells + 1) (slots + cap) → T'.heap = h' → h.size = b → Ext h h' → Arv Z h' b k (.object C) n vs .null → Ovr Z k C → Go p e below K (T'.setTop (mkF m pc' Ls (.ref b :: st)))) : Go p e below K (T.setTop (mkF m pc Ls (.int n :: st))) := by
  subst hp
  obtain ⟨T', h', k', X', e', E', A', O', k⟩ := newR X H.1 hZ hown w1 w2 eT (g := mkF m pc Ls (.int n :: st)) rfl (hb H.2 hd) rfl hn hcap hb8 hc hsl
  refine Go.via k (g T' h' _ k' X' e' rfl E' ?_ O')
  rw [← hvs]
  exact (Arv.new A' hn).pad (pad_rep [] _ _)

theorem gAaload (X : Stand p l e R s m args below meth c T locs cells slots) (H : p.tables.exec = Jvm.exec ∧ c.code = bs) (hZ : Z.Warmed39 s.vm) (eT : T.heap = h) {a : Addr} {k : ClassId} {n j : Int32} {vs : List Value} {dv v : Value} {ty : FieldType} (hty : ty.isReference = true) (A : Arv Z h a k ty n vs dv) (hj : ¬ j < 0 ∧ j < n) (hv : vs.getD j.toNatClampNeg dv = v) (hd : decode bs pc = .ok (.aaload, 1)) (pc' : Nat) (hp : pc + 1 = pc') (g : Go p e below K (T.setTop (mkF m pc' Ls (v :: st)))) : Go p e below K (T.setTop (mkF m pc Ls (.int j :: .ref a :: st))) := by
  subst hp
  obtain ⟨c', Ar, q, S, N, Hs, Gs⟩ := A
  have hin := inb_of S hj
  exact Go.via (X.aaload H.1 (j := j) (v := v) (by rw [eT]; exact Ar.1) (State.isArrayOf_alike hZ.alike Ar.2.1) hty Ar.2.2 hin (Hs.at hin hv) (g := mkF m pc Ls (.int j :: .ref a :: st)) rfl rfl (hb H.2 hd)) g

theorem gZaload (X : Stand p l e R s m args below meth c T locs cells slots) (H : p.tables.exec = Jvm.exec ∧ c.code = bs) (hZ : Z.Warmed39 s.vm) (eT : T.heap = h) {a : Addr} {k : ClassId} {n j : Int32} {vs : List Value} {dv v : Value} (A : Arv Z h a k .boolean n vs dv) (hj : ¬ j < 0 ∧ j < n) (hv : vs.getD j.toNatClampNeg dv = v) (hd : decode bs pc = .ok (.baload, 1)) (pc' : Nat) (hp : pc + 1 = pc') (g : Go p e below K (T.setTop (mkF m pc' Ls (v :: st)))) : Go p e below K (T.setTop (mkF m pc Ls (.int j :: .ref a :: st))) := by
  subst hp
  obtain ⟨c', Ar, q, S, N, Hs, Gs⟩ := A
  have hin := inb_of S hj
  exact Go.via (X.baloadBooleans H.1 (j := j) (v := v) (by rw [eT]; exact Ar.1) (State.isArrayOf_alike hZ.alike Ar.2.1) Ar.2.2 hin (Hs.at hin hv) (g := mkF m pc Ls (.int j :: .ref a :: st)) rfl rfl (hb H.2 hd)) g

theorem gZastore (X : Stand p l e R s m args below meth c T locs cells slots) (H : p.tables.exec = Jvm.exec ∧ c.code = bs) (hZ : Z.Warmed39 s.vm) (eT : T.heap = h) {a : Addr} {k : ClassId} {n j : Int32} {vs vs' : List Value} {dv : Value} {x : Int32} (A : Arv Z h a k .boolean n vs dv) (hj : ¬ j < 0 ∧ j < n) {i : Nat} (hi : j.toNatClampNeg = i) (hlt : i < vs.length) (hvs : vs.set i (.int (nar .boolean x)) = vs') (hd : decode bs pc = .ok (.bastore, 1)) (pc' : Nat) (hp : pc + 1 = pc')
    (g : ∀ T' h', Stand p l e R s m args below meth c T' (locs ++ [⟨a, j.toNatClampNeg⟩]) cells slots → T'.heap = h' → Wr h h' a j.toNatClampNeg (.int (nar .boolean x)) → Arv Z h' a k .boolean n vs' dv → Go p e below K (T'.setTop (mkF m pc' Ls st))) : Go p e below K (T.setTop (mkF m pc Ls (.int x :: .int j :: .ref a :: st))) := by
  subst hp hvs
  obtain ⟨c', Ar, q, S, N, Hs, Gs⟩ := A
  have hin := inb_of S hj
  obtain ⟨T', h', X', e', W', k'⟩ := stZ X H.1 hZ eT Ar (j := j) hin (g := mkF m pc Ls (.int x :: .int j :: .ref a :: st)) rfl rfl (hb H.2 hd)
  exact Go.via k' (g T' h' X' e' W' (Arv.set Ar q S N Hs Gs (fits_nar_bool _) W' i hi hlt))

theorem gAastore (X : Stand p l e R s m args below meth c T locs cells slots) (H : p.tables.exec = Jvm.exec ∧ c.code = bs) (hZ : Z.Warmed39 s.vm) (eT : T.heap = h) {a : Addr} {k : ClassId} {n j : Int32} {vs vs' : List Value} {dv : Value} {v : Value} {C : String} (hft : fits (.object C) v = true) (hsto : Sto Z h a v) (A : Arv Z h a k (.object C) n vs dv) (hj : ¬ j < 0 ∧ j < n) {i : Nat} (hi : j.toNatClampNeg = i) (hlt : i < vs.length) (hvs : vs.set i v = vs') (hd : decode bs pc = .ok (.aastore, 1)) (pc' : Nat) (hp : pc + 1 = pc')
    (g : ∀ T' h', Stand p l e R s m args below meth c T' (locs ++ [⟨a, j.toNatClampNeg⟩]) cells slots → T'.heap = h' → Wr h h' a j.toNatClampNeg v → Arv Z h' a k (.object C) n vs' dv → Go p e below K (T'.setTop (mkF m pc' Ls st))) : Go p e below K (T.setTop (mkF m pc Ls (v :: .int j :: .ref a :: st))) := by
  subst hp hvs
  obtain ⟨c', Ar, q, S, N, Hs, Gs⟩ := A
  have hin := inb_of S hj
  obtain ⟨T', h', X', e', W', k'⟩ := stR X H.1 hZ eT Ar (j := j) hin rfl hsto (g := mkF m pc Ls (v :: .int j :: .ref a :: st)) rfl rfl (hb H.2 hd)
  exact Go.via k' (g T' h' X' e' W' (Arv.set Ar q S N Hs Gs hft W' i hi hlt))

theorem gVirt (X : Stand p l e R s m args below meth c T locs cells slots) (H : p.tables.exec = Jvm.exec ∧ c.code = bs) (hZ : Z.Warmed39 s.vm) {own : String} {index : Nat} (hown : s.vm.findClass own = some m.cls) {C : String} {y : MethodName} {bytes : ByteArray} {maxL : Nat} {ret : Option FieldType} {rm : Room} {as : Array Value} {Q : Option Value → Heap → List Loc → Prop} {W maxO : Nat} {argsL rest : List Value} {ps : List FieldType} {r : Option FieldType} (wl : (Cond.methodLink own index y).before a0 Z = true) (wd : (Cond.declares y).before a0 Z = true) (wse : (Cond.selects C y y).before a0 Z = true) (wi : (Cond.instanceMethod y).before a0 Z = true) (hy : y.cls ≠ "java/lang/invoke/MethodHandle" ∧ y.cls ≠ "java/lang/invoke/VarHandle") {b : Addr} (E : Exa Z h b C) (wc : (Cond.code y bytes maxL ret).before a0 Z = true) (wz : (Cond.initialized (y).cls).before a0 Z = true) (M : Con l Z y bytes maxL ret rm as h Q) (eT : T.heap = h) (hml : c.maxLocals = maxO) (hs : Ls.size = maxO) (hpd : parseMethodDescriptor y.desc = some ⟨ps, r⟩) (hlen : argsL.length = ps.length) (hstack : st = argsL.reverse ++ .ref b :: rest) (has : (.ref b :: argsL).toArray = as) (hd : decode bs pc = .ok (.invokevirtual index, 3)) (pc' : Nat) (hp : pc + 3 = pc')
    (g : ∀ v T' L, Q v T'.heap L → Stand p l e R s m args below meth c T' (locs ++ L) (cells + rm.cells) (slots + rm.slots) → Go p e below K (T'.setTop (mkF m pc' Ls (v.toList ++ rest)))) (hW : (rest.map fun v => v.category).sum ≤ W := by exact Nat.le_of_eq rfl) (hf : rm.frames + 1 ≤ R.frames := by decide) (hl : W + (maxL + 11) + rm.locals ≤ R.locals := by decide) (hc : cells + rm.cells ≤ R.cells := by decide) (hsl : slots + rm.slots ≤ R.slots := by decide) : Go p e below K (T.setTop (mkF m pc Ls (st))) := by
  subst hp has
  obtain ⟨cB, kB, q1, q2, q3⟩ := isOf hZ eT E
  obtain ⟨v, _, ⟨T', L', k', n'⟩, -, X', ⟨L, hQ, l', y', z'⟩, k⟩ := X.virtualBack H.1 (y := y) (z := y) hown (mvT hZ wl) (mvT hZ wd) (notFace_of_selects (args := #[]) (mvT hZ wse)) (mvT hZ wse) (mvT hZ wi) hy (backOf (W := W) (M []) hZ wc wz hf hl) q1 q3 (g := mkF m pc Ls st) rfl (hs.trans hml.symm) (Steps.refl _) (argsL := argsL) (rest := rest) (lenOf hpd hlen) hstack (by show 2 * 0 + _ ≤ _; omega) (hb H.2 hd) (fun _ _ => ⟨rfl, eT, hc, hsl⟩)
  dsimp only [Pt.U, Pt.locs, Pt.cells, Pt.slots] at X' l' y' z' k hQ
  subst l' y' z'
  exact Go.via (fun t q => k.trans q) (g v T' L hQ X')

end Steps
theorem eqI {args : Array Value} {s : State} {t : Term} {w : Addr} {C n d : String} {k : Int32} (ev : t.eval args s none [] s = some (.ref w)) (q : (Jvm.Cond.eq (.field t C n d) (.int k)).value args s none s [] = some true) : Fld s s.heap w C n d (.int k) := by
  refine Fld.start ?_
  rw [← fld_at (args := args) (first := s) (o := none) (idx := []) ev]
  obtain ⟨x, y, h1, h2, k1, k2⟩ := cmp_v (Or.inl q)
  obtain rfl : y = .int k := (Option.some.inj ((Term.int_eval k).symm.trans h2)).symm
  obtain ⟨z, rfl⟩ := k2
  simp [Cond.value, h1, h2] at q
  rw [h1, q]
theorem eqR {args : Array Value} {s : State} {t t' : Term} {w w' : Addr} {C n d : String} (ev : t.eval args s none [] s = some (.ref w)) (ev' : t'.eval args s none [] s = some (.ref w')) (q : (Jvm.Cond.eq (.field t C n d) t').value args s none s [] = some true) : Fld s s.heap w C n d (.ref w') := by
  refine Fld.start ?_
  rw [← fld_at (args := args) (first := s) (o := none) (idx := []) ev]
  obtain ⟨x, y, h1, h2, k1, k2⟩ := cmp_v (Or.inl q)
  obtain rfl : y = .ref w' := (Option.some.inj (ev'.symm.trans h2)).symm
  have hx : x.isRef = true := k2.2
  have := gotT (eq_R h1 h2 hx rfl) q
  rw [h1, this]
theorem eqN {args : Array Value} {s : State} {t : Term} {w : Addr} {C n d : String} (ev : t.eval args s none [] s = some (.ref w)) (q : (Jvm.Cond.eq (.field t C n d) .null).value args s none s [] = some true) : Fld s s.heap w C n d .null := by
  refine Fld.start ?_
  rw [← fld_at (args := args) (first := s) (o := none) (idx := []) ev]
  exact null_v q
theorem fldE {args : Array Value} {s : State} {t : Term} {w w' : Addr} {C n d : String} (ev : t.eval args s none [] s = some (.ref w)) (ev' : (Term.field t C n d).eval args s none [] s = some (.ref w')) : Fld s s.heap w C n d (.ref w') :=
  Fld.start ((fld_at (args := args) (first := s) (o := none) (idx := []) ev).symm.trans ev')
theorem t32_ne {a b : Int32} (h : a < b) : ¬ (a = b) := by rw [Int32.lt_iff_toInt_lt] at h; rw [← Int32.toInt_inj]; omega
theorem t32_as {a b : Int32} (h : a < b) : ¬ (b < a) := by rw [Int32.lt_iff_toInt_lt] at *; omega
theorem t32_ir {a b : Int32} (h : a = b) : ¬ (a < b) := by subst h; rw [Int32.lt_iff_toInt_lt]; omega
theorem t32_tot {a b : Int32} (h : ¬ (a < b)) (h2 : ¬ (a = b)) : b < a := by rw [Int32.lt_iff_toInt_lt] at *; rw [← Int32.toInt_inj] at h2; omega
theorem t32_eq {a b : Int32} (h : ¬ (a < b)) (h2 : ¬ (b < a)) : a = b := by rw [Int32.lt_iff_toInt_lt] at *; rw [← Int32.toInt_inj]; omega
theorem t64_ne {a b : Int64} (h : a < b) : ¬ (a = b) := by rw [Int64.lt_iff_toInt_lt] at h; rw [← Int64.toInt_inj]; omega
theorem t64_as {a b : Int64} (h : a < b) : ¬ (b < a) := by rw [Int64.lt_iff_toInt_lt] at *; omega
theorem t64_ir {a b : Int64} (h : a = b) : ¬ (a < b) := by subst h; rw [Int64.lt_iff_toInt_lt]; omega
theorem t64_tot {a b : Int64} (h : ¬ (a < b)) (h2 : ¬ (a = b)) : b < a := by rw [Int64.lt_iff_toInt_lt] at *; rw [← Int64.toInt_inj] at h2; omega
theorem t64_eq {a b : Int64} (h : ¬ (a < b)) (h2 : ¬ (b < a)) : a = b := by rw [Int64.lt_iff_toInt_lt] at *; rw [← Int64.toInt_inj]; omega

theorem wd0 : (Jvm.Cond.classLink "com/example/rowcast/rowcast/ComparisonHoldsPinLaw" (7 : Nat) "com/example/rowcast/rowcast/Comparison") ∈ tables_1 := List.mem_of_getElem? (i := 0) rfl
theorem wd1 : (Jvm.Cond.arrayOver (Jvm.ClassFile.FieldType.object "com/example/rowcast/rowcast/Comparison")) ∈ tables_1 := List.mem_of_getElem? (i := 1) rfl
theorem wd2 : (Jvm.Cond.fieldLink "com/example/rowcast/rowcast/ComparisonHoldsPinLaw" (9 : Nat) "com/example/rowcast/rowcast/Comparison" "EQUAL" "Lcom/example/rowcast/rowcast/Comparison;") ∈ tables_1 := List.mem_of_getElem? (i := 2) rfl
theorem wd3 : (Jvm.Cond.initialized "com/example/rowcast/rowcast/Comparison") ∈ tables_1 := List.mem_of_getElem? (i := 3) rfl
theorem wd4 : (Jvm.Cond.laysStatic "com/example/rowcast/rowcast/Comparison" "EQUAL" "Lcom/example/rowcast/rowcast/Comparison;") ∈ tables_1 := List.mem_of_getElem? (i := 4) rfl
theorem wd6 : (Jvm.Cond.fieldLink "com/example/rowcast/rowcast/ComparisonHoldsPinLaw" (13 : Nat) "com/example/rowcast/rowcast/Comparison" "NOT_EQUAL" "Lcom/example/rowcast/rowcast/Comparison;") ∈ tables_1 := List.mem_of_getElem? (i := 6) rfl
theorem wd7 : (Jvm.Cond.laysStatic "com/example/rowcast/rowcast/Comparison" "NOT_EQUAL" "Lcom/example/rowcast/rowcast/Comparison;") ∈ tables_1 := List.mem_of_getElem? (i := 7) rfl
theorem wd8 : (Jvm.Cond.fieldLink "com/example/rowcast/rowcast/ComparisonHoldsPinLaw" (16 : Nat) "com/example/rowcast/rowcast/Comparison" "LESS" "Lcom/example/rowcast/rowcast/Comparison;") ∈ tables_1 := List.mem_of_getElem? (i := 8) rfl
theorem wd9 : (Jvm.Cond.laysStatic "com/example/rowcast/rowcast/Comparison" "LESS" "Lcom/example/rowcast/rowcast/Comparison;") ∈ tables_1 := List.mem_of_getElem? (i := 9) rfl
theorem wd10 : (Jvm.Cond.fieldLink "com/example/rowcast/rowcast/ComparisonHoldsPinLaw" (19 : Nat) "com/example/rowcast/rowcast/Comparison" "LESS_OR_EQUAL" "Lcom/example/rowcast/rowcast/Comparison;") ∈ tables_1 := List.mem_of_getElem? (i := 10) rfl
theorem wd11 : (Jvm.Cond.laysStatic "com/example/rowcast/rowcast/Comparison" "LESS_OR_EQUAL" "Lcom/example/rowcast/rowcast/Comparison;") ∈ tables_1 := List.mem_of_getElem? (i := 11) rfl
theorem wd12 : (Jvm.Cond.fieldLink "com/example/rowcast/rowcast/ComparisonHoldsPinLaw" (22 : Nat) "com/example/rowcast/rowcast/Comparison" "GREATER" "Lcom/example/rowcast/rowcast/Comparison;") ∈ tables_1 := List.mem_of_getElem? (i := 12) rfl
theorem wd13 : (Jvm.Cond.laysStatic "com/example/rowcast/rowcast/Comparison" "GREATER" "Lcom/example/rowcast/rowcast/Comparison;") ∈ tables_1 := List.mem_of_getElem? (i := 13) rfl
theorem wd14 : (Jvm.Cond.fieldLink "com/example/rowcast/rowcast/ComparisonHoldsPinLaw" (25 : Nat) "com/example/rowcast/rowcast/Comparison" "GREATER_OR_EQUAL" "Lcom/example/rowcast/rowcast/Comparison;") ∈ tables_1 := List.mem_of_getElem? (i := 14) rfl
theorem wd15 : (Jvm.Cond.laysStatic "com/example/rowcast/rowcast/Comparison" "GREATER_OR_EQUAL" "Lcom/example/rowcast/rowcast/Comparison;") ∈ tables_1 := List.mem_of_getElem? (i := 15) rfl
theorem wd16 : (Jvm.Cond.arrayClass Jvm.ClassFile.FieldType.boolean) ∈ tables_1 := List.mem_of_getElem? (i := 16) rfl
theorem wd17 : (Jvm.Cond.constant "com/example/rowcast/rowcast/ComparisonHoldsPinLaw" (28 : Nat) (2147483647 : Int32)) ∈ tables_1 := List.mem_of_getElem? (i := 17) rfl
theorem wd18 : (Jvm.Cond.methodLink "com/example/rowcast/rowcast/ComparisonHoldsPinLaw" (29 : Nat) ({ cls := "com/example/rowcast/rowcast/Comparison", name := "holds", desc := "(I)Z" } : Jvm.MethodName)) ∈ tables_1 := List.mem_of_getElem? (i := 18) rfl
theorem wd19 : (Jvm.Cond.declares ({ cls := "com/example/rowcast/rowcast/Comparison", name := "holds", desc := "(I)Z" } : Jvm.MethodName)) ∈ tables_1 := List.mem_of_getElem? (i := 19) rfl
theorem wd20 : (Jvm.Cond.instanceMethod ({ cls := "com/example/rowcast/rowcast/Comparison", name := "holds", desc := "(I)Z" } : Jvm.MethodName)) ∈ tables_1 := List.mem_of_getElem? (i := 20) rfl
theorem wd21 : (Jvm.Cond.selects "com/example/rowcast/rowcast/Comparison" ({ cls := "com/example/rowcast/rowcast/Comparison", name := "holds", desc := "(I)Z" } : Jvm.MethodName) ({ cls := "com/example/rowcast/rowcast/Comparison", name := "holds", desc := "(I)Z" } : Jvm.MethodName)) ∈ tables_1 := List.mem_of_getElem? (i := 21) rfl
theorem wd22 : (Jvm.Cond.code ({ cls := "com/example/rowcast/rowcast/Comparison", name := "holds", desc := "(I)Z" } : Jvm.MethodName) prog_20_method_6_code (2 : Nat) (Option.some Jvm.ClassFile.FieldType.boolean)) ∈ tables_1 := List.mem_of_getElem? (i := 22) rfl
theorem wd23 : (Jvm.Cond.methodLink "com/example/rowcast/rowcast/Comparison" (62 : Nat) ({ cls := "com/example/rowcast/rowcast/Comparison", name := "ordinal", desc := "()I" } : Jvm.MethodName)) ∈ tables_1 := List.mem_of_getElem? (i := 23) rfl
theorem wd24 : (Jvm.Cond.sameMethod "com/example/rowcast/rowcast/Comparison" "java/lang/Enum" "ordinal" "()I") ∈ tables_1 := List.mem_of_getElem? (i := 24) rfl
theorem wd25 : (Jvm.Cond.declares ({ cls := "java/lang/Enum", name := "ordinal", desc := "()I" } : Jvm.MethodName)) ∈ tables_1 := List.mem_of_getElem? (i := 25) rfl
theorem wd26 : (Jvm.Cond.instanceMethod ({ cls := "java/lang/Enum", name := "ordinal", desc := "()I" } : Jvm.MethodName)) ∈ tables_1 := List.mem_of_getElem? (i := 26) rfl
theorem wd27 : (Jvm.Cond.selects "com/example/rowcast/rowcast/Comparison" ({ cls := "com/example/rowcast/rowcast/Comparison", name := "ordinal", desc := "()I" } : Jvm.MethodName) ({ cls := "java/lang/Enum", name := "ordinal", desc := "()I" } : Jvm.MethodName)) ∈ tables_1 := List.mem_of_getElem? (i := 27) rfl
theorem wd28 : (Jvm.Cond.initialized "java/lang/Enum") ∈ tables_1 := List.mem_of_getElem? (i := 28) rfl
theorem wd29 : (Jvm.Cond.code ({ cls := "java/lang/Enum", name := "ordinal", desc := "()I" } : Jvm.MethodName) jdk_37_method_2_code (1 : Nat) (Option.some Jvm.ClassFile.FieldType.int)) ∈ tables_1 := List.mem_of_getElem? (i := 29) rfl
theorem wd30 : (Jvm.Cond.fieldLink "java/lang/Enum" (7 : Nat) "java/lang/Enum" "ordinal" "I") ∈ tables_1 := List.mem_of_getElem? (i := 30) rfl
theorem d1_0 : decode prog_20_method_6_code 0 = .ok (.aload_n 0, 1) := by decide +kernel
theorem d1_1 : decode prog_20_method_6_code 1 = .ok (.invokevirtual 62, 3) := by decide +kernel
theorem d1_4 : decode prog_20_method_6_code 4 = .ok (.tableswitch 96 0 4 #[36, 48, 60, 72, 84], 36) := by decide +kernel
theorem d1_40 : decode prog_20_method_6_code 40 = .ok (.iload_n 1, 1) := by decide +kernel
theorem d1_41 : decode prog_20_method_6_code 41 = .ok (.ifCond .ne 7, 3) := by decide +kernel
theorem d1_44 : decode prog_20_method_6_code 44 = .ok (.iconst 1, 1) := by decide +kernel
theorem d1_45 : decode prog_20_method_6_code 45 = .ok (.goto 64, 3) := by decide +kernel
theorem d1_48 : decode prog_20_method_6_code 48 = .ok (.iconst 0, 1) := by decide +kernel
theorem d1_49 : decode prog_20_method_6_code 49 = .ok (.goto 60, 3) := by decide +kernel
theorem d1_52 : decode prog_20_method_6_code 52 = .ok (.iload_n 1, 1) := by decide +kernel
theorem d1_53 : decode prog_20_method_6_code 53 = .ok (.ifCond .eq 7, 3) := by decide +kernel
theorem d1_56 : decode prog_20_method_6_code 56 = .ok (.iconst 1, 1) := by decide +kernel
theorem d1_57 : decode prog_20_method_6_code 57 = .ok (.goto 52, 3) := by decide +kernel
theorem d1_60 : decode prog_20_method_6_code 60 = .ok (.iconst 0, 1) := by decide +kernel
theorem d1_61 : decode prog_20_method_6_code 61 = .ok (.goto 48, 3) := by decide +kernel
theorem d1_64 : decode prog_20_method_6_code 64 = .ok (.iload_n 1, 1) := by decide +kernel
theorem d1_65 : decode prog_20_method_6_code 65 = .ok (.ifCond .ge 7, 3) := by decide +kernel
theorem d1_68 : decode prog_20_method_6_code 68 = .ok (.iconst 1, 1) := by decide +kernel
theorem d1_69 : decode prog_20_method_6_code 69 = .ok (.goto 40, 3) := by decide +kernel
theorem d1_72 : decode prog_20_method_6_code 72 = .ok (.iconst 0, 1) := by decide +kernel
theorem d1_73 : decode prog_20_method_6_code 73 = .ok (.goto 36, 3) := by decide +kernel
theorem d1_76 : decode prog_20_method_6_code 76 = .ok (.iload_n 1, 1) := by decide +kernel
theorem d1_77 : decode prog_20_method_6_code 77 = .ok (.ifCond .gt 7, 3) := by decide +kernel
theorem d1_80 : decode prog_20_method_6_code 80 = .ok (.iconst 1, 1) := by decide +kernel
theorem d1_81 : decode prog_20_method_6_code 81 = .ok (.goto 28, 3) := by decide +kernel
theorem d1_84 : decode prog_20_method_6_code 84 = .ok (.iconst 0, 1) := by decide +kernel
theorem d1_85 : decode prog_20_method_6_code 85 = .ok (.goto 24, 3) := by decide +kernel
theorem d1_88 : decode prog_20_method_6_code 88 = .ok (.iload_n 1, 1) := by decide +kernel
theorem d1_89 : decode prog_20_method_6_code 89 = .ok (.ifCond .le 7, 3) := by decide +kernel
theorem d1_92 : decode prog_20_method_6_code 92 = .ok (.iconst 1, 1) := by decide +kernel
theorem d1_93 : decode prog_20_method_6_code 93 = .ok (.goto 16, 3) := by decide +kernel
theorem d1_96 : decode prog_20_method_6_code 96 = .ok (.iconst 0, 1) := by decide +kernel
theorem d1_97 : decode prog_20_method_6_code 97 = .ok (.goto 12, 3) := by decide +kernel
theorem d1_100 : decode prog_20_method_6_code 100 = .ok (.iload_n 1, 1) := by decide +kernel
theorem d1_101 : decode prog_20_method_6_code 101 = .ok (.ifCond .lt 7, 3) := by decide +kernel
theorem d1_104 : decode prog_20_method_6_code 104 = .ok (.iconst 1, 1) := by decide +kernel
theorem d1_105 : decode prog_20_method_6_code 105 = .ok (.goto 4, 3) := by decide +kernel
theorem d1_108 : decode prog_20_method_6_code 108 = .ok (.iconst 0, 1) := by decide +kernel
theorem d1_109 : decode prog_20_method_6_code 109 = .ok (.ireturn, 1) := by decide +kernel
theorem d2_0 : decode jdk_37_method_2_code 0 = .ok (.aload_n 0, 1) := by decide +kernel
theorem d2_1 : decode jdk_37_method_2_code 1 = .ok (.getfield 7, 3) := by decide +kernel
theorem d2_4 : decode jdk_37_method_2_code 4 = .ok (.ireturn, 1) := by decide +kernel
theorem pd0 : parseMethodDescriptor "()I" = some ⟨[], some .int⟩ := by decide +kernel
theorem pd1 : parseMethodDescriptor "(I)Z" = some ⟨[.int], some .boolean⟩ := by decide +kernel
theorem pn0 : plainName "com/example/rowcast/rowcast/ComparisonHoldsPinLaw" = true := by first | (simp [plainName, overriddenIn]; done) | decide +kernel
theorem pn1 : plainName "com/example/rowcast/rowcast/Comparison" = true := by first | (simp [plainName, overriddenIn]; done) | decide +kernel
theorem pn2 : plainName "java/lang/Enum" = true := by first | (simp [plainName, overriddenIn]; done) | decide +kernel
def World (Z : State) (w_Comparison_EQUAL w_Comparison_NOT_EQUAL w_Comparison_LESS w_Comparison_LESS_OR_EQUAL w_Comparison_GREATER w_Comparison_GREATER_OR_EQUAL : Addr) : Prop :=
  Sta Z Z.heap "com/example/rowcast/rowcast/Comparison" "EQUAL" "Lcom/example/rowcast/rowcast/Comparison;" (.ref w_Comparison_EQUAL) ∧
  Exa Z Z.heap w_Comparison_EQUAL "com/example/rowcast/rowcast/Comparison" ∧
  Sta Z Z.heap "com/example/rowcast/rowcast/Comparison" "NOT_EQUAL" "Lcom/example/rowcast/rowcast/Comparison;" (.ref w_Comparison_NOT_EQUAL) ∧
  Exa Z Z.heap w_Comparison_NOT_EQUAL "com/example/rowcast/rowcast/Comparison" ∧
  Sta Z Z.heap "com/example/rowcast/rowcast/Comparison" "LESS" "Lcom/example/rowcast/rowcast/Comparison;" (.ref w_Comparison_LESS) ∧
  Exa Z Z.heap w_Comparison_LESS "com/example/rowcast/rowcast/Comparison" ∧
  Sta Z Z.heap "com/example/rowcast/rowcast/Comparison" "LESS_OR_EQUAL" "Lcom/example/rowcast/rowcast/Comparison;" (.ref w_Comparison_LESS_OR_EQUAL) ∧
  Exa Z Z.heap w_Comparison_LESS_OR_EQUAL "com/example/rowcast/rowcast/Comparison" ∧
  Sta Z Z.heap "com/example/rowcast/rowcast/Comparison" "GREATER" "Lcom/example/rowcast/rowcast/Comparison;" (.ref w_Comparison_GREATER) ∧
  Exa Z Z.heap w_Comparison_GREATER "com/example/rowcast/rowcast/Comparison" ∧
  Sta Z Z.heap "com/example/rowcast/rowcast/Comparison" "GREATER_OR_EQUAL" "Lcom/example/rowcast/rowcast/Comparison;" (.ref w_Comparison_GREATER_OR_EQUAL) ∧
  Exa Z Z.heap w_Comparison_GREATER_OR_EQUAL "com/example/rowcast/rowcast/Comparison" ∧
  Fld Z Z.heap w_Comparison_EQUAL "java/lang/Enum" "ordinal" "I" (.int 0) ∧
  Fld Z Z.heap w_Comparison_LESS "java/lang/Enum" "ordinal" "I" (.int 2) ∧
  Fld Z Z.heap w_Comparison_GREATER "java/lang/Enum" "ordinal" "I" (.int 4) ∧
  Fld Z Z.heap w_Comparison_NOT_EQUAL "java/lang/Enum" "ordinal" "I" (.int 1) ∧
  Fld Z Z.heap w_Comparison_GREATER_OR_EQUAL "java/lang/Enum" "ordinal" "I" (.int 5) ∧
  Fld Z Z.heap w_Comparison_LESS_OR_EQUAL "java/lang/Enum" "ordinal" "I" (.int 3)
abbrev Bg (Z : State) (a0 : Array Value) (w_Comparison_EQUAL w_Comparison_NOT_EQUAL w_Comparison_LESS w_Comparison_LESS_OR_EQUAL w_Comparison_GREATER w_Comparison_GREATER_OR_EQUAL : Addr) : Prop := (∀ d ∈ tables_1, d.before a0 Z = true) ∧ World Z w_Comparison_EQUAL w_Comparison_NOT_EQUAL w_Comparison_LESS w_Comparison_LESS_OR_EQUAL w_Comparison_GREATER w_Comparison_GREATER_OR_EQUAL
abbrev yM1 : MethodName := ⟨"com/example/rowcast/rowcast/Comparison", "holds", "(I)Z"⟩
abbrev yM2 : MethodName := ⟨"java/lang/Enum", "ordinal", "()I"⟩
theorem extT {a b c : Heap} (x : Ext a b) (y : Ext b c) : Ext a c := ⟨Nat.le_trans x.1 y.1, fun q r s => y.2 q r (x.2 q r s)⟩
theorem extR (a : Heap) : Ext a a := ⟨Nat.le_refl _, fun _ _ q => q⟩
theorem extK {h0 h h' : Heap} {ws : List Addr} (O : Ext h0 h) (K : Keep h h' ws) (q : ∀ x ∈ ws, h0.size ≤ x) : Ext h0 h' := ⟨Nat.le_trans O.1 K.1, fun x c r => K.2.1 x c (O.2 x c r) fun z => absurd (Array.getElem?_eq_some_iff.mp r).1 (Nat.not_lt.mpr (q x z))⟩
theorem extW {h0 h h' : Heap} {a : Addr} {sl : Nat} {v : Value} (O : Ext h0 h) (W : Wr h h' a sl v) (q : h0.size ≤ a) : Ext h0 h' := extK O (Keep.of_wr W) (allS q all0)
theorem leW {h0 h h' : Heap} {a : Addr} {sl : Nat} {v : Value} (q : h0.size ≤ h.size) (W : Wr h h' a sl v) : h0.size ≤ h'.size := by rw [W.size]; exact q
theorem neB {a b : Addr} {h : Heap} (x : a < h.size) (y : h.size ≤ b) : a ≠ b := Nat.ne_of_lt (Nat.lt_of_lt_of_le x y)

theorem stoV {Z : State} {h : Heap} {a y : Addr} {k : ClassId} {ty : FieldType} {n : Int32} {vs : List Value} {d : Value} {C : String} (A : Arv Z h a k ty n vs d) (O : Ovr Z k C) (I : Ins Z h y C true) : Sto Z h a (.ref y) := by
  obtain ⟨c, Ar, q, -⟩ := A
  exact Sto.ofV Ar q O I

theorem mod_cases (k : Int32) : ((k &&& (2147483647 : Int32)) % (6 : Int32)) = (0 : Int32) ∨ ((k &&& (2147483647 : Int32)) % (6 : Int32)) = (1 : Int32) ∨ ((k &&& (2147483647 : Int32)) % (6 : Int32)) = (2 : Int32) ∨ ((k &&& (2147483647 : Int32)) % (6 : Int32)) = (3 : Int32) ∨ ((k &&& (2147483647 : Int32)) % (6 : Int32)) = (4 : Int32) ∨ ((k &&& (2147483647 : Int32)) % (6 : Int32)) = (5 : Int32) := by
  have h1 := c_mask k (2147483647 : Int32) 31 (by decide) (by decide)
  have h2 := (c_irem (k &&& (2147483647 : Int32)) (6 : Int32) 6 (by decide)).1 (by omega)
  simp only [← Int32.toInt_inj]
  have e : ∀ i : Fin 6, (Int32.ofNat i.1).toInt = (i.1 : Int) := by decide
  have e0 : (0 : Int32).toInt = 0 := by decide
  have e1 : (1 : Int32).toInt = 1 := by decide
  have e2 : (2 : Int32).toInt = 2 := by decide
  have e3 : (3 : Int32).toInt = 3 := by decide
  have e4 : (4 : Int32).toInt = 4 := by decide
  have e5 : (5 : Int32).toInt = 5 := by decide
  omega
section Walk
variable {l : Launch} {Z : State} {a0 : Array Value} {w_Comparison_EQUAL w_Comparison_NOT_EQUAL w_Comparison_LESS w_Comparison_LESS_OR_EQUAL w_Comparison_GREATER w_Comparison_GREATER_OR_EQUAL : Addr}
theorem rm38_2 (B : Bg Z a0 w_Comparison_EQUAL w_Comparison_NOT_EQUAL w_Comparison_LESS w_Comparison_LESS_OR_EQUAL w_Comparison_GREATER w_Comparison_GREATER_OR_EQUAL) (h : Heap) (O : Ext Z.heap h) :
    Con l Z yM2 jdk_37_method_2_code 1 (some .int) ({ frames := 0, cells := 0, slots := 0, locals := 0 } : Room) #[(.ref w_Comparison_EQUAL)] h (fun v h' L => v = some (.int 0) ∧ h' = h ∧ L = []) := by
  have hw := B.1
  obtain ⟨S_w_Comparison_EQUAL, E_w_Comparison_EQUAL, S_w_Comparison_NOT_EQUAL, E_w_Comparison_NOT_EQUAL, S_w_Comparison_LESS, E_w_Comparison_LESS, S_w_Comparison_LESS_OR_EQUAL, E_w_Comparison_LESS_OR_EQUAL, S_w_Comparison_GREATER, E_w_Comparison_GREATER, S_w_Comparison_GREATER_OR_EQUAL, E_w_Comparison_GREATER_OR_EQUAL, F_w_Comparison_EQUAL_ordinal, F_w_Comparison_LESS_ordinal, F_w_Comparison_GREATER_ordinal, F_w_Comparison_NOT_EQUAL_ordinal, F_w_Comparison_GREATER_OR_EQUAL_ordinal, F_w_Comparison_LESS_OR_EQUAL_ordinal⟩ := B.2
  refine Con.of (plainFor_of_name pn2) (Ls := #[vR w_Comparison_EQUAL]) (fun m => by first | rfl | (simp [entryFrame, mkF, argsToLocals, Value.category]; done)) ?_
  intro p e s m below meth c T0 X0 H hml hZ hown hnm hret hlk e0
  refine gAloadN X0 H d2_0 rfl rfl 1 rfl ?_
  refine gGetF X0 H hZ hown (hw _ wd30) Via.refl e0 (F_w_Comparison_EQUAL_ordinal.ext O) d2_1 4 rfl ?_
  intro T37 X37 e37
  exact gRetI X37 H hlk hret d2_4 e37 ⟨rfl, rfl, rfl⟩
theorem rm41_1 (B : Bg Z a0 w_Comparison_EQUAL w_Comparison_NOT_EQUAL w_Comparison_LESS w_Comparison_LESS_OR_EQUAL w_Comparison_GREATER w_Comparison_GREATER_OR_EQUAL) (vi0 : Int32) (h : Heap) (O : Ext Z.heap h) (hk40 : ¬ (vi0 = (0 : Int32))) :
    Con l Z yM1 prog_20_method_6_code 2 (some .boolean) ({ frames := 1, cells := 0, slots := 0, locals := 12 } : Room) #[(.ref w_Comparison_EQUAL), (.int vi0)] h (fun v h' L => v = some (.int 0) ∧ h' = h ∧ L = []) := by
  have hw := B.1
  obtain ⟨S_w_Comparison_EQUAL, E_w_Comparison_EQUAL, S_w_Comparison_NOT_EQUAL, E_w_Comparison_NOT_EQUAL, S_w_Comparison_LESS, E_w_Comparison_LESS, S_w_Comparison_LESS_OR_EQUAL, E_w_Comparison_LESS_OR_EQUAL, S_w_Comparison_GREATER, E_w_Comparison_GREATER, S_w_Comparison_GREATER_OR_EQUAL, E_w_Comparison_GREATER_OR_EQUAL, F_w_Comparison_EQUAL_ordinal, F_w_Comparison_LESS_ordinal, F_w_Comparison_GREATER_ordinal, F_w_Comparison_NOT_EQUAL_ordinal, F_w_Comparison_GREATER_OR_EQUAL_ordinal, F_w_Comparison_LESS_OR_EQUAL_ordinal⟩ := B.2
  refine Con.of (plainFor_of_name pn1) (Ls := #[vR w_Comparison_EQUAL, vI vi0]) (fun m => by first | rfl | (simp [entryFrame, mkF, argsToLocals, Value.category]; done)) ?_
  intro p e s m below meth c T0 X0 H hml hZ hown hnm hret hlk e0
  have N0 := Fr.nil Z.heap.size
  refine gAloadN X0 H d1_0 rfl rfl 1 rfl ?_
  refine gVirtualUp X0 H hZ hown (hw _ wd23) (hw _ wd24) (hw _ wd25) (hw _ wd27) (hw _ wd26) (by decide) (E_w_Comparison_EQUAL.ext O) (hw _ wd29) (hw _ wd28) (rm38_2 B _ O) e0 hml rfl pd0 rfl (W := 0) (argsL := []) (rest := []) rfl rfl d1_1 4 rfl ?_
  intro v39 T39 L39 hq39 X39
  obtain ⟨rfl, e39, rfl⟩ := hq39
  have N39 := Fr.app N0 (Fr.nil _)
  show Go _ _ _ _ (State.setTop _ (mkF _ 4 _ [(.int 0)]))
  refine gTswIn X39 H d1_4 (by decide) (o := 36) (by decide) (by decide) 40 rfl ?_
  refine gIloadN X39 H d1_40 rfl 41 rfl ?_
  refine gIfY X39 H d1_41 ((if0 _ _).trans (feq hk40).2) (by decide) 48 rfl ?_
  refine gIconst X39 H d1_48 (z := 0) rfl 49 rfl ?_
  refine gGoto X39 H d1_49 (by decide) 109 rfl ?_
  exact gRetN X39 H hlk hret (t := .boolean) (by simp) d1_109 e39 ⟨rfl, rfl, rfl⟩
theorem rm49_1 (B : Bg Z a0 w_Comparison_EQUAL w_Comparison_NOT_EQUAL w_Comparison_LESS w_Comparison_LESS_OR_EQUAL w_Comparison_GREATER w_Comparison_GREATER_OR_EQUAL) (vi0 : Int32) (h : Heap) (O : Ext Z.heap h) (hk48 : vi0 = (0 : Int32)) :
    Con l Z yM1 prog_20_method_6_code 2 (some .boolean) ({ frames := 1, cells := 0, slots := 0, locals := 12 } : Room) #[(.ref w_Comparison_EQUAL), (.int vi0)] h (fun v h' L => v = some (.int 1) ∧ h' = h ∧ L = []) := by
  have hw := B.1
  obtain ⟨S_w_Comparison_EQUAL, E_w_Comparison_EQUAL, S_w_Comparison_NOT_EQUAL, E_w_Comparison_NOT_EQUAL, S_w_Comparison_LESS, E_w_Comparison_LESS, S_w_Comparison_LESS_OR_EQUAL, E_w_Comparison_LESS_OR_EQUAL, S_w_Comparison_GREATER, E_w_Comparison_GREATER, S_w_Comparison_GREATER_OR_EQUAL, E_w_Comparison_GREATER_OR_EQUAL, F_w_Comparison_EQUAL_ordinal, F_w_Comparison_LESS_ordinal, F_w_Comparison_GREATER_ordinal, F_w_Comparison_NOT_EQUAL_ordinal, F_w_Comparison_GREATER_OR_EQUAL_ordinal, F_w_Comparison_LESS_OR_EQUAL_ordinal⟩ := B.2
  refine Con.of (plainFor_of_name pn1) (Ls := #[vR w_Comparison_EQUAL, vI vi0]) (fun m => by first | rfl | (simp [entryFrame, mkF, argsToLocals, Value.category]; done)) ?_
  intro p e s m below meth c T0 X0 H hml hZ hown hnm hret hlk e0
  have N0 := Fr.nil Z.heap.size
  refine gAloadN X0 H d1_0 rfl rfl 1 rfl ?_
  refine gVirtualUp X0 H hZ hown (hw _ wd23) (hw _ wd24) (hw _ wd25) (hw _ wd27) (hw _ wd26) (by decide) (E_w_Comparison_EQUAL.ext O) (hw _ wd29) (hw _ wd28) (rm38_2 B _ O) e0 hml rfl pd0 rfl (W := 0) (argsL := []) (rest := []) rfl rfl d1_1 4 rfl ?_
  intro v47 T47 L47 hq47 X47
  obtain ⟨rfl, e47, rfl⟩ := hq47
  have N47 := Fr.app N0 (Fr.nil _)
  show Go _ _ _ _ (State.setTop _ (mkF _ 4 _ [(.int 0)]))
  refine gTswIn X47 H d1_4 (by decide) (o := 36) (by decide) (by decide) 40 rfl ?_
  refine gIloadN X47 H d1_40 rfl 41 rfl ?_
  refine gIfN X47 H d1_41 ((if0 _ _).trans (teq hk48).2) 44 rfl ?_
  refine gIconst X47 H d1_44 (z := 1) rfl 45 rfl ?_
  refine gGoto X47 H d1_45 (by decide) 109 rfl ?_
  exact gRetN X47 H hlk hret (t := .boolean) (by simp) d1_109 e47 ⟨rfl, rfl, rfl⟩
theorem lawAll_0 (B : Bg Z a0 w_Comparison_EQUAL w_Comparison_NOT_EQUAL w_Comparison_LESS w_Comparison_LESS_OR_EQUAL w_Comparison_GREATER w_Comparison_GREATER_OR_EQUAL) (p0 : Int32) (p1 : Int32) (ha0 : ((p0 &&& (2147483647 : Int32)) % (6 : Int32)) = (0 : Int32)) :
    Con l Z x code maxLocals ret room_1 #[(.int p0), (.int p1)] Z.heap (fun v h' L => v = some (.int 1) ∧ Fr Z.heap.size L) := by
  have hw := B.1
  obtain ⟨S_w_Comparison_EQUAL, E_w_Comparison_EQUAL, S_w_Comparison_NOT_EQUAL, E_w_Comparison_NOT_EQUAL, S_w_Comparison_LESS, E_w_Comparison_LESS, S_w_Comparison_LESS_OR_EQUAL, E_w_Comparison_LESS_OR_EQUAL, S_w_Comparison_GREATER, E_w_Comparison_GREATER, S_w_Comparison_GREATER_OR_EQUAL, E_w_Comparison_GREATER_OR_EQUAL, F_w_Comparison_EQUAL_ordinal, F_w_Comparison_LESS_ordinal, F_w_Comparison_GREATER_ordinal, F_w_Comparison_NOT_EQUAL_ordinal, F_w_Comparison_GREATER_OR_EQUAL_ordinal, F_w_Comparison_LESS_OR_EQUAL_ordinal⟩ := B.2
  refine Con.of (plainFor_of_name pn0) (Ls := #[vI p0, vI p1, .unset, .unset, .unset, .unset]) (fun m => by first | rfl | (simp [entryFrame, mkF, argsToLocals, Value.category, maxLocals]; done)) ?_
  intro p e s m below meth c T0 X0 H hml hZ hown hnm hret hlk e0
  have O0 := extR Z.heap
  have M0 := Nat.le_refl Z.heap.size
  have N0 := Fr.nil Z.heap.size
  refine gBipush X0 H at_0 (z := 6) rfl 2 rfl ?_
  refine gNewR X0 H hZ hown (hw _ wd0) (hw _ wd1) e0 (by decide) (cap := 6) (by decide) (by decide) (vs := [.null, .null, .null, .null, .null, .null]) rfl (by decide) (by decide) at_2 5 rfl ?_
  intro T1 h1 b1 k1 X1 e1 z1 E1 V1 Q1
  have G_b1 := Nat.le_trans O0.1 (Nat.le_of_eq z1)
  have sz_b1 := Nat.le_trans M0 (Nat.le_of_eq z1)
  have O1 := extT O0 E1
  refine gDup X1 H at_5 rfl 6 rfl ?_
  refine gIconst X1 H at_6 (z := 0) rfl 7 rfl ?_
  refine gGetS X1 H hZ hown (hw _ wd2) e1 (S_w_Comparison_EQUAL.ext O1) at_7 10 rfl ?_
  intro T2 X2 e2
  refine gAastore X2 H hZ e2 rfl (stoV V1 Q1 (Ins.self (E_w_Comparison_EQUAL.ext O1))) V1 ⟨by decide, by decide⟩ (i := 0) rfl (Nat.le_of_ble_eq_true rfl) (vs' := [(.ref w_Comparison_EQUAL), .null, .null, .null, .null, .null]) rfl at_10 11 rfl ?_
  intro T3 h3 X3 e3 W3 V3
  have O3 := extW O1 W3 G_b1
  have N3 := Fr.snoc X3 N0 G_b1
  refine gDup X3 H at_11 rfl 12 rfl ?_
  refine gIconst X3 H at_12 (z := 1) rfl 13 rfl ?_
  refine gGetS X3 H hZ hown (hw _ wd6) e3 (S_w_Comparison_NOT_EQUAL.ext O3) at_13 16 rfl ?_
  intro T4 X4 e4
  refine gAastore X4 H hZ e4 rfl (stoV V3 Q1 (Ins.self (E_w_Comparison_NOT_EQUAL.ext O3))) V3 ⟨by decide, by decide⟩ (i := 1) rfl (Nat.le_of_ble_eq_true rfl) (vs' := [(.ref w_Comparison_EQUAL), (.ref w_Comparison_NOT_EQUAL), .null, .null, .null, .null]) rfl at_16 17 rfl ?_
  intro T5 h5 X5 e5 W5 V5
  have O5 := extW O3 W5 G_b1
  have N5 := Fr.snoc X5 N3 G_b1
  refine gDup X5 H at_17 rfl 18 rfl ?_
  refine gIconst X5 H at_18 (z := 2) rfl 19 rfl ?_
  refine gGetS X5 H hZ hown (hw _ wd8) e5 (S_w_Comparison_LESS.ext O5) at_19 22 rfl ?_
  intro T6 X6 e6
  refine gAastore X6 H hZ e6 rfl (stoV V5 Q1 (Ins.self (E_w_Comparison_LESS.ext O5))) V5 ⟨by decide, by decide⟩ (i := 2) rfl (Nat.le_of_ble_eq_true rfl) (vs' := [(.ref w_Comparison_EQUAL), (.ref w_Comparison_NOT_EQUAL), (.ref w_Comparison_LESS), .null, .null, .null]) rfl at_22 23 rfl ?_
  intro T7 h7 X7 e7 W7 V7
  have O7 := extW O5 W7 G_b1
  have N7 := Fr.snoc X7 N5 G_b1
  refine gDup X7 H at_23 rfl 24 rfl ?_
  refine gIconst X7 H at_24 (z := 3) rfl 25 rfl ?_
  refine gGetS X7 H hZ hown (hw _ wd10) e7 (S_w_Comparison_LESS_OR_EQUAL.ext O7) at_25 28 rfl ?_
  intro T8 X8 e8
  refine gAastore X8 H hZ e8 rfl (stoV V7 Q1 (Ins.self (E_w_Comparison_LESS_OR_EQUAL.ext O7))) V7 ⟨by decide, by decide⟩ (i := 3) rfl (Nat.le_of_ble_eq_true rfl) (vs' := [(.ref w_Comparison_EQUAL), (.ref w_Comparison_NOT_EQUAL), (.ref w_Comparison_LESS), (.ref w_Comparison_LESS_OR_EQUAL), .null, .null]) rfl at_28 29 rfl ?_
  intro T9 h9 X9 e9 W9 V9
  have O9 := extW O7 W9 G_b1
  have N9 := Fr.snoc X9 N7 G_b1
  refine gDup X9 H at_29 rfl 30 rfl ?_
  refine gIconst X9 H at_30 (z := 4) rfl 31 rfl ?_
  refine gGetS X9 H hZ hown (hw _ wd12) e9 (S_w_Comparison_GREATER.ext O9) at_31 34 rfl ?_
  intro T10 X10 e10
  refine gAastore X10 H hZ e10 rfl (stoV V9 Q1 (Ins.self (E_w_Comparison_GREATER.ext O9))) V9 ⟨by decide, by decide⟩ (i := 4) rfl (Nat.le_of_ble_eq_true rfl) (vs' := [(.ref w_Comparison_EQUAL), (.ref w_Comparison_NOT_EQUAL), (.ref w_Comparison_LESS), (.ref w_Comparison_LESS_OR_EQUAL), (.ref w_Comparison_GREATER), .null]) rfl at_34 35 rfl ?_
  intro T11 h11 X11 e11 W11 V11
  have O11 := extW O9 W11 G_b1
  have N11 := Fr.snoc X11 N9 G_b1
  refine gDup X11 H at_35 rfl 36 rfl ?_
  refine gIconst X11 H at_36 (z := 5) rfl 37 rfl ?_
  refine gGetS X11 H hZ hown (hw _ wd14) e11 (S_w_Comparison_GREATER_OR_EQUAL.ext O11) at_37 40 rfl ?_
  intro T12 X12 e12
  refine gAastore X12 H hZ e12 rfl (stoV V11 Q1 (Ins.self (E_w_Comparison_GREATER_OR_EQUAL.ext O11))) V11 ⟨by decide, by decide⟩ (i := 5) rfl (Nat.le_of_ble_eq_true rfl) (vs' := [(.ref w_Comparison_EQUAL), (.ref w_Comparison_NOT_EQUAL), (.ref w_Comparison_LESS), (.ref w_Comparison_LESS_OR_EQUAL), (.ref w_Comparison_GREATER), (.ref w_Comparison_GREATER_OR_EQUAL)]) rfl at_40 41 rfl ?_
  intro T13 h13 X13 e13 W13 V13
  have O13 := extW O11 W13 G_b1
  have N13 := Fr.snoc X13 N11 G_b1
  refine gAstoreN X13 H at_41 rfl (Ls' := #[vI p0, vI p1, vR b1, .unset, .unset, .unset]) rfl 42 rfl ?_
  refine gBipush X13 H at_42 (z := 18) rfl 44 rfl ?_
  refine gNewP X13 H hZ (aty := .boolean) (hw _ wd16) e13 (by decide) (cap := 18) (by decide) (by decide) (vs := [(.int 0), (.int 0), (.int 0), (.int 0), (.int 0), (.int 0), (.int 0), (.int 0), (.int 0), (.int 0), (.int 0), (.int 0), (.int 0), (.int 0), (.int 0), (.int 0), (.int 0), (.int 0)]) rfl (by decide) (by decide) at_44 46 rfl ?_
  intro T14 h14 b14 k14 X14 e14 z14 E14 V14
  have M15 := (leW (leW (leW (leW (leW (leW (Nat.le_trans M0 E1.1) W3) W5) W7) W9) W11) W13)
  have G_b14 := Nat.le_trans O13.1 (Nat.le_of_eq z14)
  have sz_b14 := Nat.le_trans M15 (Nat.le_of_eq z14)
  have ne_b1_b14 : b1 ≠ b14 := neB V13.lt (Nat.le_of_eq z14)
  have O14 := extT O13 E14
  refine gDup X14 H at_46 rfl 47 rfl ?_
  refine gIconst X14 H at_47 (z := 0) rfl 48 rfl ?_
  refine gIconst X14 H at_48 (z := 0) rfl 49 rfl ?_
  refine gZastore X14 H hZ e14 V14 ⟨by decide, by decide⟩ (i := 0) rfl (Nat.le_of_ble_eq_true rfl) (vs' := [(.int 0), (.int 0), (.int 0), (.int 0), (.int 0), (.int 0), (.int 0), (.int 0), (.int 0), (.int 0), (.int 0), (.int 0), (.int 0), (.int 0), (.int 0), (.int 0), (.int 0), (.int 0)]) rfl at_49 50 rfl ?_
  intro T16 h16 X16 e16 W16 V16
  have O16 := extW O14 W16 G_b14
  have N16 := Fr.snoc X16 N13 G_b14
  refine gDup X16 H at_50 rfl 51 rfl ?_
  refine gIconst X16 H at_51 (z := 1) rfl 52 rfl ?_
  refine gIconst X16 H at_52 (z := 1) rfl 53 rfl ?_
  refine gZastore X16 H hZ e16 V16 ⟨by decide, by decide⟩ (i := 1) rfl (Nat.le_of_ble_eq_true rfl) (vs' := [(.int 0), (.int 1), (.int 0), (.int 0), (.int 0), (.int 0), (.int 0), (.int 0), (.int 0), (.int 0), (.int 0), (.int 0), (.int 0), (.int 0), (.int 0), (.int 0), (.int 0), (.int 0)]) rfl at_53 54 rfl ?_
  intro T17 h17 X17 e17 W17 V17
  have O17 := extW O16 W17 G_b14
  have N17 := Fr.snoc X17 N16 G_b14
  refine gDup X17 H at_54 rfl 55 rfl ?_
  refine gIconst X17 H at_55 (z := 2) rfl 56 rfl ?_
  refine gIconst X17 H at_56 (z := 0) rfl 57 rfl ?_
  refine gZastore X17 H hZ e17 V17 ⟨by decide, by decide⟩ (i := 2) rfl (Nat.le_of_ble_eq_true rfl) (vs' := [(.int 0), (.int 1), (.int 0), (.int 0), (.int 0), (.int 0), (.int 0), (.int 0), (.int 0), (.int 0), (.int 0), (.int 0), (.int 0), (.int 0), (.int 0), (.int 0), (.int 0), (.int 0)]) rfl at_57 58 rfl ?_
  intro T18 h18 X18 e18 W18 V18
  have O18 := extW O17 W18 G_b14
  have N18 := Fr.snoc X18 N17 G_b14
  refine gDup X18 H at_58 rfl 59 rfl ?_
  refine gIconst X18 H at_59 (z := 3) rfl 60 rfl ?_
  refine gIconst X18 H at_60 (z := 1) rfl 61 rfl ?_
  refine gZastore X18 H hZ e18 V18 ⟨by decide, by decide⟩ (i := 3) rfl (Nat.le_of_ble_eq_true rfl) (vs' := [(.int 0), (.int 1), (.int 0), (.int 1), (.int 0), (.int 0), (.int 0), (.int 0), (.int 0), (.int 0), (.int 0), (.int 0), (.int 0), (.int 0), (.int 0), (.int 0), (.int 0), (.int 0)]) rfl at_61 62 rfl ?_
  intro T19 h19 X19 e19 W19 V19
  have O19 := extW O18 W19 G_b14
  have N19 := Fr.snoc X19 N18 G_b14
  refine gDup X19 H at_62 rfl 63 rfl ?_
  refine gIconst X19 H at_63 (z := 4) rfl 64 rfl ?_
  refine gIconst X19 H at_64 (z := 0) rfl 65 rfl ?_
  refine gZastore X19 H hZ e19 V19 ⟨by decide, by decide⟩ (i := 4) rfl (Nat.le_of_ble_eq_true rfl) (vs' := [(.int 0), (.int 1), (.int 0), (.int 1), (.int 0), (.int 0), (.int 0), (.int 0), (.int 0), (.int 0), (.int 0), (.int 0), (.int 0), (.int 0), (.int 0), (.int 0), (.int 0), (.int 0)]) rfl at_65 66 rfl ?_
  intro T20 h20 X20 e20 W20 V20
  have O20 := extW O19 W20 G_b14
  have N20 := Fr.snoc X20 N19 G_b14
  refine gDup X20 H at_66 rfl 67 rfl ?_
  refine gIconst X20 H at_67 (z := 5) rfl 68 rfl ?_
  refine gIconst X20 H at_68 (z := 1) rfl 69 rfl ?_
  refine gZastore X20 H hZ e20 V20 ⟨by decide, by decide⟩ (i := 5) rfl (Nat.le_of_ble_eq_true rfl) (vs' := [(.int 0), (.int 1), (.int 0), (.int 1), (.int 0), (.int 1), (.int 0), (.int 0), (.int 0), (.int 0), (.int 0), (.int 0), (.int 0), (.int 0), (.int 0), (.int 0), (.int 0), (.int 0)]) rfl at_69 70 rfl ?_
  intro T21 h21 X21 e21 W21 V21
  have O21 := extW O20 W21 G_b14
  have N21 := Fr.snoc X21 N20 G_b14
  refine gDup X21 H at_70 rfl 71 rfl ?_
  refine gBipush X21 H at_71 (z := 6) rfl 73 rfl ?_
  refine gIconst X21 H at_73 (z := 1) rfl 74 rfl ?_
  refine gZastore X21 H hZ e21 V21 ⟨by decide, by decide⟩ (i := 6) rfl (Nat.le_of_ble_eq_true rfl) (vs' := [(.int 0), (.int 1), (.int 0), (.int 1), (.int 0), (.int 1), (.int 1), (.int 0), (.int 0), (.int 0), (.int 0), (.int 0), (.int 0), (.int 0), (.int 0), (.int 0), (.int 0), (.int 0)]) rfl at_74 75 rfl ?_
  intro T22 h22 X22 e22 W22 V22
  have O22 := extW O21 W22 G_b14
  have N22 := Fr.snoc X22 N21 G_b14
  refine gDup X22 H at_75 rfl 76 rfl ?_
  refine gBipush X22 H at_76 (z := 7) rfl 78 rfl ?_
  refine gIconst X22 H at_78 (z := 0) rfl 79 rfl ?_
  refine gZastore X22 H hZ e22 V22 ⟨by decide, by decide⟩ (i := 7) rfl (Nat.le_of_ble_eq_true rfl) (vs' := [(.int 0), (.int 1), (.int 0), (.int 1), (.int 0), (.int 1), (.int 1), (.int 0), (.int 0), (.int 0), (.int 0), (.int 0), (.int 0), (.int 0), (.int 0), (.int 0), (.int 0), (.int 0)]) rfl at_79 80 rfl ?_
  intro T23 h23 X23 e23 W23 V23
  have O23 := extW O22 W23 G_b14
  have N23 := Fr.snoc X23 N22 G_b14
  refine gDup X23 H at_80 rfl 81 rfl ?_
  refine gBipush X23 H at_81 (z := 8) rfl 83 rfl ?_
  refine gIconst X23 H at_83 (z := 0) rfl 84 rfl ?_
  refine gZastore X23 H hZ e23 V23 ⟨by decide, by decide⟩ (i := 8) rfl (Nat.le_of_ble_eq_true rfl) (vs' := [(.int 0), (.int 1), (.int 0), (.int 1), (.int 0), (.int 1), (.int 1), (.int 0), (.int 0), (.int 0), (.int 0), (.int 0), (.int 0), (.int 0), (.int 0), (.int 0), (.int 0), (.int 0)]) rfl at_84 85 rfl ?_
  intro T24 h24 X24 e24 W24 V24
  have O24 := extW O23 W24 G_b14
  have N24 := Fr.snoc X24 N23 G_b14
  refine gDup X24 H at_85 rfl 86 rfl ?_
  refine gBipush X24 H at_86 (z := 9) rfl 88 rfl ?_
  refine gIconst X24 H at_88 (z := 1) rfl 89 rfl ?_
  refine gZastore X24 H hZ e24 V24 ⟨by decide, by decide⟩ (i := 9) rfl (Nat.le_of_ble_eq_true rfl) (vs' := [(.int 0), (.int 1), (.int 0), (.int 1), (.int 0), (.int 1), (.int 1), (.int 0), (.int 0), (.int 1), (.int 0), (.int 0), (.int 0), (.int 0), (.int 0), (.int 0), (.int 0), (.int 0)]) rfl at_89 90 rfl ?_
  intro T25 h25 X25 e25 W25 V25
  have O25 := extW O24 W25 G_b14
  have N25 := Fr.snoc X25 N24 G_b14
  refine gDup X25 H at_90 rfl 91 rfl ?_
  refine gBipush X25 H at_91 (z := 10) rfl 93 rfl ?_
  refine gIconst X25 H at_93 (z := 1) rfl 94 rfl ?_
  refine gZastore X25 H hZ e25 V25 ⟨by decide, by decide⟩ (i := 10) rfl (Nat.le_of_ble_eq_true rfl) (vs' := [(.int 0), (.int 1), (.int 0), (.int 1), (.int 0), (.int 1), (.int 1), (.int 0), (.int 0), (.int 1), (.int 1), (.int 0), (.int 0), (.int 0), (.int 0), (.int 0), (.int 0), (.int 0)]) rfl at_94 95 rfl ?_
  intro T26 h26 X26 e26 W26 V26
  have O26 := extW O25 W26 G_b14
  have N26 := Fr.snoc X26 N25 G_b14
  refine gDup X26 H at_95 rfl 96 rfl ?_
  refine gBipush X26 H at_96 (z := 11) rfl 98 rfl ?_
  refine gIconst X26 H at_98 (z := 0) rfl 99 rfl ?_
  refine gZastore X26 H hZ e26 V26 ⟨by decide, by decide⟩ (i := 11) rfl (Nat.le_of_ble_eq_true rfl) (vs' := [(.int 0), (.int 1), (.int 0), (.int 1), (.int 0), (.int 1), (.int 1), (.int 0), (.int 0), (.int 1), (.int 1), (.int 0), (.int 0), (.int 0), (.int 0), (.int 0), (.int 0), (.int 0)]) rfl at_99 100 rfl ?_
  intro T27 h27 X27 e27 W27 V27
  have O27 := extW O26 W27 G_b14
  have N27 := Fr.snoc X27 N26 G_b14
  refine gDup X27 H at_100 rfl 101 rfl ?_
  refine gBipush X27 H at_101 (z := 12) rfl 103 rfl ?_
  refine gIconst X27 H at_103 (z := 0) rfl 104 rfl ?_
  refine gZastore X27 H hZ e27 V27 ⟨by decide, by decide⟩ (i := 12) rfl (Nat.le_of_ble_eq_true rfl) (vs' := [(.int 0), (.int 1), (.int 0), (.int 1), (.int 0), (.int 1), (.int 1), (.int 0), (.int 0), (.int 1), (.int 1), (.int 0), (.int 0), (.int 0), (.int 0), (.int 0), (.int 0), (.int 0)]) rfl at_104 105 rfl ?_
  intro T28 h28 X28 e28 W28 V28
  have O28 := extW O27 W28 G_b14
  have N28 := Fr.snoc X28 N27 G_b14
  refine gDup X28 H at_105 rfl 106 rfl ?_
  refine gBipush X28 H at_106 (z := 13) rfl 108 rfl ?_
  refine gIconst X28 H at_108 (z := 0) rfl 109 rfl ?_
  refine gZastore X28 H hZ e28 V28 ⟨by decide, by decide⟩ (i := 13) rfl (Nat.le_of_ble_eq_true rfl) (vs' := [(.int 0), (.int 1), (.int 0), (.int 1), (.int 0), (.int 1), (.int 1), (.int 0), (.int 0), (.int 1), (.int 1), (.int 0), (.int 0), (.int 0), (.int 0), (.int 0), (.int 0), (.int 0)]) rfl at_109 110 rfl ?_
  intro T29 h29 X29 e29 W29 V29
  have O29 := extW O28 W29 G_b14
  have N29 := Fr.snoc X29 N28 G_b14
  refine gDup X29 H at_110 rfl 111 rfl ?_
  refine gBipush X29 H at_111 (z := 14) rfl 113 rfl ?_
  refine gIconst X29 H at_113 (z := 1) rfl 114 rfl ?_
  refine gZastore X29 H hZ e29 V29 ⟨by decide, by decide⟩ (i := 14) rfl (Nat.le_of_ble_eq_true rfl) (vs' := [(.int 0), (.int 1), (.int 0), (.int 1), (.int 0), (.int 1), (.int 1), (.int 0), (.int 0), (.int 1), (.int 1), (.int 0), (.int 0), (.int 0), (.int 1), (.int 0), (.int 0), (.int 0)]) rfl at_114 115 rfl ?_
  intro T30 h30 X30 e30 W30 V30
  have O30 := extW O29 W30 G_b14
  have N30 := Fr.snoc X30 N29 G_b14
  refine gDup X30 H at_115 rfl 116 rfl ?_
  refine gBipush X30 H at_116 (z := 15) rfl 118 rfl ?_
  refine gIconst X30 H at_118 (z := 0) rfl 119 rfl ?_
  refine gZastore X30 H hZ e30 V30 ⟨by decide, by decide⟩ (i := 15) rfl (Nat.le_of_ble_eq_true rfl) (vs' := [(.int 0), (.int 1), (.int 0), (.int 1), (.int 0), (.int 1), (.int 1), (.int 0), (.int 0), (.int 1), (.int 1), (.int 0), (.int 0), (.int 0), (.int 1), (.int 0), (.int 0), (.int 0)]) rfl at_119 120 rfl ?_
  intro T31 h31 X31 e31 W31 V31
  have O31 := extW O30 W31 G_b14
  have N31 := Fr.snoc X31 N30 G_b14
  refine gDup X31 H at_120 rfl 121 rfl ?_
  refine gBipush X31 H at_121 (z := 16) rfl 123 rfl ?_
  refine gIconst X31 H at_123 (z := 1) rfl 124 rfl ?_
  refine gZastore X31 H hZ e31 V31 ⟨by decide, by decide⟩ (i := 16) rfl (Nat.le_of_ble_eq_true rfl) (vs' := [(.int 0), (.int 1), (.int 0), (.int 1), (.int 0), (.int 1), (.int 1), (.int 0), (.int 0), (.int 1), (.int 1), (.int 0), (.int 0), (.int 0), (.int 1), (.int 0), (.int 1), (.int 0)]) rfl at_124 125 rfl ?_
  intro T32 h32 X32 e32 W32 V32
  have O32 := extW O31 W32 G_b14
  have N32 := Fr.snoc X32 N31 G_b14
  refine gDup X32 H at_125 rfl 126 rfl ?_
  refine gBipush X32 H at_126 (z := 17) rfl 128 rfl ?_
  refine gIconst X32 H at_128 (z := 1) rfl 129 rfl ?_
  refine gZastore X32 H hZ e32 V32 ⟨by decide, by decide⟩ (i := 17) rfl (Nat.le_of_ble_eq_true rfl) (vs' := [(.int 0), (.int 1), (.int 0), (.int 1), (.int 0), (.int 1), (.int 1), (.int 0), (.int 0), (.int 1), (.int 1), (.int 0), (.int 0), (.int 0), (.int 1), (.int 0), (.int 1), (.int 1)]) rfl at_129 130 rfl ?_
  intro T33 h33 X33 e33 W33 V33
  have O33 := extW O32 W33 G_b14
  have N33 := Fr.snoc X33 N32 G_b14
  refine gAstoreN X33 H at_130 rfl (Ls' := #[vI p0, vI p1, vR b1, vR b14, .unset, .unset]) rfl 131 rfl ?_
  refine gIloadN X33 H at_131 rfl 132 rfl ?_
  refine gLdc X33 H hZ hown (hw _ wd17) at_132 134 rfl ?_
  refine g_iand X33 H at_134 (z := (p0 &&& (2147483647 : Int32))) rfl 135 rfl ?_
  refine gBipush X33 H at_135 (z := 6) rfl 137 rfl ?_
  refine g_irem X33 H at_137 (by decide) (z := 0) ha0 138 rfl ?_
  refine gIstore X33 H at_138 (Ls' := #[vI p0, vI p1, vR b1, vR b14, vI 0, .unset]) rfl 140 rfl ?_
  refine gIloadN X33 H at_140 rfl 141 rfl ?_
  by_cases hc34 : p1 < (0 : Int32)
  · refine gIfN X33 H at_141 ((if0 _ _).trans (tlt hc34).2.1) 144 rfl ?_
    refine gIconst X33 H at_144 (z := 0) rfl 145 rfl ?_
    refine gGoto X33 H at_145 (by decide) 157 rfl ?_
    refine gIstore X33 H at_157 (Ls' := #[vI p0, vI p1, vR b1, vR b14, vI 0, vI 0]) rfl 159 rfl ?_
    refine gAloadN X33 H at_159 rfl rfl 160 rfl ?_
    refine gIload X33 H at_160 rfl 162 rfl ?_
    have c36 := (((((((((((((((((((V13.ext E14).other W16 ne_b1_b14).other W17 ne_b1_b14).other W18 ne_b1_b14).other W19 ne_b1_b14).other W20 ne_b1_b14).other W21 ne_b1_b14).other W22 ne_b1_b14).other W23 ne_b1_b14).other W24 ne_b1_b14).other W25 ne_b1_b14).other W26 ne_b1_b14).other W27 ne_b1_b14).other W28 ne_b1_b14).other W29 ne_b1_b14).other W30 ne_b1_b14).other W31 ne_b1_b14).other W32 ne_b1_b14).other W33 ne_b1_b14)
    refine gAaload X33 H hZ e33 rfl c36 ⟨by decide, by decide⟩ (v := (.ref w_Comparison_EQUAL)) rfl at_162 163 rfl ?_
    refine gIloadN X33 H at_163 rfl 164 rfl ?_
    refine gVirt X33 H hZ hown (hw _ wd18) (hw _ wd19) (hw _ wd21) (hw _ wd20) (by decide) (E_w_Comparison_EQUAL.ext O33) (hw _ wd22) (hw _ wd3) (rm41_1 B p1 _ O33 (t32_ne hc34)) e33 hml rfl pd1 rfl (W := 0) (argsL := [(.int p1)]) (rest := []) rfl rfl at_164 167 rfl ?_
    intro v42 T42 L42 hq42 X42
    obtain ⟨rfl, e42, rfl⟩ := hq42
    have N42 := Fr.app N33 (Fr.nil _)
    show Go _ _ _ _ (State.setTop _ (mkF _ 167 _ [(.int 0)]))
    refine gAloadN X42 H at_167 rfl rfl 168 rfl ?_
    refine gIload X42 H at_168 rfl 170 rfl ?_
    refine gIconst X42 H at_170 (z := 3) rfl 171 rfl ?_
    refine g_imul X42 H at_171 (z := 0) (by decide) 172 rfl ?_
    refine gIload X42 H at_172 rfl 174 rfl ?_
    refine g_iadd X42 H at_174 (z := 0) (by decide) 175 rfl ?_
    refine gZaload X42 H hZ e42 V33 ⟨by decide, by decide⟩ (v := (.int 0)) rfl at_175 176 rfl ?_
    refine gCmpN X42 H at_176 (by decide) 179 rfl ?_
    refine gIconst X42 H at_179 (z := 1) rfl 180 rfl ?_
    refine gGoto X42 H at_180 (by decide) 184 rfl ?_
    exact gRetN X42 H hlk hret (t := .boolean) (by simp) at_184 e42 ⟨rfl, N42⟩
  · refine gIfY X33 H at_141 ((if0 _ _).trans (flt hc34).2.1) (by decide) 148 rfl ?_
    refine gIloadN X33 H at_148 rfl 149 rfl ?_
    by_cases hc44 : p1 = (0 : Int32)
    · refine gIfN X33 H at_149 ((if0 _ _).trans (teq hc44).2) 152 rfl ?_
      refine gIconst X33 H at_152 (z := 1) rfl 153 rfl ?_
      refine gGoto X33 H at_153 (by decide) 157 rfl ?_
      refine gIstore X33 H at_157 (Ls' := #[vI p0, vI p1, vR b1, vR b14, vI 0, vI 1]) rfl 159 rfl ?_
      refine gAloadN X33 H at_159 rfl rfl 160 rfl ?_
      refine gIload X33 H at_160 rfl 162 rfl ?_
      have c46 := (((((((((((((((((((V13.ext E14).other W16 ne_b1_b14).other W17 ne_b1_b14).other W18 ne_b1_b14).other W19 ne_b1_b14).other W20 ne_b1_b14).other W21 ne_b1_b14).other W22 ne_b1_b14).other W23 ne_b1_b14).other W24 ne_b1_b14).other W25 ne_b1_b14).other W26 ne_b1_b14).other W27 ne_b1_b14).other W28 ne_b1_b14).other W29 ne_b1_b14).other W30 ne_b1_b14).other W31 ne_b1_b14).other W32 ne_b1_b14).other W33 ne_b1_b14)
      refine gAaload X33 H hZ e33 rfl c46 ⟨by decide, by decide⟩ (v := (.ref w_Comparison_EQUAL)) rfl at_162 163 rfl ?_
      refine gIloadN X33 H at_163 rfl 164 rfl ?_
      refine gVirt X33 H hZ hown (hw _ wd18) (hw _ wd19) (hw _ wd21) (hw _ wd20) (by decide) (E_w_Comparison_EQUAL.ext O33) (hw _ wd22) (hw _ wd3) (rm49_1 B p1 _ O33 hc44) e33 hml rfl pd1 rfl (W := 0) (argsL := [(.int p1)]) (rest := []) rfl rfl at_164 167 rfl ?_
      intro v50 T50 L50 hq50 X50
      obtain ⟨rfl, e50, rfl⟩ := hq50
      have N50 := Fr.app N33 (Fr.nil _)
      show Go _ _ _ _ (State.setTop _ (mkF _ 167 _ [(.int 1)]))
      refine gAloadN X50 H at_167 rfl rfl 168 rfl ?_
      refine gIload X50 H at_168 rfl 170 rfl ?_
      refine gIconst X50 H at_170 (z := 3) rfl 171 rfl ?_
      refine g_imul X50 H at_171 (z := 0) (by decide) 172 rfl ?_
      refine gIload X50 H at_172 rfl 174 rfl ?_
      refine g_iadd X50 H at_174 (z := 1) (by decide) 175 rfl ?_
      refine gZaload X50 H hZ e50 V33 ⟨by decide, by decide⟩ (v := (.int 1)) rfl at_175 176 rfl ?_
      refine gCmpN X50 H at_176 (by decide) 179 rfl ?_
      refine gIconst X50 H at_179 (z := 1) rfl 180 rfl ?_
      refine gGoto X50 H at_180 (by decide) 184 rfl ?_
      exact gRetN X50 H hlk hret (t := .boolean) (by simp) at_184 e50 ⟨rfl, N50⟩
    · refine gIfY X33 H at_149 ((if0 _ _).trans (feq hc44).2) (by decide) 156 rfl ?_
      refine gIconst X33 H at_156 (z := 2) rfl 157 rfl ?_
      refine gIstore X33 H at_157 (Ls' := #[vI p0, vI p1, vR b1, vR b14, vI 0, vI 2]) rfl 159 rfl ?_
      refine gAloadN X33 H at_159 rfl rfl 160 rfl ?_
      refine gIload X33 H at_160 rfl 162 rfl ?_
      have c53 := (((((((((((((((((((V13.ext E14).other W16 ne_b1_b14).other W17 ne_b1_b14).other W18 ne_b1_b14).other W19 ne_b1_b14).other W20 ne_b1_b14).other W21 ne_b1_b14).other W22 ne_b1_b14).other W23 ne_b1_b14).other W24 ne_b1_b14).other W25 ne_b1_b14).other W26 ne_b1_b14).other W27 ne_b1_b14).other W28 ne_b1_b14).other W29 ne_b1_b14).other W30 ne_b1_b14).other W31 ne_b1_b14).other W32 ne_b1_b14).other W33 ne_b1_b14)
      refine gAaload X33 H hZ e33 rfl c53 ⟨by decide, by decide⟩ (v := (.ref w_Comparison_EQUAL)) rfl at_162 163 rfl ?_
      refine gIloadN X33 H at_163 rfl 164 rfl ?_
      refine gVirt X33 H hZ hown (hw _ wd18) (hw _ wd19) (hw _ wd21) (hw _ wd20) (by decide) (E_w_Comparison_EQUAL.ext O33) (hw _ wd22) (hw _ wd3) (rm41_1 B p1 _ O33 hc44) e33 hml rfl pd1 rfl (W := 0) (argsL := [(.int p1)]) (rest := []) rfl rfl at_164 167 rfl ?_
      intro v54 T54 L54 hq54 X54
      obtain ⟨rfl, e54, rfl⟩ := hq54
      have N54 := Fr.app N33 (Fr.nil _)
      show Go _ _ _ _ (State.setTop _ (mkF _ 167 _ [(.int 0)]))
      refine gAloadN X54 H at_167 rfl rfl 168 rfl ?_
      refine gIload X54 H at_168 rfl 170 rfl ?_
      refine gIconst X54 H at_170 (z := 3) rfl 171 rfl ?_
      refine g_imul X54 H at_171 (z := 0) (by decide) 172 rfl ?_
      refine gIload X54 H at_172 rfl 174 rfl ?_
      refine g_iadd X54 H at_174 (z := 2) (by decide) 175 rfl ?_
      refine gZaload X54 H hZ e54 V33 ⟨by decide, by decide⟩ (v := (.int 0)) rfl at_175 176 rfl ?_
      refine gCmpN X54 H at_176 (by decide) 179 rfl ?_
      refine gIconst X54 H at_179 (z := 1) rfl 180 rfl ?_
      refine gGoto X54 H at_180 (by decide) 184 rfl ?_
      exact gRetN X54 H hlk hret (t := .boolean) (by simp) at_184 e54 ⟨rfl, N54⟩
theorem rm93_2 (B : Bg Z a0 w_Comparison_EQUAL w_Comparison_NOT_EQUAL w_Comparison_LESS w_Comparison_LESS_OR_EQUAL w_Comparison_GREATER w_Comparison_GREATER_OR_EQUAL) (h : Heap) (O : Ext Z.heap h) :
    Con l Z yM2 jdk_37_method_2_code 1 (some .int) ({ frames := 0, cells := 0, slots := 0, locals := 0 } : Room) #[(.ref w_Comparison_NOT_EQUAL)] h (fun v h' L => v = some (.int 1) ∧ h' = h ∧ L = []) := by
  have hw := B.1
  obtain ⟨S_w_Comparison_EQUAL, E_w_Comparison_EQUAL, S_w_Comparison_NOT_EQUAL, E_w_Comparison_NOT_EQUAL, S_w_Comparison_LESS, E_w_Comparison_LESS, S_w_Comparison_LESS_OR_EQUAL, E_w_Comparison_LESS_OR_EQUAL, S_w_Comparison_GREATER, E_w_Comparison_GREATER, S_w_Comparison_GREATER_OR_EQUAL, E_w_Comparison_GREATER_OR_EQUAL, F_w_Comparison_EQUAL_ordinal, F_w_Comparison_LESS_ordinal, F_w_Comparison_GREATER_ordinal, F_w_Comparison_NOT_EQUAL_ordinal, F_w_Comparison_GREATER_OR_EQUAL_ordinal, F_w_Comparison_LESS_OR_EQUAL_ordinal⟩ := B.2
  refine Con.of (plainFor_of_name pn2) (Ls := #[vR w_Comparison_NOT_EQUAL]) (fun m => by first | rfl | (simp [entryFrame, mkF, argsToLocals, Value.category]; done)) ?_
  intro p e s m below meth c T0 X0 H hml hZ hown hnm hret hlk e0
  refine gAloadN X0 H d2_0 rfl rfl 1 rfl ?_
  refine gGetF X0 H hZ hown (hw _ wd30) Via.refl e0 (F_w_Comparison_NOT_EQUAL_ordinal.ext O) d2_1 4 rfl ?_
  intro T92 X92 e92
  exact gRetI X92 H hlk hret d2_4 e92 ⟨rfl, rfl, rfl⟩
theorem rm96_1 (B : Bg Z a0 w_Comparison_EQUAL w_Comparison_NOT_EQUAL w_Comparison_LESS w_Comparison_LESS_OR_EQUAL w_Comparison_GREATER w_Comparison_GREATER_OR_EQUAL) (vi0 : Int32) (h : Heap) (O : Ext Z.heap h) (hk95 : ¬ (vi0 = (0 : Int32))) :
    Con l Z yM1 prog_20_method_6_code 2 (some .boolean) ({ frames := 1, cells := 0, slots := 0, locals := 12 } : Room) #[(.ref w_Comparison_NOT_EQUAL), (.int vi0)] h (fun v h' L => v = some (.int 1) ∧ h' = h ∧ L = []) := by
  have hw := B.1
  obtain ⟨S_w_Comparison_EQUAL, E_w_Comparison_EQUAL, S_w_Comparison_NOT_EQUAL, E_w_Comparison_NOT_EQUAL, S_w_Comparison_LESS, E_w_Comparison_LESS, S_w_Comparison_LESS_OR_EQUAL, E_w_Comparison_LESS_OR_EQUAL, S_w_Comparison_GREATER, E_w_Comparison_GREATER, S_w_Comparison_GREATER_OR_EQUAL, E_w_Comparison_GREATER_OR_EQUAL, F_w_Comparison_EQUAL_ordinal, F_w_Comparison_LESS_ordinal, F_w_Comparison_GREATER_ordinal, F_w_Comparison_NOT_EQUAL_ordinal, F_w_Comparison_GREATER_OR_EQUAL_ordinal, F_w_Comparison_LESS_OR_EQUAL_ordinal⟩ := B.2
  refine Con.of (plainFor_of_name pn1) (Ls := #[vR w_Comparison_NOT_EQUAL, vI vi0]) (fun m => by first | rfl | (simp [entryFrame, mkF, argsToLocals, Value.category]; done)) ?_
  intro p e s m below meth c T0 X0 H hml hZ hown hnm hret hlk e0
  have N0 := Fr.nil Z.heap.size
  refine gAloadN X0 H d1_0 rfl rfl 1 rfl ?_
  refine gVirtualUp X0 H hZ hown (hw _ wd23) (hw _ wd24) (hw _ wd25) (hw _ wd27) (hw _ wd26) (by decide) (E_w_Comparison_NOT_EQUAL.ext O) (hw _ wd29) (hw _ wd28) (rm93_2 B _ O) e0 hml rfl pd0 rfl (W := 0) (argsL := []) (rest := []) rfl rfl d1_1 4 rfl ?_
  intro v94 T94 L94 hq94 X94
  obtain ⟨rfl, e94, rfl⟩ := hq94
  have N94 := Fr.app N0 (Fr.nil _)
  show Go _ _ _ _ (State.setTop _ (mkF _ 4 _ [(.int 1)]))
  refine gTswIn X94 H d1_4 (by decide) (o := 48) (by decide) (by decide) 52 rfl ?_
  refine gIloadN X94 H d1_52 rfl 53 rfl ?_
  refine gIfN X94 H d1_53 ((if0 _ _).trans (feq hk95).1) 56 rfl ?_
  refine gIconst X94 H d1_56 (z := 1) rfl 57 rfl ?_
  refine gGoto X94 H d1_57 (by decide) 109 rfl ?_
  exact gRetN X94 H hlk hret (t := .boolean) (by simp) d1_109 e94 ⟨rfl, rfl, rfl⟩
theorem rm104_1 (B : Bg Z a0 w_Comparison_EQUAL w_Comparison_NOT_EQUAL w_Comparison_LESS w_Comparison_LESS_OR_EQUAL w_Comparison_GREATER w_Comparison_GREATER_OR_EQUAL) (vi0 : Int32) (h : Heap) (O : Ext Z.heap h) (hk103 : vi0 = (0 : Int32)) :
    Con l Z yM1 prog_20_method_6_code 2 (some .boolean) ({ frames := 1, cells := 0, slots := 0, locals := 12 } : Room) #[(.ref w_Comparison_NOT_EQUAL), (.int vi0)] h (fun v h' L => v = some (.int 0) ∧ h' = h ∧ L = []) := by
  have hw := B.1
  obtain ⟨S_w_Comparison_EQUAL, E_w_Comparison_EQUAL, S_w_Comparison_NOT_EQUAL, E_w_Comparison_NOT_EQUAL, S_w_Comparison_LESS, E_w_Comparison_LESS, S_w_Comparison_LESS_OR_EQUAL, E_w_Comparison_LESS_OR_EQUAL, S_w_Comparison_GREATER, E_w_Comparison_GREATER, S_w_Comparison_GREATER_OR_EQUAL, E_w_Comparison_GREATER_OR_EQUAL, F_w_Comparison_EQUAL_ordinal, F_w_Comparison_LESS_ordinal, F_w_Comparison_GREATER_ordinal, F_w_Comparison_NOT_EQUAL_ordinal, F_w_Comparison_GREATER_OR_EQUAL_ordinal, F_w_Comparison_LESS_OR_EQUAL_ordinal⟩ := B.2
  refine Con.of (plainFor_of_name pn1) (Ls := #[vR w_Comparison_NOT_EQUAL, vI vi0]) (fun m => by first | rfl | (simp [entryFrame, mkF, argsToLocals, Value.category]; done)) ?_
  intro p e s m below meth c T0 X0 H hml hZ hown hnm hret hlk e0
  have N0 := Fr.nil Z.heap.size
  refine gAloadN X0 H d1_0 rfl rfl 1 rfl ?_
  refine gVirtualUp X0 H hZ hown (hw _ wd23) (hw _ wd24) (hw _ wd25) (hw _ wd27) (hw _ wd26) (by decide) (E_w_Comparison_NOT_EQUAL.ext O) (hw _ wd29) (hw _ wd28) (rm93_2 B _ O) e0 hml rfl pd0 rfl (W := 0) (argsL := []) (rest := []) rfl rfl d1_1 4 rfl ?_
  intro v102 T102 L102 hq102 X102
  obtain ⟨rfl, e102, rfl⟩ := hq102
  have N102 := Fr.app N0 (Fr.nil _)
  show Go _ _ _ _ (State.setTop _ (mkF _ 4 _ [(.int 1)]))
  refine gTswIn X102 H d1_4 (by decide) (o := 48) (by decide) (by decide) 52 rfl ?_
  refine gIloadN X102 H d1_52 rfl 53 rfl ?_
  refine gIfY X102 H d1_53 ((if0 _ _).trans (teq hk103).1) (by decide) 60 rfl ?_
  refine gIconst X102 H d1_60 (z := 0) rfl 61 rfl ?_
  refine gGoto X102 H d1_61 (by decide) 109 rfl ?_
  exact gRetN X102 H hlk hret (t := .boolean) (by simp) d1_109 e102 ⟨rfl, rfl, rfl⟩
theorem lawAll_1 (B : Bg Z a0 w_Comparison_EQUAL w_Comparison_NOT_EQUAL w_Comparison_LESS w_Comparison_LESS_OR_EQUAL w_Comparison_GREATER w_Comparison_GREATER_OR_EQUAL) (p0 : Int32) (p1 : Int32) (ha0 : ((p0 &&& (2147483647 : Int32)) % (6 : Int32)) = (1 : Int32)) :
    Con l Z x code maxLocals ret room_1 #[(.int p0), (.int p1)] Z.heap (fun v h' L => v = some (.int 1) ∧ Fr Z.heap.size L) := by
  have hw := B.1
  obtain ⟨S_w_Comparison_EQUAL, E_w_Comparison_EQUAL, S_w_Comparison_NOT_EQUAL, E_w_Comparison_NOT_EQUAL, S_w_Comparison_LESS, E_w_Comparison_LESS, S_w_Comparison_LESS_OR_EQUAL, E_w_Comparison_LESS_OR_EQUAL, S_w_Comparison_GREATER, E_w_Comparison_GREATER, S_w_Comparison_GREATER_OR_EQUAL, E_w_Comparison_GREATER_OR_EQUAL, F_w_Comparison_EQUAL_ordinal, F_w_Comparison_LESS_ordinal, F_w_Comparison_GREATER_ordinal, F_w_Comparison_NOT_EQUAL_ordinal, F_w_Comparison_GREATER_OR_EQUAL_ordinal, F_w_Comparison_LESS_OR_EQUAL_ordinal⟩ := B.2
  refine Con.of (plainFor_of_name pn0) (Ls := #[vI p0, vI p1, .unset, .unset, .unset, .unset]) (fun m => by first | rfl | (simp [entryFrame, mkF, argsToLocals, Value.category, maxLocals]; done)) ?_
  intro p e s m below meth c T0 X0 H hml hZ hown hnm hret hlk e0
  have O0 := extR Z.heap
  have M0 := Nat.le_refl Z.heap.size
  have N0 := Fr.nil Z.heap.size
  refine gBipush X0 H at_0 (z := 6) rfl 2 rfl ?_
  refine gNewR X0 H hZ hown (hw _ wd0) (hw _ wd1) e0 (by decide) (cap := 6) (by decide) (by decide) (vs := [.null, .null, .null, .null, .null, .null]) rfl (by decide) (by decide) at_2 5 rfl ?_
  intro T56 h56 b56 k56 X56 e56 z56 E56 V56 Q56
  have G_b56 := Nat.le_trans O0.1 (Nat.le_of_eq z56)
  have sz_b56 := Nat.le_trans M0 (Nat.le_of_eq z56)
  have O56 := extT O0 E56
  refine gDup X56 H at_5 rfl 6 rfl ?_
  refine gIconst X56 H at_6 (z := 0) rfl 7 rfl ?_
  refine gGetS X56 H hZ hown (hw _ wd2) e56 (S_w_Comparison_EQUAL.ext O56) at_7 10 rfl ?_
  intro T57 X57 e57
  refine gAastore X57 H hZ e57 rfl (stoV V56 Q56 (Ins.self (E_w_Comparison_EQUAL.ext O56))) V56 ⟨by decide, by decide⟩ (i := 0) rfl (Nat.le_of_ble_eq_true rfl) (vs' := [(.ref w_Comparison_EQUAL), .null, .null, .null, .null, .null]) rfl at_10 11 rfl ?_
  intro T58 h58 X58 e58 W58 V58
  have O58 := extW O56 W58 G_b56
  have N58 := Fr.snoc X58 N0 G_b56
  refine gDup X58 H at_11 rfl 12 rfl ?_
  refine gIconst X58 H at_12 (z := 1) rfl 13 rfl ?_
  refine gGetS X58 H hZ hown (hw _ wd6) e58 (S_w_Comparison_NOT_EQUAL.ext O58) at_13 16 rfl ?_
  intro T59 X59 e59
  refine gAastore X59 H hZ e59 rfl (stoV V58 Q56 (Ins.self (E_w_Comparison_NOT_EQUAL.ext O58))) V58 ⟨by decide, by decide⟩ (i := 1) rfl (Nat.le_of_ble_eq_true rfl) (vs' := [(.ref w_Comparison_EQUAL), (.ref w_Comparison_NOT_EQUAL), .null, .null, .null, .null]) rfl at_16 17 rfl ?_
  intro T60 h60 X60 e60 W60 V60
  have O60 := extW O58 W60 G_b56
  have N60 := Fr.snoc X60 N58 G_b56
  refine gDup X60 H at_17 rfl 18 rfl ?_
  refine gIconst X60 H at_18 (z := 2) rfl 19 rfl ?_
  refine gGetS X60 H hZ hown (hw _ wd8) e60 (S_w_Comparison_LESS.ext O60) at_19 22 rfl ?_
  intro T61 X61 e61
  refine gAastore X61 H hZ e61 rfl (stoV V60 Q56 (Ins.self (E_w_Comparison_LESS.ext O60))) V60 ⟨by decide, by decide⟩ (i := 2) rfl (Nat.le_of_ble_eq_true rfl) (vs' := [(.ref w_Comparison_EQUAL), (.ref w_Comparison_NOT_EQUAL), (.ref w_Comparison_LESS), .null, .null, .null]) rfl at_22 23 rfl ?_
  intro T62 h62 X62 e62 W62 V62
  have O62 := extW O60 W62 G_b56
  have N62 := Fr.snoc X62 N60 G_b56
  refine gDup X62 H at_23 rfl 24 rfl ?_
  refine gIconst X62 H at_24 (z := 3) rfl 25 rfl ?_
  refine gGetS X62 H hZ hown (hw _ wd10) e62 (S_w_Comparison_LESS_OR_EQUAL.ext O62) at_25 28 rfl ?_
  intro T63 X63 e63
  refine gAastore X63 H hZ e63 rfl (stoV V62 Q56 (Ins.self (E_w_Comparison_LESS_OR_EQUAL.ext O62))) V62 ⟨by decide, by decide⟩ (i := 3) rfl (Nat.le_of_ble_eq_true rfl) (vs' := [(.ref w_Comparison_EQUAL), (.ref w_Comparison_NOT_EQUAL), (.ref w_Comparison_LESS), (.ref w_Comparison_LESS_OR_EQUAL), .null, .null]) rfl at_28 29 rfl ?_
  intro T64 h64 X64 e64 W64 V64
  have O64 := extW O62 W64 G_b56
  have N64 := Fr.snoc X64 N62 G_b56
  refine gDup X64 H at_29 rfl 30 rfl ?_
  refine gIconst X64 H at_30 (z := 4) rfl 31 rfl ?_
  refine gGetS X64 H hZ hown (hw _ wd12) e64 (S_w_Comparison_GREATER.ext O64) at_31 34 rfl ?_
  intro T65 X65 e65
  refine gAastore X65 H hZ e65 rfl (stoV V64 Q56 (Ins.self (E_w_Comparison_GREATER.ext O64))) V64 ⟨by decide, by decide⟩ (i := 4) rfl (Nat.le_of_ble_eq_true rfl) (vs' := [(.ref w_Comparison_EQUAL), (.ref w_Comparison_NOT_EQUAL), (.ref w_Comparison_LESS), (.ref w_Comparison_LESS_OR_EQUAL), (.ref w_Comparison_GREATER), .null]) rfl at_34 35 rfl ?_
  intro T66 h66 X66 e66 W66 V66
  have O66 := extW O64 W66 G_b56
  have N66 := Fr.snoc X66 N64 G_b56
  refine gDup X66 H at_35 rfl 36 rfl ?_
  refine gIconst X66 H at_36 (z := 5) rfl 37 rfl ?_
  refine gGetS X66 H hZ hown (hw _ wd14) e66 (S_w_Comparison_GREATER_OR_EQUAL.ext O66) at_37 40 rfl ?_
  intro T67 X67 e67
  refine gAastore X67 H hZ e67 rfl (stoV V66 Q56 (Ins.self (E_w_Comparison_GREATER_OR_EQUAL.ext O66))) V66 ⟨by decide, by decide⟩ (i := 5) rfl (Nat.le_of_ble_eq_true rfl) (vs' := [(.ref w_Comparison_EQUAL), (.ref w_Comparison_NOT_EQUAL), (.ref w_Comparison_LESS), (.ref w_Comparison_LESS_OR_EQUAL), (.ref w_Comparison_GREATER), (.ref w_Comparison_GREATER_OR_EQUAL)]) rfl at_40 41 rfl ?_
  intro T68 h68 X68 e68 W68 V68
  have O68 := extW O66 W68 G_b56
  have N68 := Fr.snoc X68 N66 G_b56
  refine gAstoreN X68 H at_41 rfl (Ls' := #[vI p0, vI p1, vR b56, .unset, .unset, .unset]) rfl 42 rfl ?_
  refine gBipush X68 H at_42 (z := 18) rfl 44 rfl ?_
  refine gNewP X68 H hZ (aty := .boolean) (hw _ wd16) e68 (by decide) (cap := 18) (by decide) (by decide) (vs := [(.int 0), (.int 0), (.int 0), (.int 0), (.int 0), (.int 0), (.int 0), (.int 0), (.int 0), (.int 0), (.int 0), (.int 0), (.int 0), (.int 0), (.int 0), (.int 0), (.int 0), (.int 0)]) rfl (by decide) (by decide) at_44 46 rfl ?_
  intro T69 h69 b69 k69 X69 e69 z69 E69 V69
  have M70 := (leW (leW (leW (leW (leW (leW (Nat.le_trans M0 E56.1) W58) W60) W62) W64) W66) W68)
  have G_b69 := Nat.le_trans O68.1 (Nat.le_of_eq z69)
  have sz_b69 := Nat.le_trans M70 (Nat.le_of_eq z69)
  have ne_b56_b69 : b56 ≠ b69 := neB V68.lt (Nat.le_of_eq z69)
  have O69 := extT O68 E69
  refine gDup X69 H at_46 rfl 47 rfl ?_
  refine gIconst X69 H at_47 (z := 0) rfl 48 rfl ?_
  refine gIconst X69 H at_48 (z := 0) rfl 49 rfl ?_
  refine gZastore X69 H hZ e69 V69 ⟨by decide, by decide⟩ (i := 0) rfl (Nat.le_of_ble_eq_true rfl) (vs' := [(.int 0), (.int 0), (.int 0), (.int 0), (.int 0), (.int 0), (.int 0), (.int 0), (.int 0), (.int 0), (.int 0), (.int 0), (.int 0), (.int 0), (.int 0), (.int 0), (.int 0), (.int 0)]) rfl at_49 50 rfl ?_
  intro T71 h71 X71 e71 W71 V71
  have O71 := extW O69 W71 G_b69
  have N71 := Fr.snoc X71 N68 G_b69
  refine gDup X71 H at_50 rfl 51 rfl ?_
  refine gIconst X71 H at_51 (z := 1) rfl 52 rfl ?_
  refine gIconst X71 H at_52 (z := 1) rfl 53 rfl ?_
  refine gZastore X71 H hZ e71 V71 ⟨by decide, by decide⟩ (i := 1) rfl (Nat.le_of_ble_eq_true rfl) (vs' := [(.int 0), (.int 1), (.int 0), (.int 0), (.int 0), (.int 0), (.int 0), (.int 0), (.int 0), (.int 0), (.int 0), (.int 0), (.int 0), (.int 0), (.int 0), (.int 0), (.int 0), (.int 0)]) rfl at_53 54 rfl ?_
  intro T72 h72 X72 e72 W72 V72
  have O72 := extW O71 W72 G_b69
  have N72 := Fr.snoc X72 N71 G_b69
  refine gDup X72 H at_54 rfl 55 rfl ?_
  refine gIconst X72 H at_55 (z := 2) rfl 56 rfl ?_
  refine gIconst X72 H at_56 (z := 0) rfl 57 rfl ?_
  refine gZastore X72 H hZ e72 V72 ⟨by decide, by decide⟩ (i := 2) rfl (Nat.le_of_ble_eq_true rfl) (vs' := [(.int 0), (.int 1), (.int 0), (.int 0), (.int 0), (.int 0), (.int 0), (.int 0), (.int 0), (.int 0), (.int 0), (.int 0), (.int 0), (.int 0), (.int 0), (.int 0), (.int 0), (.int 0)]) rfl at_57 58 rfl ?_
  intro T73 h73 X73 e73 W73 V73
  have O73 := extW O72 W73 G_b69
  have N73 := Fr.snoc X73 N72 G_b69
  refine gDup X73 H at_58 rfl 59 rfl ?_
  refine gIconst X73 H at_59 (z := 3) rfl 60 rfl ?_
  refine gIconst X73 H at_60 (z := 1) rfl 61 rfl ?_
  refine gZastore X73 H hZ e73 V73 ⟨by decide, by decide⟩ (i := 3) rfl (Nat.le_of_ble_eq_true rfl) (vs' := [(.int 0), (.int 1), (.int 0), (.int 1), (.int 0), (.int 0), (.int 0), (.int 0), (.int 0), (.int 0), (.int 0), (.int 0), (.int 0), (.int 0), (.int 0), (.int 0), (.int 0), (.int 0)]) rfl at_61 62 rfl ?_
  intro T74 h74 X74 e74 W74 V74
  have O74 := extW O73 W74 G_b69
  have N74 := Fr.snoc X74 N73 G_b69
  refine gDup X74 H at_62 rfl 63 rfl ?_
  refine gIconst X74 H at_63 (z := 4) rfl 64 rfl ?_
  refine gIconst X74 H at_64 (z := 0) rfl 65 rfl ?_
  refine gZastore X74 H hZ e74 V74 ⟨by decide, by decide⟩ (i := 4) rfl (Nat.le_of_ble_eq_true rfl) (vs' := [(.int 0), (.int 1), (.int 0), (.int 1), (.int 0), (.int 0), (.int 0), (.int 0), (.int 0), (.int 0), (.int 0), (.int 0), (.int 0), (.int 0), (.int 0), (.int 0), (.int 0), (.int 0)]) rfl at_65 66 rfl ?_
  intro T75 h75 X75 e75 W75 V75
  have O75 := extW O74 W75 G_b69
  have N75 := Fr.snoc X75 N74 G_b69
  refine gDup X75 H at_66 rfl 67 rfl ?_
  refine gIconst X75 H at_67 (z := 5) rfl 68 rfl ?_
  refine gIconst X75 H at_68 (z := 1) rfl 69 rfl ?_
  refine gZastore X75 H hZ e75 V75 ⟨by decide, by decide⟩ (i := 5) rfl (Nat.le_of_ble_eq_true rfl) (vs' := [(.int 0), (.int 1), (.int 0), (.int 1), (.int 0), (.int 1), (.int 0), (.int 0), (.int 0), (.int 0), (.int 0), (.int 0), (.int 0), (.int 0), (.int 0), (.int 0), (.int 0), (.int 0)]) rfl at_69 70 rfl ?_
  intro T76 h76 X76 e76 W76 V76
  have O76 := extW O75 W76 G_b69
  have N76 := Fr.snoc X76 N75 G_b69
  refine gDup X76 H at_70 rfl 71 rfl ?_
  refine gBipush X76 H at_71 (z := 6) rfl 73 rfl ?_
  refine gIconst X76 H at_73 (z := 1) rfl 74 rfl ?_
  refine gZastore X76 H hZ e76 V76 ⟨by decide, by decide⟩ (i := 6) rfl (Nat.le_of_ble_eq_true rfl) (vs' := [(.int 0), (.int 1), (.int 0), (.int 1), (.int 0), (.int 1), (.int 1), (.int 0), (.int 0), (.int 0), (.int 0), (.int 0), (.int 0), (.int 0), (.int 0), (.int 0), (.int 0), (.int 0)]) rfl at_74 75 rfl ?_
  intro T77 h77 X77 e77 W77 V77
  have O77 := extW O76 W77 G_b69
  have N77 := Fr.snoc X77 N76 G_b69
  refine gDup X77 H at_75 rfl 76 rfl ?_
  refine gBipush X77 H at_76 (z := 7) rfl 78 rfl ?_
  refine gIconst X77 H at_78 (z := 0) rfl 79 rfl ?_
  refine gZastore X77 H hZ e77 V77 ⟨by decide, by decide⟩ (i := 7) rfl (Nat.le_of_ble_eq_true rfl) (vs' := [(.int 0), (.int 1), (.int 0), (.int 1), (.int 0), (.int 1), (.int 1), (.int 0), (.int 0), (.int 0), (.int 0), (.int 0), (.int 0), (.int 0), (.int 0), (.int 0), (.int 0), (.int 0)]) rfl at_79 80 rfl ?_
  intro T78 h78 X78 e78 W78 V78
  have O78 := extW O77 W78 G_b69
  have N78 := Fr.snoc X78 N77 G_b69
  refine gDup X78 H at_80 rfl 81 rfl ?_
  refine gBipush X78 H at_81 (z := 8) rfl 83 rfl ?_
  refine gIconst X78 H at_83 (z := 0) rfl 84 rfl ?_
  refine gZastore X78 H hZ e78 V78 ⟨by decide, by decide⟩ (i := 8) rfl (Nat.le_of_ble_eq_true rfl) (vs' := [(.int 0), (.int 1), (.int 0), (.int 1), (.int 0), (.int 1), (.int 1), (.int 0), (.int 0), (.int 0), (.int 0), (.int 0), (.int 0), (.int 0), (.int 0), (.int 0), (.int 0), (.int 0)]) rfl at_84 85 rfl ?_
  intro T79 h79 X79 e79 W79 V79
  have O79 := extW O78 W79 G_b69
  have N79 := Fr.snoc X79 N78 G_b69
  refine gDup X79 H at_85 rfl 86 rfl ?_
  refine gBipush X79 H at_86 (z := 9) rfl 88 rfl ?_
  refine gIconst X79 H at_88 (z := 1) rfl 89 rfl ?_
  refine gZastore X79 H hZ e79 V79 ⟨by decide, by decide⟩ (i := 9) rfl (Nat.le_of_ble_eq_true rfl) (vs' := [(.int 0), (.int 1), (.int 0), (.int 1), (.int 0), (.int 1), (.int 1), (.int 0), (.int 0), (.int 1), (.int 0), (.int 0), (.int 0), (.int 0), (.int 0), (.int 0), (.int 0), (.int 0)]) rfl at_89 90 rfl ?_
  intro T80 h80 X80 e80 W80 V80
  have O80 := extW O79 W80 G_b69
  have N80 := Fr.snoc X80 N79 G_b69
  refine gDup X80 H at_90 rfl 91 rfl ?_
  refine gBipush X80 H at_91 (z := 10) rfl 93 rfl ?_
  refine gIconst X80 H at_93 (z := 1) rfl 94 rfl ?_
  refine gZastore X80 H hZ e80 V80 ⟨by decide, by decide⟩ (i := 10) rfl (Nat.le_of_ble_eq_true rfl) (vs' := [(.int 0), (.int 1), (.int 0), (.int 1), (.int 0), (.int 1), (.int 1), (.int 0), (.int 0), (.int 1), (.int 1), (.int 0), (.int 0), (.int 0), (.int 0), (.int 0), (.int 0), (.int 0)]) rfl at_94 95 rfl ?_
  intro T81 h81 X81 e81 W81 V81
  have O81 := extW O80 W81 G_b69
  have N81 := Fr.snoc X81 N80 G_b69
  refine gDup X81 H at_95 rfl 96 rfl ?_
  refine gBipush X81 H at_96 (z := 11) rfl 98 rfl ?_
  refine gIconst X81 H at_98 (z := 0) rfl 99 rfl ?_
  refine gZastore X81 H hZ e81 V81 ⟨by decide, by decide⟩ (i := 11) rfl (Nat.le_of_ble_eq_true rfl) (vs' := [(.int 0), (.int 1), (.int 0), (.int 1), (.int 0), (.int 1), (.int 1), (.int 0), (.int 0), (.int 1), (.int 1), (.int 0), (.int 0), (.int 0), (.int 0), (.int 0), (.int 0), (.int 0)]) rfl at_99 100 rfl ?_
  intro T82 h82 X82 e82 W82 V82
  have O82 := extW O81 W82 G_b69
  have N82 := Fr.snoc X82 N81 G_b69
  refine gDup X82 H at_100 rfl 101 rfl ?_
  refine gBipush X82 H at_101 (z := 12) rfl 103 rfl ?_
  refine gIconst X82 H at_103 (z := 0) rfl 104 rfl ?_
  refine gZastore X82 H hZ e82 V82 ⟨by decide, by decide⟩ (i := 12) rfl (Nat.le_of_ble_eq_true rfl) (vs' := [(.int 0), (.int 1), (.int 0), (.int 1), (.int 0), (.int 1), (.int 1), (.int 0), (.int 0), (.int 1), (.int 1), (.int 0), (.int 0), (.int 0), (.int 0), (.int 0), (.int 0), (.int 0)]) rfl at_104 105 rfl ?_
  intro T83 h83 X83 e83 W83 V83
  have O83 := extW O82 W83 G_b69
  have N83 := Fr.snoc X83 N82 G_b69
  refine gDup X83 H at_105 rfl 106 rfl ?_
  refine gBipush X83 H at_106 (z := 13) rfl 108 rfl ?_
  refine gIconst X83 H at_108 (z := 0) rfl 109 rfl ?_
  refine gZastore X83 H hZ e83 V83 ⟨by decide, by decide⟩ (i := 13) rfl (Nat.le_of_ble_eq_true rfl) (vs' := [(.int 0), (.int 1), (.int 0), (.int 1), (.int 0), (.int 1), (.int 1), (.int 0), (.int 0), (.int 1), (.int 1), (.int 0), (.int 0), (.int 0), (.int 0), (.int 0), (.int 0), (.int 0)]) rfl at_109 110 rfl ?_
  intro T84 h84 X84 e84 W84 V84
  have O84 := extW O83 W84 G_b69
  have N84 := Fr.snoc X84 N83 G_b69
  refine gDup X84 H at_110 rfl 111 rfl ?_
  refine gBipush X84 H at_111 (z := 14) rfl 113 rfl ?_
  refine gIconst X84 H at_113 (z := 1) rfl 114 rfl ?_
  refine gZastore X84 H hZ e84 V84 ⟨by decide, by decide⟩ (i := 14) rfl (Nat.le_of_ble_eq_true rfl) (vs' := [(.int 0), (.int 1), (.int 0), (.int 1), (.int 0), (.int 1), (.int 1), (.int 0), (.int 0), (.int 1), (.int 1), (.int 0), (.int 0), (.int 0), (.int 1), (.int 0), (.int 0), (.int 0)]) rfl at_114 115 rfl ?_
  intro T85 h85 X85 e85 W85 V85
  have O85 := extW O84 W85 G_b69
  have N85 := Fr.snoc X85 N84 G_b69
  refine gDup X85 H at_115 rfl 116 rfl ?_
  refine gBipush X85 H at_116 (z := 15) rfl 118 rfl ?_
  refine gIconst X85 H at_118 (z := 0) rfl 119 rfl ?_
  refine gZastore X85 H hZ e85 V85 ⟨by decide, by decide⟩ (i := 15) rfl (Nat.le_of_ble_eq_true rfl) (vs' := [(.int 0), (.int 1), (.int 0), (.int 1), (.int 0), (.int 1), (.int 1), (.int 0), (.int 0), (.int 1), (.int 1), (.int 0), (.int 0), (.int 0), (.int 1), (.int 0), (.int 0), (.int 0)]) rfl at_119 120 rfl ?_
  intro T86 h86 X86 e86 W86 V86
  have O86 := extW O85 W86 G_b69
  have N86 := Fr.snoc X86 N85 G_b69
  refine gDup X86 H at_120 rfl 121 rfl ?_
  refine gBipush X86 H at_121 (z := 16) rfl 123 rfl ?_
  refine gIconst X86 H at_123 (z := 1) rfl 124 rfl ?_
  refine gZastore X86 H hZ e86 V86 ⟨by decide, by decide⟩ (i := 16) rfl (Nat.le_of_ble_eq_true rfl) (vs' := [(.int 0), (.int 1), (.int 0), (.int 1), (.int 0), (.int 1), (.int 1), (.int 0), (.int 0), (.int 1), (.int 1), (.int 0), (.int 0), (.int 0), (.int 1), (.int 0), (.int 1), (.int 0)]) rfl at_124 125 rfl ?_
  intro T87 h87 X87 e87 W87 V87
  have O87 := extW O86 W87 G_b69
  have N87 := Fr.snoc X87 N86 G_b69
  refine gDup X87 H at_125 rfl 126 rfl ?_
  refine gBipush X87 H at_126 (z := 17) rfl 128 rfl ?_
  refine gIconst X87 H at_128 (z := 1) rfl 129 rfl ?_
  refine gZastore X87 H hZ e87 V87 ⟨by decide, by decide⟩ (i := 17) rfl (Nat.le_of_ble_eq_true rfl) (vs' := [(.int 0), (.int 1), (.int 0), (.int 1), (.int 0), (.int 1), (.int 1), (.int 0), (.int 0), (.int 1), (.int 1), (.int 0), (.int 0), (.int 0), (.int 1), (.int 0), (.int 1), (.int 1)]) rfl at_129 130 rfl ?_
  intro T88 h88 X88 e88 W88 V88
  have O88 := extW O87 W88 G_b69
  have N88 := Fr.snoc X88 N87 G_b69
  refine gAstoreN X88 H at_130 rfl (Ls' := #[vI p0, vI p1, vR b56, vR b69, .unset, .unset]) rfl 131 rfl ?_
  refine gIloadN X88 H at_131 rfl 132 rfl ?_
  refine gLdc X88 H hZ hown (hw _ wd17) at_132 134 rfl ?_
  refine g_iand X88 H at_134 (z := (p0 &&& (2147483647 : Int32))) rfl 135 rfl ?_
  refine gBipush X88 H at_135 (z := 6) rfl 137 rfl ?_
  refine g_irem X88 H at_137 (by decide) (z := 1) ha0 138 rfl ?_
  refine gIstore X88 H at_138 (Ls' := #[vI p0, vI p1, vR b56, vR b69, vI 1, .unset]) rfl 140 rfl ?_
  refine gIloadN X88 H at_140 rfl 141 rfl ?_
  by_cases hc89 : p1 < (0 : Int32)
  · refine gIfN X88 H at_141 ((if0 _ _).trans (tlt hc89).2.1) 144 rfl ?_
    refine gIconst X88 H at_144 (z := 0) rfl 145 rfl ?_
    refine gGoto X88 H at_145 (by decide) 157 rfl ?_
    refine gIstore X88 H at_157 (Ls' := #[vI p0, vI p1, vR b56, vR b69, vI 1, vI 0]) rfl 159 rfl ?_
    refine gAloadN X88 H at_159 rfl rfl 160 rfl ?_
    refine gIload X88 H at_160 rfl 162 rfl ?_
    have c91 := (((((((((((((((((((V68.ext E69).other W71 ne_b56_b69).other W72 ne_b56_b69).other W73 ne_b56_b69).other W74 ne_b56_b69).other W75 ne_b56_b69).other W76 ne_b56_b69).other W77 ne_b56_b69).other W78 ne_b56_b69).other W79 ne_b56_b69).other W80 ne_b56_b69).other W81 ne_b56_b69).other W82 ne_b56_b69).other W83 ne_b56_b69).other W84 ne_b56_b69).other W85 ne_b56_b69).other W86 ne_b56_b69).other W87 ne_b56_b69).other W88 ne_b56_b69)
    refine gAaload X88 H hZ e88 rfl c91 ⟨by decide, by decide⟩ (v := (.ref w_Comparison_NOT_EQUAL)) rfl at_162 163 rfl ?_
    refine gIloadN X88 H at_163 rfl 164 rfl ?_
    refine gVirt X88 H hZ hown (hw _ wd18) (hw _ wd19) (hw _ wd21) (hw _ wd20) (by decide) (E_w_Comparison_NOT_EQUAL.ext O88) (hw _ wd22) (hw _ wd3) (rm96_1 B p1 _ O88 (t32_ne hc89)) e88 hml rfl pd1 rfl (W := 0) (argsL := [(.int p1)]) (rest := []) rfl rfl at_164 167 rfl ?_
    intro v97 T97 L97 hq97 X97
    obtain ⟨rfl, e97, rfl⟩ := hq97
    have N97 := Fr.app N88 (Fr.nil _)
    show Go _ _ _ _ (State.setTop _ (mkF _ 167 _ [(.int 1)]))
    refine gAloadN X97 H at_167 rfl rfl 168 rfl ?_
    refine gIload X97 H at_168 rfl 170 rfl ?_
    refine gIconst X97 H at_170 (z := 3) rfl 171 rfl ?_
    refine g_imul X97 H at_171 (z := 3) (by decide) 172 rfl ?_
    refine gIload X97 H at_172 rfl 174 rfl ?_
    refine g_iadd X97 H at_174 (z := 3) (by decide) 175 rfl ?_
    refine gZaload X97 H hZ e97 V88 ⟨by decide, by decide⟩ (v := (.int 1)) rfl at_175 176 rfl ?_
    refine gCmpN X97 H at_176 (by decide) 179 rfl ?_
    refine gIconst X97 H at_179 (z := 1) rfl 180 rfl ?_
    refine gGoto X97 H at_180 (by decide) 184 rfl ?_
    exact gRetN X97 H hlk hret (t := .boolean) (by simp) at_184 e97 ⟨rfl, N97⟩
  · refine gIfY X88 H at_141 ((if0 _ _).trans (flt hc89).2.1) (by decide) 148 rfl ?_
    refine gIloadN X88 H at_148 rfl 149 rfl ?_
    by_cases hc99 : p1 = (0 : Int32)
    · refine gIfN X88 H at_149 ((if0 _ _).trans (teq hc99).2) 152 rfl ?_
      refine gIconst X88 H at_152 (z := 1) rfl 153 rfl ?_
      refine gGoto X88 H at_153 (by decide) 157 rfl ?_
      refine gIstore X88 H at_157 (Ls' := #[vI p0, vI p1, vR b56, vR b69, vI 1, vI 1]) rfl 159 rfl ?_
      refine gAloadN X88 H at_159 rfl rfl 160 rfl ?_
      refine gIload X88 H at_160 rfl 162 rfl ?_
      have c101 := (((((((((((((((((((V68.ext E69).other W71 ne_b56_b69).other W72 ne_b56_b69).other W73 ne_b56_b69).other W74 ne_b56_b69).other W75 ne_b56_b69).other W76 ne_b56_b69).other W77 ne_b56_b69).other W78 ne_b56_b69).other W79 ne_b56_b69).other W80 ne_b56_b69).other W81 ne_b56_b69).other W82 ne_b56_b69).other W83 ne_b56_b69).other W84 ne_b56_b69).other W85 ne_b56_b69).other W86 ne_b56_b69).other W87 ne_b56_b69).other W88 ne_b56_b69)
      refine gAaload X88 H hZ e88 rfl c101 ⟨by decide, by decide⟩ (v := (.ref w_Comparison_NOT_EQUAL)) rfl at_162 163 rfl ?_
      refine gIloadN X88 H at_163 rfl 164 rfl ?_
      refine gVirt X88 H hZ hown (hw _ wd18) (hw _ wd19) (hw _ wd21) (hw _ wd20) (by decide) (E_w_Comparison_NOT_EQUAL.ext O88) (hw _ wd22) (hw _ wd3) (rm104_1 B p1 _ O88 hc99) e88 hml rfl pd1 rfl (W := 0) (argsL := [(.int p1)]) (rest := []) rfl rfl at_164 167 rfl ?_
      intro v105 T105 L105 hq105 X105
      obtain ⟨rfl, e105, rfl⟩ := hq105
      have N105 := Fr.app N88 (Fr.nil _)
      show Go _ _ _ _ (State.setTop _ (mkF _ 167 _ [(.int 0)]))
      refine gAloadN X105 H at_167 rfl rfl 168 rfl ?_
      refine gIload X105 H at_168 rfl 170 rfl ?_
      refine gIconst X105 H at_170 (z := 3) rfl 171 rfl ?_
      refine g_imul X105 H at_171 (z := 3) (by decide) 172 rfl ?_
      refine gIload X105 H at_172 rfl 174 rfl ?_
      refine g_iadd X105 H at_174 (z := 4) (by decide) 175 rfl ?_
      refine gZaload X105 H hZ e105 V88 ⟨by decide, by decide⟩ (v := (.int 0)) rfl at_175 176 rfl ?_
      refine gCmpN X105 H at_176 (by decide) 179 rfl ?_
      refine gIconst X105 H at_179 (z := 1) rfl 180 rfl ?_
      refine gGoto X105 H at_180 (by decide) 184 rfl ?_
      exact gRetN X105 H hlk hret (t := .boolean) (by simp) at_184 e105 ⟨rfl, N105⟩
    · refine gIfY X88 H at_149 ((if0 _ _).trans (feq hc99).2) (by decide) 156 rfl ?_
      refine gIconst X88 H at_156 (z := 2) rfl 157 rfl ?_
      refine gIstore X88 H at_157 (Ls' := #[vI p0, vI p1, vR b56, vR b69, vI 1, vI 2]) rfl 159 rfl ?_
      refine gAloadN X88 H at_159 rfl rfl 160 rfl ?_
      refine gIload X88 H at_160 rfl 162 rfl ?_
      have c108 := (((((((((((((((((((V68.ext E69).other W71 ne_b56_b69).other W72 ne_b56_b69).other W73 ne_b56_b69).other W74 ne_b56_b69).other W75 ne_b56_b69).other W76 ne_b56_b69).other W77 ne_b56_b69).other W78 ne_b56_b69).other W79 ne_b56_b69).other W80 ne_b56_b69).other W81 ne_b56_b69).other W82 ne_b56_b69).other W83 ne_b56_b69).other W84 ne_b56_b69).other W85 ne_b56_b69).other W86 ne_b56_b69).other W87 ne_b56_b69).other W88 ne_b56_b69)
      refine gAaload X88 H hZ e88 rfl c108 ⟨by decide, by decide⟩ (v := (.ref w_Comparison_NOT_EQUAL)) rfl at_162 163 rfl ?_
      refine gIloadN X88 H at_163 rfl 164 rfl ?_
      refine gVirt X88 H hZ hown (hw _ wd18) (hw _ wd19) (hw _ wd21) (hw _ wd20) (by decide) (E_w_Comparison_NOT_EQUAL.ext O88) (hw _ wd22) (hw _ wd3) (rm96_1 B p1 _ O88 hc99) e88 hml rfl pd1 rfl (W := 0) (argsL := [(.int p1)]) (rest := []) rfl rfl at_164 167 rfl ?_
      intro v109 T109 L109 hq109 X109
      obtain ⟨rfl, e109, rfl⟩ := hq109
      have N109 := Fr.app N88 (Fr.nil _)
      show Go _ _ _ _ (State.setTop _ (mkF _ 167 _ [(.int 1)]))
      refine gAloadN X109 H at_167 rfl rfl 168 rfl ?_
      refine gIload X109 H at_168 rfl 170 rfl ?_
      refine gIconst X109 H at_170 (z := 3) rfl 171 rfl ?_
      refine g_imul X109 H at_171 (z := 3) (by decide) 172 rfl ?_
      refine gIload X109 H at_172 rfl 174 rfl ?_
      refine g_iadd X109 H at_174 (z := 5) (by decide) 175 rfl ?_
      refine gZaload X109 H hZ e109 V88 ⟨by decide, by decide⟩ (v := (.int 1)) rfl at_175 176 rfl ?_
      refine gCmpN X109 H at_176 (by decide) 179 rfl ?_
      refine gIconst X109 H at_179 (z := 1) rfl 180 rfl ?_
      refine gGoto X109 H at_180 (by decide) 184 rfl ?_
      exact gRetN X109 H hlk hret (t := .boolean) (by simp) at_184 e109 ⟨rfl, N109⟩
theorem rm148_2 (B : Bg Z a0 w_Comparison_EQUAL w_Comparison_NOT_EQUAL w_Comparison_LESS w_Comparison_LESS_OR_EQUAL w_Comparison_GREATER w_Comparison_GREATER_OR_EQUAL) (h : Heap) (O : Ext Z.heap h) :
    Con l Z yM2 jdk_37_method_2_code 1 (some .int) ({ frames := 0, cells := 0, slots := 0, locals := 0 } : Room) #[(.ref w_Comparison_LESS)] h (fun v h' L => v = some (.int 2) ∧ h' = h ∧ L = []) := by
  have hw := B.1
  obtain ⟨S_w_Comparison_EQUAL, E_w_Comparison_EQUAL, S_w_Comparison_NOT_EQUAL, E_w_Comparison_NOT_EQUAL, S_w_Comparison_LESS, E_w_Comparison_LESS, S_w_Comparison_LESS_OR_EQUAL, E_w_Comparison_LESS_OR_EQUAL, S_w_Comparison_GREATER, E_w_Comparison_GREATER, S_w_Comparison_GREATER_OR_EQUAL, E_w_Comparison_GREATER_OR_EQUAL, F_w_Comparison_EQUAL_ordinal, F_w_Comparison_LESS_ordinal, F_w_Comparison_GREATER_ordinal, F_w_Comparison_NOT_EQUAL_ordinal, F_w_Comparison_GREATER_OR_EQUAL_ordinal, F_w_Comparison_LESS_OR_EQUAL_ordinal⟩ := B.2
  refine Con.of (plainFor_of_name pn2) (Ls := #[vR w_Comparison_LESS]) (fun m => by first | rfl | (simp [entryFrame, mkF, argsToLocals, Value.category]; done)) ?_
  intro p e s m below meth c T0 X0 H hml hZ hown hnm hret hlk e0
  refine gAloadN X0 H d2_0 rfl rfl 1 rfl ?_
  refine gGetF X0 H hZ hown (hw _ wd30) Via.refl e0 (F_w_Comparison_LESS_ordinal.ext O) d2_1 4 rfl ?_
  intro T147 X147 e147
  exact gRetI X147 H hlk hret d2_4 e147 ⟨rfl, rfl, rfl⟩
theorem rm151_1 (B : Bg Z a0 w_Comparison_EQUAL w_Comparison_NOT_EQUAL w_Comparison_LESS w_Comparison_LESS_OR_EQUAL w_Comparison_GREATER w_Comparison_GREATER_OR_EQUAL) (vi0 : Int32) (h : Heap) (O : Ext Z.heap h) (hk150 : vi0 < (0 : Int32)) :
    Con l Z yM1 prog_20_method_6_code 2 (some .boolean) ({ frames := 1, cells := 0, slots := 0, locals := 12 } : Room) #[(.ref w_Comparison_LESS), (.int vi0)] h (fun v h' L => v = some (.int 1) ∧ h' = h ∧ L = []) := by
  have hw := B.1
  obtain ⟨S_w_Comparison_EQUAL, E_w_Comparison_EQUAL, S_w_Comparison_NOT_EQUAL, E_w_Comparison_NOT_EQUAL, S_w_Comparison_LESS, E_w_Comparison_LESS, S_w_Comparison_LESS_OR_EQUAL, E_w_Comparison_LESS_OR_EQUAL, S_w_Comparison_GREATER, E_w_Comparison_GREATER, S_w_Comparison_GREATER_OR_EQUAL, E_w_Comparison_GREATER_OR_EQUAL, F_w_Comparison_EQUAL_ordinal, F_w_Comparison_LESS_ordinal, F_w_Comparison_GREATER_ordinal, F_w_Comparison_NOT_EQUAL_ordinal, F_w_Comparison_GREATER_OR_EQUAL_ordinal, F_w_Comparison_LESS_OR_EQUAL_ordinal⟩ := B.2
  refine Con.of (plainFor_of_name pn1) (Ls := #[vR w_Comparison_LESS, vI vi0]) (fun m => by first | rfl | (simp [entryFrame, mkF, argsToLocals, Value.category]; done)) ?_
  intro p e s m below meth c T0 X0 H hml hZ hown hnm hret hlk e0
  have N0 := Fr.nil Z.heap.size
  refine gAloadN X0 H d1_0 rfl rfl 1 rfl ?_
  refine gVirtualUp X0 H hZ hown (hw _ wd23) (hw _ wd24) (hw _ wd25) (hw _ wd27) (hw _ wd26) (by decide) (E_w_Comparison_LESS.ext O) (hw _ wd29) (hw _ wd28) (rm148_2 B _ O) e0 hml rfl pd0 rfl (W := 0) (argsL := []) (rest := []) rfl rfl d1_1 4 rfl ?_
  intro v149 T149 L149 hq149 X149
  obtain ⟨rfl, e149, rfl⟩ := hq149
  have N149 := Fr.app N0 (Fr.nil _)
  show Go _ _ _ _ (State.setTop _ (mkF _ 4 _ [(.int 2)]))
  refine gTswIn X149 H d1_4 (by decide) (o := 60) (by decide) (by decide) 64 rfl ?_
  refine gIloadN X149 H d1_64 rfl 65 rfl ?_
  refine gIfN X149 H d1_65 ((if0 _ _).trans (tlt hk150).2.1) 68 rfl ?_
  refine gIconst X149 H d1_68 (z := 1) rfl 69 rfl ?_
  refine gGoto X149 H d1_69 (by decide) 109 rfl ?_
  exact gRetN X149 H hlk hret (t := .boolean) (by simp) d1_109 e149 ⟨rfl, rfl, rfl⟩
theorem rm159_1 (B : Bg Z a0 w_Comparison_EQUAL w_Comparison_NOT_EQUAL w_Comparison_LESS w_Comparison_LESS_OR_EQUAL w_Comparison_GREATER w_Comparison_GREATER_OR_EQUAL) (vi0 : Int32) (h : Heap) (O : Ext Z.heap h) (hk158 : ¬ (vi0 < (0 : Int32))) :
    Con l Z yM1 prog_20_method_6_code 2 (some .boolean) ({ frames := 1, cells := 0, slots := 0, locals := 12 } : Room) #[(.ref w_Comparison_LESS), (.int vi0)] h (fun v h' L => v = some (.int 0) ∧ h' = h ∧ L = []) := by
  have hw := B.1
  obtain ⟨S_w_Comparison_EQUAL, E_w_Comparison_EQUAL, S_w_Comparison_NOT_EQUAL, E_w_Comparison_NOT_EQUAL, S_w_Comparison_LESS, E_w_Comparison_LESS, S_w_Comparison_LESS_OR_EQUAL, E_w_Comparison_LESS_OR_EQUAL, S_w_Comparison_GREATER, E_w_Comparison_GREATER, S_w_Comparison_GREATER_OR_EQUAL, E_w_Comparison_GREATER_OR_EQUAL, F_w_Comparison_EQUAL_ordinal, F_w_Comparison_LESS_ordinal, F_w_Comparison_GREATER_ordinal, F_w_Comparison_NOT_EQUAL_ordinal, F_w_Comparison_GREATER_OR_EQUAL_ordinal, F_w_Comparison_LESS_OR_EQUAL_ordinal⟩ := B.2
  refine Con.of (plainFor_of_name pn1) (Ls := #[vR w_Comparison_LESS, vI vi0]) (fun m => by first | rfl | (simp [entryFrame, mkF, argsToLocals, Value.category]; done)) ?_
  intro p e s m below meth c T0 X0 H hml hZ hown hnm hret hlk e0
  have N0 := Fr.nil Z.heap.size
  refine gAloadN X0 H d1_0 rfl rfl 1 rfl ?_
  refine gVirtualUp X0 H hZ hown (hw _ wd23) (hw _ wd24) (hw _ wd25) (hw _ wd27) (hw _ wd26) (by decide) (E_w_Comparison_LESS.ext O) (hw _ wd29) (hw _ wd28) (rm148_2 B _ O) e0 hml rfl pd0 rfl (W := 0) (argsL := []) (rest := []) rfl rfl d1_1 4 rfl ?_
  intro v157 T157 L157 hq157 X157
  obtain ⟨rfl, e157, rfl⟩ := hq157
  have N157 := Fr.app N0 (Fr.nil _)
  show Go _ _ _ _ (State.setTop _ (mkF _ 4 _ [(.int 2)]))
  refine gTswIn X157 H d1_4 (by decide) (o := 60) (by decide) (by decide) 64 rfl ?_
  refine gIloadN X157 H d1_64 rfl 65 rfl ?_
  refine gIfY X157 H d1_65 ((if0 _ _).trans (flt hk158).2.1) (by decide) 72 rfl ?_
  refine gIconst X157 H d1_72 (z := 0) rfl 73 rfl ?_
  refine gGoto X157 H d1_73 (by decide) 109 rfl ?_
  exact gRetN X157 H hlk hret (t := .boolean) (by simp) d1_109 e157 ⟨rfl, rfl, rfl⟩
theorem lawAll_2 (B : Bg Z a0 w_Comparison_EQUAL w_Comparison_NOT_EQUAL w_Comparison_LESS w_Comparison_LESS_OR_EQUAL w_Comparison_GREATER w_Comparison_GREATER_OR_EQUAL) (p0 : Int32) (p1 : Int32) (ha0 : ((p0 &&& (2147483647 : Int32)) % (6 : Int32)) = (2 : Int32)) :
    Con l Z x code maxLocals ret room_1 #[(.int p0), (.int p1)] Z.heap (fun v h' L => v = some (.int 1) ∧ Fr Z.heap.size L) := by
  have hw := B.1
  obtain ⟨S_w_Comparison_EQUAL, E_w_Comparison_EQUAL, S_w_Comparison_NOT_EQUAL, E_w_Comparison_NOT_EQUAL, S_w_Comparison_LESS, E_w_Comparison_LESS, S_w_Comparison_LESS_OR_EQUAL, E_w_Comparison_LESS_OR_EQUAL, S_w_Comparison_GREATER, E_w_Comparison_GREATER, S_w_Comparison_GREATER_OR_EQUAL, E_w_Comparison_GREATER_OR_EQUAL, F_w_Comparison_EQUAL_ordinal, F_w_Comparison_LESS_ordinal, F_w_Comparison_GREATER_ordinal, F_w_Comparison_NOT_EQUAL_ordinal, F_w_Comparison_GREATER_OR_EQUAL_ordinal, F_w_Comparison_LESS_OR_EQUAL_ordinal⟩ := B.2
  refine Con.of (plainFor_of_name pn0) (Ls := #[vI p0, vI p1, .unset, .unset, .unset, .unset]) (fun m => by first | rfl | (simp [entryFrame, mkF, argsToLocals, Value.category, maxLocals]; done)) ?_
  intro p e s m below meth c T0 X0 H hml hZ hown hnm hret hlk e0
  have O0 := extR Z.heap
  have M0 := Nat.le_refl Z.heap.size
  have N0 := Fr.nil Z.heap.size
  refine gBipush X0 H at_0 (z := 6) rfl 2 rfl ?_
  refine gNewR X0 H hZ hown (hw _ wd0) (hw _ wd1) e0 (by decide) (cap := 6) (by decide) (by decide) (vs := [.null, .null, .null, .null, .null, .null]) rfl (by decide) (by decide) at_2 5 rfl ?_
  intro T111 h111 b111 k111 X111 e111 z111 E111 V111 Q111
  have G_b111 := Nat.le_trans O0.1 (Nat.le_of_eq z111)
  have sz_b111 := Nat.le_trans M0 (Nat.le_of_eq z111)
  have O111 := extT O0 E111
  refine gDup X111 H at_5 rfl 6 rfl ?_
  refine gIconst X111 H at_6 (z := 0) rfl 7 rfl ?_
  refine gGetS X111 H hZ hown (hw _ wd2) e111 (S_w_Comparison_EQUAL.ext O111) at_7 10 rfl ?_
  intro T112 X112 e112
  refine gAastore X112 H hZ e112 rfl (stoV V111 Q111 (Ins.self (E_w_Comparison_EQUAL.ext O111))) V111 ⟨by decide, by decide⟩ (i := 0) rfl (Nat.le_of_ble_eq_true rfl) (vs' := [(.ref w_Comparison_EQUAL), .null, .null, .null, .null, .null]) rfl at_10 11 rfl ?_
  intro T113 h113 X113 e113 W113 V113
  have O113 := extW O111 W113 G_b111
  have N113 := Fr.snoc X113 N0 G_b111
  refine gDup X113 H at_11 rfl 12 rfl ?_
  refine gIconst X113 H at_12 (z := 1) rfl 13 rfl ?_
  refine gGetS X113 H hZ hown (hw _ wd6) e113 (S_w_Comparison_NOT_EQUAL.ext O113) at_13 16 rfl ?_
  intro T114 X114 e114
  refine gAastore X114 H hZ e114 rfl (stoV V113 Q111 (Ins.self (E_w_Comparison_NOT_EQUAL.ext O113))) V113 ⟨by decide, by decide⟩ (i := 1) rfl (Nat.le_of_ble_eq_true rfl) (vs' := [(.ref w_Comparison_EQUAL), (.ref w_Comparison_NOT_EQUAL), .null, .null, .null, .null]) rfl at_16 17 rfl ?_
  intro T115 h115 X115 e115 W115 V115
  have O115 := extW O113 W115 G_b111
  have N115 := Fr.snoc X115 N113 G_b111
  refine gDup X115 H at_17 rfl 18 rfl ?_
  refine gIconst X115 H at_18 (z := 2) rfl 19 rfl ?_
  refine gGetS X115 H hZ hown (hw _ wd8) e115 (S_w_Comparison_LESS.ext O115) at_19 22 rfl ?_
  intro T116 X116 e116
  refine gAastore X116 H hZ e116 rfl (stoV V115 Q111 (Ins.self (E_w_Comparison_LESS.ext O115))) V115 ⟨by decide, by decide⟩ (i := 2) rfl (Nat.le_of_ble_eq_true rfl) (vs' := [(.ref w_Comparison_EQUAL), (.ref w_Comparison_NOT_EQUAL), (.ref w_Comparison_LESS), .null, .null, .null]) rfl at_22 23 rfl ?_
  intro T117 h117 X117 e117 W117 V117
  have O117 := extW O115 W117 G_b111
  have N117 := Fr.snoc X117 N115 G_b111
  refine gDup X117 H at_23 rfl 24 rfl ?_
  refine gIconst X117 H at_24 (z := 3) rfl 25 rfl ?_
  refine gGetS X117 H hZ hown (hw _ wd10) e117 (S_w_Comparison_LESS_OR_EQUAL.ext O117) at_25 28 rfl ?_
  intro T118 X118 e118
  refine gAastore X118 H hZ e118 rfl (stoV V117 Q111 (Ins.self (E_w_Comparison_LESS_OR_EQUAL.ext O117))) V117 ⟨by decide, by decide⟩ (i := 3) rfl (Nat.le_of_ble_eq_true rfl) (vs' := [(.ref w_Comparison_EQUAL), (.ref w_Comparison_NOT_EQUAL), (.ref w_Comparison_LESS), (.ref w_Comparison_LESS_OR_EQUAL), .null, .null]) rfl at_28 29 rfl ?_
  intro T119 h119 X119 e119 W119 V119
  have O119 := extW O117 W119 G_b111
  have N119 := Fr.snoc X119 N117 G_b111
  refine gDup X119 H at_29 rfl 30 rfl ?_
  refine gIconst X119 H at_30 (z := 4) rfl 31 rfl ?_
  refine gGetS X119 H hZ hown (hw _ wd12) e119 (S_w_Comparison_GREATER.ext O119) at_31 34 rfl ?_
  intro T120 X120 e120
  refine gAastore X120 H hZ e120 rfl (stoV V119 Q111 (Ins.self (E_w_Comparison_GREATER.ext O119))) V119 ⟨by decide, by decide⟩ (i := 4) rfl (Nat.le_of_ble_eq_true rfl) (vs' := [(.ref w_Comparison_EQUAL), (.ref w_Comparison_NOT_EQUAL), (.ref w_Comparison_LESS), (.ref w_Comparison_LESS_OR_EQUAL), (.ref w_Comparison_GREATER), .null]) rfl at_34 35 rfl ?_
  intro T121 h121 X121 e121 W121 V121
  have O121 := extW O119 W121 G_b111
  have N121 := Fr.snoc X121 N119 G_b111
  refine gDup X121 H at_35 rfl 36 rfl ?_
  refine gIconst X121 H at_36 (z := 5) rfl 37 rfl ?_
  refine gGetS X121 H hZ hown (hw _ wd14) e121 (S_w_Comparison_GREATER_OR_EQUAL.ext O121) at_37 40 rfl ?_
  intro T122 X122 e122
  refine gAastore X122 H hZ e122 rfl (stoV V121 Q111 (Ins.self (E_w_Comparison_GREATER_OR_EQUAL.ext O121))) V121 ⟨by decide, by decide⟩ (i := 5) rfl (Nat.le_of_ble_eq_true rfl) (vs' := [(.ref w_Comparison_EQUAL), (.ref w_Comparison_NOT_EQUAL), (.ref w_Comparison_LESS), (.ref w_Comparison_LESS_OR_EQUAL), (.ref w_Comparison_GREATER), (.ref w_Comparison_GREATER_OR_EQUAL)]) rfl at_40 41 rfl ?_
  intro T123 h123 X123 e123 W123 V123
  have O123 := extW O121 W123 G_b111
  have N123 := Fr.snoc X123 N121 G_b111
  refine gAstoreN X123 H at_41 rfl (Ls' := #[vI p0, vI p1, vR b111, .unset, .unset, .unset]) rfl 42 rfl ?_
  refine gBipush X123 H at_42 (z := 18) rfl 44 rfl ?_
  refine gNewP X123 H hZ (aty := .boolean) (hw _ wd16) e123 (by decide) (cap := 18) (by decide) (by decide) (vs := [(.int 0), (.int 0), (.int 0), (.int 0), (.int 0), (.int 0), (.int 0), (.int 0), (.int 0), (.int 0), (.int 0), (.int 0), (.int 0), (.int 0), (.int 0), (.int 0), (.int 0), (.int 0)]) rfl (by decide) (by decide) at_44 46 rfl ?_
  intro T124 h124 b124 k124 X124 e124 z124 E124 V124
  have M125 := (leW (leW (leW (leW (leW (leW (Nat.le_trans M0 E111.1) W113) W115) W117) W119) W121) W123)
  have G_b124 := Nat.le_trans O123.1 (Nat.le_of_eq z124)
  have sz_b124 := Nat.le_trans M125 (Nat.le_of_eq z124)
  have ne_b111_b124 : b111 ≠ b124 := neB V123.lt (Nat.le_of_eq z124)
  have O124 := extT O123 E124
  refine gDup X124 H at_46 rfl 47 rfl ?_
  refine gIconst X124 H at_47 (z := 0) rfl 48 rfl ?_
  refine gIconst X124 H at_48 (z := 0) rfl 49 rfl ?_
  refine gZastore X124 H hZ e124 V124 ⟨by decide, by decide⟩ (i := 0) rfl (Nat.le_of_ble_eq_true rfl) (vs' := [(.int 0), (.int 0), (.int 0), (.int 0), (.int 0), (.int 0), (.int 0), (.int 0), (.int 0), (.int 0), (.int 0), (.int 0), (.int 0), (.int 0), (.int 0), (.int 0), (.int 0), (.int 0)]) rfl at_49 50 rfl ?_
  intro T126 h126 X126 e126 W126 V126
  have O126 := extW O124 W126 G_b124
  have N126 := Fr.snoc X126 N123 G_b124
  refine gDup X126 H at_50 rfl 51 rfl ?_
  refine gIconst X126 H at_51 (z := 1) rfl 52 rfl ?_
  refine gIconst X126 H at_52 (z := 1) rfl 53 rfl ?_
  refine gZastore X126 H hZ e126 V126 ⟨by decide, by decide⟩ (i := 1) rfl (Nat.le_of_ble_eq_true rfl) (vs' := [(.int 0), (.int 1), (.int 0), (.int 0), (.int 0), (.int 0), (.int 0), (.int 0), (.int 0), (.int 0), (.int 0), (.int 0), (.int 0), (.int 0), (.int 0), (.int 0), (.int 0), (.int 0)]) rfl at_53 54 rfl ?_
  intro T127 h127 X127 e127 W127 V127
  have O127 := extW O126 W127 G_b124
  have N127 := Fr.snoc X127 N126 G_b124
  refine gDup X127 H at_54 rfl 55 rfl ?_
  refine gIconst X127 H at_55 (z := 2) rfl 56 rfl ?_
  refine gIconst X127 H at_56 (z := 0) rfl 57 rfl ?_
  refine gZastore X127 H hZ e127 V127 ⟨by decide, by decide⟩ (i := 2) rfl (Nat.le_of_ble_eq_true rfl) (vs' := [(.int 0), (.int 1), (.int 0), (.int 0), (.int 0), (.int 0), (.int 0), (.int 0), (.int 0), (.int 0), (.int 0), (.int 0), (.int 0), (.int 0), (.int 0), (.int 0), (.int 0), (.int 0)]) rfl at_57 58 rfl ?_
  intro T128 h128 X128 e128 W128 V128
  have O128 := extW O127 W128 G_b124
  have N128 := Fr.snoc X128 N127 G_b124
  refine gDup X128 H at_58 rfl 59 rfl ?_
  refine gIconst X128 H at_59 (z := 3) rfl 60 rfl ?_
  refine gIconst X128 H at_60 (z := 1) rfl 61 rfl ?_
  refine gZastore X128 H hZ e128 V128 ⟨by decide, by decide⟩ (i := 3) rfl (Nat.le_of_ble_eq_true rfl) (vs' := [(.int 0), (.int 1), (.int 0), (.int 1), (.int 0), (.int 0), (.int 0), (.int 0), (.int 0), (.int 0), (.int 0), (.int 0), (.int 0), (.int 0), (.int 0), (.int 0), (.int 0), (.int 0)]) rfl at_61 62 rfl ?_
  intro T129 h129 X129 e129 W129 V129
  have O129 := extW O128 W129 G_b124
  have N129 := Fr.snoc X129 N128 G_b124
  refine gDup X129 H at_62 rfl 63 rfl ?_
  refine gIconst X129 H at_63 (z := 4) rfl 64 rfl ?_
  refine gIconst X129 H at_64 (z := 0) rfl 65 rfl ?_
  refine gZastore X129 H hZ e129 V129 ⟨by decide, by decide⟩ (i := 4) rfl (Nat.le_of_ble_eq_true rfl) (vs' := [(.int 0), (.int 1), (.int 0), (.int 1), (.int 0), (.int 0), (.int 0), (.int 0), (.int 0), (.int 0), (.int 0), (.int 0), (.int 0), (.int 0), (.int 0), (.int 0), (.int 0), (.int 0)]) rfl at_65 66 rfl ?_
  intro T130 h130 X130 e130 W130 V130
  have O130 := extW O129 W130 G_b124
  have N130 := Fr.snoc X130 N129 G_b124
  refine gDup X130 H at_66 rfl 67 rfl ?_
  refine gIconst X130 H at_67 (z := 5) rfl 68 rfl ?_
  refine gIconst X130 H at_68 (z := 1) rfl 69 rfl ?_
  refine gZastore X130 H hZ e130 V130 ⟨by decide, by decide⟩ (i := 5) rfl (Nat.le_of_ble_eq_true rfl) (vs' := [(.int 0), (.int 1), (.int 0), (.int 1), (.int 0), (.int 1), (.int 0), (.int 0), (.int 0), (.int 0), (.int 0), (.int 0), (.int 0), (.int 0), (.int 0), (.int 0), (.int 0), (.int 0)]) rfl at_69 70 rfl ?_
  intro T131 h131 X131 e131 W131 V131
  have O131 := extW O130 W131 G_b124
  have N131 := Fr.snoc X131 N130 G_b124
  refine gDup X131 H at_70 rfl 71 rfl ?_
  refine gBipush X131 H at_71 (z := 6) rfl 73 rfl ?_
  refine gIconst X131 H at_73 (z := 1) rfl 74 rfl ?_
  refine gZastore X131 H hZ e131 V131 ⟨by decide, by decide⟩ (i := 6) rfl (Nat.le_of_ble_eq_true rfl) (vs' := [(.int 0), (.int 1), (.int 0), (.int 1), (.int 0), (.int 1), (.int 1), (.int 0), (.int 0), (.int 0), (.int 0), (.int 0), (.int 0), (.int 0), (.int 0), (.int 0), (.int 0), (.int 0)]) rfl at_74 75 rfl ?_
  intro T132 h132 X132 e132 W132 V132
  have O132 := extW O131 W132 G_b124
  have N132 := Fr.snoc X132 N131 G_b124
  refine gDup X132 H at_75 rfl 76 rfl ?_
  refine gBipush X132 H at_76 (z := 7) rfl 78 rfl ?_
  refine gIconst X132 H at_78 (z := 0) rfl 79 rfl ?_
  refine gZastore X132 H hZ e132 V132 ⟨by decide, by decide⟩ (i := 7) rfl (Nat.le_of_ble_eq_true rfl) (vs' := [(.int 0), (.int 1), (.int 0), (.int 1), (.int 0), (.int 1), (.int 1), (.int 0), (.int 0), (.int 0), (.int 0), (.int 0), (.int 0), (.int 0), (.int 0), (.int 0), (.int 0), (.int 0)]) rfl at_79 80 rfl ?_
  intro T133 h133 X133 e133 W133 V133
  have O133 := extW O132 W133 G_b124
  have N133 := Fr.snoc X133 N132 G_b124
  refine gDup X133 H at_80 rfl 81 rfl ?_
  refine gBipush X133 H at_81 (z := 8) rfl 83 rfl ?_
  refine gIconst X133 H at_83 (z := 0) rfl 84 rfl ?_
  refine gZastore X133 H hZ e133 V133 ⟨by decide, by decide⟩ (i := 8) rfl (Nat.le_of_ble_eq_true rfl) (vs' := [(.int 0), (.int 1), (.int 0), (.int 1), (.int 0), (.int 1), (.int 1), (.int 0), (.int 0), (.int 0), (.int 0), (.int 0), (.int 0), (.int 0), (.int 0), (.int 0), (.int 0), (.int 0)]) rfl at_84 85 rfl ?_
  intro T134 h134 X134 e134 W134 V134
  have O134 := extW O133 W134 G_b124
  have N134 := Fr.snoc X134 N133 G_b124
  refine gDup X134 H at_85 rfl 86 rfl ?_
  refine gBipush X134 H at_86 (z := 9) rfl 88 rfl ?_
  refine gIconst X134 H at_88 (z := 1) rfl 89 rfl ?_
  refine gZastore X134 H hZ e134 V134 ⟨by decide, by decide⟩ (i := 9) rfl (Nat.le_of_ble_eq_true rfl) (vs' := [(.int 0), (.int 1), (.int 0), (.int 1), (.int 0), (.int 1), (.int 1), (.int 0), (.int 0), (.int 1), (.int 0), (.int 0), (.int 0), (.int 0), (.int 0), (.int 0), (.int 0), (.int 0)]) rfl at_89 90 rfl ?_
  intro T135 h135 X135 e135 W135 V135
  have O135 := extW O134 W135 G_b124
  have N135 := Fr.snoc X135 N134 G_b124
  refine gDup X135 H at_90 rfl 91 rfl ?_
  refine gBipush X135 H at_91 (z := 10) rfl 93 rfl ?_
  refine gIconst X135 H at_93 (z := 1) rfl 94 rfl ?_
  refine gZastore X135 H hZ e135 V135 ⟨by decide, by decide⟩ (i := 10) rfl (Nat.le_of_ble_eq_true rfl) (vs' := [(.int 0), (.int 1), (.int 0), (.int 1), (.int 0), (.int 1), (.int 1), (.int 0), (.int 0), (.int 1), (.int 1), (.int 0), (.int 0), (.int 0), (.int 0), (.int 0), (.int 0), (.int 0)]) rfl at_94 95 rfl ?_
  intro T136 h136 X136 e136 W136 V136
  have O136 := extW O135 W136 G_b124
  have N136 := Fr.snoc X136 N135 G_b124
  refine gDup X136 H at_95 rfl 96 rfl ?_
  refine gBipush X136 H at_96 (z := 11) rfl 98 rfl ?_
  refine gIconst X136 H at_98 (z := 0) rfl 99 rfl ?_
  refine gZastore X136 H hZ e136 V136 ⟨by decide, by decide⟩ (i := 11) rfl (Nat.le_of_ble_eq_true rfl) (vs' := [(.int 0), (.int 1), (.int 0), (.int 1), (.int 0), (.int 1), (.int 1), (.int 0), (.int 0), (.int 1), (.int 1), (.int 0), (.int 0), (.int 0), (.int 0), (.int 0), (.int 0), (.int 0)]) rfl at_99 100 rfl ?_
  intro T137 h137 X137 e137 W137 V137
  have O137 := extW O136 W137 G_b124
  have N137 := Fr.snoc X137 N136 G_b124
  refine gDup X137 H at_100 rfl 101 rfl ?_
  refine gBipush X137 H at_101 (z := 12) rfl 103 rfl ?_
  refine gIconst X137 H at_103 (z := 0) rfl 104 rfl ?_
  refine gZastore X137 H hZ e137 V137 ⟨by decide, by decide⟩ (i := 12) rfl (Nat.le_of_ble_eq_true rfl) (vs' := [(.int 0), (.int 1), (.int 0), (.int 1), (.int 0), (.int 1), (.int 1), (.int 0), (.int 0), (.int 1), (.int 1), (.int 0), (.int 0), (.int 0), (.int 0), (.int 0), (.int 0), (.int 0)]) rfl at_104 105 rfl ?_
  intro T138 h138 X138 e138 W138 V138
  have O138 := extW O137 W138 G_b124
  have N138 := Fr.snoc X138 N137 G_b124
  refine gDup X138 H at_105 rfl 106 rfl ?_
  refine gBipush X138 H at_106 (z := 13) rfl 108 rfl ?_
  refine gIconst X138 H at_108 (z := 0) rfl 109 rfl ?_
  refine gZastore X138 H hZ e138 V138 ⟨by decide, by decide⟩ (i := 13) rfl (Nat.le_of_ble_eq_true rfl) (vs' := [(.int 0), (.int 1), (.int 0), (.int 1), (.int 0), (.int 1), (.int 1), (.int 0), (.int 0), (.int 1), (.int 1), (.int 0), (.int 0), (.int 0), (.int 0), (.int 0), (.int 0), (.int 0)]) rfl at_109 110 rfl ?_
  intro T139 h139 X139 e139 W139 V139
  have O139 := extW O138 W139 G_b124
  have N139 := Fr.snoc X139 N138 G_b124
  refine gDup X139 H at_110 rfl 111 rfl ?_
  refine gBipush X139 H at_111 (z := 14) rfl 113 rfl ?_
  refine gIconst X139 H at_113 (z := 1) rfl 114 rfl ?_
  refine gZastore X139 H hZ e139 V139 ⟨by decide, by decide⟩ (i := 14) rfl (Nat.le_of_ble_eq_true rfl) (vs' := [(.int 0), (.int 1), (.int 0), (.int 1), (.int 0), (.int 1), (.int 1), (.int 0), (.int 0), (.int 1), (.int 1), (.int 0), (.int 0), (.int 0), (.int 1), (.int 0), (.int 0), (.int 0)]) rfl at_114 115 rfl ?_
  intro T140 h140 X140 e140 W140 V140
  have O140 := extW O139 W140 G_b124
  have N140 := Fr.snoc X140 N139 G_b124
  refine gDup X140 H at_115 rfl 116 rfl ?_
  refine gBipush X140 H at_116 (z := 15) rfl 118 rfl ?_
  refine gIconst X140 H at_118 (z := 0) rfl 119 rfl ?_
  refine gZastore X140 H hZ e140 V140 ⟨by decide, by decide⟩ (i := 15) rfl (Nat.le_of_ble_eq_true rfl) (vs' := [(.int 0), (.int 1), (.int 0), (.int 1), (.int 0), (.int 1), (.int 1), (.int 0), (.int 0), (.int 1), (.int 1), (.int 0), (.int 0), (.int 0), (.int 1), (.int 0), (.int 0), (.int 0)]) rfl at_119 120 rfl ?_
  intro T141 h141 X141 e141 W141 V141
  have O141 := extW O140 W141 G_b124
  have N141 := Fr.snoc X141 N140 G_b124
  refine gDup X141 H at_120 rfl 121 rfl ?_
  refine gBipush X141 H at_121 (z := 16) rfl 123 rfl ?_
  refine gIconst X141 H at_123 (z := 1) rfl 124 rfl ?_
  refine gZastore X141 H hZ e141 V141 ⟨by decide, by decide⟩ (i := 16) rfl (Nat.le_of_ble_eq_true rfl) (vs' := [(.int 0), (.int 1), (.int 0), (.int 1), (.int 0), (.int 1), (.int 1), (.int 0), (.int 0), (.int 1), (.int 1), (.int 0), (.int 0), (.int 0), (.int 1), (.int 0), (.int 1), (.int 0)]) rfl at_124 125 rfl ?_
  intro T142 h142 X142 e142 W142 V142
  have O142 := extW O141 W142 G_b124
  have N142 := Fr.snoc X142 N141 G_b124
  refine gDup X142 H at_125 rfl 126 rfl ?_
  refine gBipush X142 H at_126 (z := 17) rfl 128 rfl ?_
  refine gIconst X142 H at_128 (z := 1) rfl 129 rfl ?_
  refine gZastore X142 H hZ e142 V142 ⟨by decide, by decide⟩ (i := 17) rfl (Nat.le_of_ble_eq_true rfl) (vs' := [(.int 0), (.int 1), (.int 0), (.int 1), (.int 0), (.int 1), (.int 1), (.int 0), (.int 0), (.int 1), (.int 1), (.int 0), (.int 0), (.int 0), (.int 1), (.int 0), (.int 1), (.int 1)]) rfl at_129 130 rfl ?_
  intro T143 h143 X143 e143 W143 V143
  have O143 := extW O142 W143 G_b124
  have N143 := Fr.snoc X143 N142 G_b124
  refine gAstoreN X143 H at_130 rfl (Ls' := #[vI p0, vI p1, vR b111, vR b124, .unset, .unset]) rfl 131 rfl ?_
  refine gIloadN X143 H at_131 rfl 132 rfl ?_
  refine gLdc X143 H hZ hown (hw _ wd17) at_132 134 rfl ?_
  refine g_iand X143 H at_134 (z := (p0 &&& (2147483647 : Int32))) rfl 135 rfl ?_
  refine gBipush X143 H at_135 (z := 6) rfl 137 rfl ?_
  refine g_irem X143 H at_137 (by decide) (z := 2) ha0 138 rfl ?_
  refine gIstore X143 H at_138 (Ls' := #[vI p0, vI p1, vR b111, vR b124, vI 2, .unset]) rfl 140 rfl ?_
  refine gIloadN X143 H at_140 rfl 141 rfl ?_
  by_cases hc144 : p1 < (0 : Int32)
  · refine gIfN X143 H at_141 ((if0 _ _).trans (tlt hc144).2.1) 144 rfl ?_
    refine gIconst X143 H at_144 (z := 0) rfl 145 rfl ?_
    refine gGoto X143 H at_145 (by decide) 157 rfl ?_
    refine gIstore X143 H at_157 (Ls' := #[vI p0, vI p1, vR b111, vR b124, vI 2, vI 0]) rfl 159 rfl ?_
    refine gAloadN X143 H at_159 rfl rfl 160 rfl ?_
    refine gIload X143 H at_160 rfl 162 rfl ?_
    have c146 := (((((((((((((((((((V123.ext E124).other W126 ne_b111_b124).other W127 ne_b111_b124).other W128 ne_b111_b124).other W129 ne_b111_b124).other W130 ne_b111_b124).other W131 ne_b111_b124).other W132 ne_b111_b124).other W133 ne_b111_b124).other W134 ne_b111_b124).other W135 ne_b111_b124).other W136 ne_b111_b124).other W137 ne_b111_b124).other W138 ne_b111_b124).other W139 ne_b111_b124).other W140 ne_b111_b124).other W141 ne_b111_b124).other W142 ne_b111_b124).other W143 ne_b111_b124)
    refine gAaload X143 H hZ e143 rfl c146 ⟨by decide, by decide⟩ (v := (.ref w_Comparison_LESS)) rfl at_162 163 rfl ?_
    refine gIloadN X143 H at_163 rfl 164 rfl ?_
    refine gVirt X143 H hZ hown (hw _ wd18) (hw _ wd19) (hw _ wd21) (hw _ wd20) (by decide) (E_w_Comparison_LESS.ext O143) (hw _ wd22) (hw _ wd3) (rm151_1 B p1 _ O143 hc144) e143 hml rfl pd1 rfl (W := 0) (argsL := [(.int p1)]) (rest := []) rfl rfl at_164 167 rfl ?_
    intro v152 T152 L152 hq152 X152
    obtain ⟨rfl, e152, rfl⟩ := hq152
    have N152 := Fr.app N143 (Fr.nil _)
    show Go _ _ _ _ (State.setTop _ (mkF _ 167 _ [(.int 1)]))
    refine gAloadN X152 H at_167 rfl rfl 168 rfl ?_
    refine gIload X152 H at_168 rfl 170 rfl ?_
    refine gIconst X152 H at_170 (z := 3) rfl 171 rfl ?_
    refine g_imul X152 H at_171 (z := 6) (by decide) 172 rfl ?_
    refine gIload X152 H at_172 rfl 174 rfl ?_
    refine g_iadd X152 H at_174 (z := 6) (by decide) 175 rfl ?_
    refine gZaload X152 H hZ e152 V143 ⟨by decide, by decide⟩ (v := (.int 1)) rfl at_175 176 rfl ?_
    refine gCmpN X152 H at_176 (by decide) 179 rfl ?_
    refine gIconst X152 H at_179 (z := 1) rfl 180 rfl ?_
    refine gGoto X152 H at_180 (by decide) 184 rfl ?_
    exact gRetN X152 H hlk hret (t := .boolean) (by simp) at_184 e152 ⟨rfl, N152⟩
  · refine gIfY X143 H at_141 ((if0 _ _).trans (flt hc144).2.1) (by decide) 148 rfl ?_
    refine gIloadN X143 H at_148 rfl 149 rfl ?_
    by_cases hc154 : p1 = (0 : Int32)
    · refine gIfN X143 H at_149 ((if0 _ _).trans (teq hc154).2) 152 rfl ?_
      refine gIconst X143 H at_152 (z := 1) rfl 153 rfl ?_
      refine gGoto X143 H at_153 (by decide) 157 rfl ?_
      refine gIstore X143 H at_157 (Ls' := #[vI p0, vI p1, vR b111, vR b124, vI 2, vI 1]) rfl 159 rfl ?_
      refine gAloadN X143 H at_159 rfl rfl 160 rfl ?_
      refine gIload X143 H at_160 rfl 162 rfl ?_
      have c156 := (((((((((((((((((((V123.ext E124).other W126 ne_b111_b124).other W127 ne_b111_b124).other W128 ne_b111_b124).other W129 ne_b111_b124).other W130 ne_b111_b124).other W131 ne_b111_b124).other W132 ne_b111_b124).other W133 ne_b111_b124).other W134 ne_b111_b124).other W135 ne_b111_b124).other W136 ne_b111_b124).other W137 ne_b111_b124).other W138 ne_b111_b124).other W139 ne_b111_b124).other W140 ne_b111_b124).other W141 ne_b111_b124).other W142 ne_b111_b124).other W143 ne_b111_b124)
      refine gAaload X143 H hZ e143 rfl c156 ⟨by decide, by decide⟩ (v := (.ref w_Comparison_LESS)) rfl at_162 163 rfl ?_
      refine gIloadN X143 H at_163 rfl 164 rfl ?_
      refine gVirt X143 H hZ hown (hw _ wd18) (hw _ wd19) (hw _ wd21) (hw _ wd20) (by decide) (E_w_Comparison_LESS.ext O143) (hw _ wd22) (hw _ wd3) (rm159_1 B p1 _ O143 hc144) e143 hml rfl pd1 rfl (W := 0) (argsL := [(.int p1)]) (rest := []) rfl rfl at_164 167 rfl ?_
      intro v160 T160 L160 hq160 X160
      obtain ⟨rfl, e160, rfl⟩ := hq160
      have N160 := Fr.app N143 (Fr.nil _)
      show Go _ _ _ _ (State.setTop _ (mkF _ 167 _ [(.int 0)]))
      refine gAloadN X160 H at_167 rfl rfl 168 rfl ?_
      refine gIload X160 H at_168 rfl 170 rfl ?_
      refine gIconst X160 H at_170 (z := 3) rfl 171 rfl ?_
      refine g_imul X160 H at_171 (z := 6) (by decide) 172 rfl ?_
      refine gIload X160 H at_172 rfl 174 rfl ?_
      refine g_iadd X160 H at_174 (z := 7) (by decide) 175 rfl ?_
      refine gZaload X160 H hZ e160 V143 ⟨by decide, by decide⟩ (v := (.int 0)) rfl at_175 176 rfl ?_
      refine gCmpN X160 H at_176 (by decide) 179 rfl ?_
      refine gIconst X160 H at_179 (z := 1) rfl 180 rfl ?_
      refine gGoto X160 H at_180 (by decide) 184 rfl ?_
      exact gRetN X160 H hlk hret (t := .boolean) (by simp) at_184 e160 ⟨rfl, N160⟩
    · refine gIfY X143 H at_149 ((if0 _ _).trans (feq hc154).2) (by decide) 156 rfl ?_
      refine gIconst X143 H at_156 (z := 2) rfl 157 rfl ?_
      refine gIstore X143 H at_157 (Ls' := #[vI p0, vI p1, vR b111, vR b124, vI 2, vI 2]) rfl 159 rfl ?_
      refine gAloadN X143 H at_159 rfl rfl 160 rfl ?_
      refine gIload X143 H at_160 rfl 162 rfl ?_
      have c163 := (((((((((((((((((((V123.ext E124).other W126 ne_b111_b124).other W127 ne_b111_b124).other W128 ne_b111_b124).other W129 ne_b111_b124).other W130 ne_b111_b124).other W131 ne_b111_b124).other W132 ne_b111_b124).other W133 ne_b111_b124).other W134 ne_b111_b124).other W135 ne_b111_b124).other W136 ne_b111_b124).other W137 ne_b111_b124).other W138 ne_b111_b124).other W139 ne_b111_b124).other W140 ne_b111_b124).other W141 ne_b111_b124).other W142 ne_b111_b124).other W143 ne_b111_b124)
      refine gAaload X143 H hZ e143 rfl c163 ⟨by decide, by decide⟩ (v := (.ref w_Comparison_LESS)) rfl at_162 163 rfl ?_
      refine gIloadN X143 H at_163 rfl 164 rfl ?_
      refine gVirt X143 H hZ hown (hw _ wd18) (hw _ wd19) (hw _ wd21) (hw _ wd20) (by decide) (E_w_Comparison_LESS.ext O143) (hw _ wd22) (hw _ wd3) (rm159_1 B p1 _ O143 hc144) e143 hml rfl pd1 rfl (W := 0) (argsL := [(.int p1)]) (rest := []) rfl rfl at_164 167 rfl ?_
      intro v164 T164 L164 hq164 X164
      obtain ⟨rfl, e164, rfl⟩ := hq164
      have N164 := Fr.app N143 (Fr.nil _)
      show Go _ _ _ _ (State.setTop _ (mkF _ 167 _ [(.int 0)]))
      refine gAloadN X164 H at_167 rfl rfl 168 rfl ?_
      refine gIload X164 H at_168 rfl 170 rfl ?_
      refine gIconst X164 H at_170 (z := 3) rfl 171 rfl ?_
      refine g_imul X164 H at_171 (z := 6) (by decide) 172 rfl ?_
      refine gIload X164 H at_172 rfl 174 rfl ?_
      refine g_iadd X164 H at_174 (z := 8) (by decide) 175 rfl ?_
      refine gZaload X164 H hZ e164 V143 ⟨by decide, by decide⟩ (v := (.int 0)) rfl at_175 176 rfl ?_
      refine gCmpN X164 H at_176 (by decide) 179 rfl ?_
      refine gIconst X164 H at_179 (z := 1) rfl 180 rfl ?_
      refine gGoto X164 H at_180 (by decide) 184 rfl ?_
      exact gRetN X164 H hlk hret (t := .boolean) (by simp) at_184 e164 ⟨rfl, N164⟩
theorem rm203_2 (B : Bg Z a0 w_Comparison_EQUAL w_Comparison_NOT_EQUAL w_Comparison_LESS w_Comparison_LESS_OR_EQUAL w_Comparison_GREATER w_Comparison_GREATER_OR_EQUAL) (h : Heap) (O : Ext Z.heap h) :
    Con l Z yM2 jdk_37_method_2_code 1 (some .int) ({ frames := 0, cells := 0, slots := 0, locals := 0 } : Room) #[(.ref w_Comparison_LESS_OR_EQUAL)] h (fun v h' L => v = some (.int 3) ∧ h' = h ∧ L = []) := by
  have hw := B.1
  obtain ⟨S_w_Comparison_EQUAL, E_w_Comparison_EQUAL, S_w_Comparison_NOT_EQUAL, E_w_Comparison_NOT_EQUAL, S_w_Comparison_LESS, E_w_Comparison_LESS, S_w_Comparison_LESS_OR_EQUAL, E_w_Comparison_LESS_OR_EQUAL, S_w_Comparison_GREATER, E_w_Comparison_GREATER, S_w_Comparison_GREATER_OR_EQUAL, E_w_Comparison_GREATER_OR_EQUAL, F_w_Comparison_EQUAL_ordinal, F_w_Comparison_LESS_ordinal, F_w_Comparison_GREATER_ordinal, F_w_Comparison_NOT_EQUAL_ordinal, F_w_Comparison_GREATER_OR_EQUAL_ordinal, F_w_Comparison_LESS_OR_EQUAL_ordinal⟩ := B.2
  refine Con.of (plainFor_of_name pn2) (Ls := #[vR w_Comparison_LESS_OR_EQUAL]) (fun m => by first | rfl | (simp [entryFrame, mkF, argsToLocals, Value.category]; done)) ?_
  intro p e s m below meth c T0 X0 H hml hZ hown hnm hret hlk e0
  refine gAloadN X0 H d2_0 rfl rfl 1 rfl ?_
  refine gGetF X0 H hZ hown (hw _ wd30) Via.refl e0 (F_w_Comparison_LESS_OR_EQUAL_ordinal.ext O) d2_1 4 rfl ?_
  intro T202 X202 e202
  exact gRetI X202 H hlk hret d2_4 e202 ⟨rfl, rfl, rfl⟩
theorem rm206_1 (B : Bg Z a0 w_Comparison_EQUAL w_Comparison_NOT_EQUAL w_Comparison_LESS w_Comparison_LESS_OR_EQUAL w_Comparison_GREATER w_Comparison_GREATER_OR_EQUAL) (vi0 : Int32) (h : Heap) (O : Ext Z.heap h) (hk205 : ¬ ((0 : Int32) < vi0)) :
    Con l Z yM1 prog_20_method_6_code 2 (some .boolean) ({ frames := 1, cells := 0, slots := 0, locals := 12 } : Room) #[(.ref w_Comparison_LESS_OR_EQUAL), (.int vi0)] h (fun v h' L => v = some (.int 1) ∧ h' = h ∧ L = []) := by
  have hw := B.1
  obtain ⟨S_w_Comparison_EQUAL, E_w_Comparison_EQUAL, S_w_Comparison_NOT_EQUAL, E_w_Comparison_NOT_EQUAL, S_w_Comparison_LESS, E_w_Comparison_LESS, S_w_Comparison_LESS_OR_EQUAL, E_w_Comparison_LESS_OR_EQUAL, S_w_Comparison_GREATER, E_w_Comparison_GREATER, S_w_Comparison_GREATER_OR_EQUAL, E_w_Comparison_GREATER_OR_EQUAL, F_w_Comparison_EQUAL_ordinal, F_w_Comparison_LESS_ordinal, F_w_Comparison_GREATER_ordinal, F_w_Comparison_NOT_EQUAL_ordinal, F_w_Comparison_GREATER_OR_EQUAL_ordinal, F_w_Comparison_LESS_OR_EQUAL_ordinal⟩ := B.2
  refine Con.of (plainFor_of_name pn1) (Ls := #[vR w_Comparison_LESS_OR_EQUAL, vI vi0]) (fun m => by first | rfl | (simp [entryFrame, mkF, argsToLocals, Value.category]; done)) ?_
  intro p e s m below meth c T0 X0 H hml hZ hown hnm hret hlk e0
  have N0 := Fr.nil Z.heap.size
  refine gAloadN X0 H d1_0 rfl rfl 1 rfl ?_
  refine gVirtualUp X0 H hZ hown (hw _ wd23) (hw _ wd24) (hw _ wd25) (hw _ wd27) (hw _ wd26) (by decide) (E_w_Comparison_LESS_OR_EQUAL.ext O) (hw _ wd29) (hw _ wd28) (rm203_2 B _ O) e0 hml rfl pd0 rfl (W := 0) (argsL := []) (rest := []) rfl rfl d1_1 4 rfl ?_
  intro v204 T204 L204 hq204 X204
  obtain ⟨rfl, e204, rfl⟩ := hq204
  have N204 := Fr.app N0 (Fr.nil _)
  show Go _ _ _ _ (State.setTop _ (mkF _ 4 _ [(.int 3)]))
  refine gTswIn X204 H d1_4 (by decide) (o := 72) (by decide) (by decide) 76 rfl ?_
  refine gIloadN X204 H d1_76 rfl 77 rfl ?_
  refine gIfN X204 H d1_77 ((if0 _ _).trans (flt hk205).2.2.1) 80 rfl ?_
  refine gIconst X204 H d1_80 (z := 1) rfl 81 rfl ?_
  refine gGoto X204 H d1_81 (by decide) 109 rfl ?_
  exact gRetN X204 H hlk hret (t := .boolean) (by simp) d1_109 e204 ⟨rfl, rfl, rfl⟩
theorem rm218_1 (B : Bg Z a0 w_Comparison_EQUAL w_Comparison_NOT_EQUAL w_Comparison_LESS w_Comparison_LESS_OR_EQUAL w_Comparison_GREATER w_Comparison_GREATER_OR_EQUAL) (vi0 : Int32) (h : Heap) (O : Ext Z.heap h) (hk217 : (0 : Int32) < vi0) :
    Con l Z yM1 prog_20_method_6_code 2 (some .boolean) ({ frames := 1, cells := 0, slots := 0, locals := 12 } : Room) #[(.ref w_Comparison_LESS_OR_EQUAL), (.int vi0)] h (fun v h' L => v = some (.int 0) ∧ h' = h ∧ L = []) := by
  have hw := B.1
  obtain ⟨S_w_Comparison_EQUAL, E_w_Comparison_EQUAL, S_w_Comparison_NOT_EQUAL, E_w_Comparison_NOT_EQUAL, S_w_Comparison_LESS, E_w_Comparison_LESS, S_w_Comparison_LESS_OR_EQUAL, E_w_Comparison_LESS_OR_EQUAL, S_w_Comparison_GREATER, E_w_Comparison_GREATER, S_w_Comparison_GREATER_OR_EQUAL, E_w_Comparison_GREATER_OR_EQUAL, F_w_Comparison_EQUAL_ordinal, F_w_Comparison_LESS_ordinal, F_w_Comparison_GREATER_ordinal, F_w_Comparison_NOT_EQUAL_ordinal, F_w_Comparison_GREATER_OR_EQUAL_ordinal, F_w_Comparison_LESS_OR_EQUAL_ordinal⟩ := B.2
  refine Con.of (plainFor_of_name pn1) (Ls := #[vR w_Comparison_LESS_OR_EQUAL, vI vi0]) (fun m => by first | rfl | (simp [entryFrame, mkF, argsToLocals, Value.category]; done)) ?_
  intro p e s m below meth c T0 X0 H hml hZ hown hnm hret hlk e0
  have N0 := Fr.nil Z.heap.size
  refine gAloadN X0 H d1_0 rfl rfl 1 rfl ?_
  refine gVirtualUp X0 H hZ hown (hw _ wd23) (hw _ wd24) (hw _ wd25) (hw _ wd27) (hw _ wd26) (by decide) (E_w_Comparison_LESS_OR_EQUAL.ext O) (hw _ wd29) (hw _ wd28) (rm203_2 B _ O) e0 hml rfl pd0 rfl (W := 0) (argsL := []) (rest := []) rfl rfl d1_1 4 rfl ?_
  intro v216 T216 L216 hq216 X216
  obtain ⟨rfl, e216, rfl⟩ := hq216
  have N216 := Fr.app N0 (Fr.nil _)
  show Go _ _ _ _ (State.setTop _ (mkF _ 4 _ [(.int 3)]))
  refine gTswIn X216 H d1_4 (by decide) (o := 72) (by decide) (by decide) 76 rfl ?_
  refine gIloadN X216 H d1_76 rfl 77 rfl ?_
  refine gIfY X216 H d1_77 ((if0 _ _).trans (tlt hk217).2.2.1) (by decide) 84 rfl ?_
  refine gIconst X216 H d1_84 (z := 0) rfl 85 rfl ?_
  refine gGoto X216 H d1_85 (by decide) 109 rfl ?_
  exact gRetN X216 H hlk hret (t := .boolean) (by simp) d1_109 e216 ⟨rfl, rfl, rfl⟩
theorem lawAll_3 (B : Bg Z a0 w_Comparison_EQUAL w_Comparison_NOT_EQUAL w_Comparison_LESS w_Comparison_LESS_OR_EQUAL w_Comparison_GREATER w_Comparison_GREATER_OR_EQUAL) (p0 : Int32) (p1 : Int32) (ha0 : ((p0 &&& (2147483647 : Int32)) % (6 : Int32)) = (3 : Int32)) :
    Con l Z x code maxLocals ret room_1 #[(.int p0), (.int p1)] Z.heap (fun v h' L => v = some (.int 1) ∧ Fr Z.heap.size L) := by
  have hw := B.1
  obtain ⟨S_w_Comparison_EQUAL, E_w_Comparison_EQUAL, S_w_Comparison_NOT_EQUAL, E_w_Comparison_NOT_EQUAL, S_w_Comparison_LESS, E_w_Comparison_LESS, S_w_Comparison_LESS_OR_EQUAL, E_w_Comparison_LESS_OR_EQUAL, S_w_Comparison_GREATER, E_w_Comparison_GREATER, S_w_Comparison_GREATER_OR_EQUAL, E_w_Comparison_GREATER_OR_EQUAL, F_w_Comparison_EQUAL_ordinal, F_w_Comparison_LESS_ordinal, F_w_Comparison_GREATER_ordinal, F_w_Comparison_NOT_EQUAL_ordinal, F_w_Comparison_GREATER_OR_EQUAL_ordinal, F_w_Comparison_LESS_OR_EQUAL_ordinal⟩ := B.2
  refine Con.of (plainFor_of_name pn0) (Ls := #[vI p0, vI p1, .unset, .unset, .unset, .unset]) (fun m => by first | rfl | (simp [entryFrame, mkF, argsToLocals, Value.category, maxLocals]; done)) ?_
  intro p e s m below meth c T0 X0 H hml hZ hown hnm hret hlk e0
  have O0 := extR Z.heap
  have M0 := Nat.le_refl Z.heap.size
  have N0 := Fr.nil Z.heap.size
  refine gBipush X0 H at_0 (z := 6) rfl 2 rfl ?_
  refine gNewR X0 H hZ hown (hw _ wd0) (hw _ wd1) e0 (by decide) (cap := 6) (by decide) (by decide) (vs := [.null, .null, .null, .null, .null, .null]) rfl (by decide) (by decide) at_2 5 rfl ?_
  intro T166 h166 b166 k166 X166 e166 z166 E166 V166 Q166
  have G_b166 := Nat.le_trans O0.1 (Nat.le_of_eq z166)
  have sz_b166 := Nat.le_trans M0 (Nat.le_of_eq z166)
  have O166 := extT O0 E166
  refine gDup X166 H at_5 rfl 6 rfl ?_
  refine gIconst X166 H at_6 (z := 0) rfl 7 rfl ?_
  refine gGetS X166 H hZ hown (hw _ wd2) e166 (S_w_Comparison_EQUAL.ext O166) at_7 10 rfl ?_
  intro T167 X167 e167
  refine gAastore X167 H hZ e167 rfl (stoV V166 Q166 (Ins.self (E_w_Comparison_EQUAL.ext O166))) V166 ⟨by decide, by decide⟩ (i := 0) rfl (Nat.le_of_ble_eq_true rfl) (vs' := [(.ref w_Comparison_EQUAL), .null, .null, .null, .null, .null]) rfl at_10 11 rfl ?_
  intro T168 h168 X168 e168 W168 V168
  have O168 := extW O166 W168 G_b166
  have N168 := Fr.snoc X168 N0 G_b166
  refine gDup X168 H at_11 rfl 12 rfl ?_
  refine gIconst X168 H at_12 (z := 1) rfl 13 rfl ?_
  refine gGetS X168 H hZ hown (hw _ wd6) e168 (S_w_Comparison_NOT_EQUAL.ext O168) at_13 16 rfl ?_
  intro T169 X169 e169
  refine gAastore X169 H hZ e169 rfl (stoV V168 Q166 (Ins.self (E_w_Comparison_NOT_EQUAL.ext O168))) V168 ⟨by decide, by decide⟩ (i := 1) rfl (Nat.le_of_ble_eq_true rfl) (vs' := [(.ref w_Comparison_EQUAL), (.ref w_Comparison_NOT_EQUAL), .null, .null, .null, .null]) rfl at_16 17 rfl ?_
  intro T170 h170 X170 e170 W170 V170
  have O170 := extW O168 W170 G_b166
  have N170 := Fr.snoc X170 N168 G_b166
  refine gDup X170 H at_17 rfl 18 rfl ?_
  refine gIconst X170 H at_18 (z := 2) rfl 19 rfl ?_
  refine gGetS X170 H hZ hown (hw _ wd8) e170 (S_w_Comparison_LESS.ext O170) at_19 22 rfl ?_
  intro T171 X171 e171
  refine gAastore X171 H hZ e171 rfl (stoV V170 Q166 (Ins.self (E_w_Comparison_LESS.ext O170))) V170 ⟨by decide, by decide⟩ (i := 2) rfl (Nat.le_of_ble_eq_true rfl) (vs' := [(.ref w_Comparison_EQUAL), (.ref w_Comparison_NOT_EQUAL), (.ref w_Comparison_LESS), .null, .null, .null]) rfl at_22 23 rfl ?_
  intro T172 h172 X172 e172 W172 V172
  have O172 := extW O170 W172 G_b166
  have N172 := Fr.snoc X172 N170 G_b166
  refine gDup X172 H at_23 rfl 24 rfl ?_
  refine gIconst X172 H at_24 (z := 3) rfl 25 rfl ?_
  refine gGetS X172 H hZ hown (hw _ wd10) e172 (S_w_Comparison_LESS_OR_EQUAL.ext O172) at_25 28 rfl ?_
  intro T173 X173 e173
  refine gAastore X173 H hZ e173 rfl (stoV V172 Q166 (Ins.self (E_w_Comparison_LESS_OR_EQUAL.ext O172))) V172 ⟨by decide, by decide⟩ (i := 3) rfl (Nat.le_of_ble_eq_true rfl) (vs' := [(.ref w_Comparison_EQUAL), (.ref w_Comparison_NOT_EQUAL), (.ref w_Comparison_LESS), (.ref w_Comparison_LESS_OR_EQUAL), .null, .null]) rfl at_28 29 rfl ?_
  intro T174 h174 X174 e174 W174 V174
  have O174 := extW O172 W174 G_b166
  have N174 := Fr.snoc X174 N172 G_b166
  refine gDup X174 H at_29 rfl 30 rfl ?_
  refine gIconst X174 H at_30 (z := 4) rfl 31 rfl ?_
  refine gGetS X174 H hZ hown (hw _ wd12) e174 (S_w_Comparison_GREATER.ext O174) at_31 34 rfl ?_
  intro T175 X175 e175
  refine gAastore X175 H hZ e175 rfl (stoV V174 Q166 (Ins.self (E_w_Comparison_GREATER.ext O174))) V174 ⟨by decide, by decide⟩ (i := 4) rfl (Nat.le_of_ble_eq_true rfl) (vs' := [(.ref w_Comparison_EQUAL), (.ref w_Comparison_NOT_EQUAL), (.ref w_Comparison_LESS), (.ref w_Comparison_LESS_OR_EQUAL), (.ref w_Comparison_GREATER), .null]) rfl at_34 35 rfl ?_
  intro T176 h176 X176 e176 W176 V176
  have O176 := extW O174 W176 G_b166
  have N176 := Fr.snoc X176 N174 G_b166
  refine gDup X176 H at_35 rfl 36 rfl ?_
  refine gIconst X176 H at_36 (z := 5) rfl 37 rfl ?_
  refine gGetS X176 H hZ hown (hw _ wd14) e176 (S_w_Comparison_GREATER_OR_EQUAL.ext O176) at_37 40 rfl ?_
  intro T177 X177 e177
  refine gAastore X177 H hZ e177 rfl (stoV V176 Q166 (Ins.self (E_w_Comparison_GREATER_OR_EQUAL.ext O176))) V176 ⟨by decide, by decide⟩ (i := 5) rfl (Nat.le_of_ble_eq_true rfl) (vs' := [(.ref w_Comparison_EQUAL), (.ref w_Comparison_NOT_EQUAL), (.ref w_Comparison_LESS), (.ref w_Comparison_LESS_OR_EQUAL), (.ref w_Comparison_GREATER), (.ref w_Comparison_GREATER_OR_EQUAL)]) rfl at_40 41 rfl ?_
  intro T178 h178 X178 e178 W178 V178
  have O178 := extW O176 W178 G_b166
  have N178 := Fr.snoc X178 N176 G_b166
  refine gAstoreN X178 H at_41 rfl (Ls' := #[vI p0, vI p1, vR b166, .unset, .unset, .unset]) rfl 42 rfl ?_
  refine gBipush X178 H at_42 (z := 18) rfl 44 rfl ?_
  refine gNewP X178 H hZ (aty := .boolean) (hw _ wd16) e178 (by decide) (cap := 18) (by decide) (by decide) (vs := [(.int 0), (.int 0), (.int 0), (.int 0), (.int 0), (.int 0), (.int 0), (.int 0), (.int 0), (.int 0), (.int 0), (.int 0), (.int 0), (.int 0), (.int 0), (.int 0), (.int 0), (.int 0)]) rfl (by decide) (by decide) at_44 46 rfl ?_
  intro T179 h179 b179 k179 X179 e179 z179 E179 V179
  have M180 := (leW (leW (leW (leW (leW (leW (Nat.le_trans M0 E166.1) W168) W170) W172) W174) W176) W178)
  have G_b179 := Nat.le_trans O178.1 (Nat.le_of_eq z179)
  have sz_b179 := Nat.le_trans M180 (Nat.le_of_eq z179)
  have ne_b166_b179 : b166 ≠ b179 := neB V178.lt (Nat.le_of_eq z179)
  have O179 := extT O178 E179
  refine gDup X179 H at_46 rfl 47 rfl ?_
  refine gIconst X179 H at_47 (z := 0) rfl 48 rfl ?_
  refine gIconst X179 H at_48 (z := 0) rfl 49 rfl ?_
  refine gZastore X179 H hZ e179 V179 ⟨by decide, by decide⟩ (i := 0) rfl (Nat.le_of_ble_eq_true rfl) (vs' := [(.int 0), (.int 0), (.int 0), (.int 0), (.int 0), (.int 0), (.int 0), (.int 0), (.int 0), (.int 0), (.int 0), (.int 0), (.int 0), (.int 0), (.int 0), (.int 0), (.int 0), (.int 0)]) rfl at_49 50 rfl ?_
  intro T181 h181 X181 e181 W181 V181
  have O181 := extW O179 W181 G_b179
  have N181 := Fr.snoc X181 N178 G_b179
  refine gDup X181 H at_50 rfl 51 rfl ?_
  refine gIconst X181 H at_51 (z := 1) rfl 52 rfl ?_
  refine gIconst X181 H at_52 (z := 1) rfl 53 rfl ?_
  refine gZastore X181 H hZ e181 V181 ⟨by decide, by decide⟩ (i := 1) rfl (Nat.le_of_ble_eq_true rfl) (vs' := [(.int 0), (.int 1), (.int 0), (.int 0), (.int 0), (.int 0), (.int 0), (.int 0), (.int 0), (.int 0), (.int 0), (.int 0), (.int 0), (.int 0), (.int 0), (.int 0), (.int 0), (.int 0)]) rfl at_53 54 rfl ?_
  intro T182 h182 X182 e182 W182 V182
  have O182 := extW O181 W182 G_b179
  have N182 := Fr.snoc X182 N181 G_b179
  refine gDup X182 H at_54 rfl 55 rfl ?_
  refine gIconst X182 H at_55 (z := 2) rfl 56 rfl ?_
  refine gIconst X182 H at_56 (z := 0) rfl 57 rfl ?_
  refine gZastore X182 H hZ e182 V182 ⟨by decide, by decide⟩ (i := 2) rfl (Nat.le_of_ble_eq_true rfl) (vs' := [(.int 0), (.int 1), (.int 0), (.int 0), (.int 0), (.int 0), (.int 0), (.int 0), (.int 0), (.int 0), (.int 0), (.int 0), (.int 0), (.int 0), (.int 0), (.int 0), (.int 0), (.int 0)]) rfl at_57 58 rfl ?_
  intro T183 h183 X183 e183 W183 V183
  have O183 := extW O182 W183 G_b179
  have N183 := Fr.snoc X183 N182 G_b179
  refine gDup X183 H at_58 rfl 59 rfl ?_
  refine gIconst X183 H at_59 (z := 3) rfl 60 rfl ?_
  refine gIconst X183 H at_60 (z := 1) rfl 61 rfl ?_
  refine gZastore X183 H hZ e183 V183 ⟨by decide, by decide⟩ (i := 3) rfl (Nat.le_of_ble_eq_true rfl) (vs' := [(.int 0), (.int 1), (.int 0), (.int 1), (.int 0), (.int 0), (.int 0), (.int 0), (.int 0), (.int 0), (.int 0), (.int 0), (.int 0), (.int 0), (.int 0), (.int 0), (.int 0), (.int 0)]) rfl at_61 62 rfl ?_
  intro T184 h184 X184 e184 W184 V184
  have O184 := extW O183 W184 G_b179
  have N184 := Fr.snoc X184 N183 G_b179
  refine gDup X184 H at_62 rfl 63 rfl ?_
  refine gIconst X184 H at_63 (z := 4) rfl 64 rfl ?_
  refine gIconst X184 H at_64 (z := 0) rfl 65 rfl ?_
  refine gZastore X184 H hZ e184 V184 ⟨by decide, by decide⟩ (i := 4) rfl (Nat.le_of_ble_eq_true rfl) (vs' := [(.int 0), (.int 1), (.int 0), (.int 1), (.int 0), (.int 0), (.int 0), (.int 0), (.int 0), (.int 0), (.int 0), (.int 0), (.int 0), (.int 0), (.int 0), (.int 0), (.int 0), (.int 0)]) rfl at_65 66 rfl ?_
  intro T185 h185 X185 e185 W185 V185
  have O185 := extW O184 W185 G_b179
  have N185 := Fr.snoc X185 N184 G_b179
  refine gDup X185 H at_66 rfl 67 rfl ?_
  refine gIconst X185 H at_67 (z := 5) rfl 68 rfl ?_
  refine gIconst X185 H at_68 (z := 1) rfl 69 rfl ?_
  refine gZastore X185 H hZ e185 V185 ⟨by decide, by decide⟩ (i := 5) rfl (Nat.le_of_ble_eq_true rfl) (vs' := [(.int 0), (.int 1), (.int 0), (.int 1), (.int 0), (.int 1), (.int 0), (.int 0), (.int 0), (.int 0), (.int 0), (.int 0), (.int 0), (.int 0), (.int 0), (.int 0), (.int 0), (.int 0)]) rfl at_69 70 rfl ?_
  intro T186 h186 X186 e186 W186 V186
  have O186 := extW O185 W186 G_b179
  have N186 := Fr.snoc X186 N185 G_b179
  refine gDup X186 H at_70 rfl 71 rfl ?_
  refine gBipush X186 H at_71 (z := 6) rfl 73 rfl ?_
  refine gIconst X186 H at_73 (z := 1) rfl 74 rfl ?_
  refine gZastore X186 H hZ e186 V186 ⟨by decide, by decide⟩ (i := 6) rfl (Nat.le_of_ble_eq_true rfl) (vs' := [(.int 0), (.int 1), (.int 0), (.int 1), (.int 0), (.int 1), (.int 1), (.int 0), (.int 0), (.int 0), (.int 0), (.int 0), (.int 0), (.int 0), (.int 0), (.int 0), (.int 0), (.int 0)]) rfl at_74 75 rfl ?_
  intro T187 h187 X187 e187 W187 V187
  have O187 := extW O186 W187 G_b179
  have N187 := Fr.snoc X187 N186 G_b179
  refine gDup X187 H at_75 rfl 76 rfl ?_
  refine gBipush X187 H at_76 (z := 7) rfl 78 rfl ?_
  refine gIconst X187 H at_78 (z := 0) rfl 79 rfl ?_
  refine gZastore X187 H hZ e187 V187 ⟨by decide, by decide⟩ (i := 7) rfl (Nat.le_of_ble_eq_true rfl) (vs' := [(.int 0), (.int 1), (.int 0), (.int 1), (.int 0), (.int 1), (.int 1), (.int 0), (.int 0), (.int 0), (.int 0), (.int 0), (.int 0), (.int 0), (.int 0), (.int 0), (.int 0), (.int 0)]) rfl at_79 80 rfl ?_
  intro T188 h188 X188 e188 W188 V188
  have O188 := extW O187 W188 G_b179
  have N188 := Fr.snoc X188 N187 G_b179
  refine gDup X188 H at_80 rfl 81 rfl ?_
  refine gBipush X188 H at_81 (z := 8) rfl 83 rfl ?_
  refine gIconst X188 H at_83 (z := 0) rfl 84 rfl ?_
  refine gZastore X188 H hZ e188 V188 ⟨by decide, by decide⟩ (i := 8) rfl (Nat.le_of_ble_eq_true rfl) (vs' := [(.int 0), (.int 1), (.int 0), (.int 1), (.int 0), (.int 1), (.int 1), (.int 0), (.int 0), (.int 0), (.int 0), (.int 0), (.int 0), (.int 0), (.int 0), (.int 0), (.int 0), (.int 0)]) rfl at_84 85 rfl ?_
  intro T189 h189 X189 e189 W189 V189
  have O189 := extW O188 W189 G_b179
  have N189 := Fr.snoc X189 N188 G_b179
  refine gDup X189 H at_85 rfl 86 rfl ?_
  refine gBipush X189 H at_86 (z := 9) rfl 88 rfl ?_
  refine gIconst X189 H at_88 (z := 1) rfl 89 rfl ?_
  refine gZastore X189 H hZ e189 V189 ⟨by decide, by decide⟩ (i := 9) rfl (Nat.le_of_ble_eq_true rfl) (vs' := [(.int 0), (.int 1), (.int 0), (.int 1), (.int 0), (.int 1), (.int 1), (.int 0), (.int 0), (.int 1), (.int 0), (.int 0), (.int 0), (.int 0), (.int 0), (.int 0), (.int 0), (.int 0)]) rfl at_89 90 rfl ?_
  intro T190 h190 X190 e190 W190 V190
  have O190 := extW O189 W190 G_b179
  have N190 := Fr.snoc X190 N189 G_b179
  refine gDup X190 H at_90 rfl 91 rfl ?_
  refine gBipush X190 H at_91 (z := 10) rfl 93 rfl ?_
  refine gIconst X190 H at_93 (z := 1) rfl 94 rfl ?_
  refine gZastore X190 H hZ e190 V190 ⟨by decide, by decide⟩ (i := 10) rfl (Nat.le_of_ble_eq_true rfl) (vs' := [(.int 0), (.int 1), (.int 0), (.int 1), (.int 0), (.int 1), (.int 1), (.int 0), (.int 0), (.int 1), (.int 1), (.int 0), (.int 0), (.int 0), (.int 0), (.int 0), (.int 0), (.int 0)]) rfl at_94 95 rfl ?_
  intro T191 h191 X191 e191 W191 V191
  have O191 := extW O190 W191 G_b179
  have N191 := Fr.snoc X191 N190 G_b179
  refine gDup X191 H at_95 rfl 96 rfl ?_
  refine gBipush X191 H at_96 (z := 11) rfl 98 rfl ?_
  refine gIconst X191 H at_98 (z := 0) rfl 99 rfl ?_
  refine gZastore X191 H hZ e191 V191 ⟨by decide, by decide⟩ (i := 11) rfl (Nat.le_of_ble_eq_true rfl) (vs' := [(.int 0), (.int 1), (.int 0), (.int 1), (.int 0), (.int 1), (.int 1), (.int 0), (.int 0), (.int 1), (.int 1), (.int 0), (.int 0), (.int 0), (.int 0), (.int 0), (.int 0), (.int 0)]) rfl at_99 100 rfl ?_
  intro T192 h192 X192 e192 W192 V192
  have O192 := extW O191 W192 G_b179
  have N192 := Fr.snoc X192 N191 G_b179
  refine gDup X192 H at_100 rfl 101 rfl ?_
  refine gBipush X192 H at_101 (z := 12) rfl 103 rfl ?_
  refine gIconst X192 H at_103 (z := 0) rfl 104 rfl ?_
  refine gZastore X192 H hZ e192 V192 ⟨by decide, by decide⟩ (i := 12) rfl (Nat.le_of_ble_eq_true rfl) (vs' := [(.int 0), (.int 1), (.int 0), (.int 1), (.int 0), (.int 1), (.int 1), (.int 0), (.int 0), (.int 1), (.int 1), (.int 0), (.int 0), (.int 0), (.int 0), (.int 0), (.int 0), (.int 0)]) rfl at_104 105 rfl ?_
  intro T193 h193 X193 e193 W193 V193
  have O193 := extW O192 W193 G_b179
  have N193 := Fr.snoc X193 N192 G_b179
  refine gDup X193 H at_105 rfl 106 rfl ?_
  refine gBipush X193 H at_106 (z := 13) rfl 108 rfl ?_
  refine gIconst X193 H at_108 (z := 0) rfl 109 rfl ?_
  refine gZastore X193 H hZ e193 V193 ⟨by decide, by decide⟩ (i := 13) rfl (Nat.le_of_ble_eq_true rfl) (vs' := [(.int 0), (.int 1), (.int 0), (.int 1), (.int 0), (.int 1), (.int 1), (.int 0), (.int 0), (.int 1), (.int 1), (.int 0), (.int 0), (.int 0), (.int 0), (.int 0), (.int 0), (.int 0)]) rfl at_109 110 rfl ?_
  intro T194 h194 X194 e194 W194 V194
  have O194 := extW O193 W194 G_b179
  have N194 := Fr.snoc X194 N193 G_b179
  refine gDup X194 H at_110 rfl 111 rfl ?_
  refine gBipush X194 H at_111 (z := 14) rfl 113 rfl ?_
  refine gIconst X194 H at_113 (z := 1) rfl 114 rfl ?_
  refine gZastore X194 H hZ e194 V194 ⟨by decide, by decide⟩ (i := 14) rfl (Nat.le_of_ble_eq_true rfl) (vs' := [(.int 0), (.int 1), (.int 0), (.int 1), (.int 0), (.int 1), (.int 1), (.int 0), (.int 0), (.int 1), (.int 1), (.int 0), (.int 0), (.int 0), (.int 1), (.int 0), (.int 0), (.int 0)]) rfl at_114 115 rfl ?_
  intro T195 h195 X195 e195 W195 V195
  have O195 := extW O194 W195 G_b179
  have N195 := Fr.snoc X195 N194 G_b179
  refine gDup X195 H at_115 rfl 116 rfl ?_
  refine gBipush X195 H at_116 (z := 15) rfl 118 rfl ?_
  refine gIconst X195 H at_118 (z := 0) rfl 119 rfl ?_
  refine gZastore X195 H hZ e195 V195 ⟨by decide, by decide⟩ (i := 15) rfl (Nat.le_of_ble_eq_true rfl) (vs' := [(.int 0), (.int 1), (.int 0), (.int 1), (.int 0), (.int 1), (.int 1), (.int 0), (.int 0), (.int 1), (.int 1), (.int 0), (.int 0), (.int 0), (.int 1), (.int 0), (.int 0), (.int 0)]) rfl at_119 120 rfl ?_
  intro T196 h196 X196 e196 W196 V196
  have O196 := extW O195 W196 G_b179
  have N196 := Fr.snoc X196 N195 G_b179
  refine gDup X196 H at_120 rfl 121 rfl ?_
  refine gBipush X196 H at_121 (z := 16) rfl 123 rfl ?_
  refine gIconst X196 H at_123 (z := 1) rfl 124 rfl ?_
  refine gZastore X196 H hZ e196 V196 ⟨by decide, by decide⟩ (i := 16) rfl (Nat.le_of_ble_eq_true rfl) (vs' := [(.int 0), (.int 1), (.int 0), (.int 1), (.int 0), (.int 1), (.int 1), (.int 0), (.int 0), (.int 1), (.int 1), (.int 0), (.int 0), (.int 0), (.int 1), (.int 0), (.int 1), (.int 0)]) rfl at_124 125 rfl ?_
  intro T197 h197 X197 e197 W197 V197
  have O197 := extW O196 W197 G_b179
  have N197 := Fr.snoc X197 N196 G_b179
  refine gDup X197 H at_125 rfl 126 rfl ?_
  refine gBipush X197 H at_126 (z := 17) rfl 128 rfl ?_
  refine gIconst X197 H at_128 (z := 1) rfl 129 rfl ?_
  refine gZastore X197 H hZ e197 V197 ⟨by decide, by decide⟩ (i := 17) rfl (Nat.le_of_ble_eq_true rfl) (vs' := [(.int 0), (.int 1), (.int 0), (.int 1), (.int 0), (.int 1), (.int 1), (.int 0), (.int 0), (.int 1), (.int 1), (.int 0), (.int 0), (.int 0), (.int 1), (.int 0), (.int 1), (.int 1)]) rfl at_129 130 rfl ?_
  intro T198 h198 X198 e198 W198 V198
  have O198 := extW O197 W198 G_b179
  have N198 := Fr.snoc X198 N197 G_b179
  refine gAstoreN X198 H at_130 rfl (Ls' := #[vI p0, vI p1, vR b166, vR b179, .unset, .unset]) rfl 131 rfl ?_
  refine gIloadN X198 H at_131 rfl 132 rfl ?_
  refine gLdc X198 H hZ hown (hw _ wd17) at_132 134 rfl ?_
  refine g_iand X198 H at_134 (z := (p0 &&& (2147483647 : Int32))) rfl 135 rfl ?_
  refine gBipush X198 H at_135 (z := 6) rfl 137 rfl ?_
  refine g_irem X198 H at_137 (by decide) (z := 3) ha0 138 rfl ?_
  refine gIstore X198 H at_138 (Ls' := #[vI p0, vI p1, vR b166, vR b179, vI 3, .unset]) rfl 140 rfl ?_
  refine gIloadN X198 H at_140 rfl 141 rfl ?_
  by_cases hc199 : p1 < (0 : Int32)
  · refine gIfN X198 H at_141 ((if0 _ _).trans (tlt hc199).2.1) 144 rfl ?_
    refine gIconst X198 H at_144 (z := 0) rfl 145 rfl ?_
    refine gGoto X198 H at_145 (by decide) 157 rfl ?_
    refine gIstore X198 H at_157 (Ls' := #[vI p0, vI p1, vR b166, vR b179, vI 3, vI 0]) rfl 159 rfl ?_
    refine gAloadN X198 H at_159 rfl rfl 160 rfl ?_
    refine gIload X198 H at_160 rfl 162 rfl ?_
    have c201 := (((((((((((((((((((V178.ext E179).other W181 ne_b166_b179).other W182 ne_b166_b179).other W183 ne_b166_b179).other W184 ne_b166_b179).other W185 ne_b166_b179).other W186 ne_b166_b179).other W187 ne_b166_b179).other W188 ne_b166_b179).other W189 ne_b166_b179).other W190 ne_b166_b179).other W191 ne_b166_b179).other W192 ne_b166_b179).other W193 ne_b166_b179).other W194 ne_b166_b179).other W195 ne_b166_b179).other W196 ne_b166_b179).other W197 ne_b166_b179).other W198 ne_b166_b179)
    refine gAaload X198 H hZ e198 rfl c201 ⟨by decide, by decide⟩ (v := (.ref w_Comparison_LESS_OR_EQUAL)) rfl at_162 163 rfl ?_
    refine gIloadN X198 H at_163 rfl 164 rfl ?_
    refine gVirt X198 H hZ hown (hw _ wd18) (hw _ wd19) (hw _ wd21) (hw _ wd20) (by decide) (E_w_Comparison_LESS_OR_EQUAL.ext O198) (hw _ wd22) (hw _ wd3) (rm206_1 B p1 _ O198 (t32_as hc199)) e198 hml rfl pd1 rfl (W := 0) (argsL := [(.int p1)]) (rest := []) rfl rfl at_164 167 rfl ?_
    intro v207 T207 L207 hq207 X207
    obtain ⟨rfl, e207, rfl⟩ := hq207
    have N207 := Fr.app N198 (Fr.nil _)
    show Go _ _ _ _ (State.setTop _ (mkF _ 167 _ [(.int 1)]))
    refine gAloadN X207 H at_167 rfl rfl 168 rfl ?_
    refine gIload X207 H at_168 rfl 170 rfl ?_
    refine gIconst X207 H at_170 (z := 3) rfl 171 rfl ?_
    refine g_imul X207 H at_171 (z := 9) (by decide) 172 rfl ?_
    refine gIload X207 H at_172 rfl 174 rfl ?_
    refine g_iadd X207 H at_174 (z := 9) (by decide) 175 rfl ?_
    refine gZaload X207 H hZ e207 V198 ⟨by decide, by decide⟩ (v := (.int 1)) rfl at_175 176 rfl ?_
    refine gCmpN X207 H at_176 (by decide) 179 rfl ?_
    refine gIconst X207 H at_179 (z := 1) rfl 180 rfl ?_
    refine gGoto X207 H at_180 (by decide) 184 rfl ?_
    exact gRetN X207 H hlk hret (t := .boolean) (by simp) at_184 e207 ⟨rfl, N207⟩
  · refine gIfY X198 H at_141 ((if0 _ _).trans (flt hc199).2.1) (by decide) 148 rfl ?_
    refine gIloadN X198 H at_148 rfl 149 rfl ?_
    by_cases hc209 : p1 = (0 : Int32)
    · refine gIfN X198 H at_149 ((if0 _ _).trans (teq hc209).2) 152 rfl ?_
      refine gIconst X198 H at_152 (z := 1) rfl 153 rfl ?_
      refine gGoto X198 H at_153 (by decide) 157 rfl ?_
      refine gIstore X198 H at_157 (Ls' := #[vI p0, vI p1, vR b166, vR b179, vI 3, vI 1]) rfl 159 rfl ?_
      refine gAloadN X198 H at_159 rfl rfl 160 rfl ?_
      refine gIload X198 H at_160 rfl 162 rfl ?_
      have c211 := (((((((((((((((((((V178.ext E179).other W181 ne_b166_b179).other W182 ne_b166_b179).other W183 ne_b166_b179).other W184 ne_b166_b179).other W185 ne_b166_b179).other W186 ne_b166_b179).other W187 ne_b166_b179).other W188 ne_b166_b179).other W189 ne_b166_b179).other W190 ne_b166_b179).other W191 ne_b166_b179).other W192 ne_b166_b179).other W193 ne_b166_b179).other W194 ne_b166_b179).other W195 ne_b166_b179).other W196 ne_b166_b179).other W197 ne_b166_b179).other W198 ne_b166_b179)
      refine gAaload X198 H hZ e198 rfl c211 ⟨by decide, by decide⟩ (v := (.ref w_Comparison_LESS_OR_EQUAL)) rfl at_162 163 rfl ?_
      refine gIloadN X198 H at_163 rfl 164 rfl ?_
      refine gVirt X198 H hZ hown (hw _ wd18) (hw _ wd19) (hw _ wd21) (hw _ wd20) (by decide) (E_w_Comparison_LESS_OR_EQUAL.ext O198) (hw _ wd22) (hw _ wd3) (rm206_1 B p1 _ O198 (t32_ir (Eq.symm hc209))) e198 hml rfl pd1 rfl (W := 0) (argsL := [(.int p1)]) (rest := []) rfl rfl at_164 167 rfl ?_
      intro v212 T212 L212 hq212 X212
      obtain ⟨rfl, e212, rfl⟩ := hq212
      have N212 := Fr.app N198 (Fr.nil _)
      show Go _ _ _ _ (State.setTop _ (mkF _ 167 _ [(.int 1)]))
      refine gAloadN X212 H at_167 rfl rfl 168 rfl ?_
      refine gIload X212 H at_168 rfl 170 rfl ?_
      refine gIconst X212 H at_170 (z := 3) rfl 171 rfl ?_
      refine g_imul X212 H at_171 (z := 9) (by decide) 172 rfl ?_
      refine gIload X212 H at_172 rfl 174 rfl ?_
      refine g_iadd X212 H at_174 (z := 10) (by decide) 175 rfl ?_
      refine gZaload X212 H hZ e212 V198 ⟨by decide, by decide⟩ (v := (.int 1)) rfl at_175 176 rfl ?_
      refine gCmpN X212 H at_176 (by decide) 179 rfl ?_
      refine gIconst X212 H at_179 (z := 1) rfl 180 rfl ?_
      refine gGoto X212 H at_180 (by decide) 184 rfl ?_
      exact gRetN X212 H hlk hret (t := .boolean) (by simp) at_184 e212 ⟨rfl, N212⟩
    · refine gIfY X198 H at_149 ((if0 _ _).trans (feq hc209).2) (by decide) 156 rfl ?_
      refine gIconst X198 H at_156 (z := 2) rfl 157 rfl ?_
      refine gIstore X198 H at_157 (Ls' := #[vI p0, vI p1, vR b166, vR b179, vI 3, vI 2]) rfl 159 rfl ?_
      refine gAloadN X198 H at_159 rfl rfl 160 rfl ?_
      refine gIload X198 H at_160 rfl 162 rfl ?_
      have c215 := (((((((((((((((((((V178.ext E179).other W181 ne_b166_b179).other W182 ne_b166_b179).other W183 ne_b166_b179).other W184 ne_b166_b179).other W185 ne_b166_b179).other W186 ne_b166_b179).other W187 ne_b166_b179).other W188 ne_b166_b179).other W189 ne_b166_b179).other W190 ne_b166_b179).other W191 ne_b166_b179).other W192 ne_b166_b179).other W193 ne_b166_b179).other W194 ne_b166_b179).other W195 ne_b166_b179).other W196 ne_b166_b179).other W197 ne_b166_b179).other W198 ne_b166_b179)
      refine gAaload X198 H hZ e198 rfl c215 ⟨by decide, by decide⟩ (v := (.ref w_Comparison_LESS_OR_EQUAL)) rfl at_162 163 rfl ?_
      refine gIloadN X198 H at_163 rfl 164 rfl ?_
      refine gVirt X198 H hZ hown (hw _ wd18) (hw _ wd19) (hw _ wd21) (hw _ wd20) (by decide) (E_w_Comparison_LESS_OR_EQUAL.ext O198) (hw _ wd22) (hw _ wd3) (rm218_1 B p1 _ O198 (t32_tot hc199 (Ne.symm (Ne.symm hc209)))) e198 hml rfl pd1 rfl (W := 0) (argsL := [(.int p1)]) (rest := []) rfl rfl at_164 167 rfl ?_
      intro v219 T219 L219 hq219 X219
      obtain ⟨rfl, e219, rfl⟩ := hq219
      have N219 := Fr.app N198 (Fr.nil _)
      show Go _ _ _ _ (State.setTop _ (mkF _ 167 _ [(.int 0)]))
      refine gAloadN X219 H at_167 rfl rfl 168 rfl ?_
      refine gIload X219 H at_168 rfl 170 rfl ?_
      refine gIconst X219 H at_170 (z := 3) rfl 171 rfl ?_
      refine g_imul X219 H at_171 (z := 9) (by decide) 172 rfl ?_
      refine gIload X219 H at_172 rfl 174 rfl ?_
      refine g_iadd X219 H at_174 (z := 11) (by decide) 175 rfl ?_
      refine gZaload X219 H hZ e219 V198 ⟨by decide, by decide⟩ (v := (.int 0)) rfl at_175 176 rfl ?_
      refine gCmpN X219 H at_176 (by decide) 179 rfl ?_
      refine gIconst X219 H at_179 (z := 1) rfl 180 rfl ?_
      refine gGoto X219 H at_180 (by decide) 184 rfl ?_
      exact gRetN X219 H hlk hret (t := .boolean) (by simp) at_184 e219 ⟨rfl, N219⟩
theorem rm258_2 (B : Bg Z a0 w_Comparison_EQUAL w_Comparison_NOT_EQUAL w_Comparison_LESS w_Comparison_LESS_OR_EQUAL w_Comparison_GREATER w_Comparison_GREATER_OR_EQUAL) (h : Heap) (O : Ext Z.heap h) :
    Con l Z yM2 jdk_37_method_2_code 1 (some .int) ({ frames := 0, cells := 0, slots := 0, locals := 0 } : Room) #[(.ref w_Comparison_GREATER)] h (fun v h' L => v = some (.int 4) ∧ h' = h ∧ L = []) := by
  have hw := B.1
  obtain ⟨S_w_Comparison_EQUAL, E_w_Comparison_EQUAL, S_w_Comparison_NOT_EQUAL, E_w_Comparison_NOT_EQUAL, S_w_Comparison_LESS, E_w_Comparison_LESS, S_w_Comparison_LESS_OR_EQUAL, E_w_Comparison_LESS_OR_EQUAL, S_w_Comparison_GREATER, E_w_Comparison_GREATER, S_w_Comparison_GREATER_OR_EQUAL, E_w_Comparison_GREATER_OR_EQUAL, F_w_Comparison_EQUAL_ordinal, F_w_Comparison_LESS_ordinal, F_w_Comparison_GREATER_ordinal, F_w_Comparison_NOT_EQUAL_ordinal, F_w_Comparison_GREATER_OR_EQUAL_ordinal, F_w_Comparison_LESS_OR_EQUAL_ordinal⟩ := B.2
  refine Con.of (plainFor_of_name pn2) (Ls := #[vR w_Comparison_GREATER]) (fun m => by first | rfl | (simp [entryFrame, mkF, argsToLocals, Value.category]; done)) ?_
  intro p e s m below meth c T0 X0 H hml hZ hown hnm hret hlk e0
  refine gAloadN X0 H d2_0 rfl rfl 1 rfl ?_
  refine gGetF X0 H hZ hown (hw _ wd30) Via.refl e0 (F_w_Comparison_GREATER_ordinal.ext O) d2_1 4 rfl ?_
  intro T257 X257 e257
  exact gRetI X257 H hlk hret d2_4 e257 ⟨rfl, rfl, rfl⟩
theorem rm261_1 (B : Bg Z a0 w_Comparison_EQUAL w_Comparison_NOT_EQUAL w_Comparison_LESS w_Comparison_LESS_OR_EQUAL w_Comparison_GREATER w_Comparison_GREATER_OR_EQUAL) (vi0 : Int32) (h : Heap) (O : Ext Z.heap h) (hk260 : ¬ ((0 : Int32) < vi0)) :
    Con l Z yM1 prog_20_method_6_code 2 (some .boolean) ({ frames := 1, cells := 0, slots := 0, locals := 12 } : Room) #[(.ref w_Comparison_GREATER), (.int vi0)] h (fun v h' L => v = some (.int 0) ∧ h' = h ∧ L = []) := by
  have hw := B.1
  obtain ⟨S_w_Comparison_EQUAL, E_w_Comparison_EQUAL, S_w_Comparison_NOT_EQUAL, E_w_Comparison_NOT_EQUAL, S_w_Comparison_LESS, E_w_Comparison_LESS, S_w_Comparison_LESS_OR_EQUAL, E_w_Comparison_LESS_OR_EQUAL, S_w_Comparison_GREATER, E_w_Comparison_GREATER, S_w_Comparison_GREATER_OR_EQUAL, E_w_Comparison_GREATER_OR_EQUAL, F_w_Comparison_EQUAL_ordinal, F_w_Comparison_LESS_ordinal, F_w_Comparison_GREATER_ordinal, F_w_Comparison_NOT_EQUAL_ordinal, F_w_Comparison_GREATER_OR_EQUAL_ordinal, F_w_Comparison_LESS_OR_EQUAL_ordinal⟩ := B.2
  refine Con.of (plainFor_of_name pn1) (Ls := #[vR w_Comparison_GREATER, vI vi0]) (fun m => by first | rfl | (simp [entryFrame, mkF, argsToLocals, Value.category]; done)) ?_
  intro p e s m below meth c T0 X0 H hml hZ hown hnm hret hlk e0
  have N0 := Fr.nil Z.heap.size
  refine gAloadN X0 H d1_0 rfl rfl 1 rfl ?_
  refine gVirtualUp X0 H hZ hown (hw _ wd23) (hw _ wd24) (hw _ wd25) (hw _ wd27) (hw _ wd26) (by decide) (E_w_Comparison_GREATER.ext O) (hw _ wd29) (hw _ wd28) (rm258_2 B _ O) e0 hml rfl pd0 rfl (W := 0) (argsL := []) (rest := []) rfl rfl d1_1 4 rfl ?_
  intro v259 T259 L259 hq259 X259
  obtain ⟨rfl, e259, rfl⟩ := hq259
  have N259 := Fr.app N0 (Fr.nil _)
  show Go _ _ _ _ (State.setTop _ (mkF _ 4 _ [(.int 4)]))
  refine gTswIn X259 H d1_4 (by decide) (o := 84) (by decide) (by decide) 88 rfl ?_
  refine gIloadN X259 H d1_88 rfl 89 rfl ?_
  refine gIfY X259 H d1_89 ((if0 _ _).trans (flt hk260).2.2.2) (by decide) 96 rfl ?_
  refine gIconst X259 H d1_96 (z := 0) rfl 97 rfl ?_
  refine gGoto X259 H d1_97 (by decide) 109 rfl ?_
  exact gRetN X259 H hlk hret (t := .boolean) (by simp) d1_109 e259 ⟨rfl, rfl, rfl⟩
theorem rm273_1 (B : Bg Z a0 w_Comparison_EQUAL w_Comparison_NOT_EQUAL w_Comparison_LESS w_Comparison_LESS_OR_EQUAL w_Comparison_GREATER w_Comparison_GREATER_OR_EQUAL) (vi0 : Int32) (h : Heap) (O : Ext Z.heap h) (hk272 : (0 : Int32) < vi0) :
    Con l Z yM1 prog_20_method_6_code 2 (some .boolean) ({ frames := 1, cells := 0, slots := 0, locals := 12 } : Room) #[(.ref w_Comparison_GREATER), (.int vi0)] h (fun v h' L => v = some (.int 1) ∧ h' = h ∧ L = []) := by
  have hw := B.1
  obtain ⟨S_w_Comparison_EQUAL, E_w_Comparison_EQUAL, S_w_Comparison_NOT_EQUAL, E_w_Comparison_NOT_EQUAL, S_w_Comparison_LESS, E_w_Comparison_LESS, S_w_Comparison_LESS_OR_EQUAL, E_w_Comparison_LESS_OR_EQUAL, S_w_Comparison_GREATER, E_w_Comparison_GREATER, S_w_Comparison_GREATER_OR_EQUAL, E_w_Comparison_GREATER_OR_EQUAL, F_w_Comparison_EQUAL_ordinal, F_w_Comparison_LESS_ordinal, F_w_Comparison_GREATER_ordinal, F_w_Comparison_NOT_EQUAL_ordinal, F_w_Comparison_GREATER_OR_EQUAL_ordinal, F_w_Comparison_LESS_OR_EQUAL_ordinal⟩ := B.2
  refine Con.of (plainFor_of_name pn1) (Ls := #[vR w_Comparison_GREATER, vI vi0]) (fun m => by first | rfl | (simp [entryFrame, mkF, argsToLocals, Value.category]; done)) ?_
  intro p e s m below meth c T0 X0 H hml hZ hown hnm hret hlk e0
  have N0 := Fr.nil Z.heap.size
  refine gAloadN X0 H d1_0 rfl rfl 1 rfl ?_
  refine gVirtualUp X0 H hZ hown (hw _ wd23) (hw _ wd24) (hw _ wd25) (hw _ wd27) (hw _ wd26) (by decide) (E_w_Comparison_GREATER.ext O) (hw _ wd29) (hw _ wd28) (rm258_2 B _ O) e0 hml rfl pd0 rfl (W := 0) (argsL := []) (rest := []) rfl rfl d1_1 4 rfl ?_
  intro v271 T271 L271 hq271 X271
  obtain ⟨rfl, e271, rfl⟩ := hq271
  have N271 := Fr.app N0 (Fr.nil _)
  show Go _ _ _ _ (State.setTop _ (mkF _ 4 _ [(.int 4)]))
  refine gTswIn X271 H d1_4 (by decide) (o := 84) (by decide) (by decide) 88 rfl ?_
  refine gIloadN X271 H d1_88 rfl 89 rfl ?_
  refine gIfN X271 H d1_89 ((if0 _ _).trans (tlt hk272).2.2.2) 92 rfl ?_
  refine gIconst X271 H d1_92 (z := 1) rfl 93 rfl ?_
  refine gGoto X271 H d1_93 (by decide) 109 rfl ?_
  exact gRetN X271 H hlk hret (t := .boolean) (by simp) d1_109 e271 ⟨rfl, rfl, rfl⟩
theorem lawAll_4 (B : Bg Z a0 w_Comparison_EQUAL w_Comparison_NOT_EQUAL w_Comparison_LESS w_Comparison_LESS_OR_EQUAL w_Comparison_GREATER w_Comparison_GREATER_OR_EQUAL) (p0 : Int32) (p1 : Int32) (ha0 : ((p0 &&& (2147483647 : Int32)) % (6 : Int32)) = (4 : Int32)) :
    Con l Z x code maxLocals ret room_1 #[(.int p0), (.int p1)] Z.heap (fun v h' L => v = some (.int 1) ∧ Fr Z.heap.size L) := by
  have hw := B.1
  obtain ⟨S_w_Comparison_EQUAL, E_w_Comparison_EQUAL, S_w_Comparison_NOT_EQUAL, E_w_Comparison_NOT_EQUAL, S_w_Comparison_LESS, E_w_Comparison_LESS, S_w_Comparison_LESS_OR_EQUAL, E_w_Comparison_LESS_OR_EQUAL, S_w_Comparison_GREATER, E_w_Comparison_GREATER, S_w_Comparison_GREATER_OR_EQUAL, E_w_Comparison_GREATER_OR_EQUAL, F_w_Comparison_EQUAL_ordinal, F_w_Comparison_LESS_ordinal, F_w_Comparison_GREATER_ordinal, F_w_Comparison_NOT_EQUAL_ordinal, F_w_Comparison_GREATER_OR_EQUAL_ordinal, F_w_Comparison_LESS_OR_EQUAL_ordinal⟩ := B.2
  refine Con.of (plainFor_of_name pn0) (Ls := #[vI p0, vI p1, .unset, .unset, .unset, .unset]) (fun m => by first | rfl | (simp [entryFrame, mkF, argsToLocals, Value.category, maxLocals]; done)) ?_
  intro p e s m below meth c T0 X0 H hml hZ hown hnm hret hlk e0
  have O0 := extR Z.heap
  have M0 := Nat.le_refl Z.heap.size
  have N0 := Fr.nil Z.heap.size
  refine gBipush X0 H at_0 (z := 6) rfl 2 rfl ?_
  refine gNewR X0 H hZ hown (hw _ wd0) (hw _ wd1) e0 (by decide) (cap := 6) (by decide) (by decide) (vs := [.null, .null, .null, .null, .null, .null]) rfl (by decide) (by decide) at_2 5 rfl ?_
  intro T221 h221 b221 k221 X221 e221 z221 E221 V221 Q221
  have G_b221 := Nat.le_trans O0.1 (Nat.le_of_eq z221)
  have sz_b221 := Nat.le_trans M0 (Nat.le_of_eq z221)
  have O221 := extT O0 E221
  refine gDup X221 H at_5 rfl 6 rfl ?_
  refine gIconst X221 H at_6 (z := 0) rfl 7 rfl ?_
  refine gGetS X221 H hZ hown (hw _ wd2) e221 (S_w_Comparison_EQUAL.ext O221) at_7 10 rfl ?_
  intro T222 X222 e222
  refine gAastore X222 H hZ e222 rfl (stoV V221 Q221 (Ins.self (E_w_Comparison_EQUAL.ext O221))) V221 ⟨by decide, by decide⟩ (i := 0) rfl (Nat.le_of_ble_eq_true rfl) (vs' := [(.ref w_Comparison_EQUAL), .null, .null, .null, .null, .null]) rfl at_10 11 rfl ?_
  intro T223 h223 X223 e223 W223 V223
  have O223 := extW O221 W223 G_b221
  have N223 := Fr.snoc X223 N0 G_b221
  refine gDup X223 H at_11 rfl 12 rfl ?_
  refine gIconst X223 H at_12 (z := 1) rfl 13 rfl ?_
  refine gGetS X223 H hZ hown (hw _ wd6) e223 (S_w_Comparison_NOT_EQUAL.ext O223) at_13 16 rfl ?_
  intro T224 X224 e224
  refine gAastore X224 H hZ e224 rfl (stoV V223 Q221 (Ins.self (E_w_Comparison_NOT_EQUAL.ext O223))) V223 ⟨by decide, by decide⟩ (i := 1) rfl (Nat.le_of_ble_eq_true rfl) (vs' := [(.ref w_Comparison_EQUAL), (.ref w_Comparison_NOT_EQUAL), .null, .null, .null, .null]) rfl at_16 17 rfl ?_
  intro T225 h225 X225 e225 W225 V225
  have O225 := extW O223 W225 G_b221
  have N225 := Fr.snoc X225 N223 G_b221
  refine gDup X225 H at_17 rfl 18 rfl ?_
  refine gIconst X225 H at_18 (z := 2) rfl 19 rfl ?_
  refine gGetS X225 H hZ hown (hw _ wd8) e225 (S_w_Comparison_LESS.ext O225) at_19 22 rfl ?_
  intro T226 X226 e226
  refine gAastore X226 H hZ e226 rfl (stoV V225 Q221 (Ins.self (E_w_Comparison_LESS.ext O225))) V225 ⟨by decide, by decide⟩ (i := 2) rfl (Nat.le_of_ble_eq_true rfl) (vs' := [(.ref w_Comparison_EQUAL), (.ref w_Comparison_NOT_EQUAL), (.ref w_Comparison_LESS), .null, .null, .null]) rfl at_22 23 rfl ?_
  intro T227 h227 X227 e227 W227 V227
  have O227 := extW O225 W227 G_b221
  have N227 := Fr.snoc X227 N225 G_b221
  refine gDup X227 H at_23 rfl 24 rfl ?_
  refine gIconst X227 H at_24 (z := 3) rfl 25 rfl ?_
  refine gGetS X227 H hZ hown (hw _ wd10) e227 (S_w_Comparison_LESS_OR_EQUAL.ext O227) at_25 28 rfl ?_
  intro T228 X228 e228
  refine gAastore X228 H hZ e228 rfl (stoV V227 Q221 (Ins.self (E_w_Comparison_LESS_OR_EQUAL.ext O227))) V227 ⟨by decide, by decide⟩ (i := 3) rfl (Nat.le_of_ble_eq_true rfl) (vs' := [(.ref w_Comparison_EQUAL), (.ref w_Comparison_NOT_EQUAL), (.ref w_Comparison_LESS), (.ref w_Comparison_LESS_OR_EQUAL), .null, .null]) rfl at_28 29 rfl ?_
  intro T229 h229 X229 e229 W229 V229
  have O229 := extW O227 W229 G_b221
  have N229 := Fr.snoc X229 N227 G_b221
  refine gDup X229 H at_29 rfl 30 rfl ?_
  refine gIconst X229 H at_30 (z := 4) rfl 31 rfl ?_
  refine gGetS X229 H hZ hown (hw _ wd12) e229 (S_w_Comparison_GREATER.ext O229) at_31 34 rfl ?_
  intro T230 X230 e230
  refine gAastore X230 H hZ e230 rfl (stoV V229 Q221 (Ins.self (E_w_Comparison_GREATER.ext O229))) V229 ⟨by decide, by decide⟩ (i := 4) rfl (Nat.le_of_ble_eq_true rfl) (vs' := [(.ref w_Comparison_EQUAL), (.ref w_Comparison_NOT_EQUAL), (.ref w_Comparison_LESS), (.ref w_Comparison_LESS_OR_EQUAL), (.ref w_Comparison_GREATER), .null]) rfl at_34 35 rfl ?_
  intro T231 h231 X231 e231 W231 V231
  have O231 := extW O229 W231 G_b221
  have N231 := Fr.snoc X231 N229 G_b221
  refine gDup X231 H at_35 rfl 36 rfl ?_
  refine gIconst X231 H at_36 (z := 5) rfl 37 rfl ?_
  refine gGetS X231 H hZ hown (hw _ wd14) e231 (S_w_Comparison_GREATER_OR_EQUAL.ext O231) at_37 40 rfl ?_
  intro T232 X232 e232
  refine gAastore X232 H hZ e232 rfl (stoV V231 Q221 (Ins.self (E_w_Comparison_GREATER_OR_EQUAL.ext O231))) V231 ⟨by decide, by decide⟩ (i := 5) rfl (Nat.le_of_ble_eq_true rfl) (vs' := [(.ref w_Comparison_EQUAL), (.ref w_Comparison_NOT_EQUAL), (.ref w_Comparison_LESS), (.ref w_Comparison_LESS_OR_EQUAL), (.ref w_Comparison_GREATER), (.ref w_Comparison_GREATER_OR_EQUAL)]) rfl at_40 41 rfl ?_
  intro T233 h233 X233 e233 W233 V233
  have O233 := extW O231 W233 G_b221
  have N233 := Fr.snoc X233 N231 G_b221
  refine gAstoreN X233 H at_41 rfl (Ls' := #[vI p0, vI p1, vR b221, .unset, .unset, .unset]) rfl 42 rfl ?_
  refine gBipush X233 H at_42 (z := 18) rfl 44 rfl ?_
  refine gNewP X233 H hZ (aty := .boolean) (hw _ wd16) e233 (by decide) (cap := 18) (by decide) (by decide) (vs := [(.int 0), (.int 0), (.int 0), (.int 0), (.int 0), (.int 0), (.int 0), (.int 0), (.int 0), (.int 0), (.int 0), (.int 0), (.int 0), (.int 0), (.int 0), (.int 0), (.int 0), (.int 0)]) rfl (by decide) (by decide) at_44 46 rfl ?_
  intro T234 h234 b234 k234 X234 e234 z234 E234 V234
  have M235 := (leW (leW (leW (leW (leW (leW (Nat.le_trans M0 E221.1) W223) W225) W227) W229) W231) W233)
  have G_b234 := Nat.le_trans O233.1 (Nat.le_of_eq z234)
  have sz_b234 := Nat.le_trans M235 (Nat.le_of_eq z234)
  have ne_b221_b234 : b221 ≠ b234 := neB V233.lt (Nat.le_of_eq z234)
  have O234 := extT O233 E234
  refine gDup X234 H at_46 rfl 47 rfl ?_
  refine gIconst X234 H at_47 (z := 0) rfl 48 rfl ?_
  refine gIconst X234 H at_48 (z := 0) rfl 49 rfl ?_
  refine gZastore X234 H hZ e234 V234 ⟨by decide, by decide⟩ (i := 0) rfl (Nat.le_of_ble_eq_true rfl) (vs' := [(.int 0), (.int 0), (.int 0), (.int 0), (.int 0), (.int 0), (.int 0), (.int 0), (.int 0), (.int 0), (.int 0), (.int 0), (.int 0), (.int 0), (.int 0), (.int 0), (.int 0), (.int 0)]) rfl at_49 50 rfl ?_
  intro T236 h236 X236 e236 W236 V236
  have O236 := extW O234 W236 G_b234
  have N236 := Fr.snoc X236 N233 G_b234
  refine gDup X236 H at_50 rfl 51 rfl ?_
  refine gIconst X236 H at_51 (z := 1) rfl 52 rfl ?_
  refine gIconst X236 H at_52 (z := 1) rfl 53 rfl ?_
  refine gZastore X236 H hZ e236 V236 ⟨by decide, by decide⟩ (i := 1) rfl (Nat.le_of_ble_eq_true rfl) (vs' := [(.int 0), (.int 1), (.int 0), (.int 0), (.int 0), (.int 0), (.int 0), (.int 0), (.int 0), (.int 0), (.int 0), (.int 0), (.int 0), (.int 0), (.int 0), (.int 0), (.int 0), (.int 0)]) rfl at_53 54 rfl ?_
  intro T237 h237 X237 e237 W237 V237
  have O237 := extW O236 W237 G_b234
  have N237 := Fr.snoc X237 N236 G_b234
  refine gDup X237 H at_54 rfl 55 rfl ?_
  refine gIconst X237 H at_55 (z := 2) rfl 56 rfl ?_
  refine gIconst X237 H at_56 (z := 0) rfl 57 rfl ?_
  refine gZastore X237 H hZ e237 V237 ⟨by decide, by decide⟩ (i := 2) rfl (Nat.le_of_ble_eq_true rfl) (vs' := [(.int 0), (.int 1), (.int 0), (.int 0), (.int 0), (.int 0), (.int 0), (.int 0), (.int 0), (.int 0), (.int 0), (.int 0), (.int 0), (.int 0), (.int 0), (.int 0), (.int 0), (.int 0)]) rfl at_57 58 rfl ?_
  intro T238 h238 X238 e238 W238 V238
  have O238 := extW O237 W238 G_b234
  have N238 := Fr.snoc X238 N237 G_b234
  refine gDup X238 H at_58 rfl 59 rfl ?_
  refine gIconst X238 H at_59 (z := 3) rfl 60 rfl ?_
  refine gIconst X238 H at_60 (z := 1) rfl 61 rfl ?_
  refine gZastore X238 H hZ e238 V238 ⟨by decide, by decide⟩ (i := 3) rfl (Nat.le_of_ble_eq_true rfl) (vs' := [(.int 0), (.int 1), (.int 0), (.int 1), (.int 0), (.int 0), (.int 0), (.int 0), (.int 0), (.int 0), (.int 0), (.int 0), (.int 0), (.int 0), (.int 0), (.int 0), (.int 0), (.int 0)]) rfl at_61 62 rfl ?_
  intro T239 h239 X239 e239 W239 V239
  have O239 := extW O238 W239 G_b234
  have N239 := Fr.snoc X239 N238 G_b234
  refine gDup X239 H at_62 rfl 63 rfl ?_
  refine gIconst X239 H at_63 (z := 4) rfl 64 rfl ?_
  refine gIconst X239 H at_64 (z := 0) rfl 65 rfl ?_
  refine gZastore X239 H hZ e239 V239 ⟨by decide, by decide⟩ (i := 4) rfl (Nat.le_of_ble_eq_true rfl) (vs' := [(.int 0), (.int 1), (.int 0), (.int 1), (.int 0), (.int 0), (.int 0), (.int 0), (.int 0), (.int 0), (.int 0), (.int 0), (.int 0), (.int 0), (.int 0), (.int 0), (.int 0), (.int 0)]) rfl at_65 66 rfl ?_
  intro T240 h240 X240 e240 W240 V240
  have O240 := extW O239 W240 G_b234
  have N240 := Fr.snoc X240 N239 G_b234
  refine gDup X240 H at_66 rfl 67 rfl ?_
  refine gIconst X240 H at_67 (z := 5) rfl 68 rfl ?_
  refine gIconst X240 H at_68 (z := 1) rfl 69 rfl ?_
  refine gZastore X240 H hZ e240 V240 ⟨by decide, by decide⟩ (i := 5) rfl (Nat.le_of_ble_eq_true rfl) (vs' := [(.int 0), (.int 1), (.int 0), (.int 1), (.int 0), (.int 1), (.int 0), (.int 0), (.int 0), (.int 0), (.int 0), (.int 0), (.int 0), (.int 0), (.int 0), (.int 0), (.int 0), (.int 0)]) rfl at_69 70 rfl ?_
  intro T241 h241 X241 e241 W241 V241
  have O241 := extW O240 W241 G_b234
  have N241 := Fr.snoc X241 N240 G_b234
  refine gDup X241 H at_70 rfl 71 rfl ?_
  refine gBipush X241 H at_71 (z := 6) rfl 73 rfl ?_
  refine gIconst X241 H at_73 (z := 1) rfl 74 rfl ?_
  refine gZastore X241 H hZ e241 V241 ⟨by decide, by decide⟩ (i := 6) rfl (Nat.le_of_ble_eq_true rfl) (vs' := [(.int 0), (.int 1), (.int 0), (.int 1), (.int 0), (.int 1), (.int 1), (.int 0), (.int 0), (.int 0), (.int 0), (.int 0), (.int 0), (.int 0), (.int 0), (.int 0), (.int 0), (.int 0)]) rfl at_74 75 rfl ?_
  intro T242 h242 X242 e242 W242 V242
  have O242 := extW O241 W242 G_b234
  have N242 := Fr.snoc X242 N241 G_b234
  refine gDup X242 H at_75 rfl 76 rfl ?_
  refine gBipush X242 H at_76 (z := 7) rfl 78 rfl ?_
  refine gIconst X242 H at_78 (z := 0) rfl 79 rfl ?_
  refine gZastore X242 H hZ e242 V242 ⟨by decide, by decide⟩ (i := 7) rfl (Nat.le_of_ble_eq_true rfl) (vs' := [(.int 0), (.int 1), (.int 0), (.int 1), (.int 0), (.int 1), (.int 1), (.int 0), (.int 0), (.int 0), (.int 0), (.int 0), (.int 0), (.int 0), (.int 0), (.int 0), (.int 0), (.int 0)]) rfl at_79 80 rfl ?_
  intro T243 h243 X243 e243 W243 V243
  have O243 := extW O242 W243 G_b234
  have N243 := Fr.snoc X243 N242 G_b234
  refine gDup X243 H at_80 rfl 81 rfl ?_
  refine gBipush X243 H at_81 (z := 8) rfl 83 rfl ?_
  refine gIconst X243 H at_83 (z := 0) rfl 84 rfl ?_
  refine gZastore X243 H hZ e243 V243 ⟨by decide, by decide⟩ (i := 8) rfl (Nat.le_of_ble_eq_true rfl) (vs' := [(.int 0), (.int 1), (.int 0), (.int 1), (.int 0), (.int 1), (.int 1), (.int 0), (.int 0), (.int 0), (.int 0), (.int 0), (.int 0), (.int 0), (.int 0), (.int 0), (.int 0), (.int 0)]) rfl at_84 85 rfl ?_
  intro T244 h244 X244 e244 W244 V244
  have O244 := extW O243 W244 G_b234
  have N244 := Fr.snoc X244 N243 G_b234
  refine gDup X244 H at_85 rfl 86 rfl ?_
  refine gBipush X244 H at_86 (z := 9) rfl 88 rfl ?_
  refine gIconst X244 H at_88 (z := 1) rfl 89 rfl ?_
  refine gZastore X244 H hZ e244 V244 ⟨by decide, by decide⟩ (i := 9) rfl (Nat.le_of_ble_eq_true rfl) (vs' := [(.int 0), (.int 1), (.int 0), (.int 1), (.int 0), (.int 1), (.int 1), (.int 0), (.int 0), (.int 1), (.int 0), (.int 0), (.int 0), (.int 0), (.int 0), (.int 0), (.int 0), (.int 0)]) rfl at_89 90 rfl ?_
  intro T245 h245 X245 e245 W245 V245
  have O245 := extW O244 W245 G_b234
  have N245 := Fr.snoc X245 N244 G_b234
  refine gDup X245 H at_90 rfl 91 rfl ?_
  refine gBipush X245 H at_91 (z := 10) rfl 93 rfl ?_
  refine gIconst X245 H at_93 (z := 1) rfl 94 rfl ?_
  refine gZastore X245 H hZ e245 V245 ⟨by decide, by decide⟩ (i := 10) rfl (Nat.le_of_ble_eq_true rfl) (vs' := [(.int 0), (.int 1), (.int 0), (.int 1), (.int 0), (.int 1), (.int 1), (.int 0), (.int 0), (.int 1), (.int 1), (.int 0), (.int 0), (.int 0), (.int 0), (.int 0), (.int 0), (.int 0)]) rfl at_94 95 rfl ?_
  intro T246 h246 X246 e246 W246 V246
  have O246 := extW O245 W246 G_b234
  have N246 := Fr.snoc X246 N245 G_b234
  refine gDup X246 H at_95 rfl 96 rfl ?_
  refine gBipush X246 H at_96 (z := 11) rfl 98 rfl ?_
  refine gIconst X246 H at_98 (z := 0) rfl 99 rfl ?_
  refine gZastore X246 H hZ e246 V246 ⟨by decide, by decide⟩ (i := 11) rfl (Nat.le_of_ble_eq_true rfl) (vs' := [(.int 0), (.int 1), (.int 0), (.int 1), (.int 0), (.int 1), (.int 1), (.int 0), (.int 0), (.int 1), (.int 1), (.int 0), (.int 0), (.int 0), (.int 0), (.int 0), (.int 0), (.int 0)]) rfl at_99 100 rfl ?_
  intro T247 h247 X247 e247 W247 V247
  have O247 := extW O246 W247 G_b234
  have N247 := Fr.snoc X247 N246 G_b234
  refine gDup X247 H at_100 rfl 101 rfl ?_
  refine gBipush X247 H at_101 (z := 12) rfl 103 rfl ?_
  refine gIconst X247 H at_103 (z := 0) rfl 104 rfl ?_
  refine gZastore X247 H hZ e247 V247 ⟨by decide, by decide⟩ (i := 12) rfl (Nat.le_of_ble_eq_true rfl) (vs' := [(.int 0), (.int 1), (.int 0), (.int 1), (.int 0), (.int 1), (.int 1), (.int 0), (.int 0), (.int 1), (.int 1), (.int 0), (.int 0), (.int 0), (.int 0), (.int 0), (.int 0), (.int 0)]) rfl at_104 105 rfl ?_
  intro T248 h248 X248 e248 W248 V248
  have O248 := extW O247 W248 G_b234
  have N248 := Fr.snoc X248 N247 G_b234
  refine gDup X248 H at_105 rfl 106 rfl ?_
  refine gBipush X248 H at_106 (z := 13) rfl 108 rfl ?_
  refine gIconst X248 H at_108 (z := 0) rfl 109 rfl ?_
  refine gZastore X248 H hZ e248 V248 ⟨by decide, by decide⟩ (i := 13) rfl (Nat.le_of_ble_eq_true rfl) (vs' := [(.int 0), (.int 1), (.int 0), (.int 1), (.int 0), (.int 1), (.int 1), (.int 0), (.int 0), (.int 1), (.int 1), (.int 0), (.int 0), (.int 0), (.int 0), (.int 0), (.int 0), (.int 0)]) rfl at_109 110 rfl ?_
  intro T249 h249 X249 e249 W249 V249
  have O249 := extW O248 W249 G_b234
  have N249 := Fr.snoc X249 N248 G_b234
  refine gDup X249 H at_110 rfl 111 rfl ?_
  refine gBipush X249 H at_111 (z := 14) rfl 113 rfl ?_
  refine gIconst X249 H at_113 (z := 1) rfl 114 rfl ?_
  refine gZastore X249 H hZ e249 V249 ⟨by decide, by decide⟩ (i := 14) rfl (Nat.le_of_ble_eq_true rfl) (vs' := [(.int 0), (.int 1), (.int 0), (.int 1), (.int 0), (.int 1), (.int 1), (.int 0), (.int 0), (.int 1), (.int 1), (.int 0), (.int 0), (.int 0), (.int 1), (.int 0), (.int 0), (.int 0)]) rfl at_114 115 rfl ?_
  intro T250 h250 X250 e250 W250 V250
  have O250 := extW O249 W250 G_b234
  have N250 := Fr.snoc X250 N249 G_b234
  refine gDup X250 H at_115 rfl 116 rfl ?_
  refine gBipush X250 H at_116 (z := 15) rfl 118 rfl ?_
  refine gIconst X250 H at_118 (z := 0) rfl 119 rfl ?_
  refine gZastore X250 H hZ e250 V250 ⟨by decide, by decide⟩ (i := 15) rfl (Nat.le_of_ble_eq_true rfl) (vs' := [(.int 0), (.int 1), (.int 0), (.int 1), (.int 0), (.int 1), (.int 1), (.int 0), (.int 0), (.int 1), (.int 1), (.int 0), (.int 0), (.int 0), (.int 1), (.int 0), (.int 0), (.int 0)]) rfl at_119 120 rfl ?_
  intro T251 h251 X251 e251 W251 V251
  have O251 := extW O250 W251 G_b234
  have N251 := Fr.snoc X251 N250 G_b234
  refine gDup X251 H at_120 rfl 121 rfl ?_
  refine gBipush X251 H at_121 (z := 16) rfl 123 rfl ?_
  refine gIconst X251 H at_123 (z := 1) rfl 124 rfl ?_
  refine gZastore X251 H hZ e251 V251 ⟨by decide, by decide⟩ (i := 16) rfl (Nat.le_of_ble_eq_true rfl) (vs' := [(.int 0), (.int 1), (.int 0), (.int 1), (.int 0), (.int 1), (.int 1), (.int 0), (.int 0), (.int 1), (.int 1), (.int 0), (.int 0), (.int 0), (.int 1), (.int 0), (.int 1), (.int 0)]) rfl at_124 125 rfl ?_
  intro T252 h252 X252 e252 W252 V252
  have O252 := extW O251 W252 G_b234
  have N252 := Fr.snoc X252 N251 G_b234
  refine gDup X252 H at_125 rfl 126 rfl ?_
  refine gBipush X252 H at_126 (z := 17) rfl 128 rfl ?_
  refine gIconst X252 H at_128 (z := 1) rfl 129 rfl ?_
  refine gZastore X252 H hZ e252 V252 ⟨by decide, by decide⟩ (i := 17) rfl (Nat.le_of_ble_eq_true rfl) (vs' := [(.int 0), (.int 1), (.int 0), (.int 1), (.int 0), (.int 1), (.int 1), (.int 0), (.int 0), (.int 1), (.int 1), (.int 0), (.int 0), (.int 0), (.int 1), (.int 0), (.int 1), (.int 1)]) rfl at_129 130 rfl ?_
  intro T253 h253 X253 e253 W253 V253
  have O253 := extW O252 W253 G_b234
  have N253 := Fr.snoc X253 N252 G_b234
  refine gAstoreN X253 H at_130 rfl (Ls' := #[vI p0, vI p1, vR b221, vR b234, .unset, .unset]) rfl 131 rfl ?_
  refine gIloadN X253 H at_131 rfl 132 rfl ?_
  refine gLdc X253 H hZ hown (hw _ wd17) at_132 134 rfl ?_
  refine g_iand X253 H at_134 (z := (p0 &&& (2147483647 : Int32))) rfl 135 rfl ?_
  refine gBipush X253 H at_135 (z := 6) rfl 137 rfl ?_
  refine g_irem X253 H at_137 (by decide) (z := 4) ha0 138 rfl ?_
  refine gIstore X253 H at_138 (Ls' := #[vI p0, vI p1, vR b221, vR b234, vI 4, .unset]) rfl 140 rfl ?_
  refine gIloadN X253 H at_140 rfl 141 rfl ?_
  by_cases hc254 : p1 < (0 : Int32)
  · refine gIfN X253 H at_141 ((if0 _ _).trans (tlt hc254).2.1) 144 rfl ?_
    refine gIconst X253 H at_144 (z := 0) rfl 145 rfl ?_
    refine gGoto X253 H at_145 (by decide) 157 rfl ?_
    refine gIstore X253 H at_157 (Ls' := #[vI p0, vI p1, vR b221, vR b234, vI 4, vI 0]) rfl 159 rfl ?_
    refine gAloadN X253 H at_159 rfl rfl 160 rfl ?_
    refine gIload X253 H at_160 rfl 162 rfl ?_
    have c256 := (((((((((((((((((((V233.ext E234).other W236 ne_b221_b234).other W237 ne_b221_b234).other W238 ne_b221_b234).other W239 ne_b221_b234).other W240 ne_b221_b234).other W241 ne_b221_b234).other W242 ne_b221_b234).other W243 ne_b221_b234).other W244 ne_b221_b234).other W245 ne_b221_b234).other W246 ne_b221_b234).other W247 ne_b221_b234).other W248 ne_b221_b234).other W249 ne_b221_b234).other W250 ne_b221_b234).other W251 ne_b221_b234).other W252 ne_b221_b234).other W253 ne_b221_b234)
    refine gAaload X253 H hZ e253 rfl c256 ⟨by decide, by decide⟩ (v := (.ref w_Comparison_GREATER)) rfl at_162 163 rfl ?_
    refine gIloadN X253 H at_163 rfl 164 rfl ?_
    refine gVirt X253 H hZ hown (hw _ wd18) (hw _ wd19) (hw _ wd21) (hw _ wd20) (by decide) (E_w_Comparison_GREATER.ext O253) (hw _ wd22) (hw _ wd3) (rm261_1 B p1 _ O253 (t32_as hc254)) e253 hml rfl pd1 rfl (W := 0) (argsL := [(.int p1)]) (rest := []) rfl rfl at_164 167 rfl ?_
    intro v262 T262 L262 hq262 X262
    obtain ⟨rfl, e262, rfl⟩ := hq262
    have N262 := Fr.app N253 (Fr.nil _)
    show Go _ _ _ _ (State.setTop _ (mkF _ 167 _ [(.int 0)]))
    refine gAloadN X262 H at_167 rfl rfl 168 rfl ?_
    refine gIload X262 H at_168 rfl 170 rfl ?_
    refine gIconst X262 H at_170 (z := 3) rfl 171 rfl ?_
    refine g_imul X262 H at_171 (z := 12) (by decide) 172 rfl ?_
    refine gIload X262 H at_172 rfl 174 rfl ?_
    refine g_iadd X262 H at_174 (z := 12) (by decide) 175 rfl ?_
    refine gZaload X262 H hZ e262 V253 ⟨by decide, by decide⟩ (v := (.int 0)) rfl at_175 176 rfl ?_
    refine gCmpN X262 H at_176 (by decide) 179 rfl ?_
    refine gIconst X262 H at_179 (z := 1) rfl 180 rfl ?_
    refine gGoto X262 H at_180 (by decide) 184 rfl ?_
    exact gRetN X262 H hlk hret (t := .boolean) (by simp) at_184 e262 ⟨rfl, N262⟩
  · refine gIfY X253 H at_141 ((if0 _ _).trans (flt hc254).2.1) (by decide) 148 rfl ?_
    refine gIloadN X253 H at_148 rfl 149 rfl ?_
    by_cases hc264 : p1 = (0 : Int32)
    · refine gIfN X253 H at_149 ((if0 _ _).trans (teq hc264).2) 152 rfl ?_
      refine gIconst X253 H at_152 (z := 1) rfl 153 rfl ?_
      refine gGoto X253 H at_153 (by decide) 157 rfl ?_
      refine gIstore X253 H at_157 (Ls' := #[vI p0, vI p1, vR b221, vR b234, vI 4, vI 1]) rfl 159 rfl ?_
      refine gAloadN X253 H at_159 rfl rfl 160 rfl ?_
      refine gIload X253 H at_160 rfl 162 rfl ?_
      have c266 := (((((((((((((((((((V233.ext E234).other W236 ne_b221_b234).other W237 ne_b221_b234).other W238 ne_b221_b234).other W239 ne_b221_b234).other W240 ne_b221_b234).other W241 ne_b221_b234).other W242 ne_b221_b234).other W243 ne_b221_b234).other W244 ne_b221_b234).other W245 ne_b221_b234).other W246 ne_b221_b234).other W247 ne_b221_b234).other W248 ne_b221_b234).other W249 ne_b221_b234).other W250 ne_b221_b234).other W251 ne_b221_b234).other W252 ne_b221_b234).other W253 ne_b221_b234)
      refine gAaload X253 H hZ e253 rfl c266 ⟨by decide, by decide⟩ (v := (.ref w_Comparison_GREATER)) rfl at_162 163 rfl ?_
      refine gIloadN X253 H at_163 rfl 164 rfl ?_
      refine gVirt X253 H hZ hown (hw _ wd18) (hw _ wd19) (hw _ wd21) (hw _ wd20) (by decide) (E_w_Comparison_GREATER.ext O253) (hw _ wd22) (hw _ wd3) (rm261_1 B p1 _ O253 (t32_ir (Eq.symm hc264))) e253 hml rfl pd1 rfl (W := 0) (argsL := [(.int p1)]) (rest := []) rfl rfl at_164 167 rfl ?_
      intro v267 T267 L267 hq267 X267
      obtain ⟨rfl, e267, rfl⟩ := hq267
      have N267 := Fr.app N253 (Fr.nil _)
      show Go _ _ _ _ (State.setTop _ (mkF _ 167 _ [(.int 0)]))
      refine gAloadN X267 H at_167 rfl rfl 168 rfl ?_
      refine gIload X267 H at_168 rfl 170 rfl ?_
      refine gIconst X267 H at_170 (z := 3) rfl 171 rfl ?_
      refine g_imul X267 H at_171 (z := 12) (by decide) 172 rfl ?_
      refine gIload X267 H at_172 rfl 174 rfl ?_
      refine g_iadd X267 H at_174 (z := 13) (by decide) 175 rfl ?_
      refine gZaload X267 H hZ e267 V253 ⟨by decide, by decide⟩ (v := (.int 0)) rfl at_175 176 rfl ?_
      refine gCmpN X267 H at_176 (by decide) 179 rfl ?_
      refine gIconst X267 H at_179 (z := 1) rfl 180 rfl ?_
      refine gGoto X267 H at_180 (by decide) 184 rfl ?_
      exact gRetN X267 H hlk hret (t := .boolean) (by simp) at_184 e267 ⟨rfl, N267⟩
    · refine gIfY X253 H at_149 ((if0 _ _).trans (feq hc264).2) (by decide) 156 rfl ?_
      refine gIconst X253 H at_156 (z := 2) rfl 157 rfl ?_
      refine gIstore X253 H at_157 (Ls' := #[vI p0, vI p1, vR b221, vR b234, vI 4, vI 2]) rfl 159 rfl ?_
      refine gAloadN X253 H at_159 rfl rfl 160 rfl ?_
      refine gIload X253 H at_160 rfl 162 rfl ?_
      have c270 := (((((((((((((((((((V233.ext E234).other W236 ne_b221_b234).other W237 ne_b221_b234).other W238 ne_b221_b234).other W239 ne_b221_b234).other W240 ne_b221_b234).other W241 ne_b221_b234).other W242 ne_b221_b234).other W243 ne_b221_b234).other W244 ne_b221_b234).other W245 ne_b221_b234).other W246 ne_b221_b234).other W247 ne_b221_b234).other W248 ne_b221_b234).other W249 ne_b221_b234).other W250 ne_b221_b234).other W251 ne_b221_b234).other W252 ne_b221_b234).other W253 ne_b221_b234)
      refine gAaload X253 H hZ e253 rfl c270 ⟨by decide, by decide⟩ (v := (.ref w_Comparison_GREATER)) rfl at_162 163 rfl ?_
      refine gIloadN X253 H at_163 rfl 164 rfl ?_
      refine gVirt X253 H hZ hown (hw _ wd18) (hw _ wd19) (hw _ wd21) (hw _ wd20) (by decide) (E_w_Comparison_GREATER.ext O253) (hw _ wd22) (hw _ wd3) (rm273_1 B p1 _ O253 (t32_tot hc254 (Ne.symm (Ne.symm hc264)))) e253 hml rfl pd1 rfl (W := 0) (argsL := [(.int p1)]) (rest := []) rfl rfl at_164 167 rfl ?_
      intro v274 T274 L274 hq274 X274
      obtain ⟨rfl, e274, rfl⟩ := hq274
      have N274 := Fr.app N253 (Fr.nil _)
      show Go _ _ _ _ (State.setTop _ (mkF _ 167 _ [(.int 1)]))
      refine gAloadN X274 H at_167 rfl rfl 168 rfl ?_
      refine gIload X274 H at_168 rfl 170 rfl ?_
      refine gIconst X274 H at_170 (z := 3) rfl 171 rfl ?_
      refine g_imul X274 H at_171 (z := 12) (by decide) 172 rfl ?_
      refine gIload X274 H at_172 rfl 174 rfl ?_
      refine g_iadd X274 H at_174 (z := 14) (by decide) 175 rfl ?_
      refine gZaload X274 H hZ e274 V253 ⟨by decide, by decide⟩ (v := (.int 1)) rfl at_175 176 rfl ?_
      refine gCmpN X274 H at_176 (by decide) 179 rfl ?_
      refine gIconst X274 H at_179 (z := 1) rfl 180 rfl ?_
      refine gGoto X274 H at_180 (by decide) 184 rfl ?_
      exact gRetN X274 H hlk hret (t := .boolean) (by simp) at_184 e274 ⟨rfl, N274⟩
theorem rm313_2 (B : Bg Z a0 w_Comparison_EQUAL w_Comparison_NOT_EQUAL w_Comparison_LESS w_Comparison_LESS_OR_EQUAL w_Comparison_GREATER w_Comparison_GREATER_OR_EQUAL) (h : Heap) (O : Ext Z.heap h) :
    Con l Z yM2 jdk_37_method_2_code 1 (some .int) ({ frames := 0, cells := 0, slots := 0, locals := 0 } : Room) #[(.ref w_Comparison_GREATER_OR_EQUAL)] h (fun v h' L => v = some (.int 5) ∧ h' = h ∧ L = []) := by
  have hw := B.1
  obtain ⟨S_w_Comparison_EQUAL, E_w_Comparison_EQUAL, S_w_Comparison_NOT_EQUAL, E_w_Comparison_NOT_EQUAL, S_w_Comparison_LESS, E_w_Comparison_LESS, S_w_Comparison_LESS_OR_EQUAL, E_w_Comparison_LESS_OR_EQUAL, S_w_Comparison_GREATER, E_w_Comparison_GREATER, S_w_Comparison_GREATER_OR_EQUAL, E_w_Comparison_GREATER_OR_EQUAL, F_w_Comparison_EQUAL_ordinal, F_w_Comparison_LESS_ordinal, F_w_Comparison_GREATER_ordinal, F_w_Comparison_NOT_EQUAL_ordinal, F_w_Comparison_GREATER_OR_EQUAL_ordinal, F_w_Comparison_LESS_OR_EQUAL_ordinal⟩ := B.2
  refine Con.of (plainFor_of_name pn2) (Ls := #[vR w_Comparison_GREATER_OR_EQUAL]) (fun m => by first | rfl | (simp [entryFrame, mkF, argsToLocals, Value.category]; done)) ?_
  intro p e s m below meth c T0 X0 H hml hZ hown hnm hret hlk e0
  refine gAloadN X0 H d2_0 rfl rfl 1 rfl ?_
  refine gGetF X0 H hZ hown (hw _ wd30) Via.refl e0 (F_w_Comparison_GREATER_OR_EQUAL_ordinal.ext O) d2_1 4 rfl ?_
  intro T312 X312 e312
  exact gRetI X312 H hlk hret d2_4 e312 ⟨rfl, rfl, rfl⟩
theorem rm316_1 (B : Bg Z a0 w_Comparison_EQUAL w_Comparison_NOT_EQUAL w_Comparison_LESS w_Comparison_LESS_OR_EQUAL w_Comparison_GREATER w_Comparison_GREATER_OR_EQUAL) (vi0 : Int32) (h : Heap) (O : Ext Z.heap h) (hk315 : vi0 < (0 : Int32)) :
    Con l Z yM1 prog_20_method_6_code 2 (some .boolean) ({ frames := 1, cells := 0, slots := 0, locals := 12 } : Room) #[(.ref w_Comparison_GREATER_OR_EQUAL), (.int vi0)] h (fun v h' L => v = some (.int 0) ∧ h' = h ∧ L = []) := by
  have hw := B.1
  obtain ⟨S_w_Comparison_EQUAL, E_w_Comparison_EQUAL, S_w_Comparison_NOT_EQUAL, E_w_Comparison_NOT_EQUAL, S_w_Comparison_LESS, E_w_Comparison_LESS, S_w_Comparison_LESS_OR_EQUAL, E_w_Comparison_LESS_OR_EQUAL, S_w_Comparison_GREATER, E_w_Comparison_GREATER, S_w_Comparison_GREATER_OR_EQUAL, E_w_Comparison_GREATER_OR_EQUAL, F_w_Comparison_EQUAL_ordinal, F_w_Comparison_LESS_ordinal, F_w_Comparison_GREATER_ordinal, F_w_Comparison_NOT_EQUAL_ordinal, F_w_Comparison_GREATER_OR_EQUAL_ordinal, F_w_Comparison_LESS_OR_EQUAL_ordinal⟩ := B.2
  refine Con.of (plainFor_of_name pn1) (Ls := #[vR w_Comparison_GREATER_OR_EQUAL, vI vi0]) (fun m => by first | rfl | (simp [entryFrame, mkF, argsToLocals, Value.category]; done)) ?_
  intro p e s m below meth c T0 X0 H hml hZ hown hnm hret hlk e0
  have N0 := Fr.nil Z.heap.size
  refine gAloadN X0 H d1_0 rfl rfl 1 rfl ?_
  refine gVirtualUp X0 H hZ hown (hw _ wd23) (hw _ wd24) (hw _ wd25) (hw _ wd27) (hw _ wd26) (by decide) (E_w_Comparison_GREATER_OR_EQUAL.ext O) (hw _ wd29) (hw _ wd28) (rm313_2 B _ O) e0 hml rfl pd0 rfl (W := 0) (argsL := []) (rest := []) rfl rfl d1_1 4 rfl ?_
  intro v314 T314 L314 hq314 X314
  obtain ⟨rfl, e314, rfl⟩ := hq314
  have N314 := Fr.app N0 (Fr.nil _)
  show Go _ _ _ _ (State.setTop _ (mkF _ 4 _ [(.int 5)]))
  refine gTswOut X314 H d1_4 (by decide) (by decide) 100 rfl ?_
  refine gIloadN X314 H d1_100 rfl 101 rfl ?_
  refine gIfY X314 H d1_101 ((if0 _ _).trans (tlt hk315).1) (by decide) 108 rfl ?_
  refine gIconst X314 H d1_108 (z := 0) rfl 109 rfl ?_
  exact gRetN X314 H hlk hret (t := .boolean) (by simp) d1_109 e314 ⟨rfl, rfl, rfl⟩
theorem rm324_1 (B : Bg Z a0 w_Comparison_EQUAL w_Comparison_NOT_EQUAL w_Comparison_LESS w_Comparison_LESS_OR_EQUAL w_Comparison_GREATER w_Comparison_GREATER_OR_EQUAL) (vi0 : Int32) (h : Heap) (O : Ext Z.heap h) (hk323 : ¬ (vi0 < (0 : Int32))) :
    Con l Z yM1 prog_20_method_6_code 2 (some .boolean) ({ frames := 1, cells := 0, slots := 0, locals := 12 } : Room) #[(.ref w_Comparison_GREATER_OR_EQUAL), (.int vi0)] h (fun v h' L => v = some (.int 1) ∧ h' = h ∧ L = []) := by
  have hw := B.1
  obtain ⟨S_w_Comparison_EQUAL, E_w_Comparison_EQUAL, S_w_Comparison_NOT_EQUAL, E_w_Comparison_NOT_EQUAL, S_w_Comparison_LESS, E_w_Comparison_LESS, S_w_Comparison_LESS_OR_EQUAL, E_w_Comparison_LESS_OR_EQUAL, S_w_Comparison_GREATER, E_w_Comparison_GREATER, S_w_Comparison_GREATER_OR_EQUAL, E_w_Comparison_GREATER_OR_EQUAL, F_w_Comparison_EQUAL_ordinal, F_w_Comparison_LESS_ordinal, F_w_Comparison_GREATER_ordinal, F_w_Comparison_NOT_EQUAL_ordinal, F_w_Comparison_GREATER_OR_EQUAL_ordinal, F_w_Comparison_LESS_OR_EQUAL_ordinal⟩ := B.2
  refine Con.of (plainFor_of_name pn1) (Ls := #[vR w_Comparison_GREATER_OR_EQUAL, vI vi0]) (fun m => by first | rfl | (simp [entryFrame, mkF, argsToLocals, Value.category]; done)) ?_
  intro p e s m below meth c T0 X0 H hml hZ hown hnm hret hlk e0
  have N0 := Fr.nil Z.heap.size
  refine gAloadN X0 H d1_0 rfl rfl 1 rfl ?_
  refine gVirtualUp X0 H hZ hown (hw _ wd23) (hw _ wd24) (hw _ wd25) (hw _ wd27) (hw _ wd26) (by decide) (E_w_Comparison_GREATER_OR_EQUAL.ext O) (hw _ wd29) (hw _ wd28) (rm313_2 B _ O) e0 hml rfl pd0 rfl (W := 0) (argsL := []) (rest := []) rfl rfl d1_1 4 rfl ?_
  intro v322 T322 L322 hq322 X322
  obtain ⟨rfl, e322, rfl⟩ := hq322
  have N322 := Fr.app N0 (Fr.nil _)
  show Go _ _ _ _ (State.setTop _ (mkF _ 4 _ [(.int 5)]))
  refine gTswOut X322 H d1_4 (by decide) (by decide) 100 rfl ?_
  refine gIloadN X322 H d1_100 rfl 101 rfl ?_
  refine gIfN X322 H d1_101 ((if0 _ _).trans (flt hk323).1) 104 rfl ?_
  refine gIconst X322 H d1_104 (z := 1) rfl 105 rfl ?_
  refine gGoto X322 H d1_105 (by decide) 109 rfl ?_
  exact gRetN X322 H hlk hret (t := .boolean) (by simp) d1_109 e322 ⟨rfl, rfl, rfl⟩
theorem lawAll_5 (B : Bg Z a0 w_Comparison_EQUAL w_Comparison_NOT_EQUAL w_Comparison_LESS w_Comparison_LESS_OR_EQUAL w_Comparison_GREATER w_Comparison_GREATER_OR_EQUAL) (p0 : Int32) (p1 : Int32) (ha0 : ((p0 &&& (2147483647 : Int32)) % (6 : Int32)) = (5 : Int32)) :
    Con l Z x code maxLocals ret room_1 #[(.int p0), (.int p1)] Z.heap (fun v h' L => v = some (.int 1) ∧ Fr Z.heap.size L) := by
  have hw := B.1
  obtain ⟨S_w_Comparison_EQUAL, E_w_Comparison_EQUAL, S_w_Comparison_NOT_EQUAL, E_w_Comparison_NOT_EQUAL, S_w_Comparison_LESS, E_w_Comparison_LESS, S_w_Comparison_LESS_OR_EQUAL, E_w_Comparison_LESS_OR_EQUAL, S_w_Comparison_GREATER, E_w_Comparison_GREATER, S_w_Comparison_GREATER_OR_EQUAL, E_w_Comparison_GREATER_OR_EQUAL, F_w_Comparison_EQUAL_ordinal, F_w_Comparison_LESS_ordinal, F_w_Comparison_GREATER_ordinal, F_w_Comparison_NOT_EQUAL_ordinal, F_w_Comparison_GREATER_OR_EQUAL_ordinal, F_w_Comparison_LESS_OR_EQUAL_ordinal⟩ := B.2
  refine Con.of (plainFor_of_name pn0) (Ls := #[vI p0, vI p1, .unset, .unset, .unset, .unset]) (fun m => by first | rfl | (simp [entryFrame, mkF, argsToLocals, Value.category, maxLocals]; done)) ?_
  intro p e s m below meth c T0 X0 H hml hZ hown hnm hret hlk e0
  have O0 := extR Z.heap
  have M0 := Nat.le_refl Z.heap.size
  have N0 := Fr.nil Z.heap.size
  refine gBipush X0 H at_0 (z := 6) rfl 2 rfl ?_
  refine gNewR X0 H hZ hown (hw _ wd0) (hw _ wd1) e0 (by decide) (cap := 6) (by decide) (by decide) (vs := [.null, .null, .null, .null, .null, .null]) rfl (by decide) (by decide) at_2 5 rfl ?_
  intro T276 h276 b276 k276 X276 e276 z276 E276 V276 Q276
  have G_b276 := Nat.le_trans O0.1 (Nat.le_of_eq z276)
  have sz_b276 := Nat.le_trans M0 (Nat.le_of_eq z276)
  have O276 := extT O0 E276
  refine gDup X276 H at_5 rfl 6 rfl ?_
  refine gIconst X276 H at_6 (z := 0) rfl 7 rfl ?_
  refine gGetS X276 H hZ hown (hw _ wd2) e276 (S_w_Comparison_EQUAL.ext O276) at_7 10 rfl ?_
  intro T277 X277 e277
  refine gAastore X277 H hZ e277 rfl (stoV V276 Q276 (Ins.self (E_w_Comparison_EQUAL.ext O276))) V276 ⟨by decide, by decide⟩ (i := 0) rfl (Nat.le_of_ble_eq_true rfl) (vs' := [(.ref w_Comparison_EQUAL), .null, .null, .null, .null, .null]) rfl at_10 11 rfl ?_
  intro T278 h278 X278 e278 W278 V278
  have O278 := extW O276 W278 G_b276
  have N278 := Fr.snoc X278 N0 G_b276
  refine gDup X278 H at_11 rfl 12 rfl ?_
  refine gIconst X278 H at_12 (z := 1) rfl 13 rfl ?_
  refine gGetS X278 H hZ hown (hw _ wd6) e278 (S_w_Comparison_NOT_EQUAL.ext O278) at_13 16 rfl ?_
  intro T279 X279 e279
  refine gAastore X279 H hZ e279 rfl (stoV V278 Q276 (Ins.self (E_w_Comparison_NOT_EQUAL.ext O278))) V278 ⟨by decide, by decide⟩ (i := 1) rfl (Nat.le_of_ble_eq_true rfl) (vs' := [(.ref w_Comparison_EQUAL), (.ref w_Comparison_NOT_EQUAL), .null, .null, .null, .null]) rfl at_16 17 rfl ?_
  intro T280 h280 X280 e280 W280 V280
  have O280 := extW O278 W280 G_b276
  have N280 := Fr.snoc X280 N278 G_b276
  refine gDup X280 H at_17 rfl 18 rfl ?_
  refine gIconst X280 H at_18 (z := 2) rfl 19 rfl ?_
  refine gGetS X280 H hZ hown (hw _ wd8) e280 (S_w_Comparison_LESS.ext O280) at_19 22 rfl ?_
  intro T281 X281 e281
  refine gAastore X281 H hZ e281 rfl (stoV V280 Q276 (Ins.self (E_w_Comparison_LESS.ext O280))) V280 ⟨by decide, by decide⟩ (i := 2) rfl (Nat.le_of_ble_eq_true rfl) (vs' := [(.ref w_Comparison_EQUAL), (.ref w_Comparison_NOT_EQUAL), (.ref w_Comparison_LESS), .null, .null, .null]) rfl at_22 23 rfl ?_
  intro T282 h282 X282 e282 W282 V282
  have O282 := extW O280 W282 G_b276
  have N282 := Fr.snoc X282 N280 G_b276
  refine gDup X282 H at_23 rfl 24 rfl ?_
  refine gIconst X282 H at_24 (z := 3) rfl 25 rfl ?_
  refine gGetS X282 H hZ hown (hw _ wd10) e282 (S_w_Comparison_LESS_OR_EQUAL.ext O282) at_25 28 rfl ?_
  intro T283 X283 e283
  refine gAastore X283 H hZ e283 rfl (stoV V282 Q276 (Ins.self (E_w_Comparison_LESS_OR_EQUAL.ext O282))) V282 ⟨by decide, by decide⟩ (i := 3) rfl (Nat.le_of_ble_eq_true rfl) (vs' := [(.ref w_Comparison_EQUAL), (.ref w_Comparison_NOT_EQUAL), (.ref w_Comparison_LESS), (.ref w_Comparison_LESS_OR_EQUAL), .null, .null]) rfl at_28 29 rfl ?_
  intro T284 h284 X284 e284 W284 V284
  have O284 := extW O282 W284 G_b276
  have N284 := Fr.snoc X284 N282 G_b276
  refine gDup X284 H at_29 rfl 30 rfl ?_
  refine gIconst X284 H at_30 (z := 4) rfl 31 rfl ?_
  refine gGetS X284 H hZ hown (hw _ wd12) e284 (S_w_Comparison_GREATER.ext O284) at_31 34 rfl ?_
  intro T285 X285 e285
  refine gAastore X285 H hZ e285 rfl (stoV V284 Q276 (Ins.self (E_w_Comparison_GREATER.ext O284))) V284 ⟨by decide, by decide⟩ (i := 4) rfl (Nat.le_of_ble_eq_true rfl) (vs' := [(.ref w_Comparison_EQUAL), (.ref w_Comparison_NOT_EQUAL), (.ref w_Comparison_LESS), (.ref w_Comparison_LESS_OR_EQUAL), (.ref w_Comparison_GREATER), .null]) rfl at_34 35 rfl ?_
  intro T286 h286 X286 e286 W286 V286
  have O286 := extW O284 W286 G_b276
  have N286 := Fr.snoc X286 N284 G_b276
  refine gDup X286 H at_35 rfl 36 rfl ?_
  refine gIconst X286 H at_36 (z := 5) rfl 37 rfl ?_
  refine gGetS X286 H hZ hown (hw _ wd14) e286 (S_w_Comparison_GREATER_OR_EQUAL.ext O286) at_37 40 rfl ?_
  intro T287 X287 e287
  refine gAastore X287 H hZ e287 rfl (stoV V286 Q276 (Ins.self (E_w_Comparison_GREATER_OR_EQUAL.ext O286))) V286 ⟨by decide, by decide⟩ (i := 5) rfl (Nat.le_of_ble_eq_true rfl) (vs' := [(.ref w_Comparison_EQUAL), (.ref w_Comparison_NOT_EQUAL), (.ref w_Comparison_LESS), (.ref w_Comparison_LESS_OR_EQUAL), (.ref w_Comparison_GREATER), (.ref w_Comparison_GREATER_OR_EQUAL)]) rfl at_40 41 rfl ?_
  intro T288 h288 X288 e288 W288 V288
  have O288 := extW O286 W288 G_b276
  have N288 := Fr.snoc X288 N286 G_b276
  refine gAstoreN X288 H at_41 rfl (Ls' := #[vI p0, vI p1, vR b276, .unset, .unset, .unset]) rfl 42 rfl ?_
  refine gBipush X288 H at_42 (z := 18) rfl 44 rfl ?_
  refine gNewP X288 H hZ (aty := .boolean) (hw _ wd16) e288 (by decide) (cap := 18) (by decide) (by decide) (vs := [(.int 0), (.int 0), (.int 0), (.int 0), (.int 0), (.int 0), (.int 0), (.int 0), (.int 0), (.int 0), (.int 0), (.int 0), (.int 0), (.int 0), (.int 0), (.int 0), (.int 0), (.int 0)]) rfl (by decide) (by decide) at_44 46 rfl ?_
  intro T289 h289 b289 k289 X289 e289 z289 E289 V289
  have M290 := (leW (leW (leW (leW (leW (leW (Nat.le_trans M0 E276.1) W278) W280) W282) W284) W286) W288)
  have G_b289 := Nat.le_trans O288.1 (Nat.le_of_eq z289)
  have sz_b289 := Nat.le_trans M290 (Nat.le_of_eq z289)
  have ne_b276_b289 : b276 ≠ b289 := neB V288.lt (Nat.le_of_eq z289)
  have O289 := extT O288 E289
  refine gDup X289 H at_46 rfl 47 rfl ?_
  refine gIconst X289 H at_47 (z := 0) rfl 48 rfl ?_
  refine gIconst X289 H at_48 (z := 0) rfl 49 rfl ?_
  refine gZastore X289 H hZ e289 V289 ⟨by decide, by decide⟩ (i := 0) rfl (Nat.le_of_ble_eq_true rfl) (vs' := [(.int 0), (.int 0), (.int 0), (.int 0), (.int 0), (.int 0), (.int 0), (.int 0), (.int 0), (.int 0), (.int 0), (.int 0), (.int 0), (.int 0), (.int 0), (.int 0), (.int 0), (.int 0)]) rfl at_49 50 rfl ?_
  intro T291 h291 X291 e291 W291 V291
  have O291 := extW O289 W291 G_b289
  have N291 := Fr.snoc X291 N288 G_b289
  refine gDup X291 H at_50 rfl 51 rfl ?_
  refine gIconst X291 H at_51 (z := 1) rfl 52 rfl ?_
  refine gIconst X291 H at_52 (z := 1) rfl 53 rfl ?_
  refine gZastore X291 H hZ e291 V291 ⟨by decide, by decide⟩ (i := 1) rfl (Nat.le_of_ble_eq_true rfl) (vs' := [(.int 0), (.int 1), (.int 0), (.int 0), (.int 0), (.int 0), (.int 0), (.int 0), (.int 0), (.int 0), (.int 0), (.int 0), (.int 0), (.int 0), (.int 0), (.int 0), (.int 0), (.int 0)]) rfl at_53 54 rfl ?_
  intro T292 h292 X292 e292 W292 V292
  have O292 := extW O291 W292 G_b289
  have N292 := Fr.snoc X292 N291 G_b289
  refine gDup X292 H at_54 rfl 55 rfl ?_
  refine gIconst X292 H at_55 (z := 2) rfl 56 rfl ?_
  refine gIconst X292 H at_56 (z := 0) rfl 57 rfl ?_
  refine gZastore X292 H hZ e292 V292 ⟨by decide, by decide⟩ (i := 2) rfl (Nat.le_of_ble_eq_true rfl) (vs' := [(.int 0), (.int 1), (.int 0), (.int 0), (.int 0), (.int 0), (.int 0), (.int 0), (.int 0), (.int 0), (.int 0), (.int 0), (.int 0), (.int 0), (.int 0), (.int 0), (.int 0), (.int 0)]) rfl at_57 58 rfl ?_
  intro T293 h293 X293 e293 W293 V293
  have O293 := extW O292 W293 G_b289
  have N293 := Fr.snoc X293 N292 G_b289
  refine gDup X293 H at_58 rfl 59 rfl ?_
  refine gIconst X293 H at_59 (z := 3) rfl 60 rfl ?_
  refine gIconst X293 H at_60 (z := 1) rfl 61 rfl ?_
  refine gZastore X293 H hZ e293 V293 ⟨by decide, by decide⟩ (i := 3) rfl (Nat.le_of_ble_eq_true rfl) (vs' := [(.int 0), (.int 1), (.int 0), (.int 1), (.int 0), (.int 0), (.int 0), (.int 0), (.int 0), (.int 0), (.int 0), (.int 0), (.int 0), (.int 0), (.int 0), (.int 0), (.int 0), (.int 0)]) rfl at_61 62 rfl ?_
  intro T294 h294 X294 e294 W294 V294
  have O294 := extW O293 W294 G_b289
  have N294 := Fr.snoc X294 N293 G_b289
  refine gDup X294 H at_62 rfl 63 rfl ?_
  refine gIconst X294 H at_63 (z := 4) rfl 64 rfl ?_
  refine gIconst X294 H at_64 (z := 0) rfl 65 rfl ?_
  refine gZastore X294 H hZ e294 V294 ⟨by decide, by decide⟩ (i := 4) rfl (Nat.le_of_ble_eq_true rfl) (vs' := [(.int 0), (.int 1), (.int 0), (.int 1), (.int 0), (.int 0), (.int 0), (.int 0), (.int 0), (.int 0), (.int 0), (.int 0), (.int 0), (.int 0), (.int 0), (.int 0), (.int 0), (.int 0)]) rfl at_65 66 rfl ?_
  intro T295 h295 X295 e295 W295 V295
  have O295 := extW O294 W295 G_b289
  have N295 := Fr.snoc X295 N294 G_b289
  refine gDup X295 H at_66 rfl 67 rfl ?_
  refine gIconst X295 H at_67 (z := 5) rfl 68 rfl ?_
  refine gIconst X295 H at_68 (z := 1) rfl 69 rfl ?_
  refine gZastore X295 H hZ e295 V295 ⟨by decide, by decide⟩ (i := 5) rfl (Nat.le_of_ble_eq_true rfl) (vs' := [(.int 0), (.int 1), (.int 0), (.int 1), (.int 0), (.int 1), (.int 0), (.int 0), (.int 0), (.int 0), (.int 0), (.int 0), (.int 0), (.int 0), (.int 0), (.int 0), (.int 0), (.int 0)]) rfl at_69 70 rfl ?_
  intro T296 h296 X296 e296 W296 V296
  have O296 := extW O295 W296 G_b289
  have N296 := Fr.snoc X296 N295 G_b289
  refine gDup X296 H at_70 rfl 71 rfl ?_
  refine gBipush X296 H at_71 (z := 6) rfl 73 rfl ?_
  refine gIconst X296 H at_73 (z := 1) rfl 74 rfl ?_
  refine gZastore X296 H hZ e296 V296 ⟨by decide, by decide⟩ (i := 6) rfl (Nat.le_of_ble_eq_true rfl) (vs' := [(.int 0), (.int 1), (.int 0), (.int 1), (.int 0), (.int 1), (.int 1), (.int 0), (.int 0), (.int 0), (.int 0), (.int 0), (.int 0), (.int 0), (.int 0), (.int 0), (.int 0), (.int 0)]) rfl at_74 75 rfl ?_
  intro T297 h297 X297 e297 W297 V297
  have O297 := extW O296 W297 G_b289
  have N297 := Fr.snoc X297 N296 G_b289
  refine gDup X297 H at_75 rfl 76 rfl ?_
  refine gBipush X297 H at_76 (z := 7) rfl 78 rfl ?_
  refine gIconst X297 H at_78 (z := 0) rfl 79 rfl ?_
  refine gZastore X297 H hZ e297 V297 ⟨by decide, by decide⟩ (i := 7) rfl (Nat.le_of_ble_eq_true rfl) (vs' := [(.int 0), (.int 1), (.int 0), (.int 1), (.int 0), (.int 1), (.int 1), (.int 0), (.int 0), (.int 0), (.int 0), (.int 0), (.int 0), (.int 0), (.int 0), (.int 0), (.int 0), (.int 0)]) rfl at_79 80 rfl ?_
  intro T298 h298 X298 e298 W298 V298
  have O298 := extW O297 W298 G_b289
  have N298 := Fr.snoc X298 N297 G_b289
  refine gDup X298 H at_80 rfl 81 rfl ?_
  refine gBipush X298 H at_81 (z := 8) rfl 83 rfl ?_
  refine gIconst X298 H at_83 (z := 0) rfl 84 rfl ?_
  refine gZastore X298 H hZ e298 V298 ⟨by decide, by decide⟩ (i := 8) rfl (Nat.le_of_ble_eq_true rfl) (vs' := [(.int 0), (.int 1), (.int 0), (.int 1), (.int 0), (.int 1), (.int 1), (.int 0), (.int 0), (.int 0), (.int 0), (.int 0), (.int 0), (.int 0), (.int 0), (.int 0), (.int 0), (.int 0)]) rfl at_84 85 rfl ?_
  intro T299 h299 X299 e299 W299 V299
  have O299 := extW O298 W299 G_b289
  have N299 := Fr.snoc X299 N298 G_b289
  refine gDup X299 H at_85 rfl 86 rfl ?_
  refine gBipush X299 H at_86 (z := 9) rfl 88 rfl ?_
  refine gIconst X299 H at_88 (z := 1) rfl 89 rfl ?_
  refine gZastore X299 H hZ e299 V299 ⟨by decide, by decide⟩ (i := 9) rfl (Nat.le_of_ble_eq_true rfl) (vs' := [(.int 0), (.int 1), (.int 0), (.int 1), (.int 0), (.int 1), (.int 1), (.int 0), (.int 0), (.int 1), (.int 0), (.int 0), (.int 0), (.int 0), (.int 0), (.int 0), (.int 0), (.int 0)]) rfl at_89 90 rfl ?_
  intro T300 h300 X300 e300 W300 V300
  have O300 := extW O299 W300 G_b289
  have N300 := Fr.snoc X300 N299 G_b289
  refine gDup X300 H at_90 rfl 91 rfl ?_
  refine gBipush X300 H at_91 (z := 10) rfl 93 rfl ?_
  refine gIconst X300 H at_93 (z := 1) rfl 94 rfl ?_
  refine gZastore X300 H hZ e300 V300 ⟨by decide, by decide⟩ (i := 10) rfl (Nat.le_of_ble_eq_true rfl) (vs' := [(.int 0), (.int 1), (.int 0), (.int 1), (.int 0), (.int 1), (.int 1), (.int 0), (.int 0), (.int 1), (.int 1), (.int 0), (.int 0), (.int 0), (.int 0), (.int 0), (.int 0), (.int 0)]) rfl at_94 95 rfl ?_
  intro T301 h301 X301 e301 W301 V301
  have O301 := extW O300 W301 G_b289
  have N301 := Fr.snoc X301 N300 G_b289
  refine gDup X301 H at_95 rfl 96 rfl ?_
  refine gBipush X301 H at_96 (z := 11) rfl 98 rfl ?_
  refine gIconst X301 H at_98 (z := 0) rfl 99 rfl ?_
  refine gZastore X301 H hZ e301 V301 ⟨by decide, by decide⟩ (i := 11) rfl (Nat.le_of_ble_eq_true rfl) (vs' := [(.int 0), (.int 1), (.int 0), (.int 1), (.int 0), (.int 1), (.int 1), (.int 0), (.int 0), (.int 1), (.int 1), (.int 0), (.int 0), (.int 0), (.int 0), (.int 0), (.int 0), (.int 0)]) rfl at_99 100 rfl ?_
  intro T302 h302 X302 e302 W302 V302
  have O302 := extW O301 W302 G_b289
  have N302 := Fr.snoc X302 N301 G_b289
  refine gDup X302 H at_100 rfl 101 rfl ?_
  refine gBipush X302 H at_101 (z := 12) rfl 103 rfl ?_
  refine gIconst X302 H at_103 (z := 0) rfl 104 rfl ?_
  refine gZastore X302 H hZ e302 V302 ⟨by decide, by decide⟩ (i := 12) rfl (Nat.le_of_ble_eq_true rfl) (vs' := [(.int 0), (.int 1), (.int 0), (.int 1), (.int 0), (.int 1), (.int 1), (.int 0), (.int 0), (.int 1), (.int 1), (.int 0), (.int 0), (.int 0), (.int 0), (.int 0), (.int 0), (.int 0)]) rfl at_104 105 rfl ?_
  intro T303 h303 X303 e303 W303 V303
  have O303 := extW O302 W303 G_b289
  have N303 := Fr.snoc X303 N302 G_b289
  refine gDup X303 H at_105 rfl 106 rfl ?_
  refine gBipush X303 H at_106 (z := 13) rfl 108 rfl ?_
  refine gIconst X303 H at_108 (z := 0) rfl 109 rfl ?_
  refine gZastore X303 H hZ e303 V303 ⟨by decide, by decide⟩ (i := 13) rfl (Nat.le_of_ble_eq_true rfl) (vs' := [(.int 0), (.int 1), (.int 0), (.int 1), (.int 0), (.int 1), (.int 1), (.int 0), (.int 0), (.int 1), (.int 1), (.int 0), (.int 0), (.int 0), (.int 0), (.int 0), (.int 0), (.int 0)]) rfl at_109 110 rfl ?_
  intro T304 h304 X304 e304 W304 V304
  have O304 := extW O303 W304 G_b289
  have N304 := Fr.snoc X304 N303 G_b289
  refine gDup X304 H at_110 rfl 111 rfl ?_
  refine gBipush X304 H at_111 (z := 14) rfl 113 rfl ?_
  refine gIconst X304 H at_113 (z := 1) rfl 114 rfl ?_
  refine gZastore X304 H hZ e304 V304 ⟨by decide, by decide⟩ (i := 14) rfl (Nat.le_of_ble_eq_true rfl) (vs' := [(.int 0), (.int 1), (.int 0), (.int 1), (.int 0), (.int 1), (.int 1), (.int 0), (.int 0), (.int 1), (.int 1), (.int 0), (.int 0), (.int 0), (.int 1), (.int 0), (.int 0), (.int 0)]) rfl at_114 115 rfl ?_
  intro T305 h305 X305 e305 W305 V305
  have O305 := extW O304 W305 G_b289
  have N305 := Fr.snoc X305 N304 G_b289
  refine gDup X305 H at_115 rfl 116 rfl ?_
  refine gBipush X305 H at_116 (z := 15) rfl 118 rfl ?_
  refine gIconst X305 H at_118 (z := 0) rfl 119 rfl ?_
  refine gZastore X305 H hZ e305 V305 ⟨by decide, by decide⟩ (i := 15) rfl (Nat.le_of_ble_eq_true rfl) (vs' := [(.int 0), (.int 1), (.int 0), (.int 1), (.int 0), (.int 1), (.int 1), (.int 0), (.int 0), (.int 1), (.int 1), (.int 0), (.int 0), (.int 0), (.int 1), (.int 0), (.int 0), (.int 0)]) rfl at_119 120 rfl ?_
  intro T306 h306 X306 e306 W306 V306
  have O306 := extW O305 W306 G_b289
  have N306 := Fr.snoc X306 N305 G_b289
  refine gDup X306 H at_120 rfl 121 rfl ?_
  refine gBipush X306 H at_121 (z := 16) rfl 123 rfl ?_
  refine gIconst X306 H at_123 (z := 1) rfl 124 rfl ?_
  refine gZastore X306 H hZ e306 V306 ⟨by decide, by decide⟩ (i := 16) rfl (Nat.le_of_ble_eq_true rfl) (vs' := [(.int 0), (.int 1), (.int 0), (.int 1), (.int 0), (.int 1), (.int 1), (.int 0), (.int 0), (.int 1), (.int 1), (.int 0), (.int 0), (.int 0), (.int 1), (.int 0), (.int 1), (.int 0)]) rfl at_124 125 rfl ?_
  intro T307 h307 X307 e307 W307 V307
  have O307 := extW O306 W307 G_b289
  have N307 := Fr.snoc X307 N306 G_b289
  refine gDup X307 H at_125 rfl 126 rfl ?_
  refine gBipush X307 H at_126 (z := 17) rfl 128 rfl ?_
  refine gIconst X307 H at_128 (z := 1) rfl 129 rfl ?_
  refine gZastore X307 H hZ e307 V307 ⟨by decide, by decide⟩ (i := 17) rfl (Nat.le_of_ble_eq_true rfl) (vs' := [(.int 0), (.int 1), (.int 0), (.int 1), (.int 0), (.int 1), (.int 1), (.int 0), (.int 0), (.int 1), (.int 1), (.int 0), (.int 0), (.int 0), (.int 1), (.int 0), (.int 1), (.int 1)]) rfl at_129 130 rfl ?_
  intro T308 h308 X308 e308 W308 V308
  have O308 := extW O307 W308 G_b289
  have N308 := Fr.snoc X308 N307 G_b289
  refine gAstoreN X308 H at_130 rfl (Ls' := #[vI p0, vI p1, vR b276, vR b289, .unset, .unset]) rfl 131 rfl ?_
  refine gIloadN X308 H at_131 rfl 132 rfl ?_
  refine gLdc X308 H hZ hown (hw _ wd17) at_132 134 rfl ?_
  refine g_iand X308 H at_134 (z := (p0 &&& (2147483647 : Int32))) rfl 135 rfl ?_
  refine gBipush X308 H at_135 (z := 6) rfl 137 rfl ?_
  refine g_irem X308 H at_137 (by decide) (z := 5) ha0 138 rfl ?_
  refine gIstore X308 H at_138 (Ls' := #[vI p0, vI p1, vR b276, vR b289, vI 5, .unset]) rfl 140 rfl ?_
  refine gIloadN X308 H at_140 rfl 141 rfl ?_
  by_cases hc309 : p1 < (0 : Int32)
  · refine gIfN X308 H at_141 ((if0 _ _).trans (tlt hc309).2.1) 144 rfl ?_
    refine gIconst X308 H at_144 (z := 0) rfl 145 rfl ?_
    refine gGoto X308 H at_145 (by decide) 157 rfl ?_
    refine gIstore X308 H at_157 (Ls' := #[vI p0, vI p1, vR b276, vR b289, vI 5, vI 0]) rfl 159 rfl ?_
    refine gAloadN X308 H at_159 rfl rfl 160 rfl ?_
    refine gIload X308 H at_160 rfl 162 rfl ?_
    have c311 := (((((((((((((((((((V288.ext E289).other W291 ne_b276_b289).other W292 ne_b276_b289).other W293 ne_b276_b289).other W294 ne_b276_b289).other W295 ne_b276_b289).other W296 ne_b276_b289).other W297 ne_b276_b289).other W298 ne_b276_b289).other W299 ne_b276_b289).other W300 ne_b276_b289).other W301 ne_b276_b289).other W302 ne_b276_b289).other W303 ne_b276_b289).other W304 ne_b276_b289).other W305 ne_b276_b289).other W306 ne_b276_b289).other W307 ne_b276_b289).other W308 ne_b276_b289)
    refine gAaload X308 H hZ e308 rfl c311 ⟨by decide, by decide⟩ (v := (.ref w_Comparison_GREATER_OR_EQUAL)) rfl at_162 163 rfl ?_
    refine gIloadN X308 H at_163 rfl 164 rfl ?_
    refine gVirt X308 H hZ hown (hw _ wd18) (hw _ wd19) (hw _ wd21) (hw _ wd20) (by decide) (E_w_Comparison_GREATER_OR_EQUAL.ext O308) (hw _ wd22) (hw _ wd3) (rm316_1 B p1 _ O308 hc309) e308 hml rfl pd1 rfl (W := 0) (argsL := [(.int p1)]) (rest := []) rfl rfl at_164 167 rfl ?_
    intro v317 T317 L317 hq317 X317
    obtain ⟨rfl, e317, rfl⟩ := hq317
    have N317 := Fr.app N308 (Fr.nil _)
    show Go _ _ _ _ (State.setTop _ (mkF _ 167 _ [(.int 0)]))
    refine gAloadN X317 H at_167 rfl rfl 168 rfl ?_
    refine gIload X317 H at_168 rfl 170 rfl ?_
    refine gIconst X317 H at_170 (z := 3) rfl 171 rfl ?_
    refine g_imul X317 H at_171 (z := 15) (by decide) 172 rfl ?_
    refine gIload X317 H at_172 rfl 174 rfl ?_
    refine g_iadd X317 H at_174 (z := 15) (by decide) 175 rfl ?_
    refine gZaload X317 H hZ e317 V308 ⟨by decide, by decide⟩ (v := (.int 0)) rfl at_175 176 rfl ?_
    refine gCmpN X317 H at_176 (by decide) 179 rfl ?_
    refine gIconst X317 H at_179 (z := 1) rfl 180 rfl ?_
    refine gGoto X317 H at_180 (by decide) 184 rfl ?_
    exact gRetN X317 H hlk hret (t := .boolean) (by simp) at_184 e317 ⟨rfl, N317⟩
  · refine gIfY X308 H at_141 ((if0 _ _).trans (flt hc309).2.1) (by decide) 148 rfl ?_
    refine gIloadN X308 H at_148 rfl 149 rfl ?_
    by_cases hc319 : p1 = (0 : Int32)
    · refine gIfN X308 H at_149 ((if0 _ _).trans (teq hc319).2) 152 rfl ?_
      refine gIconst X308 H at_152 (z := 1) rfl 153 rfl ?_
      refine gGoto X308 H at_153 (by decide) 157 rfl ?_
      refine gIstore X308 H at_157 (Ls' := #[vI p0, vI p1, vR b276, vR b289, vI 5, vI 1]) rfl 159 rfl ?_
      refine gAloadN X308 H at_159 rfl rfl 160 rfl ?_
      refine gIload X308 H at_160 rfl 162 rfl ?_
      have c321 := (((((((((((((((((((V288.ext E289).other W291 ne_b276_b289).other W292 ne_b276_b289).other W293 ne_b276_b289).other W294 ne_b276_b289).other W295 ne_b276_b289).other W296 ne_b276_b289).other W297 ne_b276_b289).other W298 ne_b276_b289).other W299 ne_b276_b289).other W300 ne_b276_b289).other W301 ne_b276_b289).other W302 ne_b276_b289).other W303 ne_b276_b289).other W304 ne_b276_b289).other W305 ne_b276_b289).other W306 ne_b276_b289).other W307 ne_b276_b289).other W308 ne_b276_b289)
      refine gAaload X308 H hZ e308 rfl c321 ⟨by decide, by decide⟩ (v := (.ref w_Comparison_GREATER_OR_EQUAL)) rfl at_162 163 rfl ?_
      refine gIloadN X308 H at_163 rfl 164 rfl ?_
      refine gVirt X308 H hZ hown (hw _ wd18) (hw _ wd19) (hw _ wd21) (hw _ wd20) (by decide) (E_w_Comparison_GREATER_OR_EQUAL.ext O308) (hw _ wd22) (hw _ wd3) (rm324_1 B p1 _ O308 hc309) e308 hml rfl pd1 rfl (W := 0) (argsL := [(.int p1)]) (rest := []) rfl rfl at_164 167 rfl ?_
      intro v325 T325 L325 hq325 X325
      obtain ⟨rfl, e325, rfl⟩ := hq325
      have N325 := Fr.app N308 (Fr.nil _)
      show Go _ _ _ _ (State.setTop _ (mkF _ 167 _ [(.int 1)]))
      refine gAloadN X325 H at_167 rfl rfl 168 rfl ?_
      refine gIload X325 H at_168 rfl 170 rfl ?_
      refine gIconst X325 H at_170 (z := 3) rfl 171 rfl ?_
      refine g_imul X325 H at_171 (z := 15) (by decide) 172 rfl ?_
      refine gIload X325 H at_172 rfl 174 rfl ?_
      refine g_iadd X325 H at_174 (z := 16) (by decide) 175 rfl ?_
      refine gZaload X325 H hZ e325 V308 ⟨by decide, by decide⟩ (v := (.int 1)) rfl at_175 176 rfl ?_
      refine gCmpN X325 H at_176 (by decide) 179 rfl ?_
      refine gIconst X325 H at_179 (z := 1) rfl 180 rfl ?_
      refine gGoto X325 H at_180 (by decide) 184 rfl ?_
      exact gRetN X325 H hlk hret (t := .boolean) (by simp) at_184 e325 ⟨rfl, N325⟩
    · refine gIfY X308 H at_149 ((if0 _ _).trans (feq hc319).2) (by decide) 156 rfl ?_
      refine gIconst X308 H at_156 (z := 2) rfl 157 rfl ?_
      refine gIstore X308 H at_157 (Ls' := #[vI p0, vI p1, vR b276, vR b289, vI 5, vI 2]) rfl 159 rfl ?_
      refine gAloadN X308 H at_159 rfl rfl 160 rfl ?_
      refine gIload X308 H at_160 rfl 162 rfl ?_
      have c328 := (((((((((((((((((((V288.ext E289).other W291 ne_b276_b289).other W292 ne_b276_b289).other W293 ne_b276_b289).other W294 ne_b276_b289).other W295 ne_b276_b289).other W296 ne_b276_b289).other W297 ne_b276_b289).other W298 ne_b276_b289).other W299 ne_b276_b289).other W300 ne_b276_b289).other W301 ne_b276_b289).other W302 ne_b276_b289).other W303 ne_b276_b289).other W304 ne_b276_b289).other W305 ne_b276_b289).other W306 ne_b276_b289).other W307 ne_b276_b289).other W308 ne_b276_b289)
      refine gAaload X308 H hZ e308 rfl c328 ⟨by decide, by decide⟩ (v := (.ref w_Comparison_GREATER_OR_EQUAL)) rfl at_162 163 rfl ?_
      refine gIloadN X308 H at_163 rfl 164 rfl ?_
      refine gVirt X308 H hZ hown (hw _ wd18) (hw _ wd19) (hw _ wd21) (hw _ wd20) (by decide) (E_w_Comparison_GREATER_OR_EQUAL.ext O308) (hw _ wd22) (hw _ wd3) (rm324_1 B p1 _ O308 hc309) e308 hml rfl pd1 rfl (W := 0) (argsL := [(.int p1)]) (rest := []) rfl rfl at_164 167 rfl ?_
      intro v329 T329 L329 hq329 X329
      obtain ⟨rfl, e329, rfl⟩ := hq329
      have N329 := Fr.app N308 (Fr.nil _)
      show Go _ _ _ _ (State.setTop _ (mkF _ 167 _ [(.int 1)]))
      refine gAloadN X329 H at_167 rfl rfl 168 rfl ?_
      refine gIload X329 H at_168 rfl 170 rfl ?_
      refine gIconst X329 H at_170 (z := 3) rfl 171 rfl ?_
      refine g_imul X329 H at_171 (z := 15) (by decide) 172 rfl ?_
      refine gIload X329 H at_172 rfl 174 rfl ?_
      refine g_iadd X329 H at_174 (z := 17) (by decide) 175 rfl ?_
      refine gZaload X329 H hZ e329 V308 ⟨by decide, by decide⟩ (v := (.int 1)) rfl at_175 176 rfl ?_
      refine gCmpN X329 H at_176 (by decide) 179 rfl ?_
      refine gIconst X329 H at_179 (z := 1) rfl 180 rfl ?_
      refine gGoto X329 H at_180 (by decide) 184 rfl ?_
      exact gRetN X329 H hlk hret (t := .boolean) (by simp) at_184 e329 ⟨rfl, N329⟩
theorem lawAll (B : Bg Z a0 w_Comparison_EQUAL w_Comparison_NOT_EQUAL w_Comparison_LESS w_Comparison_LESS_OR_EQUAL w_Comparison_GREATER w_Comparison_GREATER_OR_EQUAL) (p0 : Int32) (p1 : Int32) :
    Con l Z x code maxLocals ret room_1 #[(.int p0), (.int p1)] Z.heap (fun v h' L => v = some (.int 1) ∧ Fr Z.heap.size L) := by
  rcases mod_cases p0 with ha0 | ha0 | ha0 | ha0 | ha0 | ha0
  · exact lawAll_0 B p0 p1 ha0
  · exact lawAll_1 B p0 p1 ha0
  · exact lawAll_2 B p0 p1 ha0
  · exact lawAll_3 B p0 p1 ha0
  · exact lawAll_4 B p0 p1 ha0
  · exact lawAll_5 B p0 p1 ha0
end Walk
set_option maxHeartbeats 4000000 in
theorem comes_1 {Post : Tables → Env → Array Value → State → Outcome → State → Prop} (hpost : ∀ tb e args s v u, (limb_1_1.after args s (.returned v) u = true ∧ limb_1_2.after args s (.returned v) u = true ∧ True) → FrameEnd s (.returned v) u (Jvm.fieldLocs frame_1_writes args s ++ Jvm.arrayLocs frame_1_arrays args s ++ Jvm.staticLocs frame_1_statics s) 16 128 → Post tb e args s (.returned v) u) :
    ArmFor flags0 classFile x code maxLocals ret World_1 tables_1 room_1 Calls_1 rest_1 Pre_1 Post := by
  intro l hfl _ _ p e ha hc hk s m args below hf hA hF happ hP
  obtain ⟨hcalls, hrest, hpre⟩ := hP
  obtain ⟨-, -, -, hnamed, -, -, -, hat⟩ := (Spec.applies_iff hf).mp happ
  obtain ⟨hg, hn⟩ := and_e (Cond.before_iff.mp (show (Jvm.Cond.and given_1 narrow_1).before args s = true from hpre))
  obtain ⟨n1, n2⟩ := and_e hg
  obtain ⟨n3, n4⟩ := and_e n2
  obtain ⟨w0, w1, rfl⟩ : ∃ w0 w1 : Value, args = #[w0, w1] := by
    have hs : args.size = 2 := by simpa [Cond.value, given_1] using n1
    obtain ⟨L⟩ := args
    match L, hs with
    | [w0, w1], _ => exact ⟨w0, w1, rfl⟩
  have hfit : Fit s := fun {y c} hc i hi => by
    obtain ⟨ha, rfl⟩ := Array.getElem?_eq_some_iff.mp hc
    have q := List.all_eq_true.mp ((Array.all_eq_true_iff_forall_mem.mp hF) _ (Array.getElem_mem ha)) i (List.mem_range.mpr hi)
    simpa [Array.getElem?_eq_getElem hi] using q
  have hw := fun d (hd : d ∈ tables_1) => atoms_spec (ws := Jvm.Cond.code x code maxLocals ret :: tables_1) hat d (List.mem_cons_of_mem _ hd)
  obtain ⟨i0, ei0⟩ := is_v n3
  obtain rfl : w0 = (.int i0) := Option.some.inj ei0
  obtain ⟨i1, ei1⟩ := is_v n4
  obtain rfl : w1 = (.int i1) := Option.some.inj ei1
  obtain ⟨n5, n6⟩ := and_e hn
  obtain ⟨n7, n8⟩ := and_e n6
  obtain ⟨n9, n10⟩ := and_e n8
  obtain ⟨n11, n12⟩ := and_e n10
  obtain ⟨n13, n14⟩ := and_e n12
  obtain ⟨n15, n16⟩ := and_e n14
  obtain ⟨n17, n18⟩ := and_e n16
  obtain ⟨n19, n20⟩ := and_e n18
  obtain ⟨n21, n22⟩ := and_e n20
  obtain ⟨n23, n24⟩ := and_e n22
  obtain ⟨n25, n26⟩ := and_e n24
  obtain ⟨w_Comparison_EQUAL, ev_w_Comparison_EQUAL⟩ := exa_v n5
  obtain ⟨w_Comparison_NOT_EQUAL, ev_w_Comparison_NOT_EQUAL⟩ := exa_v n7
  obtain ⟨w_Comparison_LESS, ev_w_Comparison_LESS⟩ := exa_v n9
  obtain ⟨w_Comparison_LESS_OR_EQUAL, ev_w_Comparison_LESS_OR_EQUAL⟩ := exa_v n11
  obtain ⟨w_Comparison_GREATER, ev_w_Comparison_GREATER⟩ := exa_v n13
  obtain ⟨w_Comparison_GREATER_OR_EQUAL, ev_w_Comparison_GREATER_OR_EQUAL⟩ := exa_v n15
  have W : World s w_Comparison_EQUAL w_Comparison_NOT_EQUAL w_Comparison_LESS w_Comparison_LESS_OR_EQUAL w_Comparison_GREATER w_Comparison_GREATER_OR_EQUAL := ⟨Sta.start ev_w_Comparison_EQUAL (Or.inr ⟨(hw _ wd3), (hw _ wd4)⟩), Exa.start ev_w_Comparison_EQUAL n5, Sta.start ev_w_Comparison_NOT_EQUAL (Or.inr ⟨(hw _ wd3), (hw _ wd7)⟩), Exa.start ev_w_Comparison_NOT_EQUAL n7, Sta.start ev_w_Comparison_LESS (Or.inr ⟨(hw _ wd3), (hw _ wd9)⟩), Exa.start ev_w_Comparison_LESS n9, Sta.start ev_w_Comparison_LESS_OR_EQUAL (Or.inr ⟨(hw _ wd3), (hw _ wd11)⟩), Exa.start ev_w_Comparison_LESS_OR_EQUAL n11, Sta.start ev_w_Comparison_GREATER (Or.inr ⟨(hw _ wd3), (hw _ wd13)⟩), Exa.start ev_w_Comparison_GREATER n13, Sta.start ev_w_Comparison_GREATER_OR_EQUAL (Or.inr ⟨(hw _ wd3), (hw _ wd15)⟩), Exa.start ev_w_Comparison_GREATER_OR_EQUAL n15, eqI ev_w_Comparison_EQUAL n17, eqI ev_w_Comparison_LESS n19, eqI ev_w_Comparison_GREATER n21, eqI ev_w_Comparison_NOT_EQUAL n23, eqI ev_w_Comparison_GREATER_OR_EQUAL n25, eqI ev_w_Comparison_LESS_OR_EQUAL n26⟩
  have B : Bg s _ w_Comparison_EQUAL w_Comparison_NOT_EQUAL w_Comparison_LESS w_Comparison_LESS_OR_EQUAL w_Comparison_GREATER w_Comparison_GREATER_OR_EQUAL := ⟨hw, W⟩
  obtain ⟨n, o, h1, h2, h3, _, L, rfl, ⟨rfl, N⟩, hq⟩ := (lawAll (l := l) B i0 i1) tables_1 p e ha hc hk s m _ below hf ((Spec.applies_iff_loose hf).mp happ).1 ⟨rfl, State.Warmed39.refl s, rfl⟩ trivial
  refine ⟨n, _, h1, h2, h3, hpost _ _ _ _ _ _ ⟨Cond.after_iff.mpr rfl, Cond.after_iff.mpr (eq_i res_at (Term.int_eval (1)) rfl), trivial⟩ ⟨hq.1, hq.2.1, (hq.2.2.sift fun y hy => Or.inr (N y hy)).mono (by decide) (by decide)⟩⟩
theorem main_1_1 : Claimed_1_1 := comes_1 fun _ _ _ _ _ _ h hF => ⟨h.1, hF⟩
theorem main_1_2 : Claimed_1_2 := comes_1 fun _ _ _ _ _ _ h hF => ⟨h.2.1, hF⟩
end Jvm.Pilot.@@N@@
namespace Jvm.Pilot.@@N@@
open Jvm Jvm.ClassFile Sem Op Lib Jvm.Free Jvm.Stand Jvm.Pilot.@@N@@.Jvm.D
/-! MADE BY PROGRAM (witnessworld.py) out of the Statement's table words and the real class files: 15 classes; the members and pool entries that the words name. The judged class is class 1, her method 1. -/
namespace start1
open Jvm.ClassFile
def u (s : String) : CpInfo := .utf8 (stringToUtf16 s)
/-- a pool by its gaps: so many unusable entries, then the entry; so many at the end -/
def gap : Nat → List CpInfo → List CpInfo
  | 0, r => r
  | n + 1, r => .unusable :: gap n r
def poolList (es : List (Nat × CpInfo)) (last : Nat) : List CpInfo := es.foldr (fun e r => gap e.1 (e.2 :: r)) (gap last [])
def pool (es : List (Nat × CpInfo)) (last : Nat) : Array CpInfo := ⟨poolList es last⟩
def fileOf (pool : Array CpInfo) (this : Nat) (attrs : Array Attribute := #[]) (ms : Array MethodInfo := #[]) (fl : Nat := 33) (sup : Nat := 0) (ifs : Array Nat := #[]) (fds : Array FieldInfo := #[]) : ClassFile where
  minorVersion := 0
  majorVersion := 65
  constantPool := pool
  accessFlags := fl
  thisClass := this
  superClass := sup
  interfaces := ifs
  fields := fds
  methods := ms
  attributes := attrs
def plain (name : String) (sup : Option ClassId) : Class where
  name := name
  kind := .ordinary
  loader := none
  accessFlags := 33
  super := sup
  interfaces := #[]
  cf := none
  fields := #[]
  methods := #[]
  instanceTypes := #[]
  staticTypes := #[]
  resolved := #[]
  callSites := []
  init := .initialized
  statics := none
  mirror := none

def pool0 : Array CpInfo := pool [(5, u "<init>"), (0, u "()V"), (1, .class_ 10), (1, u "java/lang/Object")] 113

def k0m0 : Method := { name := "<init>", desc := "()V", sig := { parameters := [], returnType := none }, accessFlags := 1, code := none }
/-- java/lang/Object -/
def k0 : Class := { plain "java/lang/Object" none with
  accessFlags := 33
  interfaces := #[]
  cf := some (fileOf pool0 8 #[] #[{ accessFlags := 1, nameIndex := 5, descriptorIndex := 6, attributes := #[] }] 33 0 #[] #[])
  fields := #[]
  methods := #[k0m0]
  instanceTypes := #[]
  staticTypes := #[]
  resolved := Array.replicate 124 none
  statics := none }

def pool1 : Array CpInfo := pool [(2, .class_ 4), (1, u "java/lang/Object"), (0, u "<init>"), (0, u "()V"), (0, .class_ 8), (0, u "com/example/rowcast/rowcast/Comparison"), (0, .fieldref 7 10), (0, .nameAndType 11 12), (0, u "EQUAL"), (0, u "Lcom/example/rowcast/rowcast/Comparison;"), (0, .fieldref 7 14), (0, .nameAndType 15 12), (0, u "NOT_EQUAL"), (0, .fieldref 7 17), (0, .nameAndType 18 12), (0, u "LESS"), (0, .fieldref 7 20), (0, .nameAndType 21 12), (0, u "LESS_OR_EQUAL"), (0, .fieldref 7 23), (0, .nameAndType 24 12), (0, u "GREATER"), (0, .fieldref 7 26), (0, .nameAndType 27 12), (0, u "GREATER_OR_EQUAL"), (0, .integer 2147483647), (0, .methodref 7 30), (0, .nameAndType 31 32), (0, u "holds"), (0, u "(I)Z"), (0, .class_ 34), (0, u "com/example/rowcast/rowcast/ComparisonHoldsPinLaw"), (2, u "law"), (0, u "(II)Z")] 7

def k1m0 : Method := { name := "<init>", desc := "()V", sig := { parameters := [], returnType := none }, accessFlags := 1, code := none }
def k1c1 : Code := { maxStack := 4, maxLocals := 6, code := code, exceptionTable := #[], attributes := #[] }
def k1m1 : Method := { name := "law", desc := "(II)Z", sig := { parameters := [.int, .int], returnType := some .boolean }, accessFlags := 9, code := some k1c1 }
/-- com/example/rowcast/rowcast/ComparisonHoldsPinLaw -/
def k1 : Class := { plain "com/example/rowcast/rowcast/ComparisonHoldsPinLaw" (some 0) with
  accessFlags := 49
  interfaces := #[]
  cf := some (fileOf pool1 33 #[] #[{ accessFlags := 1, nameIndex := 5, descriptorIndex := 6, attributes := #[] }, { accessFlags := 9, nameIndex := 37, descriptorIndex := 38, attributes := #[] }] 49 2 #[] #[])
  fields := #[]
  methods := #[k1m0, k1m1]
  instanceTypes := #[]
  staticTypes := #[]
  resolved := Array.replicate 46 none
  statics := none }

def pool2 : Array CpInfo := pool [(1, .class_ 2), (0, u "java/lang/constant/Constable"), (0, .class_ 4), (0, u "java/lang/Object")] 6

/-- java/lang/constant/Constable -/
def k2 : Class := { plain "java/lang/constant/Constable" (some 0) with
  accessFlags := 1537
  interfaces := #[]
  cf := some (fileOf pool2 1 #[] #[] 1537 3 #[] #[])
  fields := #[]
  methods := #[]
  instanceTypes := #[]
  staticTypes := #[]
  resolved := Array.replicate 11 none
  statics := none }

def pool3 : Array CpInfo := pool [(1, .class_ 2), (0, u "java/lang/Comparable"), (0, .class_ 4), (0, u "java/lang/Object")] 7

/-- java/lang/Comparable -/
def k3 : Class := { plain "java/lang/Comparable" (some 0) with
  accessFlags := 1537
  interfaces := #[]
  cf := some (fileOf pool3 1 #[] #[] 1537 3 #[] #[])
  fields := #[]
  methods := #[]
  instanceTypes := #[]
  staticTypes := #[]
  resolved := Array.replicate 12 none
  statics := none }

def pool4 : Array CpInfo := pool [(1, .class_ 2), (0, u "java/io/Serializable"), (0, .class_ 4), (0, u "java/lang/Object")] 2

/-- java/io/Serializable -/
def k4 : Class := { plain "java/io/Serializable" (some 0) with
  accessFlags := 1537
  interfaces := #[]
  cf := some (fileOf pool4 1 #[] #[] 1537 3 #[] #[])
  fields := #[]
  methods := #[]
  instanceTypes := #[]
  staticTypes := #[]
  resolved := Array.replicate 7 none
  statics := none }

def pool5 : Array CpInfo := pool [(2, .class_ 4), (1, u "java/lang/Enum"), (0, u "name"), (0, u "Ljava/lang/String;"), (0, .fieldref 2 8), (0, .nameAndType 9 10), (0, u "ordinal"), (0, u "I"), (1, .class_ 14), (1, u "java/lang/Object"), (4, u "hash"), (86, .class_ 108), (1, u "java/lang/Enum$EnumDesc"), (2, .class_ 112), (0, u "java/lang/constant/Constable"), (0, .class_ 114), (0, u "java/lang/Comparable"), (0, .class_ 116), (0, u "java/io/Serializable"), (9, u "()I")] 77

def k5c0 : Code := { maxStack := 1, maxLocals := 1, code := jdk_37_method_2_code, exceptionTable := #[], attributes := #[] }
def k5m0 : Method := { name := "ordinal", desc := "()I", sig := { parameters := [], returnType := some .int }, accessFlags := 17, code := some k5c0 }
/-- java/lang/Enum -/
def k5 : Class := { plain "java/lang/Enum" (some 0) with
  accessFlags := 1057
  interfaces := #[2, 3, 4]
  cf := some (fileOf pool5 2 #[.nestMembers #[106]] #[{ accessFlags := 17, nameIndex := 9, descriptorIndex := 126, attributes := #[] }] 1057 12 #[111, 113, 115] #[{ accessFlags := 18, nameIndex := 5, descriptorIndex := 6, attributes := #[] }, { accessFlags := 18, nameIndex := 9, descriptorIndex := 10, attributes := #[] }, { accessFlags := 2, nameIndex := 19, descriptorIndex := 10, attributes := #[] }])
  fields := #[{ name := "name", type := (.object "java/lang/String"), accessFlags := 18, slot := 0, constantValue := 0 }, { name := "ordinal", type := .int, accessFlags := 18, slot := 1, constantValue := 0 }, { name := "hash", type := .int, accessFlags := 2, slot := 2, constantValue := 0 }]
  methods := #[k5m0]
  instanceTypes := #[(.object "java/lang/String"), .int, .int]
  staticTypes := #[]
  resolved := Array.replicate 204 none
  statics := none }

def pool6 : Array CpInfo := pool [(1, .class_ 2), (0, u "com/example/rowcast/rowcast/Comparison"), (2, u "EQUAL"), (0, u "Lcom/example/rowcast/rowcast/Comparison;"), (2, u "NOT_EQUAL"), (2, u "LESS"), (2, u "LESS_OR_EQUAL"), (2, u "GREATER"), (2, u "GREATER_OR_EQUAL"), (2, u "$VALUES"), (0, u "[Lcom/example/rowcast/rowcast/Comparison;"), (6, .class_ 34), (1, u "java/lang/Enum"), (11, u "()I"), (15, .methodref 1 63), (0, .nameAndType 64 46), (0, u "ordinal"), (16, u "TEXT_ORDER"), (0, u "Ljava/util/Comparator;"), (3, u "NUMBER_ORDER"), (14, u "holds"), (0, u "(I)Z")] 33

def k6c0 : Code := { maxStack := 1, maxLocals := 2, code := prog_20_method_6_code, exceptionTable := #[], attributes := #[] }
def k6m0 : Method := { name := "holds", desc := "(I)Z", sig := { parameters := [.int], returnType := some .boolean }, accessFlags := 0, code := some k6c0 }
/-- com/example/rowcast/rowcast/Comparison -/
def k6 : Class := { plain "com/example/rowcast/rowcast/Comparison" (some 5) with
  accessFlags := 16432
  interfaces := #[]
  cf := some (fileOf pool6 1 #[] #[{ accessFlags := 0, nameIndex := 101, descriptorIndex := 102, attributes := #[] }] 16432 32 #[] #[{ accessFlags := 16409, nameIndex := 5, descriptorIndex := 6, attributes := #[] }, { accessFlags := 16409, nameIndex := 9, descriptorIndex := 6, attributes := #[] }, { accessFlags := 16409, nameIndex := 12, descriptorIndex := 6, attributes := #[] }, { accessFlags := 16409, nameIndex := 15, descriptorIndex := 6, attributes := #[] }, { accessFlags := 16409, nameIndex := 18, descriptorIndex := 6, attributes := #[] }, { accessFlags := 16409, nameIndex := 21, descriptorIndex := 6, attributes := #[] }, { accessFlags := 24, nameIndex := 81, descriptorIndex := 82, attributes := #[] }, { accessFlags := 24, nameIndex := 86, descriptorIndex := 82, attributes := #[] }, { accessFlags := 4122, nameIndex := 24, descriptorIndex := 25, attributes := #[] }])
  fields := #[{ name := "EQUAL", type := (.object "com/example/rowcast/rowcast/Comparison"), accessFlags := 16409, slot := 0, constantValue := 0 }, { name := "NOT_EQUAL", type := (.object "com/example/rowcast/rowcast/Comparison"), accessFlags := 16409, slot := 1, constantValue := 0 }, { name := "LESS", type := (.object "com/example/rowcast/rowcast/Comparison"), accessFlags := 16409, slot := 2, constantValue := 0 }, { name := "LESS_OR_EQUAL", type := (.object "com/example/rowcast/rowcast/Comparison"), accessFlags := 16409, slot := 3, constantValue := 0 }, { name := "GREATER", type := (.object "com/example/rowcast/rowcast/Comparison"), accessFlags := 16409, slot := 4, constantValue := 0 }, { name := "GREATER_OR_EQUAL", type := (.object "com/example/rowcast/rowcast/Comparison"), accessFlags := 16409, slot := 5, constantValue := 0 }, { name := "TEXT_ORDER", type := (.object "java/util/Comparator"), accessFlags := 24, slot := 6, constantValue := 0 }, { name := "NUMBER_ORDER", type := (.object "java/util/Comparator"), accessFlags := 24, slot := 7, constantValue := 0 }, { name := "$VALUES", type := (.array (.object "com/example/rowcast/rowcast/Comparison")), accessFlags := 4122, slot := 8, constantValue := 0 }]
  methods := #[k6m0]
  instanceTypes := #[(.object "java/lang/String"), .int, .int]
  staticTypes := #[(.object "com/example/rowcast/rowcast/Comparison"), (.object "com/example/rowcast/rowcast/Comparison"), (.object "com/example/rowcast/rowcast/Comparison"), (.object "com/example/rowcast/rowcast/Comparison"), (.object "com/example/rowcast/rowcast/Comparison"), (.object "com/example/rowcast/rowcast/Comparison"), (.object "java/util/Comparator"), (.object "java/util/Comparator"), (.array (.object "com/example/rowcast/rowcast/Comparison"))]
  resolved := Array.replicate 136 none
  statics := some 0 }

def pool7 : Array CpInfo := pool [(1, u "java/lang/Cloneable"), (0, .class_ 1), (0, u "java/lang/Object"), (0, .class_ 3)] 3

/-- java/lang/Cloneable -/
def k7 : Class := { plain "java/lang/Cloneable" (some 0) with
  accessFlags := 1537
  interfaces := #[]
  cf := some (fileOf pool7 2 #[] #[] 1537 4 #[] #[])
  fields := #[]
  methods := #[]
  instanceTypes := #[]
  staticTypes := #[]
  resolved := Array.replicate 8 none
  statics := none }

/-- the primitive boolean -/
def k8 : Class := { plain "boolean" none with kind := .primitive 'Z', accessFlags := 0x411 }
/-- [Z -/
def k9 : Class := { plain "[Z" (some 0) with kind := .array 8 .boolean, interfaces := #[7, 4], accessFlags := 1041 }

/-- the primitive byte -/
def k10 : Class := { plain "byte" none with kind := .primitive 'B', accessFlags := 0x411 }
/-- [B -/
def k11 : Class := { plain "[B" (some 0) with kind := .array 10 .byte, interfaces := #[7, 4], accessFlags := 1041 }

/-- the primitive int -/
def k12 : Class := { plain "int" none with kind := .primitive 'I', accessFlags := 0x411 }
/-- [I -/
def k13 : Class := { plain "[I" (some 0) with kind := .array 12 .int, interfaces := #[7, 4], accessFlags := 1041 }

/-- [Lcom/example/rowcast/rowcast/Comparison; -/
def k14 : Class := { plain "[Lcom/example/rowcast/rowcast/Comparison;" (some 0) with kind := .array 6 (.object "com/example/rowcast/rowcast/Comparison"), interfaces := #[7, 4], accessFlags := 1041 }

def heap : Heap := #[{ cls := 6, slots := #[.ref 1, .ref 2, .ref 3, .ref 4, .ref 5, .ref 6, .null, .null, .null], vm := .statics 6 },
  { cls := 6, slots := #[.null, .int 0, .int 0], vm := .none },
  { cls := 6, slots := #[.null, .int 1, .int 0], vm := .none },
  { cls := 6, slots := #[.null, .int 2, .int 0], vm := .none },
  { cls := 6, slots := #[.null, .int 3, .int 0], vm := .none },
  { cls := 6, slots := #[.null, .int 4, .int 0], vm := .none },
  { cls := 6, slots := #[.null, .int 5, .int 0], vm := .none }]
def classes : Array Class := #[k0, k1, k2, k3, k4, k5, k6, k7, k8, k9, k10, k11, k12, k13, k14]
def interned : List (Array UInt16 × Addr) := []
def slotsUsed : Nat := 27
def theMethod : MethodId := ⟨1, 1⟩
def args0 : Array Value := #[.int 5, .int 5]
def aboutOver (below : List Frame) : State where
  vm := { classes := classes, interned := interned.toArray }
  heap := heap
  slotsUsed := slotsUsed
  threads := #[{ frames := .invoking theMethod args0 :: below }]
def below0 : List Frame := [.native { method := ⟨0, 0⟩, args := #[] }]
def about1 : State := aboutOver below0
def p0 : Program := .bare "" "" ""
def e0 : Env := launch0.env 0 0 0
theorem w_frames : about1.frames = Frame.invoking theMethod args0 :: below0 := rfl
set_option maxRecDepth 65536 in
theorem w_args : argsFit about1.vm theMethod args0 = true := by decide +kernel
set_option maxRecDepth 65536 in
theorem w_heap : heapFits about1 = true := by decide +kernel
set_option maxRecDepth 65536 in
theorem w_runnable : about1.curStatus? = some .runnable := by decide +kernel
set_option maxRecDepth 65536 in
theorem w_alone : about1.alone = true := by decide +kernel
set_option maxRecDepth 65536 in
theorem w_named : about1.methodNamed? x = some theMethod := by decide +kernel
set_option maxRecDepth 65536 in
theorem w_hears : about1.hears theMethod below0 = true := by decide +kernel
set_option maxRecDepth 65536 in
theorem w_ripe : about1.ripe theMethod args0 below0 = true := by decide +kernel
theorem w_running : about1.status = .running := rfl
set_option maxRecDepth 65536 in
theorem w_room : about1.hasRoom e0.platform room_1 = true :=
  launch0.hasRoom_least _ room_1 (by decide +kernel) (by decide +kernel) (by decide +kernel) (by decide +kernel) (by decide +kernel) (by decide +kernel)
theorem allAtoms_all (ts : List Jvm.Cond) (a : Array Jvm.Value) (st : Jvm.State) : (allAtoms ts).before a st = ts.all (fun c => c.before a st) := by
  induction ts with
  | nil => rfl
  | cons c t ih =>
    show (Jvm.Cond.and c (allAtoms t)).before a st = _
    rw [Jvm.Cond.before_and, ih, List.all_cons]
def words1 : List Jvm.Cond := Jvm.Cond.code x code maxLocals ret :: tables_1
/-- a 'code' word, met by the world's own term for the bytes: nothing is compared byte by byte -/
theorem code_word {y : MethodName} {bytes : ByteArray} {mx : Nat} {rt : Option FieldType} {a : Array Value} {s : State} {m : MethodId} {meth : Method} {c : Code} (h1 : s.methodNamed? y = some m) (h2 : s.vm.method? m = some meth) (h3 : meth.code = some c) (h4 : c.code = bytes)
    (h5 : (c.maxLocals == mx && c.exceptionTable.isEmpty && decide (c.maxStack ≤ mostOperands) && decide (meth.sig.returnType = rt) && !meth.locks && decide (parseMethodDescriptor y.desc = some meth.sig)) = true) : (Jvm.Cond.code y bytes mx rt).before a s = true := by
  simp only [Bool.and_eq_true, beq_iff_eq, Bool.not_eq_true', decide_eq_true_eq] at h5
  obtain ⟨⟨⟨⟨⟨g1, g2⟩, g3⟩, g4⟩, g5⟩, g6⟩ := h5
  simp [Cond.before, Cond.holds, Cond.value, h1, h2, h3, h4, g1, g2, g3, g4, g5, g6]
def isCode : Jvm.Cond → Bool
  | .code _ _ _ _ => true
  | _ => false
theorem all_split {L : List Jvm.Cond} {P : Jvm.Cond → Bool} (h1 : L.all (fun c => isCode c || P c) = true) (h2 : ∀ c ∈ L.filter isCode, P c = true) : L.all P = true := by
  refine List.all_eq_true.mpr fun c hc => ?_
  have h := List.all_eq_true.mp h1 c hc
  rcases Bool.eq_false_or_eq_true (isCode c) with hi | hi
  · exact h2 c (List.mem_filter.mpr ⟨hc, hi⟩)
  · simpa [hi] using h
set_option maxRecDepth 65536 in
theorem w_c0 : (Jvm.Cond.code x code maxLocals ret).before args0 about1 = true := code_word (m := ⟨1, 1⟩) (meth := k1m1) (c := k1c1) (by decide +kernel) rfl rfl rfl (by decide +kernel)
set_option maxRecDepth 65536 in
theorem w_c1 : (Jvm.Cond.code ({ cls := "com/example/rowcast/rowcast/Comparison", name := "holds", desc := "(I)Z" } : Jvm.MethodName) prog_20_method_6_code (2 : Nat) (Option.some Jvm.ClassFile.FieldType.boolean)).before args0 about1 = true := code_word (m := ⟨6, 0⟩) (meth := k6m0) (c := k6c0) (by decide +kernel) rfl rfl rfl (by decide +kernel)
set_option maxRecDepth 65536 in
theorem w_c2 : (Jvm.Cond.code ({ cls := "java/lang/Enum", name := "ordinal", desc := "()I" } : Jvm.MethodName) jdk_37_method_2_code (1 : Nat) (Option.some Jvm.ClassFile.FieldType.int)).before args0 about1 = true := code_word (m := ⟨5, 0⟩) (meth := k5m0) (c := k5c0) (by decide +kernel) rfl rfl rfl (by decide +kernel)
def codes1 : List Jvm.Cond := [Jvm.Cond.code x code maxLocals ret, Jvm.Cond.code ({ cls := "com/example/rowcast/rowcast/Comparison", name := "holds", desc := "(I)Z" } : Jvm.MethodName) prog_20_method_6_code (2 : Nat) (Option.some Jvm.ClassFile.FieldType.boolean), Jvm.Cond.code ({ cls := "java/lang/Enum", name := "ordinal", desc := "()I" } : Jvm.MethodName) jdk_37_method_2_code (1 : Nat) (Option.some Jvm.ClassFile.FieldType.int)]
set_option maxRecDepth 65536 in
theorem codes_eq : words1.filter isCode = codes1 := rfl
theorem w_codes : ∀ c ∈ words1.filter isCode, c.before args0 about1 = true := by
  rw [codes_eq]
  intro c hc
  simp only [codes1, List.mem_cons, List.not_mem_nil, or_false] at hc
  rcases hc with rfl | rfl | rfl
  · exact w_c0
  · exact w_c1
  · exact w_c2
set_option maxRecDepth 65536 in
theorem w_t1 : (words1.take 24).all (fun c => isCode c || c.before args0 about1) = true := by decide +kernel
set_option maxRecDepth 65536 in
theorem w_t2 : (words1.drop 24).all (fun c => isCode c || c.before args0 about1) = true := by decide +kernel
theorem w_tables : (allAtoms (Jvm.Cond.code x code maxLocals ret :: tables_1)).before args0 about1 = true := by
  rw [allAtoms_all]
  show words1.all (fun c => c.before args0 about1) = true
  refine all_split ?_ w_codes
  rw [← List.take_append_drop 24 words1, List.all_append, w_t1, w_t2]
  rfl
set_option maxRecDepth 65536 in
theorem w_case : (Jvm.Cond.and given_1 narrow_1).before args0 about1 = true := by decide +kernel
theorem w_applies : (headSpec (Jvm.Cond.code x code maxLocals ret :: tables_1) room_1).applies x e0.platform about1 = true :=
  (Spec.applies_iff w_frames).mpr ⟨w_running, w_runnable, w_alone, w_named, w_hears, w_ripe, w_room, w_tables⟩
theorem atStart : AtStart classFile x code maxLocals ret World_1 tables_1 room_1 Calls_1 rest_1 Pre_1 launch0 p0 e0 about1 theMethod args0 below0 :=
  ⟨lists_1, trivial, launch0.admits_env _ _ _, launch0.least_env, fairChoices_fair.cas, fairChoices_fair.clock, w_frames, w_args, w_heap, w_applies, trivial, trivial, w_case⟩
end start1
theorem witness_1 : WitnessClaimed_1 := ⟨start1.p0, start1.e0, start1.about1, start1.theMethod, start1.args0, start1.below0, start1.atStart⟩
end Jvm.Pilot.@@N@@
