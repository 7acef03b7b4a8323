import JvmDerived
import JvmDerived.Pilot.@@N@@Statement
import JvmDerived.Pilot.@@N@@Code
set_option linter.unusedVariables false
set_option linter.unusedSimpArgs false
set_option maxRecDepth 65536
set_option maxHeartbeats 8000000
namespace Jvm.Pilot.@@N@@
open Jvm Jvm.ClassFile Sem Op Lib Jvm.Free Jvm.Stand Jvm.LawKit Jvm.RoadKit Bundle Jvm.Pilot.@@N@@.Jvm.D
abbrev vI (x : Int32) : Slot := .val (.int x)
abbrev vJ (x : Int64) : Slot := .val (.long x)
abbrev vR (x : Addr) : Slot := .val (.ref x)
abbrev vN : Slot := .val .null
/-- the run from S comes to an end at which K holds -/
def Go (p : Program) (e : Env) (below : List Frame) (K : State → Outcome → Prop) (S : State) : Prop := ∃ t o, Steps p.tables e below S t ∧ K t o
theorem Go.via {p : Program} {e : Env} {below : List Frame} {K : State → Outcome → Prop} {A B : State} (h : ∀ t, Steps p.tables e below B t → Steps p.tables e below A t) (g : Go p e below K B) : Go p e below K A := by
  obtain ⟨t, o, h1, h2⟩ := g; exact ⟨t, o, h t h1, h2⟩
/-- a method's end: what it returned, the heap and the places written answer Q -/
def EndK (s : State) (below : List Frame) (Q : Option Value → Heap → List Loc → Prop) (C S : Nat) (t : State) (o : Outcome) : Prop := t.status = .running ∧ Ended t below o ∧ ∃ v L, o = .returned v ∧ Q v t.heap L ∧ FrameEnd s o t L C S
/-- a method's contract -/
def Con (l : Launch) (Z : State) (y : MethodName) (bytes : ByteArray) (maxL : Nat) (ret : Option FieldType) (rm : Room) (as : Array Value) (h : Heap) (Q : Option Value → Heap → List Loc → Prop) : Prop :=
  ∀ ws, MetFree l y (head1 (Jvm.Cond.code y bytes maxL ret :: ws) rm) (fun a U => a = as ∧ Z.Warmed39 U.vm ∧ U.heap = h) (fun _ _ _ _ _ => True) (fun _ U o U' => ∃ v L, o = .returned v ∧ Q v U'.heap L ∧ FrameEnd U o U' L rm.cells rm.slots)
theorem Con.of {l : Launch} {Z : State} {y : MethodName} {bytes : ByteArray} {maxL : Nat} {ret : Option FieldType} {rm : Room} {as : Array Value} {h : Heap} {Q : Option Value → Heap → List Loc → Prop} {Ls : Array Slot} (hp : plainFor y = true) (hfr : ∀ m, entryFrame m as maxL = mkF m 0 Ls [])
    (body : ∀ (p : Program) (e : Env) (s : State) (m : MethodId) (below : List Frame) (meth : Method) (c : Code) (T : State), Stand p l e rm s m as below meth c T [] 0 0 → p.tables.exec = Jvm.exec ∧ c.code = bytes → c.maxLocals = maxL → Z.Warmed39 s.vm → s.vm.findClass y.cls = some m.cls → meth.name = y.name → meth.sig.returnType = ret → meth.locks = false → T.heap = h → Go p e below (EndK s below Q rm.cells rm.slots) (T.setTop (mkF m 0 Ls []))) :
    Con l Z y bytes maxL ret rm as h Q := by
  intro ws
  refine MetFree.of_bodySF hp hisR ?_
  intro p e s m args below meth c s₁ Bd hml hP hK
  obtain ⟨rfl, hZ, hh⟩ := hP
  have e0 : s₁.heap = h := by rw [← hh, Bd.state]; rfl
  obtain ⟨t, o, h1, h2⟩ := body p e s m below meth c s₁ (Stand.of_body Bd) ⟨Bd.exec, Bd.bytes⟩ hml hZ (findClass_of_methodNamed Bd.named) (name_of_methodNamed Bd.named Bd.method).1 Bd.returns Bd.notSynchronized e0
  exact ⟨t, o, castTop (hfr m) h1, h2⟩
section Steps
variable {p : Program} {l : Launch} {e : Env} {R : Room} {s : State} {m : MethodId} {args : Array Value} {below : List Frame} {meth : Method} {c : Code} {T : State} {locs : List Loc} {cells slots : Nat} {K : State → Outcome → Prop} {Z : State} {a0 : Array Value} {h : Heap} {bs : ByteArray} {Ls Ls' : Array Slot} {st : List Value} {pc pc' : Nat}

theorem gIloadN (X : Stand p l e R s m args below meth c T locs cells slots) (H : p.tables.exec = Jvm.exec ∧ c.code = bs) {k : Fin 4} {v : Int32} (hd : decode bs pc = .ok (.iload_n k, 1)) (hl : Ls[k.val]? = some (.val (.int v))) (pc' : Nat) (hp : pc + 1 = pc') (g : Go p e below K (T.setTop (mkF m pc' Ls (.int v :: st)))) : Go p e below K (T.setTop (mkF m pc Ls (st))) := by
  subst hp
  exact Go.via (fun t k => XS.iloadN (g := mkF m pc Ls (st)) X.here H.1 rfl (hb H.2 hd) hl k) g

theorem gAloadN (X : Stand p l e R s m args below meth c T locs cells slots) (H : p.tables.exec = Jvm.exec ∧ c.code = bs) {k : Fin 4} {v : Value} (hd : decode bs pc = .ok (.aload_n k, 1)) (hl : Ls[k.val]? = some (.val v)) (hv : v.isRef = true) (pc' : Nat) (hp : pc + 1 = pc') (g : Go p e below K (T.setTop (mkF m pc' Ls (v :: st)))) : Go p e below K (T.setTop (mkF m pc Ls (st))) := by
  subst hp
  exact Go.via (fun t k => XS.aloadN (g := mkF m pc Ls (st)) X.here H.1 rfl (hb H.2 hd) hl hv k) g

theorem gIstoreN (X : Stand p l e R s m args below meth c T locs cells slots) (H : p.tables.exec = Jvm.exec ∧ c.code = bs) {k : Fin 4} {v : Int32} (hd : decode bs pc = .ok (.istore_n k, 1)) (hl : storeLocals Ls k.val (.int v) = some Ls') (pc' : Nat) (hp : pc + 1 = pc') (g : Go p e below K (T.setTop (mkF m pc' Ls' (st)))) : Go p e below K (T.setTop (mkF m pc Ls (.int v :: st))) := by
  subst hp
  exact Go.via (fun t k => XS.istoreN (g := mkF m pc Ls (.int v :: st)) X.here H.1 rfl (hb H.2 hd) rfl hl k) g

theorem gAstoreN (X : Stand p l e R s m args below meth c T locs cells slots) (H : p.tables.exec = Jvm.exec ∧ c.code = bs) {k : Fin 4} {v : Value} (hd : decode bs pc = .ok (.astore_n k, 1)) (hv : v.isRef = true) (hl : storeLocals Ls k.val v = some Ls') (pc' : Nat) (hp : pc + 1 = pc') (g : Go p e below K (T.setTop (mkF m pc' Ls' (st)))) : Go p e below K (T.setTop (mkF m pc Ls (v :: st))) := by
  subst hp
  exact Go.via (fun t k => XS.astoreN (g := mkF m pc Ls (v :: st)) X.here H.1 rfl (hb H.2 hd) rfl hv hl k) g

theorem gIload (X : Stand p l e R s m args below meth c T locs cells slots) (H : p.tables.exec = Jvm.exec ∧ c.code = bs) {k : Nat} {v : Int32} (hd : decode bs pc = .ok (.iload k, 2)) (hl : Ls[k]? = some (.val (.int v))) (pc' : Nat) (hp : pc + 2 = pc') (g : Go p e below K (T.setTop (mkF m pc' Ls (.int v :: st)))) : Go p e below K (T.setTop (mkF m pc Ls (st))) := by
  subst hp
  exact Go.via (fun t k => XS.iload (g := mkF m pc Ls (st)) X.here H.1 rfl (hb H.2 hd) hl k) g

theorem gAload (X : Stand p l e R s m args below meth c T locs cells slots) (H : p.tables.exec = Jvm.exec ∧ c.code = bs) {k : Nat} {v : Value} (hd : decode bs pc = .ok (.aload k, 2)) (hl : Ls[k]? = some (.val v)) (hv : v.isRef = true) (pc' : Nat) (hp : pc + 2 = pc') (g : Go p e below K (T.setTop (mkF m pc' Ls (v :: st)))) : Go p e below K (T.setTop (mkF m pc Ls (st))) := by
  subst hp
  exact Go.via (fun t k => XS.aload (g := mkF m pc Ls (st)) X.here H.1 rfl (hb H.2 hd) hl hv k) g

theorem gIstore (X : Stand p l e R s m args below meth c T locs cells slots) (H : p.tables.exec = Jvm.exec ∧ c.code = bs) {k : Nat} {v : Int32} (hd : decode bs pc = .ok (.istore k, 2)) (hl : storeLocals Ls k (.int v) = some Ls') (pc' : Nat) (hp : pc + 2 = pc') (g : Go p e below K (T.setTop (mkF m pc' Ls' (st)))) : Go p e below K (T.setTop (mkF m pc Ls (.int v :: st))) := by
  subst hp
  exact Go.via (fun t k => XS.istore (g := mkF m pc Ls (.int v :: st)) X.here H.1 rfl (hb H.2 hd) rfl hl k) g

theorem gAstore (X : Stand p l e R s m args below meth c T locs cells slots) (H : p.tables.exec = Jvm.exec ∧ c.code = bs) {k : Nat} {v : Value} (hd : decode bs pc = .ok (.astore k, 2)) (hv : v.isRef = true) (hl : storeLocals Ls k v = some Ls') (pc' : Nat) (hp : pc + 2 = pc') (g : Go p e below K (T.setTop (mkF m pc' Ls' (st)))) : Go p e below K (T.setTop (mkF m pc Ls (v :: st))) := by
  subst hp
  exact Go.via (fun t k => XS.astore (g := mkF m pc Ls (v :: st)) X.here H.1 rfl (hb H.2 hd) rfl hv hl k) g

theorem gIconst (X : Stand p l e R s m args below meth c T locs cells slots) (H : p.tables.exec = Jvm.exec ∧ c.code = bs) {i : Int} {z : Int32} (hd : decode bs pc = .ok (.iconst i, 1)) (hz : Int32.ofInt i = z) (pc' : Nat) (hp : pc + 1 = pc') (g : Go p e below K (T.setTop (mkF m pc' Ls (.int z :: st)))) : Go p e below K (T.setTop (mkF m pc Ls (st))) := by
  subst hp hz
  exact Go.via (fun t k => XS.iconst (g := mkF m pc Ls (st)) X.here H.1 rfl (hb H.2 hd) k) g

theorem g_iand (X : Stand p l e R s m args below meth c T locs cells slots) (H : p.tables.exec = Jvm.exec ∧ c.code = bs) {x y z : Int32} (hd : decode bs pc = .ok (.iand, 1)) (hz : x &&& y = z) (pc' : Nat) (hp : pc + 1 = pc') (g : Go p e below K (T.setTop (mkF m pc' Ls (.int z :: st)))) : Go p e below K (T.setTop (mkF m pc Ls (.int y :: .int x :: st))) := by
  subst hp hz
  exact Go.via (fun t k => XS.iand (g := mkF m pc Ls (.int y :: .int x :: st)) X.here H.1 rfl (hb H.2 hd) rfl k) g

theorem g_irem (X : Stand p l e R s m args below meth c T locs cells slots) (H : p.tables.exec = Jvm.exec ∧ c.code = bs) {x y z : Int32} (hd : decode bs pc = .ok (.irem, 1)) (hy : y ≠ 0) (hz : x % y = z) (pc' : Nat) (hp : pc + 1 = pc') (g : Go p e below K (T.setTop (mkF m pc' Ls (.int z :: st)))) : Go p e below K (T.setTop (mkF m pc Ls (.int y :: .int x :: st))) := by
  subst hp hz
  exact Go.via (fun t k => iremM (g := mkF m pc Ls (.int y :: .int x :: st)) X H.1 rfl (hb H.2 hd) rfl hy k) g

theorem gGoto (X : Stand p l e R s m args below meth c T locs cells slots) (H : p.tables.exec = Jvm.exec ∧ c.code = bs)  {o : Int} (hd : decode bs pc = .ok (.goto o, 3)) (ho : 0 ≤ (pc : Int) + o) (pc' : Nat) (hp : ((pc : Int) + o).toNat = pc') (g : Go p e below K (T.setTop (mkF m pc' Ls (st)))) : Go p e below K (T.setTop (mkF m pc Ls (st))) :=
  Go.via (fun t k => XS.goto (g := mkF m pc Ls (st)) X.here H.1 rfl rfl (hb H.2 hd) ho hp k) g

theorem gIfY (X : Stand p l e R s m args below meth c T locs cells slots) (H : p.tables.exec = Jvm.exec ∧ c.code = bs) {cd : ClassFile.Cond} {x : Int32} {o : Int} (hd : decode bs pc = .ok (.ifCond cd o, 3)) (hc : ifCond.holds cd x = true) (ho : 0 ≤ (pc : Int) + o) (pc' : Nat) (hp : ((pc : Int) + o).toNat = pc') (g : Go p e below K (T.setTop (mkF m pc' Ls (st)))) : Go p e below K (T.setTop (mkF m pc Ls (.int x :: st))) :=
  Go.via (fun t k => XS.ifYes (g := mkF m pc Ls (.int x :: st)) X.here H.1 rfl rfl (hb H.2 hd) rfl hc ho hp k) g

theorem gCmpY (X : Stand p l e R s m args below meth c T locs cells slots) (H : p.tables.exec = Jvm.exec ∧ c.code = bs) {cd : ClassFile.Cond} {x y : Int32} {o : Int} (hd : decode bs pc = .ok (.if_icmp cd o, 3)) (hc : if_icmp.holds cd x y = true) (ho : 0 ≤ (pc : Int) + o) (pc' : Nat) (hp : ((pc : Int) + o).toNat = pc') (g : Go p e below K (T.setTop (mkF m pc' Ls (st)))) : Go p e below K (T.setTop (mkF m pc Ls (.int y :: .int x :: st))) :=
  Go.via (fun t k => XS.icmpYes (g := mkF m pc Ls (.int y :: .int x :: st)) X.here H.1 rfl rfl (hb H.2 hd) rfl hc ho hp k) g

theorem gIfN (X : Stand p l e R s m args below meth c T locs cells slots) (H : p.tables.exec = Jvm.exec ∧ c.code = bs) {o : Int} {cd : ClassFile.Cond} {x : Int32} (hd : decode bs pc = .ok (.ifCond cd o, 3)) (hc : ifCond.holds cd x = false) (pc' : Nat) (hp : pc + 3 = pc') (g : Go p e below K (T.setTop (mkF m pc' Ls (st)))) : Go p e below K (T.setTop (mkF m pc Ls (.int x :: st))) := by
  subst hp
  exact Go.via (fun t k => XS.ifNo (g := mkF m pc Ls (.int x :: st)) X.here H.1 rfl (hb H.2 hd) rfl hc k) g

theorem gCmpN (X : Stand p l e R s m args below meth c T locs cells slots) (H : p.tables.exec = Jvm.exec ∧ c.code = bs) {o : Int} {cd : ClassFile.Cond} {x y : Int32} (hd : decode bs pc = .ok (.if_icmp cd o, 3)) (hc : if_icmp.holds cd x y = false) (pc' : Nat) (hp : pc + 3 = pc') (g : Go p e below K (T.setTop (mkF m pc' Ls (st)))) : Go p e below K (T.setTop (mkF m pc Ls (.int y :: .int x :: st))) := by
  subst hp
  exact Go.via (fun t k => XS.icmpNo (g := mkF m pc Ls (.int y :: .int x :: st)) X.here H.1 rfl (hb H.2 hd) rfl hc k) g

theorem gAcmp (X : Stand p l e R s m args below meth c T locs cells slots) (H : p.tables.exec = Jvm.exec ∧ c.code = bs) {cd : ACond} {x y : Value} {o : Int} {same : Bool} (hd : decode bs pc = .ok (.if_acmp cd o, 3)) (h1 : x.isRef = true) (h2 : y.isRef = true) (hq : decide (x = y) = same) (ho : 0 ≤ (pc : Int) + o) (pc' : Nat) (hp : pc' = if acV cd same = true then ((pc : Int) + o).toNat else pc + 3) (g : Go p e below K (T.setTop (mkF m pc' Ls (st)))) : Go p e below K (T.setTop (mkF m pc Ls (y :: x :: st))) :=
  Go.via (fun t k => Jvm.RoadKit.acmp (g := mkF m pc Ls (y :: x :: st)) X H.1 rfl h1 h2 rfl (hb H.2 hd) rfl hq ho hp k) g

theorem gLdc (X : Stand p l e R s m args below meth c T locs cells slots) (H : p.tables.exec = Jvm.exec ∧ c.code = bs) (hZ : Z.Warmed39 s.vm) {own : String} {index : Nat} (hown : s.vm.findClass own = some m.cls) {v : Int32} (w : (Cond.constant own index v).before a0 Z = true) (hd : decode bs pc = .ok (.ldc index, 2)) (pc' : Nat) (hp : pc + 2 = pc') (g : Go p e below K (T.setTop (mkF m pc' Ls (.int v :: st)))) : Go p e below K (T.setTop (mkF m pc Ls (st))) := by
  subst hp
  exact Go.via (X.ldcInt H.1 hown (mvT hZ w) (g := mkF m pc Ls st) rfl (hb H.2 hd)) g

theorem gGetS (X : Stand p l e R s m args below meth c T locs cells slots) (H : p.tables.exec = Jvm.exec ∧ c.code = bs) (hZ : Z.Warmed39 s.vm) {own : String} {index : Nat} (hown : s.vm.findClass own = some m.cls) {O n d : String} {v : Value} (w : (Cond.fieldLink own index O n d).before a0 Z = true) (eT : T.heap = h) (F : Sta Z h O n d v) (hd : decode bs pc = .ok (.getstatic index, 3)) (pc' : Nat) (hp : pc + 3 = pc') (g : ∀ T', Stand p l e R s m args below meth c T' locs cells slots → T'.heap = h → Go p e below K (T'.setTop (mkF m pc' Ls (v :: st)))) : Go p e below K (T.setTop (mkF m pc Ls (st))) := by
  subst hp
  obtain ⟨T', X', e', k⟩ := getS2 X H.1 hZ hown (host := "") (Or.inl w) Via.refl eT F (g := mkF m pc Ls st) rfl (hb H.2 hd)
  exact Go.via k (g T' X' e')

theorem gStatic (X : Stand p l e R s m args below meth c T locs cells slots) (H : p.tables.exec = Jvm.exec ∧ c.code = bs) (hZ : Z.Warmed39 s.vm) {own : String} {index : Nat} (hown : s.vm.findClass own = some m.cls) {y : MethodName} {bytes : ByteArray} {maxL : Nat} {ret : Option FieldType} {rm : Room} {as : Array Value} {Q : Option Value → Heap → List Loc → Prop} {W maxO : Nat} {argsL rest : List Value} {ps : List FieldType} {r : Option FieldType} (wl : (Cond.methodLink own index y).before a0 Z = true) (wst : (Cond.static y).before a0 Z = true) (hy : y.cls ≠ "java/lang/invoke/MethodHandle" ∧ y.cls ≠ "java/lang/invoke/VarHandle") (wc : (Cond.code y bytes maxL ret).before a0 Z = true) (wz : (Cond.initialized (y).cls).before a0 Z = true) (M : Con l Z y bytes maxL ret rm as h Q) (eT : T.heap = h) (hml : c.maxLocals = maxO) (hs : Ls.size = maxO) (hpd : parseMethodDescriptor y.desc = some ⟨ps, r⟩) (hlen : argsL.length = ps.length) (hstack : st = argsL.reverse ++ rest) (has : argsL.toArray = as) (hd : decode bs pc = .ok (.invokestatic index, 3)) (pc' : Nat) (hp : pc + 3 = pc')
    (g : ∀ v T' L, Q v T'.heap L → Stand p l e R s m args below meth c T' (locs ++ L) (cells + rm.cells) (slots + rm.slots) → Go p e below K (T'.setTop (mkF m pc' Ls (v.toList ++ rest)))) (hW : (rest.map fun v => v.category).sum ≤ W := by exact Nat.le_of_eq rfl) (hf : rm.frames + 1 ≤ R.frames := by decide) (hl : W + (maxL + 11) + rm.locals ≤ R.locals := by decide) (hc : cells + rm.cells ≤ R.cells := by decide) (hsl : slots + rm.slots ≤ R.slots := by decide) : Go p e below K (T.setTop (mkF m pc Ls (st))) := by
  subst hp has
  obtain ⟨v, _, ⟨T', L', k', n'⟩, -, X', ⟨L, hQ, l', y', z'⟩, k⟩ := Jvm.LawKit.callS X H.1 (y := y) hown (mvT hZ wl) (mvT hZ wst) (mvT hZ wz) (mvT hZ wc) hy (backOf (W := W) (M []) hZ wc wz hf hl) (g := mkF m pc Ls st) rfl (hs.trans hml.symm) (argsL := argsL) (rest := rest) (lenOf hpd hlen) hstack (by show 2 * 0 + _ ≤ _; omega) (hb H.2 hd) (fun _ _ => ⟨rfl, eT, hc, hsl⟩)
  dsimp only [Pt.U, Pt.locs, Pt.cells, Pt.slots] at X' l' y' z' k hQ
  subst l' y' z'
  exact Go.via k (g v T' L hQ X')

theorem gRetN (X : Stand p l e R s m args below meth c T locs cells slots) (H : p.tables.exec = Jvm.exec ∧ c.code = bs) (hlk : meth.locks = false) {Q : Option Value → Heap → List Loc → Prop} {C S : Nat} {t : FieldType} {z : Int32} (hret : meth.sig.returnType = some t) (ht : t = .boolean ∨ t = .byte ∨ t = .char ∨ t = .short) (hd : decode bs pc = .ok (.ireturn, 1)) (eT : T.heap = h) (q : Q (some (.int (nar t z))) h locs) (hC : cells ≤ C := by decide) (hS : slots ≤ S := by decide) : Go p e below (EndK s below Q C S) (T.setTop (mkF m pc Ls (.int z :: st))) := by
  subst eT
  obtain ⟨fs, hr, hrun, hended, hW, hsame⟩ := X.leave (v := (some (.int (nar t z)))) (fun h => by rw [hret] at h; cases h) hlk
  exact ⟨_, _, retN X H.1 hret ht (hb H.2 hd) hr, hrun, hended, _, _, rfl, q, ⟨_, rfl⟩, hW, hsame.mono hC hS⟩

theorem gRetA (X : Stand p l e R s m args below meth c T locs cells slots) (H : p.tables.exec = Jvm.exec ∧ c.code = bs) (hlk : meth.locks = false) {Q : Option Value → Heap → List Loc → Prop} {C S : Nat} {w : Value} {t : FieldType} (hret : meth.sig.returnType = some t) (hn : narrow t w = w) (ht : t.isReference = true) (hv : w.isRef = true) (hd : decode bs pc = .ok (.areturn, 1)) (eT : T.heap = h) (q : Q (some w) h locs) (hC : cells ≤ C := by decide) (hS : slots ≤ S := by decide) : Go p e below (EndK s below Q C S) (T.setTop (mkF m pc Ls (w :: st))) := by
  subst eT
  obtain ⟨fs, hr, hrun, hended, hW, hsame⟩ := X.leave (v := (some w)) (fun h => by rw [hret] at h; cases h) hlk
  exact ⟨_, _, retOut X H.1 hret hn (Or.inr (Or.inr (Or.inr (Or.inr ⟨rfl, ht, hv⟩)))) (hb H.2 hd) hr, hrun, hended, _, _, rfl, q, ⟨_, rfl⟩, hW, hsame.mono hC hS⟩

theorem gVirt (X : Stand p l e R s m args below meth c T locs cells slots) (H : p.tables.exec = Jvm.exec ∧ c.code = bs) (hZ : Z.Warmed39 s.vm) {own : String} {index : Nat} (hown : s.vm.findClass own = some m.cls) {C : String} {y : MethodName} {bytes : ByteArray} {maxL : Nat} {ret : Option FieldType} {rm : Room} {as : Array Value} {Q : Option Value → Heap → List Loc → Prop} {W maxO : Nat} {argsL rest : List Value} {ps : List FieldType} {r : Option FieldType} (wl : (Cond.methodLink own index y).before a0 Z = true) (wd : (Cond.declares y).before a0 Z = true) (wse : (Cond.selects C y y).before a0 Z = true) (wi : (Cond.instanceMethod y).before a0 Z = true) (hy : y.cls ≠ "java/lang/invoke/MethodHandle" ∧ y.cls ≠ "java/lang/invoke/VarHandle") {b : Addr} (E : Exa Z h b C) (wc : (Cond.code y bytes maxL ret).before a0 Z = true) (wz : (Cond.initialized (y).cls).before a0 Z = true) (M : Con l Z y bytes maxL ret rm as h Q) (eT : T.heap = h) (hml : c.maxLocals = maxO) (hs : Ls.size = maxO) (hpd : parseMethodDescriptor y.desc = some ⟨ps, r⟩) (hlen : argsL.length = ps.length) (hstack : st = argsL.reverse ++ .ref b :: rest) (has : (.ref b :: argsL).toArray = as) (hd : decode bs pc = .ok (.invokevirtual index, 3)) (pc' : Nat) (hp : pc + 3 = pc')
    (g : ∀ v T' L, Q v T'.heap L → Stand p l e R s m args below meth c T' (locs ++ L) (cells + rm.cells) (slots + rm.slots) → Go p e below K (T'.setTop (mkF m pc' Ls (v.toList ++ rest)))) (hW : (rest.map fun v => v.category).sum ≤ W := by exact Nat.le_of_eq rfl) (hf : rm.frames + 1 ≤ R.frames := by decide) (hl : W + (maxL + 11) + rm.locals ≤ R.locals := by decide) (hc : cells + rm.cells ≤ R.cells := by decide) (hsl : slots + rm.slots ≤ R.slots := by decide) : Go p e below K (T.setTop (mkF m pc Ls (st))) := by
  subst hp has
  obtain ⟨cB, kB, q1, q2, q3⟩ := isOf hZ eT E
  obtain ⟨v, _, ⟨T', L', k', n'⟩, -, X', ⟨L, hQ, l', y', z'⟩, k⟩ := X.virtualBack H.1 (y := y) (z := y) hown (mvT hZ wl) (mvT hZ wd) (notFace_of_selects (args := #[]) (mvT hZ wse)) (mvT hZ wse) (mvT hZ wi) hy (backOf (W := W) (M []) hZ wc wz hf hl) q1 q3 (g := mkF m pc Ls st) rfl (hs.trans hml.symm) (Steps.refl _) (argsL := argsL) (rest := rest) (lenOf hpd hlen) hstack (by show 2 * 0 + _ ≤ _; omega) (hb H.2 hd) (fun _ _ => ⟨rfl, eT, hc, hsl⟩)
  dsimp only [Pt.U, Pt.locs, Pt.cells, Pt.slots] at X' l' y' z' k hQ
  subst l' y' z'
  exact Go.via (fun t q => k.trans q) (g v T' L hQ X')

end Steps
theorem eqI {args : Array Value} {s : State} {t : Term} {w : Addr} {C n d : String} {k : Int32} (ev : t.eval args s none [] s = some (.ref w)) (q : (Jvm.Cond.eq (.field t C n d) (.int k)).value args s none s [] = some true) : Fld s s.heap w C n d (.int k) := by
  refine Fld.start ?_
  rw [← fld_at (args := args) (first := s) (o := none) (idx := []) ev]
  obtain ⟨x, y, h1, h2, k1, k2⟩ := cmp_v (Or.inl q)
  obtain rfl : y = .int k := (Option.some.inj ((Term.int_eval k).symm.trans h2)).symm
  obtain ⟨z, rfl⟩ := k2
  simp [Cond.value, h1, h2] at q
  rw [h1, q]
theorem eqR {args : Array Value} {s : State} {t t' : Term} {w w' : Addr} {C n d : String} (ev : t.eval args s none [] s = some (.ref w)) (ev' : t'.eval args s none [] s = some (.ref w')) (q : (Jvm.Cond.eq (.field t C n d) t').value args s none s [] = some true) : Fld s s.heap w C n d (.ref w') := by
  refine Fld.start ?_
  rw [← fld_at (args := args) (first := s) (o := none) (idx := []) ev]
  obtain ⟨x, y, h1, h2, k1, k2⟩ := cmp_v (Or.inl q)
  obtain rfl : y = .ref w' := (Option.some.inj (ev'.symm.trans h2)).symm
  have hx : x.isRef = true := k2.2
  have := gotT (eq_R h1 h2 hx rfl) q
  rw [h1, this]
theorem eqN {args : Array Value} {s : State} {t : Term} {w : Addr} {C n d : String} (ev : t.eval args s none [] s = some (.ref w)) (q : (Jvm.Cond.eq (.field t C n d) .null).value args s none s [] = some true) : Fld s s.heap w C n d .null := by
  refine Fld.start ?_
  rw [← fld_at (args := args) (first := s) (o := none) (idx := []) ev]
  exact null_v q
theorem fldE {args : Array Value} {s : State} {t : Term} {w w' : Addr} {C n d : String} (ev : t.eval args s none [] s = some (.ref w)) (ev' : (Term.field t C n d).eval args s none [] s = some (.ref w')) : Fld s s.heap w C n d (.ref w') :=
  Fld.start ((fld_at (args := args) (first := s) (o := none) (idx := []) ev).symm.trans ev')
theorem t32_ne {a b : Int32} (h : a < b) : ¬ (a = b) := by rw [Int32.lt_iff_toInt_lt] at h; rw [← Int32.toInt_inj]; omega
theorem t32_as {a b : Int32} (h : a < b) : ¬ (b < a) := by rw [Int32.lt_iff_toInt_lt] at *; omega
theorem t32_ir {a b : Int32} (h : a = b) : ¬ (a < b) := by subst h; rw [Int32.lt_iff_toInt_lt]; omega
theorem t32_tot {a b : Int32} (h : ¬ (a < b)) (h2 : ¬ (a = b)) : b < a := by rw [Int32.lt_iff_toInt_lt] at *; rw [← Int32.toInt_inj] at h2; omega
theorem t32_eq {a b : Int32} (h : ¬ (a < b)) (h2 : ¬ (b < a)) : a = b := by rw [Int32.lt_iff_toInt_lt] at *; rw [← Int32.toInt_inj]; omega
theorem t64_ne {a b : Int64} (h : a < b) : ¬ (a = b) := by rw [Int64.lt_iff_toInt_lt] at h; rw [← Int64.toInt_inj]; omega
theorem t64_as {a b : Int64} (h : a < b) : ¬ (b < a) := by rw [Int64.lt_iff_toInt_lt] at *; omega
theorem t64_ir {a b : Int64} (h : a = b) : ¬ (a < b) := by subst h; rw [Int64.lt_iff_toInt_lt]; omega
theorem t64_tot {a b : Int64} (h : ¬ (a < b)) (h2 : ¬ (a = b)) : b < a := by rw [Int64.lt_iff_toInt_lt] at *; rw [← Int64.toInt_inj] at h2; omega
theorem t64_eq {a b : Int64} (h : ¬ (a < b)) (h2 : ¬ (b < a)) : a = b := by rw [Int64.lt_iff_toInt_lt] at *; rw [← Int64.toInt_inj]; omega

theorem wd0 : (Jvm.Cond.constant "com/example/linemind/linemind/game/StatusIsWonPinLaw" (25 : Nat) (2147483647 : Int32)) ∈ tables_1 := List.mem_of_getElem? (i := 0) rfl
theorem wd1 : (Jvm.Cond.methodLink "com/example/linemind/linemind/game/StatusIsWonPinLaw" (26 : Nat) ({ cls := "com/example/linemind/linemind/game/StatusIsWonPinLaw", name := "pick", desc := "(I)Lcom/example/linemind/linemind/game/Status;" } : Jvm.MethodName)) ∈ tables_1 := List.mem_of_getElem? (i := 1) rfl
theorem wd2 : (Jvm.Cond.static ({ cls := "com/example/linemind/linemind/game/StatusIsWonPinLaw", name := "pick", desc := "(I)Lcom/example/linemind/linemind/game/Status;" } : Jvm.MethodName)) ∈ tables_1 := List.mem_of_getElem? (i := 2) rfl
theorem wd3 : (Jvm.Cond.initialized "com/example/linemind/linemind/game/StatusIsWonPinLaw") ∈ tables_1 := List.mem_of_getElem? (i := 3) rfl
theorem wd4 : (Jvm.Cond.code ({ cls := "com/example/linemind/linemind/game/StatusIsWonPinLaw", name := "pick", desc := "(I)Lcom/example/linemind/linemind/game/Status;" } : Jvm.MethodName) method_2_code (1 : Nat) (Option.some (Jvm.ClassFile.FieldType.object "com/example/linemind/linemind/game/Status"))) ∈ tables_1 := List.mem_of_getElem? (i := 4) rfl
theorem wd5 : (Jvm.Cond.fieldLink "com/example/linemind/linemind/game/StatusIsWonPinLaw" (7 : Nat) "com/example/linemind/linemind/game/Status" "FIRST_TO_MOVE" "Lcom/example/linemind/linemind/game/Status;") ∈ tables_1 := List.mem_of_getElem? (i := 5) rfl
theorem wd6 : (Jvm.Cond.initialized "com/example/linemind/linemind/game/Status") ∈ tables_1 := List.mem_of_getElem? (i := 6) rfl
theorem wd7 : (Jvm.Cond.laysStatic "com/example/linemind/linemind/game/Status" "FIRST_TO_MOVE" "Lcom/example/linemind/linemind/game/Status;") ∈ tables_1 := List.mem_of_getElem? (i := 7) rfl
theorem wd8 : (Jvm.Cond.fieldLink "com/example/linemind/linemind/game/StatusIsWonPinLaw" (32 : Nat) "com/example/linemind/linemind/game/Player" "SECOND" "Lcom/example/linemind/linemind/game/Player;") ∈ tables_1 := List.mem_of_getElem? (i := 8) rfl
theorem wd9 : (Jvm.Cond.initialized "com/example/linemind/linemind/game/Player") ∈ tables_1 := List.mem_of_getElem? (i := 9) rfl
theorem wd10 : (Jvm.Cond.laysStatic "com/example/linemind/linemind/game/Player" "SECOND" "Lcom/example/linemind/linemind/game/Player;") ∈ tables_1 := List.mem_of_getElem? (i := 10) rfl
theorem wd11 : (Jvm.Cond.methodLink "com/example/linemind/linemind/game/StatusIsWonPinLaw" (41 : Nat) ({ cls := "com/example/linemind/linemind/game/Status", name := "isWon", desc := "()Z" } : Jvm.MethodName)) ∈ tables_1 := List.mem_of_getElem? (i := 11) rfl
theorem wd12 : (Jvm.Cond.declares ({ cls := "com/example/linemind/linemind/game/Status", name := "isWon", desc := "()Z" } : Jvm.MethodName)) ∈ tables_1 := List.mem_of_getElem? (i := 12) rfl
theorem wd13 : (Jvm.Cond.instanceMethod ({ cls := "com/example/linemind/linemind/game/Status", name := "isWon", desc := "()Z" } : Jvm.MethodName)) ∈ tables_1 := List.mem_of_getElem? (i := 13) rfl
theorem wd14 : (Jvm.Cond.selects "com/example/linemind/linemind/game/Status" ({ cls := "com/example/linemind/linemind/game/Status", name := "isWon", desc := "()Z" } : Jvm.MethodName) ({ cls := "com/example/linemind/linemind/game/Status", name := "isWon", desc := "()Z" } : Jvm.MethodName)) ∈ tables_1 := List.mem_of_getElem? (i := 14) rfl
theorem wd15 : (Jvm.Cond.code ({ cls := "com/example/linemind/linemind/game/Status", name := "isWon", desc := "()Z" } : Jvm.MethodName) prog_30_method_6_code (1 : Nat) (Option.some Jvm.ClassFile.FieldType.boolean)) ∈ tables_1 := List.mem_of_getElem? (i := 15) rfl
theorem wd16 : (Jvm.Cond.fieldLink "com/example/linemind/linemind/game/Status" (10 : Nat) "com/example/linemind/linemind/game/Status" "FIRST_WINS" "Lcom/example/linemind/linemind/game/Status;") ∈ tables_1 := List.mem_of_getElem? (i := 16) rfl
theorem wd17 : (Jvm.Cond.laysStatic "com/example/linemind/linemind/game/Status" "FIRST_WINS" "Lcom/example/linemind/linemind/game/Status;") ∈ tables_1 := List.mem_of_getElem? (i := 17) rfl
theorem wd18 : (Jvm.Cond.fieldLink "com/example/linemind/linemind/game/Status" (13 : Nat) "com/example/linemind/linemind/game/Status" "SECOND_WINS" "Lcom/example/linemind/linemind/game/Status;") ∈ tables_1 := List.mem_of_getElem? (i := 18) rfl
theorem wd19 : (Jvm.Cond.laysStatic "com/example/linemind/linemind/game/Status" "SECOND_WINS" "Lcom/example/linemind/linemind/game/Status;") ∈ tables_1 := List.mem_of_getElem? (i := 19) rfl
theorem wd20 : (Jvm.Cond.methodLink "com/example/linemind/linemind/game/StatusIsWonPinLaw" (48 : Nat) ({ cls := "com/example/linemind/linemind/game/Status", name := "wonBy", desc := "(Lcom/example/linemind/linemind/game/Player;)Lcom/example/linemind/linemind/game/Status;" } : Jvm.MethodName)) ∈ tables_1 := List.mem_of_getElem? (i := 20) rfl
theorem wd21 : (Jvm.Cond.static ({ cls := "com/example/linemind/linemind/game/Status", name := "wonBy", desc := "(Lcom/example/linemind/linemind/game/Player;)Lcom/example/linemind/linemind/game/Status;" } : Jvm.MethodName)) ∈ tables_1 := List.mem_of_getElem? (i := 21) rfl
theorem wd22 : (Jvm.Cond.code ({ cls := "com/example/linemind/linemind/game/Status", name := "wonBy", desc := "(Lcom/example/linemind/linemind/game/Player;)Lcom/example/linemind/linemind/game/Status;" } : Jvm.MethodName) prog_30_method_8_code (1 : Nat) (Option.some (Jvm.ClassFile.FieldType.object "com/example/linemind/linemind/game/Status"))) ∈ tables_1 := List.mem_of_getElem? (i := 22) rfl
theorem wd23 : (Jvm.Cond.fieldLink "com/example/linemind/linemind/game/Status" (42 : Nat) "com/example/linemind/linemind/game/Player" "FIRST" "Lcom/example/linemind/linemind/game/Player;") ∈ tables_1 := List.mem_of_getElem? (i := 23) rfl
theorem wd24 : (Jvm.Cond.laysStatic "com/example/linemind/linemind/game/Player" "FIRST" "Lcom/example/linemind/linemind/game/Player;") ∈ tables_1 := List.mem_of_getElem? (i := 24) rfl
theorem wd25 : (Jvm.Cond.methodLink "com/example/linemind/linemind/game/StatusIsWonPinLaw" (52 : Nat) ({ cls := "com/example/linemind/linemind/game/Status", name := "toMove", desc := "(Lcom/example/linemind/linemind/game/Player;)Lcom/example/linemind/linemind/game/Status;" } : Jvm.MethodName)) ∈ tables_1 := List.mem_of_getElem? (i := 25) rfl
theorem wd26 : (Jvm.Cond.static ({ cls := "com/example/linemind/linemind/game/Status", name := "toMove", desc := "(Lcom/example/linemind/linemind/game/Player;)Lcom/example/linemind/linemind/game/Status;" } : Jvm.MethodName)) ∈ tables_1 := List.mem_of_getElem? (i := 26) rfl
theorem wd27 : (Jvm.Cond.code ({ cls := "com/example/linemind/linemind/game/Status", name := "toMove", desc := "(Lcom/example/linemind/linemind/game/Player;)Lcom/example/linemind/linemind/game/Status;" } : Jvm.MethodName) prog_30_method_7_code (1 : Nat) (Option.some (Jvm.ClassFile.FieldType.object "com/example/linemind/linemind/game/Status"))) ∈ tables_1 := List.mem_of_getElem? (i := 27) rfl
theorem wd28 : (Jvm.Cond.fieldLink "com/example/linemind/linemind/game/Status" (7 : Nat) "com/example/linemind/linemind/game/Status" "SECOND_TO_MOVE" "Lcom/example/linemind/linemind/game/Status;") ∈ tables_1 := List.mem_of_getElem? (i := 28) rfl
theorem wd29 : (Jvm.Cond.laysStatic "com/example/linemind/linemind/game/Status" "SECOND_TO_MOVE" "Lcom/example/linemind/linemind/game/Status;") ∈ tables_1 := List.mem_of_getElem? (i := 29) rfl
theorem wd30 : (Jvm.Cond.fieldLink "com/example/linemind/linemind/game/StatusIsWonPinLaw" (22 : Nat) "com/example/linemind/linemind/game/Status" "DRAW" "Lcom/example/linemind/linemind/game/Status;") ∈ tables_1 := List.mem_of_getElem? (i := 30) rfl
theorem wd31 : (Jvm.Cond.laysStatic "com/example/linemind/linemind/game/Status" "DRAW" "Lcom/example/linemind/linemind/game/Status;") ∈ tables_1 := List.mem_of_getElem? (i := 31) rfl
theorem wd32 : (Jvm.Cond.fieldLink "com/example/linemind/linemind/game/StatusIsWonPinLaw" (19 : Nat) "com/example/linemind/linemind/game/Status" "SECOND_WINS" "Lcom/example/linemind/linemind/game/Status;") ∈ tables_1 := List.mem_of_getElem? (i := 32) rfl
theorem wd33 : (Jvm.Cond.methodLink "com/example/linemind/linemind/game/StatusIsWonPinLaw" (45 : Nat) ({ cls := "com/example/linemind/linemind/game/Status", name := "isOver", desc := "()Z" } : Jvm.MethodName)) ∈ tables_1 := List.mem_of_getElem? (i := 33) rfl
theorem wd34 : (Jvm.Cond.declares ({ cls := "com/example/linemind/linemind/game/Status", name := "isOver", desc := "()Z" } : Jvm.MethodName)) ∈ tables_1 := List.mem_of_getElem? (i := 34) rfl
theorem wd35 : (Jvm.Cond.instanceMethod ({ cls := "com/example/linemind/linemind/game/Status", name := "isOver", desc := "()Z" } : Jvm.MethodName)) ∈ tables_1 := List.mem_of_getElem? (i := 35) rfl
theorem wd36 : (Jvm.Cond.selects "com/example/linemind/linemind/game/Status" ({ cls := "com/example/linemind/linemind/game/Status", name := "isOver", desc := "()Z" } : Jvm.MethodName) ({ cls := "com/example/linemind/linemind/game/Status", name := "isOver", desc := "()Z" } : Jvm.MethodName)) ∈ tables_1 := List.mem_of_getElem? (i := 36) rfl
theorem wd37 : (Jvm.Cond.code ({ cls := "com/example/linemind/linemind/game/Status", name := "isOver", desc := "()Z" } : Jvm.MethodName) prog_30_method_4_code (1 : Nat) (Option.some Jvm.ClassFile.FieldType.boolean)) ∈ tables_1 := List.mem_of_getElem? (i := 37) rfl
theorem wd38 : (Jvm.Cond.fieldLink "com/example/linemind/linemind/game/Status" (3 : Nat) "com/example/linemind/linemind/game/Status" "FIRST_TO_MOVE" "Lcom/example/linemind/linemind/game/Status;") ∈ tables_1 := List.mem_of_getElem? (i := 38) rfl
theorem wd39 : (Jvm.Cond.fieldLink "com/example/linemind/linemind/game/StatusIsWonPinLaw" (13 : Nat) "com/example/linemind/linemind/game/Status" "SECOND_TO_MOVE" "Lcom/example/linemind/linemind/game/Status;") ∈ tables_1 := List.mem_of_getElem? (i := 39) rfl
theorem wd40 : (Jvm.Cond.fieldLink "com/example/linemind/linemind/game/StatusIsWonPinLaw" (38 : Nat) "com/example/linemind/linemind/game/Player" "FIRST" "Lcom/example/linemind/linemind/game/Player;") ∈ tables_1 := List.mem_of_getElem? (i := 40) rfl
theorem wd41 : (Jvm.Cond.fieldLink "com/example/linemind/linemind/game/StatusIsWonPinLaw" (16 : Nat) "com/example/linemind/linemind/game/Status" "FIRST_WINS" "Lcom/example/linemind/linemind/game/Status;") ∈ tables_1 := List.mem_of_getElem? (i := 41) rfl
theorem d1_0 : decode method_2_code 0 = .ok (.iload_n 0, 1) := by decide +kernel
theorem d1_1 : decode method_2_code 1 = .ok (.ifCond .ne 7, 3) := by decide +kernel
theorem d1_4 : decode method_2_code 4 = .ok (.getstatic 7, 3) := by decide +kernel
theorem d1_7 : decode method_2_code 7 = .ok (.areturn, 1) := by decide +kernel
theorem d1_8 : decode method_2_code 8 = .ok (.iload_n 0, 1) := by decide +kernel
theorem d1_9 : decode method_2_code 9 = .ok (.iconst 1, 1) := by decide +kernel
theorem d1_10 : decode method_2_code 10 = .ok (.if_icmp .ne 7, 3) := by decide +kernel
theorem d1_13 : decode method_2_code 13 = .ok (.getstatic 13, 3) := by decide +kernel
theorem d1_16 : decode method_2_code 16 = .ok (.areturn, 1) := by decide +kernel
theorem d1_17 : decode method_2_code 17 = .ok (.iload_n 0, 1) := by decide +kernel
theorem d1_18 : decode method_2_code 18 = .ok (.iconst 2, 1) := by decide +kernel
theorem d1_19 : decode method_2_code 19 = .ok (.if_icmp .ne 7, 3) := by decide +kernel
theorem d1_22 : decode method_2_code 22 = .ok (.getstatic 16, 3) := by decide +kernel
theorem d1_25 : decode method_2_code 25 = .ok (.areturn, 1) := by decide +kernel
theorem d1_26 : decode method_2_code 26 = .ok (.iload_n 0, 1) := by decide +kernel
theorem d1_27 : decode method_2_code 27 = .ok (.iconst 3, 1) := by decide +kernel
theorem d1_28 : decode method_2_code 28 = .ok (.if_icmp .ne 7, 3) := by decide +kernel
theorem d1_31 : decode method_2_code 31 = .ok (.getstatic 19, 3) := by decide +kernel
theorem d1_34 : decode method_2_code 34 = .ok (.areturn, 1) := by decide +kernel
theorem d1_35 : decode method_2_code 35 = .ok (.getstatic 22, 3) := by decide +kernel
theorem d1_38 : decode method_2_code 38 = .ok (.areturn, 1) := by decide +kernel
theorem d2_0 : decode prog_30_method_6_code 0 = .ok (.aload_n 0, 1) := by decide +kernel
theorem d2_1 : decode prog_30_method_6_code 1 = .ok (.getstatic 10, 3) := by decide +kernel
theorem d2_4 : decode prog_30_method_6_code 4 = .ok (.if_acmp .eq 10, 3) := by decide +kernel
theorem d2_7 : decode prog_30_method_6_code 7 = .ok (.aload_n 0, 1) := by decide +kernel
theorem d2_8 : decode prog_30_method_6_code 8 = .ok (.getstatic 13, 3) := by decide +kernel
theorem d2_11 : decode prog_30_method_6_code 11 = .ok (.if_acmp .ne 7, 3) := by decide +kernel
theorem d2_14 : decode prog_30_method_6_code 14 = .ok (.iconst 1, 1) := by decide +kernel
theorem d2_15 : decode prog_30_method_6_code 15 = .ok (.goto 4, 3) := by decide +kernel
theorem d2_18 : decode prog_30_method_6_code 18 = .ok (.iconst 0, 1) := by decide +kernel
theorem d2_19 : decode prog_30_method_6_code 19 = .ok (.ireturn, 1) := by decide +kernel
theorem d3_0 : decode prog_30_method_8_code 0 = .ok (.aload_n 0, 1) := by decide +kernel
theorem d3_1 : decode prog_30_method_8_code 1 = .ok (.getstatic 42, 3) := by decide +kernel
theorem d3_4 : decode prog_30_method_8_code 4 = .ok (.if_acmp .ne 9, 3) := by decide +kernel
theorem d3_7 : decode prog_30_method_8_code 7 = .ok (.getstatic 10, 3) := by decide +kernel
theorem d3_10 : decode prog_30_method_8_code 10 = .ok (.goto 6, 3) := by decide +kernel
theorem d3_13 : decode prog_30_method_8_code 13 = .ok (.getstatic 13, 3) := by decide +kernel
theorem d3_16 : decode prog_30_method_8_code 16 = .ok (.areturn, 1) := by decide +kernel
theorem d4_0 : decode prog_30_method_7_code 0 = .ok (.aload_n 0, 1) := by decide +kernel
theorem d4_1 : decode prog_30_method_7_code 1 = .ok (.getstatic 42, 3) := by decide +kernel
theorem d4_4 : decode prog_30_method_7_code 4 = .ok (.if_acmp .ne 9, 3) := by decide +kernel
theorem d4_7 : decode prog_30_method_7_code 7 = .ok (.getstatic 3, 3) := by decide +kernel
theorem d4_10 : decode prog_30_method_7_code 10 = .ok (.goto 6, 3) := by decide +kernel
theorem d4_13 : decode prog_30_method_7_code 13 = .ok (.getstatic 7, 3) := by decide +kernel
theorem d4_16 : decode prog_30_method_7_code 16 = .ok (.areturn, 1) := by decide +kernel
theorem d5_0 : decode prog_30_method_4_code 0 = .ok (.aload_n 0, 1) := by decide +kernel
theorem d5_1 : decode prog_30_method_4_code 1 = .ok (.getstatic 3, 3) := by decide +kernel
theorem d5_4 : decode prog_30_method_4_code 4 = .ok (.if_acmp .eq 14, 3) := by decide +kernel
theorem d5_7 : decode prog_30_method_4_code 7 = .ok (.aload_n 0, 1) := by decide +kernel
theorem d5_8 : decode prog_30_method_4_code 8 = .ok (.getstatic 7, 3) := by decide +kernel
theorem d5_11 : decode prog_30_method_4_code 11 = .ok (.if_acmp .eq 7, 3) := by decide +kernel
theorem d5_14 : decode prog_30_method_4_code 14 = .ok (.iconst 1, 1) := by decide +kernel
theorem d5_15 : decode prog_30_method_4_code 15 = .ok (.goto 4, 3) := by decide +kernel
theorem d5_19 : decode prog_30_method_4_code 19 = .ok (.ireturn, 1) := by decide +kernel
theorem pd0 : parseMethodDescriptor "(I)Lcom/example/linemind/linemind/game/Status;" = some ⟨[.int], some (.object "com/example/linemind/linemind/game/Status")⟩ := by decide +kernel
theorem pd1 : parseMethodDescriptor "()Z" = some ⟨[], some .boolean⟩ := by decide +kernel
theorem pd2 : parseMethodDescriptor "(Lcom/example/linemind/linemind/game/Player;)Lcom/example/linemind/linemind/game/Status;" = some ⟨[(.object "com/example/linemind/linemind/game/Player")], some (.object "com/example/linemind/linemind/game/Status")⟩ := by decide +kernel
theorem pn0 : plainName "com/example/linemind/linemind/game/StatusIsWonPinLaw" = true := by first | (simp [plainName, overriddenIn]; done) | decide +kernel
theorem pn1 : plainName "com/example/linemind/linemind/game/StatusIsWonPinLaw" = true := by first | (simp [plainName, overriddenIn]; done) | decide +kernel
theorem pn2 : plainName "com/example/linemind/linemind/game/Status" = true := by first | (simp [plainName, overriddenIn]; done) | decide +kernel
theorem pn3 : plainName "com/example/linemind/linemind/game/Status" = true := by first | (simp [plainName, overriddenIn]; done) | decide +kernel
theorem pn4 : plainName "com/example/linemind/linemind/game/Status" = true := by first | (simp [plainName, overriddenIn]; done) | decide +kernel
theorem pn5 : plainName "com/example/linemind/linemind/game/Status" = true := by first | (simp [plainName, overriddenIn]; done) | decide +kernel
def World (Z : State) (w_Status_FIRST_TO_MOVE w_Player_SECOND w_Status_FIRST_WINS w_Status_SECOND_WINS w_Player_FIRST w_Status_SECOND_TO_MOVE w_Status_DRAW : Addr) : Prop :=
  Sta Z Z.heap "com/example/linemind/linemind/game/Status" "FIRST_TO_MOVE" "Lcom/example/linemind/linemind/game/Status;" (.ref w_Status_FIRST_TO_MOVE) ∧
  Exa Z Z.heap w_Status_FIRST_TO_MOVE "com/example/linemind/linemind/game/Status" ∧
  Sta Z Z.heap "com/example/linemind/linemind/game/Player" "SECOND" "Lcom/example/linemind/linemind/game/Player;" (.ref w_Player_SECOND) ∧
  Exa Z Z.heap w_Player_SECOND "com/example/linemind/linemind/game/Player" ∧
  Sta Z Z.heap "com/example/linemind/linemind/game/Status" "FIRST_WINS" "Lcom/example/linemind/linemind/game/Status;" (.ref w_Status_FIRST_WINS) ∧
  Exa Z Z.heap w_Status_FIRST_WINS "com/example/linemind/linemind/game/Status" ∧
  Sta Z Z.heap "com/example/linemind/linemind/game/Status" "SECOND_WINS" "Lcom/example/linemind/linemind/game/Status;" (.ref w_Status_SECOND_WINS) ∧
  Exa Z Z.heap w_Status_SECOND_WINS "com/example/linemind/linemind/game/Status" ∧
  Sta Z Z.heap "com/example/linemind/linemind/game/Player" "FIRST" "Lcom/example/linemind/linemind/game/Player;" (.ref w_Player_FIRST) ∧
  Exa Z Z.heap w_Player_FIRST "com/example/linemind/linemind/game/Player" ∧
  Sta Z Z.heap "com/example/linemind/linemind/game/Status" "SECOND_TO_MOVE" "Lcom/example/linemind/linemind/game/Status;" (.ref w_Status_SECOND_TO_MOVE) ∧
  Exa Z Z.heap w_Status_SECOND_TO_MOVE "com/example/linemind/linemind/game/Status" ∧
  Sta Z Z.heap "com/example/linemind/linemind/game/Status" "DRAW" "Lcom/example/linemind/linemind/game/Status;" (.ref w_Status_DRAW) ∧
  Exa Z Z.heap w_Status_DRAW "com/example/linemind/linemind/game/Status" ∧
  Fld Z Z.heap w_Status_FIRST_TO_MOVE "java/lang/Enum" "ordinal" "I" (.int 0) ∧
  Fld Z Z.heap w_Status_FIRST_WINS "java/lang/Enum" "ordinal" "I" (.int 2) ∧
  Fld Z Z.heap w_Status_SECOND_WINS "java/lang/Enum" "ordinal" "I" (.int 3) ∧
  Fld Z Z.heap w_Player_SECOND "java/lang/Enum" "ordinal" "I" (.int 1) ∧
  Fld Z Z.heap w_Player_FIRST "java/lang/Enum" "ordinal" "I" (.int 0) ∧
  Fld Z Z.heap w_Status_SECOND_TO_MOVE "java/lang/Enum" "ordinal" "I" (.int 1) ∧
  Fld Z Z.heap w_Status_DRAW "java/lang/Enum" "ordinal" "I" (.int 4)
abbrev Bg (Z : State) (a0 : Array Value) (w_Status_FIRST_TO_MOVE w_Player_SECOND w_Status_FIRST_WINS w_Status_SECOND_WINS w_Player_FIRST w_Status_SECOND_TO_MOVE w_Status_DRAW : Addr) : Prop := (∀ d ∈ tables_1, d.before a0 Z = true) ∧ World Z w_Status_FIRST_TO_MOVE w_Player_SECOND w_Status_FIRST_WINS w_Status_SECOND_WINS w_Player_FIRST w_Status_SECOND_TO_MOVE w_Status_DRAW
theorem mod_cases (k : Int32) : ((k &&& (2147483647 : Int32)) % (5 : Int32)) = (0 : Int32) ∨ ((k &&& (2147483647 : Int32)) % (5 : Int32)) = (1 : Int32) ∨ ((k &&& (2147483647 : Int32)) % (5 : Int32)) = (2 : Int32) ∨ ((k &&& (2147483647 : Int32)) % (5 : Int32)) = (3 : Int32) ∨ ((k &&& (2147483647 : Int32)) % (5 : Int32)) = (4 : Int32) := by
  have h1 := c_mask k (2147483647 : Int32) 31 (by decide) (by decide)
  have h2 := (c_irem (k &&& (2147483647 : Int32)) (5 : Int32) 5 (by decide)).1 (by omega)
  simp only [← Int32.toInt_inj]
  have e : ∀ i : Fin 5, (Int32.ofNat i.1).toInt = (i.1 : Int) := by decide
  have e0 : (0 : Int32).toInt = 0 := by decide
  have e1 : (1 : Int32).toInt = 1 := by decide
  have e2 : (2 : Int32).toInt = 2 := by decide
  have e3 : (3 : Int32).toInt = 3 := by decide
  have e4 : (4 : Int32).toInt = 4 := by decide
  omega
theorem m1 (k : Int32) : (k &&& (1 : Int32)) = (0 : Int32) ∨ (k &&& (1 : Int32)) = (1 : Int32) := by
  have h1 := c_mask k (1 : Int32) 1 (by decide) (by decide)
  simp only [← Int32.toInt_inj]
  have e0 : (0 : Int32).toInt = 0 := by decide
  have e1 : (1 : Int32).toInt = 1 := by decide
  omega
section Walk
variable {l : Launch} {Z : State} {a0 : Array Value} {w_Status_FIRST_TO_MOVE w_Player_SECOND w_Status_FIRST_WINS w_Status_SECOND_WINS w_Player_FIRST w_Status_SECOND_TO_MOVE w_Status_DRAW : Addr}
theorem rm2_1 (B : Bg Z a0 w_Status_FIRST_TO_MOVE w_Player_SECOND w_Status_FIRST_WINS w_Status_SECOND_WINS w_Player_FIRST w_Status_SECOND_TO_MOVE w_Status_DRAW) :
    Con l Z (⟨"com/example/linemind/linemind/game/StatusIsWonPinLaw", "pick", "(I)Lcom/example/linemind/linemind/game/Status;"⟩ : MethodName) method_2_code 1 (some (.object "com/example/linemind/linemind/game/Status")) ({ frames := 0, cells := 0, slots := 0, locals := 0 } : Room) #[(.int 0)] Z.heap (fun v h' L => v = some (.ref w_Status_FIRST_TO_MOVE) ∧ h' = Z.heap ∧ L = []) := by
  have hw := B.1
  obtain ⟨S_w_Status_FIRST_TO_MOVE, E_w_Status_FIRST_TO_MOVE, S_w_Player_SECOND, E_w_Player_SECOND, S_w_Status_FIRST_WINS, E_w_Status_FIRST_WINS, S_w_Status_SECOND_WINS, E_w_Status_SECOND_WINS, S_w_Player_FIRST, E_w_Player_FIRST, S_w_Status_SECOND_TO_MOVE, E_w_Status_SECOND_TO_MOVE, S_w_Status_DRAW, E_w_Status_DRAW, F_w_Status_FIRST_TO_MOVE_ordinal, F_w_Status_FIRST_WINS_ordinal, F_w_Status_SECOND_WINS_ordinal, F_w_Player_SECOND_ordinal, F_w_Player_FIRST_ordinal, F_w_Status_SECOND_TO_MOVE_ordinal, F_w_Status_DRAW_ordinal⟩ := B.2
  refine Con.of (plainFor_of_name pn1) (Ls := #[vI 0]) (fun m => by first | rfl | (simp [entryFrame, mkF, argsToLocals, Value.category]; done)) ?_
  intro p e s m below meth c T0 X0 H hml hZ hown hnm hret hlk e0
  refine gIloadN X0 H d1_0 rfl 1 rfl ?_
  refine gIfN X0 H d1_1 (by decide) 4 rfl ?_
  refine gGetS X0 H hZ hown (hw _ wd5) e0 S_w_Status_FIRST_TO_MOVE d1_4 7 rfl ?_
  intro T1 X1 e1
  exact gRetA X1 H hlk hret rfl rfl rfl d1_7 e1 ⟨rfl, rfl, rfl⟩
theorem rm7_2 (B : Bg Z a0 w_Status_FIRST_TO_MOVE w_Player_SECOND w_Status_FIRST_WINS w_Status_SECOND_WINS w_Player_FIRST w_Status_SECOND_TO_MOVE w_Status_DRAW) :
    Con l Z (⟨"com/example/linemind/linemind/game/Status", "isWon", "()Z"⟩ : MethodName) prog_30_method_6_code 1 (some .boolean) ({ frames := 0, cells := 0, slots := 0, locals := 0 } : Room) #[(.ref w_Status_FIRST_TO_MOVE)] Z.heap (fun v h' L => v = some (.int 0) ∧ h' = Z.heap ∧ L = []) := by
  have hw := B.1
  obtain ⟨S_w_Status_FIRST_TO_MOVE, E_w_Status_FIRST_TO_MOVE, S_w_Player_SECOND, E_w_Player_SECOND, S_w_Status_FIRST_WINS, E_w_Status_FIRST_WINS, S_w_Status_SECOND_WINS, E_w_Status_SECOND_WINS, S_w_Player_FIRST, E_w_Player_FIRST, S_w_Status_SECOND_TO_MOVE, E_w_Status_SECOND_TO_MOVE, S_w_Status_DRAW, E_w_Status_DRAW, F_w_Status_FIRST_TO_MOVE_ordinal, F_w_Status_FIRST_WINS_ordinal, F_w_Status_SECOND_WINS_ordinal, F_w_Player_SECOND_ordinal, F_w_Player_FIRST_ordinal, F_w_Status_SECOND_TO_MOVE_ordinal, F_w_Status_DRAW_ordinal⟩ := B.2
  refine Con.of (plainFor_of_name pn2) (Ls := #[vR w_Status_FIRST_TO_MOVE]) (fun m => by first | rfl | (simp [entryFrame, mkF, argsToLocals, Value.category]; done)) ?_
  intro p e s m below meth c T0 X0 H hml hZ hown hnm hret hlk e0
  refine gAloadN X0 H d2_0 rfl rfl 1 rfl ?_
  refine gGetS X0 H hZ hown (hw _ wd16) e0 S_w_Status_FIRST_WINS d2_1 4 rfl ?_
  intro T5 X5 e5
  refine gAcmp X5 H d2_4 rfl rfl (same := false) (decide_eq_false fun q => (Fld.ne F_w_Status_FIRST_TO_MOVE_ordinal F_w_Status_FIRST_WINS_ordinal (by decide)) (Value.ref.inj q)) (by decide) 7 (by decide) ?_
  refine gAloadN X5 H d2_7 rfl rfl 8 rfl ?_
  refine gGetS X5 H hZ hown (hw _ wd18) e5 S_w_Status_SECOND_WINS d2_8 11 rfl ?_
  intro T6 X6 e6
  refine gAcmp X6 H d2_11 rfl rfl (same := false) (decide_eq_false fun q => (Fld.ne F_w_Status_FIRST_TO_MOVE_ordinal F_w_Status_SECOND_WINS_ordinal (by decide)) (Value.ref.inj q)) (by decide) 18 (by decide) ?_
  refine gIconst X6 H d2_18 (z := 0) rfl 19 rfl ?_
  exact gRetN X6 H hlk hret (t := .boolean) (by simp) d2_19 e6 ⟨rfl, rfl, rfl⟩
theorem rm11_3 (B : Bg Z a0 w_Status_FIRST_TO_MOVE w_Player_SECOND w_Status_FIRST_WINS w_Status_SECOND_WINS w_Player_FIRST w_Status_SECOND_TO_MOVE w_Status_DRAW) :
    Con l Z (⟨"com/example/linemind/linemind/game/Status", "wonBy", "(Lcom/example/linemind/linemind/game/Player;)Lcom/example/linemind/linemind/game/Status;"⟩ : MethodName) prog_30_method_8_code 1 (some (.object "com/example/linemind/linemind/game/Status")) ({ frames := 0, cells := 0, slots := 0, locals := 0 } : Room) #[(.ref w_Player_FIRST)] Z.heap (fun v h' L => v = some (.ref w_Status_FIRST_WINS) ∧ h' = Z.heap ∧ L = []) := by
  have hw := B.1
  obtain ⟨S_w_Status_FIRST_TO_MOVE, E_w_Status_FIRST_TO_MOVE, S_w_Player_SECOND, E_w_Player_SECOND, S_w_Status_FIRST_WINS, E_w_Status_FIRST_WINS, S_w_Status_SECOND_WINS, E_w_Status_SECOND_WINS, S_w_Player_FIRST, E_w_Player_FIRST, S_w_Status_SECOND_TO_MOVE, E_w_Status_SECOND_TO_MOVE, S_w_Status_DRAW, E_w_Status_DRAW, F_w_Status_FIRST_TO_MOVE_ordinal, F_w_Status_FIRST_WINS_ordinal, F_w_Status_SECOND_WINS_ordinal, F_w_Player_SECOND_ordinal, F_w_Player_FIRST_ordinal, F_w_Status_SECOND_TO_MOVE_ordinal, F_w_Status_DRAW_ordinal⟩ := B.2
  refine Con.of (plainFor_of_name pn3) (Ls := #[vR w_Player_FIRST]) (fun m => by first | rfl | (simp [entryFrame, mkF, argsToLocals, Value.category]; done)) ?_
  intro p e s m below meth c T0 X0 H hml hZ hown hnm hret hlk e0
  refine gAloadN X0 H d3_0 rfl rfl 1 rfl ?_
  refine gGetS X0 H hZ hown (hw _ wd23) e0 S_w_Player_FIRST d3_1 4 rfl ?_
  intro T9 X9 e9
  refine gAcmp X9 H d3_4 rfl rfl (same := true) (decide_eq_true rfl) (by decide) 7 (by decide) ?_
  refine gGetS X9 H hZ hown (hw _ wd16) e9 S_w_Status_FIRST_WINS d3_7 10 rfl ?_
  intro T10 X10 e10
  refine gGoto X10 H d3_10 (by decide) 16 rfl ?_
  exact gRetA X10 H hlk hret rfl rfl rfl d3_16 e10 ⟨rfl, rfl, rfl⟩
theorem rm14_2 (B : Bg Z a0 w_Status_FIRST_TO_MOVE w_Player_SECOND w_Status_FIRST_WINS w_Status_SECOND_WINS w_Player_FIRST w_Status_SECOND_TO_MOVE w_Status_DRAW) :
    Con l Z (⟨"com/example/linemind/linemind/game/Status", "isWon", "()Z"⟩ : MethodName) prog_30_method_6_code 1 (some .boolean) ({ frames := 0, cells := 0, slots := 0, locals := 0 } : Room) #[(.ref w_Status_FIRST_WINS)] Z.heap (fun v h' L => v = some (.int 1) ∧ h' = Z.heap ∧ L = []) := by
  have hw := B.1
  obtain ⟨S_w_Status_FIRST_TO_MOVE, E_w_Status_FIRST_TO_MOVE, S_w_Player_SECOND, E_w_Player_SECOND, S_w_Status_FIRST_WINS, E_w_Status_FIRST_WINS, S_w_Status_SECOND_WINS, E_w_Status_SECOND_WINS, S_w_Player_FIRST, E_w_Player_FIRST, S_w_Status_SECOND_TO_MOVE, E_w_Status_SECOND_TO_MOVE, S_w_Status_DRAW, E_w_Status_DRAW, F_w_Status_FIRST_TO_MOVE_ordinal, F_w_Status_FIRST_WINS_ordinal, F_w_Status_SECOND_WINS_ordinal, F_w_Player_SECOND_ordinal, F_w_Player_FIRST_ordinal, F_w_Status_SECOND_TO_MOVE_ordinal, F_w_Status_DRAW_ordinal⟩ := B.2
  refine Con.of (plainFor_of_name pn2) (Ls := #[vR w_Status_FIRST_WINS]) (fun m => by first | rfl | (simp [entryFrame, mkF, argsToLocals, Value.category]; done)) ?_
  intro p e s m below meth c T0 X0 H hml hZ hown hnm hret hlk e0
  refine gAloadN X0 H d2_0 rfl rfl 1 rfl ?_
  refine gGetS X0 H hZ hown (hw _ wd16) e0 S_w_Status_FIRST_WINS d2_1 4 rfl ?_
  intro T13 X13 e13
  refine gAcmp X13 H d2_4 rfl rfl (same := true) (decide_eq_true rfl) (by decide) 14 (by decide) ?_
  refine gIconst X13 H d2_14 (z := 1) rfl 15 rfl ?_
  refine gGoto X13 H d2_15 (by decide) 19 rfl ?_
  exact gRetN X13 H hlk hret (t := .boolean) (by simp) d2_19 e13 ⟨rfl, rfl, rfl⟩
theorem rm18_4 (B : Bg Z a0 w_Status_FIRST_TO_MOVE w_Player_SECOND w_Status_FIRST_WINS w_Status_SECOND_WINS w_Player_FIRST w_Status_SECOND_TO_MOVE w_Status_DRAW) :
    Con l Z (⟨"com/example/linemind/linemind/game/Status", "toMove", "(Lcom/example/linemind/linemind/game/Player;)Lcom/example/linemind/linemind/game/Status;"⟩ : MethodName) prog_30_method_7_code 1 (some (.object "com/example/linemind/linemind/game/Status")) ({ frames := 0, cells := 0, slots := 0, locals := 0 } : Room) #[(.ref w_Player_FIRST)] Z.heap (fun v h' L => v = some (.ref w_Status_FIRST_TO_MOVE) ∧ h' = Z.heap ∧ L = []) := by
  have hw := B.1
  obtain ⟨S_w_Status_FIRST_TO_MOVE, E_w_Status_FIRST_TO_MOVE, S_w_Player_SECOND, E_w_Player_SECOND, S_w_Status_FIRST_WINS, E_w_Status_FIRST_WINS, S_w_Status_SECOND_WINS, E_w_Status_SECOND_WINS, S_w_Player_FIRST, E_w_Player_FIRST, S_w_Status_SECOND_TO_MOVE, E_w_Status_SECOND_TO_MOVE, S_w_Status_DRAW, E_w_Status_DRAW, F_w_Status_FIRST_TO_MOVE_ordinal, F_w_Status_FIRST_WINS_ordinal, F_w_Status_SECOND_WINS_ordinal, F_w_Player_SECOND_ordinal, F_w_Player_FIRST_ordinal, F_w_Status_SECOND_TO_MOVE_ordinal, F_w_Status_DRAW_ordinal⟩ := B.2
  refine Con.of (plainFor_of_name pn4) (Ls := #[vR w_Player_FIRST]) (fun m => by first | rfl | (simp [entryFrame, mkF, argsToLocals, Value.category]; done)) ?_
  intro p e s m below meth c T0 X0 H hml hZ hown hnm hret hlk e0
  refine gAloadN X0 H d4_0 rfl rfl 1 rfl ?_
  refine gGetS X0 H hZ hown (hw _ wd23) e0 S_w_Player_FIRST d4_1 4 rfl ?_
  intro T16 X16 e16
  refine gAcmp X16 H d4_4 rfl rfl (same := true) (decide_eq_true rfl) (by decide) 7 (by decide) ?_
  refine gGetS X16 H hZ hown (hw _ wd38) e16 S_w_Status_FIRST_TO_MOVE d4_7 10 rfl ?_
  intro T17 X17 e17
  refine gGoto X17 H d4_10 (by decide) 16 rfl ?_
  exact gRetA X17 H hlk hret rfl rfl rfl d4_16 e17 ⟨rfl, rfl, rfl⟩
theorem lawAll_0 (B : Bg Z a0 w_Status_FIRST_TO_MOVE w_Player_SECOND w_Status_FIRST_WINS w_Status_SECOND_WINS w_Player_FIRST w_Status_SECOND_TO_MOVE w_Status_DRAW) (p0 : Int32) (p1 : Int32) (ha0 : ((p0 &&& (2147483647 : Int32)) % (5 : Int32)) = (0 : Int32)) (ha1 : (p1 &&& (1 : Int32)) = (0 : Int32)) :
    Con l Z x code maxLocals ret room_1 #[(.int p0), (.int p1)] Z.heap (fun v h' L => v = some (.int 1) ∧ Fr Z.heap.size L) := by
  have hw := B.1
  obtain ⟨S_w_Status_FIRST_TO_MOVE, E_w_Status_FIRST_TO_MOVE, S_w_Player_SECOND, E_w_Player_SECOND, S_w_Status_FIRST_WINS, E_w_Status_FIRST_WINS, S_w_Status_SECOND_WINS, E_w_Status_SECOND_WINS, S_w_Player_FIRST, E_w_Player_FIRST, S_w_Status_SECOND_TO_MOVE, E_w_Status_SECOND_TO_MOVE, S_w_Status_DRAW, E_w_Status_DRAW, F_w_Status_FIRST_TO_MOVE_ordinal, F_w_Status_FIRST_WINS_ordinal, F_w_Status_SECOND_WINS_ordinal, F_w_Player_SECOND_ordinal, F_w_Player_FIRST_ordinal, F_w_Status_SECOND_TO_MOVE_ordinal, F_w_Status_DRAW_ordinal⟩ := B.2
  refine Con.of (plainFor_of_name pn0) (Ls := #[vI p0, vI p1, .unset, .unset, .unset, .unset, .unset, .unset, .unset, .unset]) (fun m => by first | rfl | (simp [entryFrame, mkF, argsToLocals, Value.category, maxLocals]; done)) ?_
  intro p e s m below meth c T0 X0 H hml hZ hown hnm hret hlk e0
  refine gIloadN X0 H at_0 rfl 1 rfl ?_
  refine gLdc X0 H hZ hown (hw _ wd0) at_1 3 rfl ?_
  refine g_iand X0 H at_3 (z := (p0 &&& (2147483647 : Int32))) rfl 4 rfl ?_
  refine gIconst X0 H at_4 (z := 5) rfl 5 rfl ?_
  refine g_irem X0 H at_5 (by decide) (z := 0) ha0 6 rfl ?_
  refine gIstoreN X0 H at_6 (Ls' := #[vI p0, vI p1, vI 0, .unset, .unset, .unset, .unset, .unset, .unset, .unset]) rfl 7 rfl ?_
  refine gIloadN X0 H at_7 rfl 8 rfl ?_
  refine gStatic X0 H hZ hown (hw _ wd1) (hw _ wd2) (by decide) (hw _ wd4) (hw _ wd3) (rm2_1 B) e0 hml rfl pd0 rfl (W := 0) (argsL := [(.int 0)]) (rest := []) rfl rfl at_8 11 rfl ?_
  intro v3 T3 L3 hq3 X3
  obtain ⟨rfl, e3, rfl⟩ := hq3
  show Go _ _ _ _ (State.setTop _ (mkF _ 11 _ [(.ref w_Status_FIRST_TO_MOVE)]))
  refine gAstoreN X3 H at_11 rfl (Ls' := #[vI p0, vI p1, vI 0, vR w_Status_FIRST_TO_MOVE, .unset, .unset, .unset, .unset, .unset, .unset]) rfl 12 rfl ?_
  refine gIloadN X3 H at_12 rfl 13 rfl ?_
  refine gIconst X3 H at_13 (z := 2) rfl 14 rfl ?_
  refine gCmpN X3 H at_14 (by decide) 17 rfl ?_
  refine gIloadN X3 H at_17 rfl 18 rfl ?_
  refine gIconst X3 H at_18 (z := 3) rfl 19 rfl ?_
  refine gCmpY X3 H at_19 (by decide) (by decide) 26 rfl ?_
  refine gIconst X3 H at_26 (z := 0) rfl 27 rfl ?_
  refine gIstore X3 H at_27 (Ls' := #[vI p0, vI p1, vI 0, vR w_Status_FIRST_TO_MOVE, vI 0, .unset, .unset, .unset, .unset, .unset]) rfl 29 rfl ?_
  refine gIloadN X3 H at_29 rfl 30 rfl ?_
  refine gIconst X3 H at_30 (z := 1) rfl 31 rfl ?_
  refine g_iand X3 H at_31 (z := 0) ha1 32 rfl ?_
  refine gIfY X3 H at_32 (by decide) (by decide) 41 rfl ?_
  refine gGetS X3 H hZ hown (hw _ wd40) e3 S_w_Player_FIRST at_41 44 rfl ?_
  intro T4 X4 e4
  refine gAstore X4 H at_44 rfl (Ls' := #[vI p0, vI p1, vI 0, vR w_Status_FIRST_TO_MOVE, vI 0, vR w_Player_FIRST, .unset, .unset, .unset, .unset]) rfl 46 rfl ?_
  refine gAloadN X4 H at_46 rfl rfl 47 rfl ?_
  refine gVirt X4 H hZ hown (hw _ wd11) (hw _ wd12) (hw _ wd14) (hw _ wd13) (by decide) E_w_Status_FIRST_TO_MOVE (hw _ wd15) (hw _ wd6) (rm7_2 B) e4 hml rfl pd1 rfl (W := 0) (argsL := []) (rest := []) rfl rfl at_47 50 rfl ?_
  intro v8 T8 L8 hq8 X8
  obtain ⟨rfl, e8, rfl⟩ := hq8
  show Go _ _ _ _ (State.setTop _ (mkF _ 50 _ [(.int 0)]))
  refine gIstore X8 H at_50 (Ls' := #[vI p0, vI p1, vI 0, vR w_Status_FIRST_TO_MOVE, vI 0, vR w_Player_FIRST, vI 0, .unset, .unset, .unset]) rfl 52 rfl ?_
  refine gIload X8 H at_52 rfl 54 rfl ?_
  refine gIfY X8 H at_54 (by decide) (by decide) 64 rfl ?_
  refine gIconst X8 H at_64 (z := 1) rfl 65 rfl ?_
  refine gGoto X8 H at_65 (by decide) 69 rfl ?_
  refine gIstore X8 H at_69 (Ls' := #[vI p0, vI p1, vI 0, vR w_Status_FIRST_TO_MOVE, vI 0, vR w_Player_FIRST, vI 0, vI 1, .unset, .unset]) rfl 71 rfl ?_
  refine gAload X8 H at_71 rfl rfl 73 rfl ?_
  refine gStatic X8 H hZ hown (hw _ wd20) (hw _ wd21) (by decide) (hw _ wd22) (hw _ wd6) (rm11_3 B) e8 hml rfl pd2 rfl (W := 0) (argsL := [(.ref w_Player_FIRST)]) (rest := []) rfl rfl at_73 76 rfl ?_
  intro v12 T12 L12 hq12 X12
  obtain ⟨rfl, e12, rfl⟩ := hq12
  show Go _ _ _ _ (State.setTop _ (mkF _ 76 _ [(.ref w_Status_FIRST_WINS)]))
  refine gVirt X12 H hZ hown (hw _ wd11) (hw _ wd12) (hw _ wd14) (hw _ wd13) (by decide) E_w_Status_FIRST_WINS (hw _ wd15) (hw _ wd6) (rm14_2 B) e12 hml rfl pd1 rfl (W := 0) (argsL := []) (rest := []) rfl rfl at_76 79 rfl ?_
  intro v15 T15 L15 hq15 X15
  obtain ⟨rfl, e15, rfl⟩ := hq15
  show Go _ _ _ _ (State.setTop _ (mkF _ 79 _ [(.int 1)]))
  refine gIstore X15 H at_79 (Ls' := #[vI p0, vI p1, vI 0, vR w_Status_FIRST_TO_MOVE, vI 0, vR w_Player_FIRST, vI 0, vI 1, vI 1, .unset]) rfl 81 rfl ?_
  refine gAload X15 H at_81 rfl rfl 83 rfl ?_
  refine gStatic X15 H hZ hown (hw _ wd25) (hw _ wd26) (by decide) (hw _ wd27) (hw _ wd6) (rm18_4 B) e15 hml rfl pd2 rfl (W := 0) (argsL := [(.ref w_Player_FIRST)]) (rest := []) rfl rfl at_83 86 rfl ?_
  intro v19 T19 L19 hq19 X19
  obtain ⟨rfl, e19, rfl⟩ := hq19
  show Go _ _ _ _ (State.setTop _ (mkF _ 86 _ [(.ref w_Status_FIRST_TO_MOVE)]))
  refine gVirt X19 H hZ hown (hw _ wd11) (hw _ wd12) (hw _ wd14) (hw _ wd13) (by decide) E_w_Status_FIRST_TO_MOVE (hw _ wd15) (hw _ wd6) (rm7_2 B) e19 hml rfl pd1 rfl (W := 0) (argsL := []) (rest := []) rfl rfl at_86 89 rfl ?_
  intro v20 T20 L20 hq20 X20
  obtain ⟨rfl, e20, rfl⟩ := hq20
  show Go _ _ _ _ (State.setTop _ (mkF _ 89 _ [(.int 0)]))
  refine gIfN X20 H at_89 (by decide) 92 rfl ?_
  refine gIconst X20 H at_92 (z := 1) rfl 93 rfl ?_
  refine gGoto X20 H at_93 (by decide) 97 rfl ?_
  refine gIstore X20 H at_97 (Ls' := #[vI p0, vI p1, vI 0, vR w_Status_FIRST_TO_MOVE, vI 0, vR w_Player_FIRST, vI 0, vI 1, vI 1, vI 1]) rfl 99 rfl ?_
  refine gIload X20 H at_99 rfl 101 rfl ?_
  refine gIload X20 H at_101 rfl 103 rfl ?_
  refine gCmpN X20 H at_103 (by decide) 106 rfl ?_
  refine gIload X20 H at_106 rfl 108 rfl ?_
  refine gIfN X20 H at_108 (by decide) 111 rfl ?_
  refine gIload X20 H at_111 rfl 113 rfl ?_
  refine gIfN X20 H at_113 (by decide) 116 rfl ?_
  refine gIload X20 H at_116 rfl 118 rfl ?_
  refine gIfN X20 H at_118 (by decide) 121 rfl ?_
  refine gIconst X20 H at_121 (z := 1) rfl 122 rfl ?_
  refine gGoto X20 H at_122 (by decide) 126 rfl ?_
  exact gRetN X20 H hlk hret (t := .boolean) (by simp) at_126 e20 ⟨rfl, Fr.nil _⟩
theorem rm26_3 (B : Bg Z a0 w_Status_FIRST_TO_MOVE w_Player_SECOND w_Status_FIRST_WINS w_Status_SECOND_WINS w_Player_FIRST w_Status_SECOND_TO_MOVE w_Status_DRAW) :
    Con l Z (⟨"com/example/linemind/linemind/game/Status", "wonBy", "(Lcom/example/linemind/linemind/game/Player;)Lcom/example/linemind/linemind/game/Status;"⟩ : MethodName) prog_30_method_8_code 1 (some (.object "com/example/linemind/linemind/game/Status")) ({ frames := 0, cells := 0, slots := 0, locals := 0 } : Room) #[(.ref w_Player_SECOND)] Z.heap (fun v h' L => v = some (.ref w_Status_SECOND_WINS) ∧ h' = Z.heap ∧ L = []) := by
  have hw := B.1
  obtain ⟨S_w_Status_FIRST_TO_MOVE, E_w_Status_FIRST_TO_MOVE, S_w_Player_SECOND, E_w_Player_SECOND, S_w_Status_FIRST_WINS, E_w_Status_FIRST_WINS, S_w_Status_SECOND_WINS, E_w_Status_SECOND_WINS, S_w_Player_FIRST, E_w_Player_FIRST, S_w_Status_SECOND_TO_MOVE, E_w_Status_SECOND_TO_MOVE, S_w_Status_DRAW, E_w_Status_DRAW, F_w_Status_FIRST_TO_MOVE_ordinal, F_w_Status_FIRST_WINS_ordinal, F_w_Status_SECOND_WINS_ordinal, F_w_Player_SECOND_ordinal, F_w_Player_FIRST_ordinal, F_w_Status_SECOND_TO_MOVE_ordinal, F_w_Status_DRAW_ordinal⟩ := B.2
  refine Con.of (plainFor_of_name pn3) (Ls := #[vR w_Player_SECOND]) (fun m => by first | rfl | (simp [entryFrame, mkF, argsToLocals, Value.category]; done)) ?_
  intro p e s m below meth c T0 X0 H hml hZ hown hnm hret hlk e0
  refine gAloadN X0 H d3_0 rfl rfl 1 rfl ?_
  refine gGetS X0 H hZ hown (hw _ wd23) e0 S_w_Player_FIRST d3_1 4 rfl ?_
  intro T24 X24 e24
  refine gAcmp X24 H d3_4 rfl rfl (same := false) (decide_eq_false fun q => (Fld.ne F_w_Player_SECOND_ordinal F_w_Player_FIRST_ordinal (by decide)) (Value.ref.inj q)) (by decide) 13 (by decide) ?_
  refine gGetS X24 H hZ hown (hw _ wd18) e24 S_w_Status_SECOND_WINS d3_13 16 rfl ?_
  intro T25 X25 e25
  exact gRetA X25 H hlk hret rfl rfl rfl d3_16 e25 ⟨rfl, rfl, rfl⟩
theorem rm30_2 (B : Bg Z a0 w_Status_FIRST_TO_MOVE w_Player_SECOND w_Status_FIRST_WINS w_Status_SECOND_WINS w_Player_FIRST w_Status_SECOND_TO_MOVE w_Status_DRAW) :
    Con l Z (⟨"com/example/linemind/linemind/game/Status", "isWon", "()Z"⟩ : MethodName) prog_30_method_6_code 1 (some .boolean) ({ frames := 0, cells := 0, slots := 0, locals := 0 } : Room) #[(.ref w_Status_SECOND_WINS)] Z.heap (fun v h' L => v = some (.int 1) ∧ h' = Z.heap ∧ L = []) := by
  have hw := B.1
  obtain ⟨S_w_Status_FIRST_TO_MOVE, E_w_Status_FIRST_TO_MOVE, S_w_Player_SECOND, E_w_Player_SECOND, S_w_Status_FIRST_WINS, E_w_Status_FIRST_WINS, S_w_Status_SECOND_WINS, E_w_Status_SECOND_WINS, S_w_Player_FIRST, E_w_Player_FIRST, S_w_Status_SECOND_TO_MOVE, E_w_Status_SECOND_TO_MOVE, S_w_Status_DRAW, E_w_Status_DRAW, F_w_Status_FIRST_TO_MOVE_ordinal, F_w_Status_FIRST_WINS_ordinal, F_w_Status_SECOND_WINS_ordinal, F_w_Player_SECOND_ordinal, F_w_Player_FIRST_ordinal, F_w_Status_SECOND_TO_MOVE_ordinal, F_w_Status_DRAW_ordinal⟩ := B.2
  refine Con.of (plainFor_of_name pn2) (Ls := #[vR w_Status_SECOND_WINS]) (fun m => by first | rfl | (simp [entryFrame, mkF, argsToLocals, Value.category]; done)) ?_
  intro p e s m below meth c T0 X0 H hml hZ hown hnm hret hlk e0
  refine gAloadN X0 H d2_0 rfl rfl 1 rfl ?_
  refine gGetS X0 H hZ hown (hw _ wd16) e0 S_w_Status_FIRST_WINS d2_1 4 rfl ?_
  intro T28 X28 e28
  refine gAcmp X28 H d2_4 rfl rfl (same := false) (decide_eq_false fun q => (Fld.ne F_w_Status_SECOND_WINS_ordinal F_w_Status_FIRST_WINS_ordinal (by decide)) (Value.ref.inj q)) (by decide) 7 (by decide) ?_
  refine gAloadN X28 H d2_7 rfl rfl 8 rfl ?_
  refine gGetS X28 H hZ hown (hw _ wd18) e28 S_w_Status_SECOND_WINS d2_8 11 rfl ?_
  intro T29 X29 e29
  refine gAcmp X29 H d2_11 rfl rfl (same := true) (decide_eq_true rfl) (by decide) 14 (by decide) ?_
  refine gIconst X29 H d2_14 (z := 1) rfl 15 rfl ?_
  refine gGoto X29 H d2_15 (by decide) 19 rfl ?_
  exact gRetN X29 H hlk hret (t := .boolean) (by simp) d2_19 e29 ⟨rfl, rfl, rfl⟩
theorem rm34_4 (B : Bg Z a0 w_Status_FIRST_TO_MOVE w_Player_SECOND w_Status_FIRST_WINS w_Status_SECOND_WINS w_Player_FIRST w_Status_SECOND_TO_MOVE w_Status_DRAW) :
    Con l Z (⟨"com/example/linemind/linemind/game/Status", "toMove", "(Lcom/example/linemind/linemind/game/Player;)Lcom/example/linemind/linemind/game/Status;"⟩ : MethodName) prog_30_method_7_code 1 (some (.object "com/example/linemind/linemind/game/Status")) ({ frames := 0, cells := 0, slots := 0, locals := 0 } : Room) #[(.ref w_Player_SECOND)] Z.heap (fun v h' L => v = some (.ref w_Status_SECOND_TO_MOVE) ∧ h' = Z.heap ∧ L = []) := by
  have hw := B.1
  obtain ⟨S_w_Status_FIRST_TO_MOVE, E_w_Status_FIRST_TO_MOVE, S_w_Player_SECOND, E_w_Player_SECOND, S_w_Status_FIRST_WINS, E_w_Status_FIRST_WINS, S_w_Status_SECOND_WINS, E_w_Status_SECOND_WINS, S_w_Player_FIRST, E_w_Player_FIRST, S_w_Status_SECOND_TO_MOVE, E_w_Status_SECOND_TO_MOVE, S_w_Status_DRAW, E_w_Status_DRAW, F_w_Status_FIRST_TO_MOVE_ordinal, F_w_Status_FIRST_WINS_ordinal, F_w_Status_SECOND_WINS_ordinal, F_w_Player_SECOND_ordinal, F_w_Player_FIRST_ordinal, F_w_Status_SECOND_TO_MOVE_ordinal, F_w_Status_DRAW_ordinal⟩ := B.2
  refine Con.of (plainFor_of_name pn4) (Ls := #[vR w_Player_SECOND]) (fun m => by first | rfl | (simp [entryFrame, mkF, argsToLocals, Value.category]; done)) ?_
  intro p e s m below meth c T0 X0 H hml hZ hown hnm hret hlk e0
  refine gAloadN X0 H d4_0 rfl rfl 1 rfl ?_
  refine gGetS X0 H hZ hown (hw _ wd23) e0 S_w_Player_FIRST d4_1 4 rfl ?_
  intro T32 X32 e32
  refine gAcmp X32 H d4_4 rfl rfl (same := false) (decide_eq_false fun q => (Fld.ne F_w_Player_SECOND_ordinal F_w_Player_FIRST_ordinal (by decide)) (Value.ref.inj q)) (by decide) 13 (by decide) ?_
  refine gGetS X32 H hZ hown (hw _ wd28) e32 S_w_Status_SECOND_TO_MOVE d4_13 16 rfl ?_
  intro T33 X33 e33
  exact gRetA X33 H hlk hret rfl rfl rfl d4_16 e33 ⟨rfl, rfl, rfl⟩
theorem rm38_2 (B : Bg Z a0 w_Status_FIRST_TO_MOVE w_Player_SECOND w_Status_FIRST_WINS w_Status_SECOND_WINS w_Player_FIRST w_Status_SECOND_TO_MOVE w_Status_DRAW) :
    Con l Z (⟨"com/example/linemind/linemind/game/Status", "isWon", "()Z"⟩ : MethodName) prog_30_method_6_code 1 (some .boolean) ({ frames := 0, cells := 0, slots := 0, locals := 0 } : Room) #[(.ref w_Status_SECOND_TO_MOVE)] Z.heap (fun v h' L => v = some (.int 0) ∧ h' = Z.heap ∧ L = []) := by
  have hw := B.1
  obtain ⟨S_w_Status_FIRST_TO_MOVE, E_w_Status_FIRST_TO_MOVE, S_w_Player_SECOND, E_w_Player_SECOND, S_w_Status_FIRST_WINS, E_w_Status_FIRST_WINS, S_w_Status_SECOND_WINS, E_w_Status_SECOND_WINS, S_w_Player_FIRST, E_w_Player_FIRST, S_w_Status_SECOND_TO_MOVE, E_w_Status_SECOND_TO_MOVE, S_w_Status_DRAW, E_w_Status_DRAW, F_w_Status_FIRST_TO_MOVE_ordinal, F_w_Status_FIRST_WINS_ordinal, F_w_Status_SECOND_WINS_ordinal, F_w_Player_SECOND_ordinal, F_w_Player_FIRST_ordinal, F_w_Status_SECOND_TO_MOVE_ordinal, F_w_Status_DRAW_ordinal⟩ := B.2
  refine Con.of (plainFor_of_name pn2) (Ls := #[vR w_Status_SECOND_TO_MOVE]) (fun m => by first | rfl | (simp [entryFrame, mkF, argsToLocals, Value.category]; done)) ?_
  intro p e s m below meth c T0 X0 H hml hZ hown hnm hret hlk e0
  refine gAloadN X0 H d2_0 rfl rfl 1 rfl ?_
  refine gGetS X0 H hZ hown (hw _ wd16) e0 S_w_Status_FIRST_WINS d2_1 4 rfl ?_
  intro T36 X36 e36
  refine gAcmp X36 H d2_4 rfl rfl (same := false) (decide_eq_false fun q => (Fld.ne F_w_Status_SECOND_TO_MOVE_ordinal F_w_Status_FIRST_WINS_ordinal (by decide)) (Value.ref.inj q)) (by decide) 7 (by decide) ?_
  refine gAloadN X36 H d2_7 rfl rfl 8 rfl ?_
  refine gGetS X36 H hZ hown (hw _ wd18) e36 S_w_Status_SECOND_WINS d2_8 11 rfl ?_
  intro T37 X37 e37
  refine gAcmp X37 H d2_11 rfl rfl (same := false) (decide_eq_false fun q => (Fld.ne F_w_Status_SECOND_TO_MOVE_ordinal F_w_Status_SECOND_WINS_ordinal (by decide)) (Value.ref.inj q)) (by decide) 18 (by decide) ?_
  refine gIconst X37 H d2_18 (z := 0) rfl 19 rfl ?_
  exact gRetN X37 H hlk hret (t := .boolean) (by simp) d2_19 e37 ⟨rfl, rfl, rfl⟩
theorem lawAll_1 (B : Bg Z a0 w_Status_FIRST_TO_MOVE w_Player_SECOND w_Status_FIRST_WINS w_Status_SECOND_WINS w_Player_FIRST w_Status_SECOND_TO_MOVE w_Status_DRAW) (p0 : Int32) (p1 : Int32) (ha0 : ((p0 &&& (2147483647 : Int32)) % (5 : Int32)) = (0 : Int32)) (ha1 : (p1 &&& (1 : Int32)) = (1 : Int32)) :
    Con l Z x code maxLocals ret room_1 #[(.int p0), (.int p1)] Z.heap (fun v h' L => v = some (.int 1) ∧ Fr Z.heap.size L) := by
  have hw := B.1
  obtain ⟨S_w_Status_FIRST_TO_MOVE, E_w_Status_FIRST_TO_MOVE, S_w_Player_SECOND, E_w_Player_SECOND, S_w_Status_FIRST_WINS, E_w_Status_FIRST_WINS, S_w_Status_SECOND_WINS, E_w_Status_SECOND_WINS, S_w_Player_FIRST, E_w_Player_FIRST, S_w_Status_SECOND_TO_MOVE, E_w_Status_SECOND_TO_MOVE, S_w_Status_DRAW, E_w_Status_DRAW, F_w_Status_FIRST_TO_MOVE_ordinal, F_w_Status_FIRST_WINS_ordinal, F_w_Status_SECOND_WINS_ordinal, F_w_Player_SECOND_ordinal, F_w_Player_FIRST_ordinal, F_w_Status_SECOND_TO_MOVE_ordinal, F_w_Status_DRAW_ordinal⟩ := B.2
  refine Con.of (plainFor_of_name pn0) (Ls := #[vI p0, vI p1, .unset, .unset, .unset, .unset, .unset, .unset, .unset, .unset]) (fun m => by first | rfl | (simp [entryFrame, mkF, argsToLocals, Value.category, maxLocals]; done)) ?_
  intro p e s m below meth c T0 X0 H hml hZ hown hnm hret hlk e0
  refine gIloadN X0 H at_0 rfl 1 rfl ?_
  refine gLdc X0 H hZ hown (hw _ wd0) at_1 3 rfl ?_
  refine g_iand X0 H at_3 (z := (p0 &&& (2147483647 : Int32))) rfl 4 rfl ?_
  refine gIconst X0 H at_4 (z := 5) rfl 5 rfl ?_
  refine g_irem X0 H at_5 (by decide) (z := 0) ha0 6 rfl ?_
  refine gIstoreN X0 H at_6 (Ls' := #[vI p0, vI p1, vI 0, .unset, .unset, .unset, .unset, .unset, .unset, .unset]) rfl 7 rfl ?_
  refine gIloadN X0 H at_7 rfl 8 rfl ?_
  refine gStatic X0 H hZ hown (hw _ wd1) (hw _ wd2) (by decide) (hw _ wd4) (hw _ wd3) (rm2_1 B) e0 hml rfl pd0 rfl (W := 0) (argsL := [(.int 0)]) (rest := []) rfl rfl at_8 11 rfl ?_
  intro v21 T21 L21 hq21 X21
  obtain ⟨rfl, e21, rfl⟩ := hq21
  show Go _ _ _ _ (State.setTop _ (mkF _ 11 _ [(.ref w_Status_FIRST_TO_MOVE)]))
  refine gAstoreN X21 H at_11 rfl (Ls' := #[vI p0, vI p1, vI 0, vR w_Status_FIRST_TO_MOVE, .unset, .unset, .unset, .unset, .unset, .unset]) rfl 12 rfl ?_
  refine gIloadN X21 H at_12 rfl 13 rfl ?_
  refine gIconst X21 H at_13 (z := 2) rfl 14 rfl ?_
  refine gCmpN X21 H at_14 (by decide) 17 rfl ?_
  refine gIloadN X21 H at_17 rfl 18 rfl ?_
  refine gIconst X21 H at_18 (z := 3) rfl 19 rfl ?_
  refine gCmpY X21 H at_19 (by decide) (by decide) 26 rfl ?_
  refine gIconst X21 H at_26 (z := 0) rfl 27 rfl ?_
  refine gIstore X21 H at_27 (Ls' := #[vI p0, vI p1, vI 0, vR w_Status_FIRST_TO_MOVE, vI 0, .unset, .unset, .unset, .unset, .unset]) rfl 29 rfl ?_
  refine gIloadN X21 H at_29 rfl 30 rfl ?_
  refine gIconst X21 H at_30 (z := 1) rfl 31 rfl ?_
  refine g_iand X21 H at_31 (z := 1) ha1 32 rfl ?_
  refine gIfN X21 H at_32 (by decide) 35 rfl ?_
  refine gGetS X21 H hZ hown (hw _ wd8) e21 S_w_Player_SECOND at_35 38 rfl ?_
  intro T22 X22 e22
  refine gGoto X22 H at_38 (by decide) 44 rfl ?_
  refine gAstore X22 H at_44 rfl (Ls' := #[vI p0, vI p1, vI 0, vR w_Status_FIRST_TO_MOVE, vI 0, vR w_Player_SECOND, .unset, .unset, .unset, .unset]) rfl 46 rfl ?_
  refine gAloadN X22 H at_46 rfl rfl 47 rfl ?_
  refine gVirt X22 H hZ hown (hw _ wd11) (hw _ wd12) (hw _ wd14) (hw _ wd13) (by decide) E_w_Status_FIRST_TO_MOVE (hw _ wd15) (hw _ wd6) (rm7_2 B) e22 hml rfl pd1 rfl (W := 0) (argsL := []) (rest := []) rfl rfl at_47 50 rfl ?_
  intro v23 T23 L23 hq23 X23
  obtain ⟨rfl, e23, rfl⟩ := hq23
  show Go _ _ _ _ (State.setTop _ (mkF _ 50 _ [(.int 0)]))
  refine gIstore X23 H at_50 (Ls' := #[vI p0, vI p1, vI 0, vR w_Status_FIRST_TO_MOVE, vI 0, vR w_Player_SECOND, vI 0, .unset, .unset, .unset]) rfl 52 rfl ?_
  refine gIload X23 H at_52 rfl 54 rfl ?_
  refine gIfY X23 H at_54 (by decide) (by decide) 64 rfl ?_
  refine gIconst X23 H at_64 (z := 1) rfl 65 rfl ?_
  refine gGoto X23 H at_65 (by decide) 69 rfl ?_
  refine gIstore X23 H at_69 (Ls' := #[vI p0, vI p1, vI 0, vR w_Status_FIRST_TO_MOVE, vI 0, vR w_Player_SECOND, vI 0, vI 1, .unset, .unset]) rfl 71 rfl ?_
  refine gAload X23 H at_71 rfl rfl 73 rfl ?_
  refine gStatic X23 H hZ hown (hw _ wd20) (hw _ wd21) (by decide) (hw _ wd22) (hw _ wd6) (rm26_3 B) e23 hml rfl pd2 rfl (W := 0) (argsL := [(.ref w_Player_SECOND)]) (rest := []) rfl rfl at_73 76 rfl ?_
  intro v27 T27 L27 hq27 X27
  obtain ⟨rfl, e27, rfl⟩ := hq27
  show Go _ _ _ _ (State.setTop _ (mkF _ 76 _ [(.ref w_Status_SECOND_WINS)]))
  refine gVirt X27 H hZ hown (hw _ wd11) (hw _ wd12) (hw _ wd14) (hw _ wd13) (by decide) E_w_Status_SECOND_WINS (hw _ wd15) (hw _ wd6) (rm30_2 B) e27 hml rfl pd1 rfl (W := 0) (argsL := []) (rest := []) rfl rfl at_76 79 rfl ?_
  intro v31 T31 L31 hq31 X31
  obtain ⟨rfl, e31, rfl⟩ := hq31
  show Go _ _ _ _ (State.setTop _ (mkF _ 79 _ [(.int 1)]))
  refine gIstore X31 H at_79 (Ls' := #[vI p0, vI p1, vI 0, vR w_Status_FIRST_TO_MOVE, vI 0, vR w_Player_SECOND, vI 0, vI 1, vI 1, .unset]) rfl 81 rfl ?_
  refine gAload X31 H at_81 rfl rfl 83 rfl ?_
  refine gStatic X31 H hZ hown (hw _ wd25) (hw _ wd26) (by decide) (hw _ wd27) (hw _ wd6) (rm34_4 B) e31 hml rfl pd2 rfl (W := 0) (argsL := [(.ref w_Player_SECOND)]) (rest := []) rfl rfl at_83 86 rfl ?_
  intro v35 T35 L35 hq35 X35
  obtain ⟨rfl, e35, rfl⟩ := hq35
  show Go _ _ _ _ (State.setTop _ (mkF _ 86 _ [(.ref w_Status_SECOND_TO_MOVE)]))
  refine gVirt X35 H hZ hown (hw _ wd11) (hw _ wd12) (hw _ wd14) (hw _ wd13) (by decide) E_w_Status_SECOND_TO_MOVE (hw _ wd15) (hw _ wd6) (rm38_2 B) e35 hml rfl pd1 rfl (W := 0) (argsL := []) (rest := []) rfl rfl at_86 89 rfl ?_
  intro v39 T39 L39 hq39 X39
  obtain ⟨rfl, e39, rfl⟩ := hq39
  show Go _ _ _ _ (State.setTop _ (mkF _ 89 _ [(.int 0)]))
  refine gIfN X39 H at_89 (by decide) 92 rfl ?_
  refine gIconst X39 H at_92 (z := 1) rfl 93 rfl ?_
  refine gGoto X39 H at_93 (by decide) 97 rfl ?_
  refine gIstore X39 H at_97 (Ls' := #[vI p0, vI p1, vI 0, vR w_Status_FIRST_TO_MOVE, vI 0, vR w_Player_SECOND, vI 0, vI 1, vI 1, vI 1]) rfl 99 rfl ?_
  refine gIload X39 H at_99 rfl 101 rfl ?_
  refine gIload X39 H at_101 rfl 103 rfl ?_
  refine gCmpN X39 H at_103 (by decide) 106 rfl ?_
  refine gIload X39 H at_106 rfl 108 rfl ?_
  refine gIfN X39 H at_108 (by decide) 111 rfl ?_
  refine gIload X39 H at_111 rfl 113 rfl ?_
  refine gIfN X39 H at_113 (by decide) 116 rfl ?_
  refine gIload X39 H at_116 rfl 118 rfl ?_
  refine gIfN X39 H at_118 (by decide) 121 rfl ?_
  refine gIconst X39 H at_121 (z := 1) rfl 122 rfl ?_
  refine gGoto X39 H at_122 (by decide) 126 rfl ?_
  exact gRetN X39 H hlk hret (t := .boolean) (by simp) at_126 e39 ⟨rfl, Fr.nil _⟩
theorem rm41_1 (B : Bg Z a0 w_Status_FIRST_TO_MOVE w_Player_SECOND w_Status_FIRST_WINS w_Status_SECOND_WINS w_Player_FIRST w_Status_SECOND_TO_MOVE w_Status_DRAW) :
    Con l Z (⟨"com/example/linemind/linemind/game/StatusIsWonPinLaw", "pick", "(I)Lcom/example/linemind/linemind/game/Status;"⟩ : MethodName) method_2_code 1 (some (.object "com/example/linemind/linemind/game/Status")) ({ frames := 0, cells := 0, slots := 0, locals := 0 } : Room) #[(.int 1)] Z.heap (fun v h' L => v = some (.ref w_Status_SECOND_TO_MOVE) ∧ h' = Z.heap ∧ L = []) := by
  have hw := B.1
  obtain ⟨S_w_Status_FIRST_TO_MOVE, E_w_Status_FIRST_TO_MOVE, S_w_Player_SECOND, E_w_Player_SECOND, S_w_Status_FIRST_WINS, E_w_Status_FIRST_WINS, S_w_Status_SECOND_WINS, E_w_Status_SECOND_WINS, S_w_Player_FIRST, E_w_Player_FIRST, S_w_Status_SECOND_TO_MOVE, E_w_Status_SECOND_TO_MOVE, S_w_Status_DRAW, E_w_Status_DRAW, F_w_Status_FIRST_TO_MOVE_ordinal, F_w_Status_FIRST_WINS_ordinal, F_w_Status_SECOND_WINS_ordinal, F_w_Player_SECOND_ordinal, F_w_Player_FIRST_ordinal, F_w_Status_SECOND_TO_MOVE_ordinal, F_w_Status_DRAW_ordinal⟩ := B.2
  refine Con.of (plainFor_of_name pn1) (Ls := #[vI 1]) (fun m => by first | rfl | (simp [entryFrame, mkF, argsToLocals, Value.category]; done)) ?_
  intro p e s m below meth c T0 X0 H hml hZ hown hnm hret hlk e0
  refine gIloadN X0 H d1_0 rfl 1 rfl ?_
  refine gIfY X0 H d1_1 (by decide) (by decide) 8 rfl ?_
  refine gIloadN X0 H d1_8 rfl 9 rfl ?_
  refine gIconst X0 H d1_9 (z := 1) rfl 10 rfl ?_
  refine gCmpN X0 H d1_10 (by decide) 13 rfl ?_
  refine gGetS X0 H hZ hown (hw _ wd39) e0 S_w_Status_SECOND_TO_MOVE d1_13 16 rfl ?_
  intro T40 X40 e40
  exact gRetA X40 H hlk hret rfl rfl rfl d1_16 e40 ⟨rfl, rfl, rfl⟩
theorem lawAll_2 (B : Bg Z a0 w_Status_FIRST_TO_MOVE w_Player_SECOND w_Status_FIRST_WINS w_Status_SECOND_WINS w_Player_FIRST w_Status_SECOND_TO_MOVE w_Status_DRAW) (p0 : Int32) (p1 : Int32) (ha0 : ((p0 &&& (2147483647 : Int32)) % (5 : Int32)) = (1 : Int32)) (ha1 : (p1 &&& (1 : Int32)) = (0 : Int32)) :
    Con l Z x code maxLocals ret room_1 #[(.int p0), (.int p1)] Z.heap (fun v h' L => v = some (.int 1) ∧ Fr Z.heap.size L) := by
  have hw := B.1
  obtain ⟨S_w_Status_FIRST_TO_MOVE, E_w_Status_FIRST_TO_MOVE, S_w_Player_SECOND, E_w_Player_SECOND, S_w_Status_FIRST_WINS, E_w_Status_FIRST_WINS, S_w_Status_SECOND_WINS, E_w_Status_SECOND_WINS, S_w_Player_FIRST, E_w_Player_FIRST, S_w_Status_SECOND_TO_MOVE, E_w_Status_SECOND_TO_MOVE, S_w_Status_DRAW, E_w_Status_DRAW, F_w_Status_FIRST_TO_MOVE_ordinal, F_w_Status_FIRST_WINS_ordinal, F_w_Status_SECOND_WINS_ordinal, F_w_Player_SECOND_ordinal, F_w_Player_FIRST_ordinal, F_w_Status_SECOND_TO_MOVE_ordinal, F_w_Status_DRAW_ordinal⟩ := B.2
  refine Con.of (plainFor_of_name pn0) (Ls := #[vI p0, vI p1, .unset, .unset, .unset, .unset, .unset, .unset, .unset, .unset]) (fun m => by first | rfl | (simp [entryFrame, mkF, argsToLocals, Value.category, maxLocals]; done)) ?_
  intro p e s m below meth c T0 X0 H hml hZ hown hnm hret hlk e0
  refine gIloadN X0 H at_0 rfl 1 rfl ?_
  refine gLdc X0 H hZ hown (hw _ wd0) at_1 3 rfl ?_
  refine g_iand X0 H at_3 (z := (p0 &&& (2147483647 : Int32))) rfl 4 rfl ?_
  refine gIconst X0 H at_4 (z := 5) rfl 5 rfl ?_
  refine g_irem X0 H at_5 (by decide) (z := 1) ha0 6 rfl ?_
  refine gIstoreN X0 H at_6 (Ls' := #[vI p0, vI p1, vI 1, .unset, .unset, .unset, .unset, .unset, .unset, .unset]) rfl 7 rfl ?_
  refine gIloadN X0 H at_7 rfl 8 rfl ?_
  refine gStatic X0 H hZ hown (hw _ wd1) (hw _ wd2) (by decide) (hw _ wd4) (hw _ wd3) (rm41_1 B) e0 hml rfl pd0 rfl (W := 0) (argsL := [(.int 1)]) (rest := []) rfl rfl at_8 11 rfl ?_
  intro v42 T42 L42 hq42 X42
  obtain ⟨rfl, e42, rfl⟩ := hq42
  show Go _ _ _ _ (State.setTop _ (mkF _ 11 _ [(.ref w_Status_SECOND_TO_MOVE)]))
  refine gAstoreN X42 H at_11 rfl (Ls' := #[vI p0, vI p1, vI 1, vR w_Status_SECOND_TO_MOVE, .unset, .unset, .unset, .unset, .unset, .unset]) rfl 12 rfl ?_
  refine gIloadN X42 H at_12 rfl 13 rfl ?_
  refine gIconst X42 H at_13 (z := 2) rfl 14 rfl ?_
  refine gCmpN X42 H at_14 (by decide) 17 rfl ?_
  refine gIloadN X42 H at_17 rfl 18 rfl ?_
  refine gIconst X42 H at_18 (z := 3) rfl 19 rfl ?_
  refine gCmpY X42 H at_19 (by decide) (by decide) 26 rfl ?_
  refine gIconst X42 H at_26 (z := 0) rfl 27 rfl ?_
  refine gIstore X42 H at_27 (Ls' := #[vI p0, vI p1, vI 1, vR w_Status_SECOND_TO_MOVE, vI 0, .unset, .unset, .unset, .unset, .unset]) rfl 29 rfl ?_
  refine gIloadN X42 H at_29 rfl 30 rfl ?_
  refine gIconst X42 H at_30 (z := 1) rfl 31 rfl ?_
  refine g_iand X42 H at_31 (z := 0) ha1 32 rfl ?_
  refine gIfY X42 H at_32 (by decide) (by decide) 41 rfl ?_
  refine gGetS X42 H hZ hown (hw _ wd40) e42 S_w_Player_FIRST at_41 44 rfl ?_
  intro T43 X43 e43
  refine gAstore X43 H at_44 rfl (Ls' := #[vI p0, vI p1, vI 1, vR w_Status_SECOND_TO_MOVE, vI 0, vR w_Player_FIRST, .unset, .unset, .unset, .unset]) rfl 46 rfl ?_
  refine gAloadN X43 H at_46 rfl rfl 47 rfl ?_
  refine gVirt X43 H hZ hown (hw _ wd11) (hw _ wd12) (hw _ wd14) (hw _ wd13) (by decide) E_w_Status_SECOND_TO_MOVE (hw _ wd15) (hw _ wd6) (rm38_2 B) e43 hml rfl pd1 rfl (W := 0) (argsL := []) (rest := []) rfl rfl at_47 50 rfl ?_
  intro v44 T44 L44 hq44 X44
  obtain ⟨rfl, e44, rfl⟩ := hq44
  show Go _ _ _ _ (State.setTop _ (mkF _ 50 _ [(.int 0)]))
  refine gIstore X44 H at_50 (Ls' := #[vI p0, vI p1, vI 1, vR w_Status_SECOND_TO_MOVE, vI 0, vR w_Player_FIRST, vI 0, .unset, .unset, .unset]) rfl 52 rfl ?_
  refine gIload X44 H at_52 rfl 54 rfl ?_
  refine gIfY X44 H at_54 (by decide) (by decide) 64 rfl ?_
  refine gIconst X44 H at_64 (z := 1) rfl 65 rfl ?_
  refine gGoto X44 H at_65 (by decide) 69 rfl ?_
  refine gIstore X44 H at_69 (Ls' := #[vI p0, vI p1, vI 1, vR w_Status_SECOND_TO_MOVE, vI 0, vR w_Player_FIRST, vI 0, vI 1, .unset, .unset]) rfl 71 rfl ?_
  refine gAload X44 H at_71 rfl rfl 73 rfl ?_
  refine gStatic X44 H hZ hown (hw _ wd20) (hw _ wd21) (by decide) (hw _ wd22) (hw _ wd6) (rm11_3 B) e44 hml rfl pd2 rfl (W := 0) (argsL := [(.ref w_Player_FIRST)]) (rest := []) rfl rfl at_73 76 rfl ?_
  intro v45 T45 L45 hq45 X45
  obtain ⟨rfl, e45, rfl⟩ := hq45
  show Go _ _ _ _ (State.setTop _ (mkF _ 76 _ [(.ref w_Status_FIRST_WINS)]))
  refine gVirt X45 H hZ hown (hw _ wd11) (hw _ wd12) (hw _ wd14) (hw _ wd13) (by decide) E_w_Status_FIRST_WINS (hw _ wd15) (hw _ wd6) (rm14_2 B) e45 hml rfl pd1 rfl (W := 0) (argsL := []) (rest := []) rfl rfl at_76 79 rfl ?_
  intro v46 T46 L46 hq46 X46
  obtain ⟨rfl, e46, rfl⟩ := hq46
  show Go _ _ _ _ (State.setTop _ (mkF _ 79 _ [(.int 1)]))
  refine gIstore X46 H at_79 (Ls' := #[vI p0, vI p1, vI 1, vR w_Status_SECOND_TO_MOVE, vI 0, vR w_Player_FIRST, vI 0, vI 1, vI 1, .unset]) rfl 81 rfl ?_
  refine gAload X46 H at_81 rfl rfl 83 rfl ?_
  refine gStatic X46 H hZ hown (hw _ wd25) (hw _ wd26) (by decide) (hw _ wd27) (hw _ wd6) (rm18_4 B) e46 hml rfl pd2 rfl (W := 0) (argsL := [(.ref w_Player_FIRST)]) (rest := []) rfl rfl at_83 86 rfl ?_
  intro v47 T47 L47 hq47 X47
  obtain ⟨rfl, e47, rfl⟩ := hq47
  show Go _ _ _ _ (State.setTop _ (mkF _ 86 _ [(.ref w_Status_FIRST_TO_MOVE)]))
  refine gVirt X47 H hZ hown (hw _ wd11) (hw _ wd12) (hw _ wd14) (hw _ wd13) (by decide) E_w_Status_FIRST_TO_MOVE (hw _ wd15) (hw _ wd6) (rm7_2 B) e47 hml rfl pd1 rfl (W := 0) (argsL := []) (rest := []) rfl rfl at_86 89 rfl ?_
  intro v48 T48 L48 hq48 X48
  obtain ⟨rfl, e48, rfl⟩ := hq48
  show Go _ _ _ _ (State.setTop _ (mkF _ 89 _ [(.int 0)]))
  refine gIfN X48 H at_89 (by decide) 92 rfl ?_
  refine gIconst X48 H at_92 (z := 1) rfl 93 rfl ?_
  refine gGoto X48 H at_93 (by decide) 97 rfl ?_
  refine gIstore X48 H at_97 (Ls' := #[vI p0, vI p1, vI 1, vR w_Status_SECOND_TO_MOVE, vI 0, vR w_Player_FIRST, vI 0, vI 1, vI 1, vI 1]) rfl 99 rfl ?_
  refine gIload X48 H at_99 rfl 101 rfl ?_
  refine gIload X48 H at_101 rfl 103 rfl ?_
  refine gCmpN X48 H at_103 (by decide) 106 rfl ?_
  refine gIload X48 H at_106 rfl 108 rfl ?_
  refine gIfN X48 H at_108 (by decide) 111 rfl ?_
  refine gIload X48 H at_111 rfl 113 rfl ?_
  refine gIfN X48 H at_113 (by decide) 116 rfl ?_
  refine gIload X48 H at_116 rfl 118 rfl ?_
  refine gIfN X48 H at_118 (by decide) 121 rfl ?_
  refine gIconst X48 H at_121 (z := 1) rfl 122 rfl ?_
  refine gGoto X48 H at_122 (by decide) 126 rfl ?_
  exact gRetN X48 H hlk hret (t := .boolean) (by simp) at_126 e48 ⟨rfl, Fr.nil _⟩
theorem lawAll_3 (B : Bg Z a0 w_Status_FIRST_TO_MOVE w_Player_SECOND w_Status_FIRST_WINS w_Status_SECOND_WINS w_Player_FIRST w_Status_SECOND_TO_MOVE w_Status_DRAW) (p0 : Int32) (p1 : Int32) (ha0 : ((p0 &&& (2147483647 : Int32)) % (5 : Int32)) = (1 : Int32)) (ha1 : (p1 &&& (1 : Int32)) = (1 : Int32)) :
    Con l Z x code maxLocals ret room_1 #[(.int p0), (.int p1)] Z.heap (fun v h' L => v = some (.int 1) ∧ Fr Z.heap.size L) := by
  have hw := B.1
  obtain ⟨S_w_Status_FIRST_TO_MOVE, E_w_Status_FIRST_TO_MOVE, S_w_Player_SECOND, E_w_Player_SECOND, S_w_Status_FIRST_WINS, E_w_Status_FIRST_WINS, S_w_Status_SECOND_WINS, E_w_Status_SECOND_WINS, S_w_Player_FIRST, E_w_Player_FIRST, S_w_Status_SECOND_TO_MOVE, E_w_Status_SECOND_TO_MOVE, S_w_Status_DRAW, E_w_Status_DRAW, F_w_Status_FIRST_TO_MOVE_ordinal, F_w_Status_FIRST_WINS_ordinal, F_w_Status_SECOND_WINS_ordinal, F_w_Player_SECOND_ordinal, F_w_Player_FIRST_ordinal, F_w_Status_SECOND_TO_MOVE_ordinal, F_w_Status_DRAW_ordinal⟩ := B.2
  refine Con.of (plainFor_of_name pn0) (Ls := #[vI p0, vI p1, .unset, .unset, .unset, .unset, .unset, .unset, .unset, .unset]) (fun m => by first | rfl | (simp [entryFrame, mkF, argsToLocals, Value.category, maxLocals]; done)) ?_
  intro p e s m below meth c T0 X0 H hml hZ hown hnm hret hlk e0
  refine gIloadN X0 H at_0 rfl 1 rfl ?_
  refine gLdc X0 H hZ hown (hw _ wd0) at_1 3 rfl ?_
  refine g_iand X0 H at_3 (z := (p0 &&& (2147483647 : Int32))) rfl 4 rfl ?_
  refine gIconst X0 H at_4 (z := 5) rfl 5 rfl ?_
  refine g_irem X0 H at_5 (by decide) (z := 1) ha0 6 rfl ?_
  refine gIstoreN X0 H at_6 (Ls' := #[vI p0, vI p1, vI 1, .unset, .unset, .unset, .unset, .unset, .unset, .unset]) rfl 7 rfl ?_
  refine gIloadN X0 H at_7 rfl 8 rfl ?_
  refine gStatic X0 H hZ hown (hw _ wd1) (hw _ wd2) (by decide) (hw _ wd4) (hw _ wd3) (rm41_1 B) e0 hml rfl pd0 rfl (W := 0) (argsL := [(.int 1)]) (rest := []) rfl rfl at_8 11 rfl ?_
  intro v49 T49 L49 hq49 X49
  obtain ⟨rfl, e49, rfl⟩ := hq49
  show Go _ _ _ _ (State.setTop _ (mkF _ 11 _ [(.ref w_Status_SECOND_TO_MOVE)]))
  refine gAstoreN X49 H at_11 rfl (Ls' := #[vI p0, vI p1, vI 1, vR w_Status_SECOND_TO_MOVE, .unset, .unset, .unset, .unset, .unset, .unset]) rfl 12 rfl ?_
  refine gIloadN X49 H at_12 rfl 13 rfl ?_
  refine gIconst X49 H at_13 (z := 2) rfl 14 rfl ?_
  refine gCmpN X49 H at_14 (by decide) 17 rfl ?_
  refine gIloadN X49 H at_17 rfl 18 rfl ?_
  refine gIconst X49 H at_18 (z := 3) rfl 19 rfl ?_
  refine gCmpY X49 H at_19 (by decide) (by decide) 26 rfl ?_
  refine gIconst X49 H at_26 (z := 0) rfl 27 rfl ?_
  refine gIstore X49 H at_27 (Ls' := #[vI p0, vI p1, vI 1, vR w_Status_SECOND_TO_MOVE, vI 0, .unset, .unset, .unset, .unset, .unset]) rfl 29 rfl ?_
  refine gIloadN X49 H at_29 rfl 30 rfl ?_
  refine gIconst X49 H at_30 (z := 1) rfl 31 rfl ?_
  refine g_iand X49 H at_31 (z := 1) ha1 32 rfl ?_
  refine gIfN X49 H at_32 (by decide) 35 rfl ?_
  refine gGetS X49 H hZ hown (hw _ wd8) e49 S_w_Player_SECOND at_35 38 rfl ?_
  intro T50 X50 e50
  refine gGoto X50 H at_38 (by decide) 44 rfl ?_
  refine gAstore X50 H at_44 rfl (Ls' := #[vI p0, vI p1, vI 1, vR w_Status_SECOND_TO_MOVE, vI 0, vR w_Player_SECOND, .unset, .unset, .unset, .unset]) rfl 46 rfl ?_
  refine gAloadN X50 H at_46 rfl rfl 47 rfl ?_
  refine gVirt X50 H hZ hown (hw _ wd11) (hw _ wd12) (hw _ wd14) (hw _ wd13) (by decide) E_w_Status_SECOND_TO_MOVE (hw _ wd15) (hw _ wd6) (rm38_2 B) e50 hml rfl pd1 rfl (W := 0) (argsL := []) (rest := []) rfl rfl at_47 50 rfl ?_
  intro v51 T51 L51 hq51 X51
  obtain ⟨rfl, e51, rfl⟩ := hq51
  show Go _ _ _ _ (State.setTop _ (mkF _ 50 _ [(.int 0)]))
  refine gIstore X51 H at_50 (Ls' := #[vI p0, vI p1, vI 1, vR w_Status_SECOND_TO_MOVE, vI 0, vR w_Player_SECOND, vI 0, .unset, .unset, .unset]) rfl 52 rfl ?_
  refine gIload X51 H at_52 rfl 54 rfl ?_
  refine gIfY X51 H at_54 (by decide) (by decide) 64 rfl ?_
  refine gIconst X51 H at_64 (z := 1) rfl 65 rfl ?_
  refine gGoto X51 H at_65 (by decide) 69 rfl ?_
  refine gIstore X51 H at_69 (Ls' := #[vI p0, vI p1, vI 1, vR w_Status_SECOND_TO_MOVE, vI 0, vR w_Player_SECOND, vI 0, vI 1, .unset, .unset]) rfl 71 rfl ?_
  refine gAload X51 H at_71 rfl rfl 73 rfl ?_
  refine gStatic X51 H hZ hown (hw _ wd20) (hw _ wd21) (by decide) (hw _ wd22) (hw _ wd6) (rm26_3 B) e51 hml rfl pd2 rfl (W := 0) (argsL := [(.ref w_Player_SECOND)]) (rest := []) rfl rfl at_73 76 rfl ?_
  intro v52 T52 L52 hq52 X52
  obtain ⟨rfl, e52, rfl⟩ := hq52
  show Go _ _ _ _ (State.setTop _ (mkF _ 76 _ [(.ref w_Status_SECOND_WINS)]))
  refine gVirt X52 H hZ hown (hw _ wd11) (hw _ wd12) (hw _ wd14) (hw _ wd13) (by decide) E_w_Status_SECOND_WINS (hw _ wd15) (hw _ wd6) (rm30_2 B) e52 hml rfl pd1 rfl (W := 0) (argsL := []) (rest := []) rfl rfl at_76 79 rfl ?_
  intro v53 T53 L53 hq53 X53
  obtain ⟨rfl, e53, rfl⟩ := hq53
  show Go _ _ _ _ (State.setTop _ (mkF _ 79 _ [(.int 1)]))
  refine gIstore X53 H at_79 (Ls' := #[vI p0, vI p1, vI 1, vR w_Status_SECOND_TO_MOVE, vI 0, vR w_Player_SECOND, vI 0, vI 1, vI 1, .unset]) rfl 81 rfl ?_
  refine gAload X53 H at_81 rfl rfl 83 rfl ?_
  refine gStatic X53 H hZ hown (hw _ wd25) (hw _ wd26) (by decide) (hw _ wd27) (hw _ wd6) (rm34_4 B) e53 hml rfl pd2 rfl (W := 0) (argsL := [(.ref w_Player_SECOND)]) (rest := []) rfl rfl at_83 86 rfl ?_
  intro v54 T54 L54 hq54 X54
  obtain ⟨rfl, e54, rfl⟩ := hq54
  show Go _ _ _ _ (State.setTop _ (mkF _ 86 _ [(.ref w_Status_SECOND_TO_MOVE)]))
  refine gVirt X54 H hZ hown (hw _ wd11) (hw _ wd12) (hw _ wd14) (hw _ wd13) (by decide) E_w_Status_SECOND_TO_MOVE (hw _ wd15) (hw _ wd6) (rm38_2 B) e54 hml rfl pd1 rfl (W := 0) (argsL := []) (rest := []) rfl rfl at_86 89 rfl ?_
  intro v55 T55 L55 hq55 X55
  obtain ⟨rfl, e55, rfl⟩ := hq55
  show Go _ _ _ _ (State.setTop _ (mkF _ 89 _ [(.int 0)]))
  refine gIfN X55 H at_89 (by decide) 92 rfl ?_
  refine gIconst X55 H at_92 (z := 1) rfl 93 rfl ?_
  refine gGoto X55 H at_93 (by decide) 97 rfl ?_
  refine gIstore X55 H at_97 (Ls' := #[vI p0, vI p1, vI 1, vR w_Status_SECOND_TO_MOVE, vI 0, vR w_Player_SECOND, vI 0, vI 1, vI 1, vI 1]) rfl 99 rfl ?_
  refine gIload X55 H at_99 rfl 101 rfl ?_
  refine gIload X55 H at_101 rfl 103 rfl ?_
  refine gCmpN X55 H at_103 (by decide) 106 rfl ?_
  refine gIload X55 H at_106 rfl 108 rfl ?_
  refine gIfN X55 H at_108 (by decide) 111 rfl ?_
  refine gIload X55 H at_111 rfl 113 rfl ?_
  refine gIfN X55 H at_113 (by decide) 116 rfl ?_
  refine gIload X55 H at_116 rfl 118 rfl ?_
  refine gIfN X55 H at_118 (by decide) 121 rfl ?_
  refine gIconst X55 H at_121 (z := 1) rfl 122 rfl ?_
  refine gGoto X55 H at_122 (by decide) 126 rfl ?_
  exact gRetN X55 H hlk hret (t := .boolean) (by simp) at_126 e55 ⟨rfl, Fr.nil _⟩
theorem rm57_1 (B : Bg Z a0 w_Status_FIRST_TO_MOVE w_Player_SECOND w_Status_FIRST_WINS w_Status_SECOND_WINS w_Player_FIRST w_Status_SECOND_TO_MOVE w_Status_DRAW) :
    Con l Z (⟨"com/example/linemind/linemind/game/StatusIsWonPinLaw", "pick", "(I)Lcom/example/linemind/linemind/game/Status;"⟩ : MethodName) method_2_code 1 (some (.object "com/example/linemind/linemind/game/Status")) ({ frames := 0, cells := 0, slots := 0, locals := 0 } : Room) #[(.int 2)] Z.heap (fun v h' L => v = some (.ref w_Status_FIRST_WINS) ∧ h' = Z.heap ∧ L = []) := by
  have hw := B.1
  obtain ⟨S_w_Status_FIRST_TO_MOVE, E_w_Status_FIRST_TO_MOVE, S_w_Player_SECOND, E_w_Player_SECOND, S_w_Status_FIRST_WINS, E_w_Status_FIRST_WINS, S_w_Status_SECOND_WINS, E_w_Status_SECOND_WINS, S_w_Player_FIRST, E_w_Player_FIRST, S_w_Status_SECOND_TO_MOVE, E_w_Status_SECOND_TO_MOVE, S_w_Status_DRAW, E_w_Status_DRAW, F_w_Status_FIRST_TO_MOVE_ordinal, F_w_Status_FIRST_WINS_ordinal, F_w_Status_SECOND_WINS_ordinal, F_w_Player_SECOND_ordinal, F_w_Player_FIRST_ordinal, F_w_Status_SECOND_TO_MOVE_ordinal, F_w_Status_DRAW_ordinal⟩ := B.2
  refine Con.of (plainFor_of_name pn1) (Ls := #[vI 2]) (fun m => by first | rfl | (simp [entryFrame, mkF, argsToLocals, Value.category]; done)) ?_
  intro p e s m below meth c T0 X0 H hml hZ hown hnm hret hlk e0
  refine gIloadN X0 H d1_0 rfl 1 rfl ?_
  refine gIfY X0 H d1_1 (by decide) (by decide) 8 rfl ?_
  refine gIloadN X0 H d1_8 rfl 9 rfl ?_
  refine gIconst X0 H d1_9 (z := 1) rfl 10 rfl ?_
  refine gCmpY X0 H d1_10 (by decide) (by decide) 17 rfl ?_
  refine gIloadN X0 H d1_17 rfl 18 rfl ?_
  refine gIconst X0 H d1_18 (z := 2) rfl 19 rfl ?_
  refine gCmpN X0 H d1_19 (by decide) 22 rfl ?_
  refine gGetS X0 H hZ hown (hw _ wd41) e0 S_w_Status_FIRST_WINS d1_22 25 rfl ?_
  intro T56 X56 e56
  exact gRetA X56 H hlk hret rfl rfl rfl d1_25 e56 ⟨rfl, rfl, rfl⟩
theorem rm63_5 (B : Bg Z a0 w_Status_FIRST_TO_MOVE w_Player_SECOND w_Status_FIRST_WINS w_Status_SECOND_WINS w_Player_FIRST w_Status_SECOND_TO_MOVE w_Status_DRAW) :
    Con l Z (⟨"com/example/linemind/linemind/game/Status", "isOver", "()Z"⟩ : MethodName) prog_30_method_4_code 1 (some .boolean) ({ frames := 0, cells := 0, slots := 0, locals := 0 } : Room) #[(.ref w_Status_FIRST_WINS)] Z.heap (fun v h' L => v = some (.int 1) ∧ h' = Z.heap ∧ L = []) := by
  have hw := B.1
  obtain ⟨S_w_Status_FIRST_TO_MOVE, E_w_Status_FIRST_TO_MOVE, S_w_Player_SECOND, E_w_Player_SECOND, S_w_Status_FIRST_WINS, E_w_Status_FIRST_WINS, S_w_Status_SECOND_WINS, E_w_Status_SECOND_WINS, S_w_Player_FIRST, E_w_Player_FIRST, S_w_Status_SECOND_TO_MOVE, E_w_Status_SECOND_TO_MOVE, S_w_Status_DRAW, E_w_Status_DRAW, F_w_Status_FIRST_TO_MOVE_ordinal, F_w_Status_FIRST_WINS_ordinal, F_w_Status_SECOND_WINS_ordinal, F_w_Player_SECOND_ordinal, F_w_Player_FIRST_ordinal, F_w_Status_SECOND_TO_MOVE_ordinal, F_w_Status_DRAW_ordinal⟩ := B.2
  refine Con.of (plainFor_of_name pn5) (Ls := #[vR w_Status_FIRST_WINS]) (fun m => by first | rfl | (simp [entryFrame, mkF, argsToLocals, Value.category]; done)) ?_
  intro p e s m below meth c T0 X0 H hml hZ hown hnm hret hlk e0
  refine gAloadN X0 H d5_0 rfl rfl 1 rfl ?_
  refine gGetS X0 H hZ hown (hw _ wd38) e0 S_w_Status_FIRST_TO_MOVE d5_1 4 rfl ?_
  intro T61 X61 e61
  refine gAcmp X61 H d5_4 rfl rfl (same := false) (decide_eq_false fun q => (Fld.ne F_w_Status_FIRST_WINS_ordinal F_w_Status_FIRST_TO_MOVE_ordinal (by decide)) (Value.ref.inj q)) (by decide) 7 (by decide) ?_
  refine gAloadN X61 H d5_7 rfl rfl 8 rfl ?_
  refine gGetS X61 H hZ hown (hw _ wd28) e61 S_w_Status_SECOND_TO_MOVE d5_8 11 rfl ?_
  intro T62 X62 e62
  refine gAcmp X62 H d5_11 rfl rfl (same := false) (decide_eq_false fun q => (Fld.ne F_w_Status_FIRST_WINS_ordinal F_w_Status_SECOND_TO_MOVE_ordinal (by decide)) (Value.ref.inj q)) (by decide) 14 (by decide) ?_
  refine gIconst X62 H d5_14 (z := 1) rfl 15 rfl ?_
  refine gGoto X62 H d5_15 (by decide) 19 rfl ?_
  exact gRetN X62 H hlk hret (t := .boolean) (by simp) d5_19 e62 ⟨rfl, rfl, rfl⟩
theorem lawAll_4 (B : Bg Z a0 w_Status_FIRST_TO_MOVE w_Player_SECOND w_Status_FIRST_WINS w_Status_SECOND_WINS w_Player_FIRST w_Status_SECOND_TO_MOVE w_Status_DRAW) (p0 : Int32) (p1 : Int32) (ha0 : ((p0 &&& (2147483647 : Int32)) % (5 : Int32)) = (2 : Int32)) (ha1 : (p1 &&& (1 : Int32)) = (0 : Int32)) :
    Con l Z x code maxLocals ret room_1 #[(.int p0), (.int p1)] Z.heap (fun v h' L => v = some (.int 1) ∧ Fr Z.heap.size L) := by
  have hw := B.1
  obtain ⟨S_w_Status_FIRST_TO_MOVE, E_w_Status_FIRST_TO_MOVE, S_w_Player_SECOND, E_w_Player_SECOND, S_w_Status_FIRST_WINS, E_w_Status_FIRST_WINS, S_w_Status_SECOND_WINS, E_w_Status_SECOND_WINS, S_w_Player_FIRST, E_w_Player_FIRST, S_w_Status_SECOND_TO_MOVE, E_w_Status_SECOND_TO_MOVE, S_w_Status_DRAW, E_w_Status_DRAW, F_w_Status_FIRST_TO_MOVE_ordinal, F_w_Status_FIRST_WINS_ordinal, F_w_Status_SECOND_WINS_ordinal, F_w_Player_SECOND_ordinal, F_w_Player_FIRST_ordinal, F_w_Status_SECOND_TO_MOVE_ordinal, F_w_Status_DRAW_ordinal⟩ := B.2
  refine Con.of (plainFor_of_name pn0) (Ls := #[vI p0, vI p1, .unset, .unset, .unset, .unset, .unset, .unset, .unset, .unset]) (fun m => by first | rfl | (simp [entryFrame, mkF, argsToLocals, Value.category, maxLocals]; done)) ?_
  intro p e s m below meth c T0 X0 H hml hZ hown hnm hret hlk e0
  refine gIloadN X0 H at_0 rfl 1 rfl ?_
  refine gLdc X0 H hZ hown (hw _ wd0) at_1 3 rfl ?_
  refine g_iand X0 H at_3 (z := (p0 &&& (2147483647 : Int32))) rfl 4 rfl ?_
  refine gIconst X0 H at_4 (z := 5) rfl 5 rfl ?_
  refine g_irem X0 H at_5 (by decide) (z := 2) ha0 6 rfl ?_
  refine gIstoreN X0 H at_6 (Ls' := #[vI p0, vI p1, vI 2, .unset, .unset, .unset, .unset, .unset, .unset, .unset]) rfl 7 rfl ?_
  refine gIloadN X0 H at_7 rfl 8 rfl ?_
  refine gStatic X0 H hZ hown (hw _ wd1) (hw _ wd2) (by decide) (hw _ wd4) (hw _ wd3) (rm57_1 B) e0 hml rfl pd0 rfl (W := 0) (argsL := [(.int 2)]) (rest := []) rfl rfl at_8 11 rfl ?_
  intro v58 T58 L58 hq58 X58
  obtain ⟨rfl, e58, rfl⟩ := hq58
  show Go _ _ _ _ (State.setTop _ (mkF _ 11 _ [(.ref w_Status_FIRST_WINS)]))
  refine gAstoreN X58 H at_11 rfl (Ls' := #[vI p0, vI p1, vI 2, vR w_Status_FIRST_WINS, .unset, .unset, .unset, .unset, .unset, .unset]) rfl 12 rfl ?_
  refine gIloadN X58 H at_12 rfl 13 rfl ?_
  refine gIconst X58 H at_13 (z := 2) rfl 14 rfl ?_
  refine gCmpY X58 H at_14 (by decide) (by decide) 22 rfl ?_
  refine gIconst X58 H at_22 (z := 1) rfl 23 rfl ?_
  refine gGoto X58 H at_23 (by decide) 27 rfl ?_
  refine gIstore X58 H at_27 (Ls' := #[vI p0, vI p1, vI 2, vR w_Status_FIRST_WINS, vI 1, .unset, .unset, .unset, .unset, .unset]) rfl 29 rfl ?_
  refine gIloadN X58 H at_29 rfl 30 rfl ?_
  refine gIconst X58 H at_30 (z := 1) rfl 31 rfl ?_
  refine g_iand X58 H at_31 (z := 0) ha1 32 rfl ?_
  refine gIfY X58 H at_32 (by decide) (by decide) 41 rfl ?_
  refine gGetS X58 H hZ hown (hw _ wd40) e58 S_w_Player_FIRST at_41 44 rfl ?_
  intro T59 X59 e59
  refine gAstore X59 H at_44 rfl (Ls' := #[vI p0, vI p1, vI 2, vR w_Status_FIRST_WINS, vI 1, vR w_Player_FIRST, .unset, .unset, .unset, .unset]) rfl 46 rfl ?_
  refine gAloadN X59 H at_46 rfl rfl 47 rfl ?_
  refine gVirt X59 H hZ hown (hw _ wd11) (hw _ wd12) (hw _ wd14) (hw _ wd13) (by decide) E_w_Status_FIRST_WINS (hw _ wd15) (hw _ wd6) (rm14_2 B) e59 hml rfl pd1 rfl (W := 0) (argsL := []) (rest := []) rfl rfl at_47 50 rfl ?_
  intro v60 T60 L60 hq60 X60
  obtain ⟨rfl, e60, rfl⟩ := hq60
  show Go _ _ _ _ (State.setTop _ (mkF _ 50 _ [(.int 1)]))
  refine gIstore X60 H at_50 (Ls' := #[vI p0, vI p1, vI 2, vR w_Status_FIRST_WINS, vI 1, vR w_Player_FIRST, vI 1, .unset, .unset, .unset]) rfl 52 rfl ?_
  refine gIload X60 H at_52 rfl 54 rfl ?_
  refine gIfN X60 H at_54 (by decide) 57 rfl ?_
  refine gAloadN X60 H at_57 rfl rfl 58 rfl ?_
  refine gVirt X60 H hZ hown (hw _ wd33) (hw _ wd34) (hw _ wd36) (hw _ wd35) (by decide) E_w_Status_FIRST_WINS (hw _ wd37) (hw _ wd6) (rm63_5 B) e60 hml rfl pd1 rfl (W := 0) (argsL := []) (rest := []) rfl rfl at_58 61 rfl ?_
  intro v64 T64 L64 hq64 X64
  obtain ⟨rfl, e64, rfl⟩ := hq64
  show Go _ _ _ _ (State.setTop _ (mkF _ 61 _ [(.int 1)]))
  refine gIfN X64 H at_61 (by decide) 64 rfl ?_
  refine gIconst X64 H at_64 (z := 1) rfl 65 rfl ?_
  refine gGoto X64 H at_65 (by decide) 69 rfl ?_
  refine gIstore X64 H at_69 (Ls' := #[vI p0, vI p1, vI 2, vR w_Status_FIRST_WINS, vI 1, vR w_Player_FIRST, vI 1, vI 1, .unset, .unset]) rfl 71 rfl ?_
  refine gAload X64 H at_71 rfl rfl 73 rfl ?_
  refine gStatic X64 H hZ hown (hw _ wd20) (hw _ wd21) (by decide) (hw _ wd22) (hw _ wd6) (rm11_3 B) e64 hml rfl pd2 rfl (W := 0) (argsL := [(.ref w_Player_FIRST)]) (rest := []) rfl rfl at_73 76 rfl ?_
  intro v65 T65 L65 hq65 X65
  obtain ⟨rfl, e65, rfl⟩ := hq65
  show Go _ _ _ _ (State.setTop _ (mkF _ 76 _ [(.ref w_Status_FIRST_WINS)]))
  refine gVirt X65 H hZ hown (hw _ wd11) (hw _ wd12) (hw _ wd14) (hw _ wd13) (by decide) E_w_Status_FIRST_WINS (hw _ wd15) (hw _ wd6) (rm14_2 B) e65 hml rfl pd1 rfl (W := 0) (argsL := []) (rest := []) rfl rfl at_76 79 rfl ?_
  intro v66 T66 L66 hq66 X66
  obtain ⟨rfl, e66, rfl⟩ := hq66
  show Go _ _ _ _ (State.setTop _ (mkF _ 79 _ [(.int 1)]))
  refine gIstore X66 H at_79 (Ls' := #[vI p0, vI p1, vI 2, vR w_Status_FIRST_WINS, vI 1, vR w_Player_FIRST, vI 1, vI 1, vI 1, .unset]) rfl 81 rfl ?_
  refine gAload X66 H at_81 rfl rfl 83 rfl ?_
  refine gStatic X66 H hZ hown (hw _ wd25) (hw _ wd26) (by decide) (hw _ wd27) (hw _ wd6) (rm18_4 B) e66 hml rfl pd2 rfl (W := 0) (argsL := [(.ref w_Player_FIRST)]) (rest := []) rfl rfl at_83 86 rfl ?_
  intro v67 T67 L67 hq67 X67
  obtain ⟨rfl, e67, rfl⟩ := hq67
  show Go _ _ _ _ (State.setTop _ (mkF _ 86 _ [(.ref w_Status_FIRST_TO_MOVE)]))
  refine gVirt X67 H hZ hown (hw _ wd11) (hw _ wd12) (hw _ wd14) (hw _ wd13) (by decide) E_w_Status_FIRST_TO_MOVE (hw _ wd15) (hw _ wd6) (rm7_2 B) e67 hml rfl pd1 rfl (W := 0) (argsL := []) (rest := []) rfl rfl at_86 89 rfl ?_
  intro v68 T68 L68 hq68 X68
  obtain ⟨rfl, e68, rfl⟩ := hq68
  show Go _ _ _ _ (State.setTop _ (mkF _ 89 _ [(.int 0)]))
  refine gIfN X68 H at_89 (by decide) 92 rfl ?_
  refine gIconst X68 H at_92 (z := 1) rfl 93 rfl ?_
  refine gGoto X68 H at_93 (by decide) 97 rfl ?_
  refine gIstore X68 H at_97 (Ls' := #[vI p0, vI p1, vI 2, vR w_Status_FIRST_WINS, vI 1, vR w_Player_FIRST, vI 1, vI 1, vI 1, vI 1]) rfl 99 rfl ?_
  refine gIload X68 H at_99 rfl 101 rfl ?_
  refine gIload X68 H at_101 rfl 103 rfl ?_
  refine gCmpN X68 H at_103 (by decide) 106 rfl ?_
  refine gIload X68 H at_106 rfl 108 rfl ?_
  refine gIfN X68 H at_108 (by decide) 111 rfl ?_
  refine gIload X68 H at_111 rfl 113 rfl ?_
  refine gIfN X68 H at_113 (by decide) 116 rfl ?_
  refine gIload X68 H at_116 rfl 118 rfl ?_
  refine gIfN X68 H at_118 (by decide) 121 rfl ?_
  refine gIconst X68 H at_121 (z := 1) rfl 122 rfl ?_
  refine gGoto X68 H at_122 (by decide) 126 rfl ?_
  exact gRetN X68 H hlk hret (t := .boolean) (by simp) at_126 e68 ⟨rfl, Fr.nil _⟩
theorem lawAll_5 (B : Bg Z a0 w_Status_FIRST_TO_MOVE w_Player_SECOND w_Status_FIRST_WINS w_Status_SECOND_WINS w_Player_FIRST w_Status_SECOND_TO_MOVE w_Status_DRAW) (p0 : Int32) (p1 : Int32) (ha0 : ((p0 &&& (2147483647 : Int32)) % (5 : Int32)) = (2 : Int32)) (ha1 : (p1 &&& (1 : Int32)) = (1 : Int32)) :
    Con l Z x code maxLocals ret room_1 #[(.int p0), (.int p1)] Z.heap (fun v h' L => v = some (.int 1) ∧ Fr Z.heap.size L) := by
  have hw := B.1
  obtain ⟨S_w_Status_FIRST_TO_MOVE, E_w_Status_FIRST_TO_MOVE, S_w_Player_SECOND, E_w_Player_SECOND, S_w_Status_FIRST_WINS, E_w_Status_FIRST_WINS, S_w_Status_SECOND_WINS, E_w_Status_SECOND_WINS, S_w_Player_FIRST, E_w_Player_FIRST, S_w_Status_SECOND_TO_MOVE, E_w_Status_SECOND_TO_MOVE, S_w_Status_DRAW, E_w_Status_DRAW, F_w_Status_FIRST_TO_MOVE_ordinal, F_w_Status_FIRST_WINS_ordinal, F_w_Status_SECOND_WINS_ordinal, F_w_Player_SECOND_ordinal, F_w_Player_FIRST_ordinal, F_w_Status_SECOND_TO_MOVE_ordinal, F_w_Status_DRAW_ordinal⟩ := B.2
  refine Con.of (plainFor_of_name pn0) (Ls := #[vI p0, vI p1, .unset, .unset, .unset, .unset, .unset, .unset, .unset, .unset]) (fun m => by first | rfl | (simp [entryFrame, mkF, argsToLocals, Value.category, maxLocals]; done)) ?_
  intro p e s m below meth c T0 X0 H hml hZ hown hnm hret hlk e0
  refine gIloadN X0 H at_0 rfl 1 rfl ?_
  refine gLdc X0 H hZ hown (hw _ wd0) at_1 3 rfl ?_
  refine g_iand X0 H at_3 (z := (p0 &&& (2147483647 : Int32))) rfl 4 rfl ?_
  refine gIconst X0 H at_4 (z := 5) rfl 5 rfl ?_
  refine g_irem X0 H at_5 (by decide) (z := 2) ha0 6 rfl ?_
  refine gIstoreN X0 H at_6 (Ls' := #[vI p0, vI p1, vI 2, .unset, .unset, .unset, .unset, .unset, .unset, .unset]) rfl 7 rfl ?_
  refine gIloadN X0 H at_7 rfl 8 rfl ?_
  refine gStatic X0 H hZ hown (hw _ wd1) (hw _ wd2) (by decide) (hw _ wd4) (hw _ wd3) (rm57_1 B) e0 hml rfl pd0 rfl (W := 0) (argsL := [(.int 2)]) (rest := []) rfl rfl at_8 11 rfl ?_
  intro v69 T69 L69 hq69 X69
  obtain ⟨rfl, e69, rfl⟩ := hq69
  show Go _ _ _ _ (State.setTop _ (mkF _ 11 _ [(.ref w_Status_FIRST_WINS)]))
  refine gAstoreN X69 H at_11 rfl (Ls' := #[vI p0, vI p1, vI 2, vR w_Status_FIRST_WINS, .unset, .unset, .unset, .unset, .unset, .unset]) rfl 12 rfl ?_
  refine gIloadN X69 H at_12 rfl 13 rfl ?_
  refine gIconst X69 H at_13 (z := 2) rfl 14 rfl ?_
  refine gCmpY X69 H at_14 (by decide) (by decide) 22 rfl ?_
  refine gIconst X69 H at_22 (z := 1) rfl 23 rfl ?_
  refine gGoto X69 H at_23 (by decide) 27 rfl ?_
  refine gIstore X69 H at_27 (Ls' := #[vI p0, vI p1, vI 2, vR w_Status_FIRST_WINS, vI 1, .unset, .unset, .unset, .unset, .unset]) rfl 29 rfl ?_
  refine gIloadN X69 H at_29 rfl 30 rfl ?_
  refine gIconst X69 H at_30 (z := 1) rfl 31 rfl ?_
  refine g_iand X69 H at_31 (z := 1) ha1 32 rfl ?_
  refine gIfN X69 H at_32 (by decide) 35 rfl ?_
  refine gGetS X69 H hZ hown (hw _ wd8) e69 S_w_Player_SECOND at_35 38 rfl ?_
  intro T70 X70 e70
  refine gGoto X70 H at_38 (by decide) 44 rfl ?_
  refine gAstore X70 H at_44 rfl (Ls' := #[vI p0, vI p1, vI 2, vR w_Status_FIRST_WINS, vI 1, vR w_Player_SECOND, .unset, .unset, .unset, .unset]) rfl 46 rfl ?_
  refine gAloadN X70 H at_46 rfl rfl 47 rfl ?_
  refine gVirt X70 H hZ hown (hw _ wd11) (hw _ wd12) (hw _ wd14) (hw _ wd13) (by decide) E_w_Status_FIRST_WINS (hw _ wd15) (hw _ wd6) (rm14_2 B) e70 hml rfl pd1 rfl (W := 0) (argsL := []) (rest := []) rfl rfl at_47 50 rfl ?_
  intro v71 T71 L71 hq71 X71
  obtain ⟨rfl, e71, rfl⟩ := hq71
  show Go _ _ _ _ (State.setTop _ (mkF _ 50 _ [(.int 1)]))
  refine gIstore X71 H at_50 (Ls' := #[vI p0, vI p1, vI 2, vR w_Status_FIRST_WINS, vI 1, vR w_Player_SECOND, vI 1, .unset, .unset, .unset]) rfl 52 rfl ?_
  refine gIload X71 H at_52 rfl 54 rfl ?_
  refine gIfN X71 H at_54 (by decide) 57 rfl ?_
  refine gAloadN X71 H at_57 rfl rfl 58 rfl ?_
  refine gVirt X71 H hZ hown (hw _ wd33) (hw _ wd34) (hw _ wd36) (hw _ wd35) (by decide) E_w_Status_FIRST_WINS (hw _ wd37) (hw _ wd6) (rm63_5 B) e71 hml rfl pd1 rfl (W := 0) (argsL := []) (rest := []) rfl rfl at_58 61 rfl ?_
  intro v72 T72 L72 hq72 X72
  obtain ⟨rfl, e72, rfl⟩ := hq72
  show Go _ _ _ _ (State.setTop _ (mkF _ 61 _ [(.int 1)]))
  refine gIfN X72 H at_61 (by decide) 64 rfl ?_
  refine gIconst X72 H at_64 (z := 1) rfl 65 rfl ?_
  refine gGoto X72 H at_65 (by decide) 69 rfl ?_
  refine gIstore X72 H at_69 (Ls' := #[vI p0, vI p1, vI 2, vR w_Status_FIRST_WINS, vI 1, vR w_Player_SECOND, vI 1, vI 1, .unset, .unset]) rfl 71 rfl ?_
  refine gAload X72 H at_71 rfl rfl 73 rfl ?_
  refine gStatic X72 H hZ hown (hw _ wd20) (hw _ wd21) (by decide) (hw _ wd22) (hw _ wd6) (rm26_3 B) e72 hml rfl pd2 rfl (W := 0) (argsL := [(.ref w_Player_SECOND)]) (rest := []) rfl rfl at_73 76 rfl ?_
  intro v73 T73 L73 hq73 X73
  obtain ⟨rfl, e73, rfl⟩ := hq73
  show Go _ _ _ _ (State.setTop _ (mkF _ 76 _ [(.ref w_Status_SECOND_WINS)]))
  refine gVirt X73 H hZ hown (hw _ wd11) (hw _ wd12) (hw _ wd14) (hw _ wd13) (by decide) E_w_Status_SECOND_WINS (hw _ wd15) (hw _ wd6) (rm30_2 B) e73 hml rfl pd1 rfl (W := 0) (argsL := []) (rest := []) rfl rfl at_76 79 rfl ?_
  intro v74 T74 L74 hq74 X74
  obtain ⟨rfl, e74, rfl⟩ := hq74
  show Go _ _ _ _ (State.setTop _ (mkF _ 79 _ [(.int 1)]))
  refine gIstore X74 H at_79 (Ls' := #[vI p0, vI p1, vI 2, vR w_Status_FIRST_WINS, vI 1, vR w_Player_SECOND, vI 1, vI 1, vI 1, .unset]) rfl 81 rfl ?_
  refine gAload X74 H at_81 rfl rfl 83 rfl ?_
  refine gStatic X74 H hZ hown (hw _ wd25) (hw _ wd26) (by decide) (hw _ wd27) (hw _ wd6) (rm34_4 B) e74 hml rfl pd2 rfl (W := 0) (argsL := [(.ref w_Player_SECOND)]) (rest := []) rfl rfl at_83 86 rfl ?_
  intro v75 T75 L75 hq75 X75
  obtain ⟨rfl, e75, rfl⟩ := hq75
  show Go _ _ _ _ (State.setTop _ (mkF _ 86 _ [(.ref w_Status_SECOND_TO_MOVE)]))
  refine gVirt X75 H hZ hown (hw _ wd11) (hw _ wd12) (hw _ wd14) (hw _ wd13) (by decide) E_w_Status_SECOND_TO_MOVE (hw _ wd15) (hw _ wd6) (rm38_2 B) e75 hml rfl pd1 rfl (W := 0) (argsL := []) (rest := []) rfl rfl at_86 89 rfl ?_
  intro v76 T76 L76 hq76 X76
  obtain ⟨rfl, e76, rfl⟩ := hq76
  show Go _ _ _ _ (State.setTop _ (mkF _ 89 _ [(.int 0)]))
  refine gIfN X76 H at_89 (by decide) 92 rfl ?_
  refine gIconst X76 H at_92 (z := 1) rfl 93 rfl ?_
  refine gGoto X76 H at_93 (by decide) 97 rfl ?_
  refine gIstore X76 H at_97 (Ls' := #[vI p0, vI p1, vI 2, vR w_Status_FIRST_WINS, vI 1, vR w_Player_SECOND, vI 1, vI 1, vI 1, vI 1]) rfl 99 rfl ?_
  refine gIload X76 H at_99 rfl 101 rfl ?_
  refine gIload X76 H at_101 rfl 103 rfl ?_
  refine gCmpN X76 H at_103 (by decide) 106 rfl ?_
  refine gIload X76 H at_106 rfl 108 rfl ?_
  refine gIfN X76 H at_108 (by decide) 111 rfl ?_
  refine gIload X76 H at_111 rfl 113 rfl ?_
  refine gIfN X76 H at_113 (by decide) 116 rfl ?_
  refine gIload X76 H at_116 rfl 118 rfl ?_
  refine gIfN X76 H at_118 (by decide) 121 rfl ?_
  refine gIconst X76 H at_121 (z := 1) rfl 122 rfl ?_
  refine gGoto X76 H at_122 (by decide) 126 rfl ?_
  exact gRetN X76 H hlk hret (t := .boolean) (by simp) at_126 e76 ⟨rfl, Fr.nil _⟩
theorem rm78_1 (B : Bg Z a0 w_Status_FIRST_TO_MOVE w_Player_SECOND w_Status_FIRST_WINS w_Status_SECOND_WINS w_Player_FIRST w_Status_SECOND_TO_MOVE w_Status_DRAW) :
    Con l Z (⟨"com/example/linemind/linemind/game/StatusIsWonPinLaw", "pick", "(I)Lcom/example/linemind/linemind/game/Status;"⟩ : MethodName) method_2_code 1 (some (.object "com/example/linemind/linemind/game/Status")) ({ frames := 0, cells := 0, slots := 0, locals := 0 } : Room) #[(.int 3)] Z.heap (fun v h' L => v = some (.ref w_Status_SECOND_WINS) ∧ h' = Z.heap ∧ L = []) := by
  have hw := B.1
  obtain ⟨S_w_Status_FIRST_TO_MOVE, E_w_Status_FIRST_TO_MOVE, S_w_Player_SECOND, E_w_Player_SECOND, S_w_Status_FIRST_WINS, E_w_Status_FIRST_WINS, S_w_Status_SECOND_WINS, E_w_Status_SECOND_WINS, S_w_Player_FIRST, E_w_Player_FIRST, S_w_Status_SECOND_TO_MOVE, E_w_Status_SECOND_TO_MOVE, S_w_Status_DRAW, E_w_Status_DRAW, F_w_Status_FIRST_TO_MOVE_ordinal, F_w_Status_FIRST_WINS_ordinal, F_w_Status_SECOND_WINS_ordinal, F_w_Player_SECOND_ordinal, F_w_Player_FIRST_ordinal, F_w_Status_SECOND_TO_MOVE_ordinal, F_w_Status_DRAW_ordinal⟩ := B.2
  refine Con.of (plainFor_of_name pn1) (Ls := #[vI 3]) (fun m => by first | rfl | (simp [entryFrame, mkF, argsToLocals, Value.category]; done)) ?_
  intro p e s m below meth c T0 X0 H hml hZ hown hnm hret hlk e0
  refine gIloadN X0 H d1_0 rfl 1 rfl ?_
  refine gIfY X0 H d1_1 (by decide) (by decide) 8 rfl ?_
  refine gIloadN X0 H d1_8 rfl 9 rfl ?_
  refine gIconst X0 H d1_9 (z := 1) rfl 10 rfl ?_
  refine gCmpY X0 H d1_10 (by decide) (by decide) 17 rfl ?_
  refine gIloadN X0 H d1_17 rfl 18 rfl ?_
  refine gIconst X0 H d1_18 (z := 2) rfl 19 rfl ?_
  refine gCmpY X0 H d1_19 (by decide) (by decide) 26 rfl ?_
  refine gIloadN X0 H d1_26 rfl 27 rfl ?_
  refine gIconst X0 H d1_27 (z := 3) rfl 28 rfl ?_
  refine gCmpN X0 H d1_28 (by decide) 31 rfl ?_
  refine gGetS X0 H hZ hown (hw _ wd32) e0 S_w_Status_SECOND_WINS d1_31 34 rfl ?_
  intro T77 X77 e77
  exact gRetA X77 H hlk hret rfl rfl rfl d1_34 e77 ⟨rfl, rfl, rfl⟩
theorem rm84_5 (B : Bg Z a0 w_Status_FIRST_TO_MOVE w_Player_SECOND w_Status_FIRST_WINS w_Status_SECOND_WINS w_Player_FIRST w_Status_SECOND_TO_MOVE w_Status_DRAW) :
    Con l Z (⟨"com/example/linemind/linemind/game/Status", "isOver", "()Z"⟩ : MethodName) prog_30_method_4_code 1 (some .boolean) ({ frames := 0, cells := 0, slots := 0, locals := 0 } : Room) #[(.ref w_Status_SECOND_WINS)] Z.heap (fun v h' L => v = some (.int 1) ∧ h' = Z.heap ∧ L = []) := by
  have hw := B.1
  obtain ⟨S_w_Status_FIRST_TO_MOVE, E_w_Status_FIRST_TO_MOVE, S_w_Player_SECOND, E_w_Player_SECOND, S_w_Status_FIRST_WINS, E_w_Status_FIRST_WINS, S_w_Status_SECOND_WINS, E_w_Status_SECOND_WINS, S_w_Player_FIRST, E_w_Player_FIRST, S_w_Status_SECOND_TO_MOVE, E_w_Status_SECOND_TO_MOVE, S_w_Status_DRAW, E_w_Status_DRAW, F_w_Status_FIRST_TO_MOVE_ordinal, F_w_Status_FIRST_WINS_ordinal, F_w_Status_SECOND_WINS_ordinal, F_w_Player_SECOND_ordinal, F_w_Player_FIRST_ordinal, F_w_Status_SECOND_TO_MOVE_ordinal, F_w_Status_DRAW_ordinal⟩ := B.2
  refine Con.of (plainFor_of_name pn5) (Ls := #[vR w_Status_SECOND_WINS]) (fun m => by first | rfl | (simp [entryFrame, mkF, argsToLocals, Value.category]; done)) ?_
  intro p e s m below meth c T0 X0 H hml hZ hown hnm hret hlk e0
  refine gAloadN X0 H d5_0 rfl rfl 1 rfl ?_
  refine gGetS X0 H hZ hown (hw _ wd38) e0 S_w_Status_FIRST_TO_MOVE d5_1 4 rfl ?_
  intro T82 X82 e82
  refine gAcmp X82 H d5_4 rfl rfl (same := false) (decide_eq_false fun q => (Fld.ne F_w_Status_SECOND_WINS_ordinal F_w_Status_FIRST_TO_MOVE_ordinal (by decide)) (Value.ref.inj q)) (by decide) 7 (by decide) ?_
  refine gAloadN X82 H d5_7 rfl rfl 8 rfl ?_
  refine gGetS X82 H hZ hown (hw _ wd28) e82 S_w_Status_SECOND_TO_MOVE d5_8 11 rfl ?_
  intro T83 X83 e83
  refine gAcmp X83 H d5_11 rfl rfl (same := false) (decide_eq_false fun q => (Fld.ne F_w_Status_SECOND_WINS_ordinal F_w_Status_SECOND_TO_MOVE_ordinal (by decide)) (Value.ref.inj q)) (by decide) 14 (by decide) ?_
  refine gIconst X83 H d5_14 (z := 1) rfl 15 rfl ?_
  refine gGoto X83 H d5_15 (by decide) 19 rfl ?_
  exact gRetN X83 H hlk hret (t := .boolean) (by simp) d5_19 e83 ⟨rfl, rfl, rfl⟩
theorem lawAll_6 (B : Bg Z a0 w_Status_FIRST_TO_MOVE w_Player_SECOND w_Status_FIRST_WINS w_Status_SECOND_WINS w_Player_FIRST w_Status_SECOND_TO_MOVE w_Status_DRAW) (p0 : Int32) (p1 : Int32) (ha0 : ((p0 &&& (2147483647 : Int32)) % (5 : Int32)) = (3 : Int32)) (ha1 : (p1 &&& (1 : Int32)) = (0 : Int32)) :
    Con l Z x code maxLocals ret room_1 #[(.int p0), (.int p1)] Z.heap (fun v h' L => v = some (.int 1) ∧ Fr Z.heap.size L) := by
  have hw := B.1
  obtain ⟨S_w_Status_FIRST_TO_MOVE, E_w_Status_FIRST_TO_MOVE, S_w_Player_SECOND, E_w_Player_SECOND, S_w_Status_FIRST_WINS, E_w_Status_FIRST_WINS, S_w_Status_SECOND_WINS, E_w_Status_SECOND_WINS, S_w_Player_FIRST, E_w_Player_FIRST, S_w_Status_SECOND_TO_MOVE, E_w_Status_SECOND_TO_MOVE, S_w_Status_DRAW, E_w_Status_DRAW, F_w_Status_FIRST_TO_MOVE_ordinal, F_w_Status_FIRST_WINS_ordinal, F_w_Status_SECOND_WINS_ordinal, F_w_Player_SECOND_ordinal, F_w_Player_FIRST_ordinal, F_w_Status_SECOND_TO_MOVE_ordinal, F_w_Status_DRAW_ordinal⟩ := B.2
  refine Con.of (plainFor_of_name pn0) (Ls := #[vI p0, vI p1, .unset, .unset, .unset, .unset, .unset, .unset, .unset, .unset]) (fun m => by first | rfl | (simp [entryFrame, mkF, argsToLocals, Value.category, maxLocals]; done)) ?_
  intro p e s m below meth c T0 X0 H hml hZ hown hnm hret hlk e0
  refine gIloadN X0 H at_0 rfl 1 rfl ?_
  refine gLdc X0 H hZ hown (hw _ wd0) at_1 3 rfl ?_
  refine g_iand X0 H at_3 (z := (p0 &&& (2147483647 : Int32))) rfl 4 rfl ?_
  refine gIconst X0 H at_4 (z := 5) rfl 5 rfl ?_
  refine g_irem X0 H at_5 (by decide) (z := 3) ha0 6 rfl ?_
  refine gIstoreN X0 H at_6 (Ls' := #[vI p0, vI p1, vI 3, .unset, .unset, .unset, .unset, .unset, .unset, .unset]) rfl 7 rfl ?_
  refine gIloadN X0 H at_7 rfl 8 rfl ?_
  refine gStatic X0 H hZ hown (hw _ wd1) (hw _ wd2) (by decide) (hw _ wd4) (hw _ wd3) (rm78_1 B) e0 hml rfl pd0 rfl (W := 0) (argsL := [(.int 3)]) (rest := []) rfl rfl at_8 11 rfl ?_
  intro v79 T79 L79 hq79 X79
  obtain ⟨rfl, e79, rfl⟩ := hq79
  show Go _ _ _ _ (State.setTop _ (mkF _ 11 _ [(.ref w_Status_SECOND_WINS)]))
  refine gAstoreN X79 H at_11 rfl (Ls' := #[vI p0, vI p1, vI 3, vR w_Status_SECOND_WINS, .unset, .unset, .unset, .unset, .unset, .unset]) rfl 12 rfl ?_
  refine gIloadN X79 H at_12 rfl 13 rfl ?_
  refine gIconst X79 H at_13 (z := 2) rfl 14 rfl ?_
  refine gCmpN X79 H at_14 (by decide) 17 rfl ?_
  refine gIloadN X79 H at_17 rfl 18 rfl ?_
  refine gIconst X79 H at_18 (z := 3) rfl 19 rfl ?_
  refine gCmpN X79 H at_19 (by decide) 22 rfl ?_
  refine gIconst X79 H at_22 (z := 1) rfl 23 rfl ?_
  refine gGoto X79 H at_23 (by decide) 27 rfl ?_
  refine gIstore X79 H at_27 (Ls' := #[vI p0, vI p1, vI 3, vR w_Status_SECOND_WINS, vI 1, .unset, .unset, .unset, .unset, .unset]) rfl 29 rfl ?_
  refine gIloadN X79 H at_29 rfl 30 rfl ?_
  refine gIconst X79 H at_30 (z := 1) rfl 31 rfl ?_
  refine g_iand X79 H at_31 (z := 0) ha1 32 rfl ?_
  refine gIfY X79 H at_32 (by decide) (by decide) 41 rfl ?_
  refine gGetS X79 H hZ hown (hw _ wd40) e79 S_w_Player_FIRST at_41 44 rfl ?_
  intro T80 X80 e80
  refine gAstore X80 H at_44 rfl (Ls' := #[vI p0, vI p1, vI 3, vR w_Status_SECOND_WINS, vI 1, vR w_Player_FIRST, .unset, .unset, .unset, .unset]) rfl 46 rfl ?_
  refine gAloadN X80 H at_46 rfl rfl 47 rfl ?_
  refine gVirt X80 H hZ hown (hw _ wd11) (hw _ wd12) (hw _ wd14) (hw _ wd13) (by decide) E_w_Status_SECOND_WINS (hw _ wd15) (hw _ wd6) (rm30_2 B) e80 hml rfl pd1 rfl (W := 0) (argsL := []) (rest := []) rfl rfl at_47 50 rfl ?_
  intro v81 T81 L81 hq81 X81
  obtain ⟨rfl, e81, rfl⟩ := hq81
  show Go _ _ _ _ (State.setTop _ (mkF _ 50 _ [(.int 1)]))
  refine gIstore X81 H at_50 (Ls' := #[vI p0, vI p1, vI 3, vR w_Status_SECOND_WINS, vI 1, vR w_Player_FIRST, vI 1, .unset, .unset, .unset]) rfl 52 rfl ?_
  refine gIload X81 H at_52 rfl 54 rfl ?_
  refine gIfN X81 H at_54 (by decide) 57 rfl ?_
  refine gAloadN X81 H at_57 rfl rfl 58 rfl ?_
  refine gVirt X81 H hZ hown (hw _ wd33) (hw _ wd34) (hw _ wd36) (hw _ wd35) (by decide) E_w_Status_SECOND_WINS (hw _ wd37) (hw _ wd6) (rm84_5 B) e81 hml rfl pd1 rfl (W := 0) (argsL := []) (rest := []) rfl rfl at_58 61 rfl ?_
  intro v85 T85 L85 hq85 X85
  obtain ⟨rfl, e85, rfl⟩ := hq85
  show Go _ _ _ _ (State.setTop _ (mkF _ 61 _ [(.int 1)]))
  refine gIfN X85 H at_61 (by decide) 64 rfl ?_
  refine gIconst X85 H at_64 (z := 1) rfl 65 rfl ?_
  refine gGoto X85 H at_65 (by decide) 69 rfl ?_
  refine gIstore X85 H at_69 (Ls' := #[vI p0, vI p1, vI 3, vR w_Status_SECOND_WINS, vI 1, vR w_Player_FIRST, vI 1, vI 1, .unset, .unset]) rfl 71 rfl ?_
  refine gAload X85 H at_71 rfl rfl 73 rfl ?_
  refine gStatic X85 H hZ hown (hw _ wd20) (hw _ wd21) (by decide) (hw _ wd22) (hw _ wd6) (rm11_3 B) e85 hml rfl pd2 rfl (W := 0) (argsL := [(.ref w_Player_FIRST)]) (rest := []) rfl rfl at_73 76 rfl ?_
  intro v86 T86 L86 hq86 X86
  obtain ⟨rfl, e86, rfl⟩ := hq86
  show Go _ _ _ _ (State.setTop _ (mkF _ 76 _ [(.ref w_Status_FIRST_WINS)]))
  refine gVirt X86 H hZ hown (hw _ wd11) (hw _ wd12) (hw _ wd14) (hw _ wd13) (by decide) E_w_Status_FIRST_WINS (hw _ wd15) (hw _ wd6) (rm14_2 B) e86 hml rfl pd1 rfl (W := 0) (argsL := []) (rest := []) rfl rfl at_76 79 rfl ?_
  intro v87 T87 L87 hq87 X87
  obtain ⟨rfl, e87, rfl⟩ := hq87
  show Go _ _ _ _ (State.setTop _ (mkF _ 79 _ [(.int 1)]))
  refine gIstore X87 H at_79 (Ls' := #[vI p0, vI p1, vI 3, vR w_Status_SECOND_WINS, vI 1, vR w_Player_FIRST, vI 1, vI 1, vI 1, .unset]) rfl 81 rfl ?_
  refine gAload X87 H at_81 rfl rfl 83 rfl ?_
  refine gStatic X87 H hZ hown (hw _ wd25) (hw _ wd26) (by decide) (hw _ wd27) (hw _ wd6) (rm18_4 B) e87 hml rfl pd2 rfl (W := 0) (argsL := [(.ref w_Player_FIRST)]) (rest := []) rfl rfl at_83 86 rfl ?_
  intro v88 T88 L88 hq88 X88
  obtain ⟨rfl, e88, rfl⟩ := hq88
  show Go _ _ _ _ (State.setTop _ (mkF _ 86 _ [(.ref w_Status_FIRST_TO_MOVE)]))
  refine gVirt X88 H hZ hown (hw _ wd11) (hw _ wd12) (hw _ wd14) (hw _ wd13) (by decide) E_w_Status_FIRST_TO_MOVE (hw _ wd15) (hw _ wd6) (rm7_2 B) e88 hml rfl pd1 rfl (W := 0) (argsL := []) (rest := []) rfl rfl at_86 89 rfl ?_
  intro v89 T89 L89 hq89 X89
  obtain ⟨rfl, e89, rfl⟩ := hq89
  show Go _ _ _ _ (State.setTop _ (mkF _ 89 _ [(.int 0)]))
  refine gIfN X89 H at_89 (by decide) 92 rfl ?_
  refine gIconst X89 H at_92 (z := 1) rfl 93 rfl ?_
  refine gGoto X89 H at_93 (by decide) 97 rfl ?_
  refine gIstore X89 H at_97 (Ls' := #[vI p0, vI p1, vI 3, vR w_Status_SECOND_WINS, vI 1, vR w_Player_FIRST, vI 1, vI 1, vI 1, vI 1]) rfl 99 rfl ?_
  refine gIload X89 H at_99 rfl 101 rfl ?_
  refine gIload X89 H at_101 rfl 103 rfl ?_
  refine gCmpN X89 H at_103 (by decide) 106 rfl ?_
  refine gIload X89 H at_106 rfl 108 rfl ?_
  refine gIfN X89 H at_108 (by decide) 111 rfl ?_
  refine gIload X89 H at_111 rfl 113 rfl ?_
  refine gIfN X89 H at_113 (by decide) 116 rfl ?_
  refine gIload X89 H at_116 rfl 118 rfl ?_
  refine gIfN X89 H at_118 (by decide) 121 rfl ?_
  refine gIconst X89 H at_121 (z := 1) rfl 122 rfl ?_
  refine gGoto X89 H at_122 (by decide) 126 rfl ?_
  exact gRetN X89 H hlk hret (t := .boolean) (by simp) at_126 e89 ⟨rfl, Fr.nil _⟩
theorem lawAll_7 (B : Bg Z a0 w_Status_FIRST_TO_MOVE w_Player_SECOND w_Status_FIRST_WINS w_Status_SECOND_WINS w_Player_FIRST w_Status_SECOND_TO_MOVE w_Status_DRAW) (p0 : Int32) (p1 : Int32) (ha0 : ((p0 &&& (2147483647 : Int32)) % (5 : Int32)) = (3 : Int32)) (ha1 : (p1 &&& (1 : Int32)) = (1 : Int32)) :
    Con l Z x code maxLocals ret room_1 #[(.int p0), (.int p1)] Z.heap (fun v h' L => v = some (.int 1) ∧ Fr Z.heap.size L) := by
  have hw := B.1
  obtain ⟨S_w_Status_FIRST_TO_MOVE, E_w_Status_FIRST_TO_MOVE, S_w_Player_SECOND, E_w_Player_SECOND, S_w_Status_FIRST_WINS, E_w_Status_FIRST_WINS, S_w_Status_SECOND_WINS, E_w_Status_SECOND_WINS, S_w_Player_FIRST, E_w_Player_FIRST, S_w_Status_SECOND_TO_MOVE, E_w_Status_SECOND_TO_MOVE, S_w_Status_DRAW, E_w_Status_DRAW, F_w_Status_FIRST_TO_MOVE_ordinal, F_w_Status_FIRST_WINS_ordinal, F_w_Status_SECOND_WINS_ordinal, F_w_Player_SECOND_ordinal, F_w_Player_FIRST_ordinal, F_w_Status_SECOND_TO_MOVE_ordinal, F_w_Status_DRAW_ordinal⟩ := B.2
  refine Con.of (plainFor_of_name pn0) (Ls := #[vI p0, vI p1, .unset, .unset, .unset, .unset, .unset, .unset, .unset, .unset]) (fun m => by first | rfl | (simp [entryFrame, mkF, argsToLocals, Value.category, maxLocals]; done)) ?_
  intro p e s m below meth c T0 X0 H hml hZ hown hnm hret hlk e0
  refine gIloadN X0 H at_0 rfl 1 rfl ?_
  refine gLdc X0 H hZ hown (hw _ wd0) at_1 3 rfl ?_
  refine g_iand X0 H at_3 (z := (p0 &&& (2147483647 : Int32))) rfl 4 rfl ?_
  refine gIconst X0 H at_4 (z := 5) rfl 5 rfl ?_
  refine g_irem X0 H at_5 (by decide) (z := 3) ha0 6 rfl ?_
  refine gIstoreN X0 H at_6 (Ls' := #[vI p0, vI p1, vI 3, .unset, .unset, .unset, .unset, .unset, .unset, .unset]) rfl 7 rfl ?_
  refine gIloadN X0 H at_7 rfl 8 rfl ?_
  refine gStatic X0 H hZ hown (hw _ wd1) (hw _ wd2) (by decide) (hw _ wd4) (hw _ wd3) (rm78_1 B) e0 hml rfl pd0 rfl (W := 0) (argsL := [(.int 3)]) (rest := []) rfl rfl at_8 11 rfl ?_
  intro v90 T90 L90 hq90 X90
  obtain ⟨rfl, e90, rfl⟩ := hq90
  show Go _ _ _ _ (State.setTop _ (mkF _ 11 _ [(.ref w_Status_SECOND_WINS)]))
  refine gAstoreN X90 H at_11 rfl (Ls' := #[vI p0, vI p1, vI 3, vR w_Status_SECOND_WINS, .unset, .unset, .unset, .unset, .unset, .unset]) rfl 12 rfl ?_
  refine gIloadN X90 H at_12 rfl 13 rfl ?_
  refine gIconst X90 H at_13 (z := 2) rfl 14 rfl ?_
  refine gCmpN X90 H at_14 (by decide) 17 rfl ?_
  refine gIloadN X90 H at_17 rfl 18 rfl ?_
  refine gIconst X90 H at_18 (z := 3) rfl 19 rfl ?_
  refine gCmpN X90 H at_19 (by decide) 22 rfl ?_
  refine gIconst X90 H at_22 (z := 1) rfl 23 rfl ?_
  refine gGoto X90 H at_23 (by decide) 27 rfl ?_
  refine gIstore X90 H at_27 (Ls' := #[vI p0, vI p1, vI 3, vR w_Status_SECOND_WINS, vI 1, .unset, .unset, .unset, .unset, .unset]) rfl 29 rfl ?_
  refine gIloadN X90 H at_29 rfl 30 rfl ?_
  refine gIconst X90 H at_30 (z := 1) rfl 31 rfl ?_
  refine g_iand X90 H at_31 (z := 1) ha1 32 rfl ?_
  refine gIfN X90 H at_32 (by decide) 35 rfl ?_
  refine gGetS X90 H hZ hown (hw _ wd8) e90 S_w_Player_SECOND at_35 38 rfl ?_
  intro T91 X91 e91
  refine gGoto X91 H at_38 (by decide) 44 rfl ?_
  refine gAstore X91 H at_44 rfl (Ls' := #[vI p0, vI p1, vI 3, vR w_Status_SECOND_WINS, vI 1, vR w_Player_SECOND, .unset, .unset, .unset, .unset]) rfl 46 rfl ?_
  refine gAloadN X91 H at_46 rfl rfl 47 rfl ?_
  refine gVirt X91 H hZ hown (hw _ wd11) (hw _ wd12) (hw _ wd14) (hw _ wd13) (by decide) E_w_Status_SECOND_WINS (hw _ wd15) (hw _ wd6) (rm30_2 B) e91 hml rfl pd1 rfl (W := 0) (argsL := []) (rest := []) rfl rfl at_47 50 rfl ?_
  intro v92 T92 L92 hq92 X92
  obtain ⟨rfl, e92, rfl⟩ := hq92
  show Go _ _ _ _ (State.setTop _ (mkF _ 50 _ [(.int 1)]))
  refine gIstore X92 H at_50 (Ls' := #[vI p0, vI p1, vI 3, vR w_Status_SECOND_WINS, vI 1, vR w_Player_SECOND, vI 1, .unset, .unset, .unset]) rfl 52 rfl ?_
  refine gIload X92 H at_52 rfl 54 rfl ?_
  refine gIfN X92 H at_54 (by decide) 57 rfl ?_
  refine gAloadN X92 H at_57 rfl rfl 58 rfl ?_
  refine gVirt X92 H hZ hown (hw _ wd33) (hw _ wd34) (hw _ wd36) (hw _ wd35) (by decide) E_w_Status_SECOND_WINS (hw _ wd37) (hw _ wd6) (rm84_5 B) e92 hml rfl pd1 rfl (W := 0) (argsL := []) (rest := []) rfl rfl at_58 61 rfl ?_
  intro v93 T93 L93 hq93 X93
  obtain ⟨rfl, e93, rfl⟩ := hq93
  show Go _ _ _ _ (State.setTop _ (mkF _ 61 _ [(.int 1)]))
  refine gIfN X93 H at_61 (by decide) 64 rfl ?_
  refine gIconst X93 H at_64 (z := 1) rfl 65 rfl ?_
  refine gGoto X93 H at_65 (by decide) 69 rfl ?_
  refine gIstore X93 H at_69 (Ls' := #[vI p0, vI p1, vI 3, vR w_Status_SECOND_WINS, vI 1, vR w_Player_SECOND, vI 1, vI 1, .unset, .unset]) rfl 71 rfl ?_
  refine gAload X93 H at_71 rfl rfl 73 rfl ?_
  refine gStatic X93 H hZ hown (hw _ wd20) (hw _ wd21) (by decide) (hw _ wd22) (hw _ wd6) (rm26_3 B) e93 hml rfl pd2 rfl (W := 0) (argsL := [(.ref w_Player_SECOND)]) (rest := []) rfl rfl at_73 76 rfl ?_
  intro v94 T94 L94 hq94 X94
  obtain ⟨rfl, e94, rfl⟩ := hq94
  show Go _ _ _ _ (State.setTop _ (mkF _ 76 _ [(.ref w_Status_SECOND_WINS)]))
  refine gVirt X94 H hZ hown (hw _ wd11) (hw _ wd12) (hw _ wd14) (hw _ wd13) (by decide) E_w_Status_SECOND_WINS (hw _ wd15) (hw _ wd6) (rm30_2 B) e94 hml rfl pd1 rfl (W := 0) (argsL := []) (rest := []) rfl rfl at_76 79 rfl ?_
  intro v95 T95 L95 hq95 X95
  obtain ⟨rfl, e95, rfl⟩ := hq95
  show Go _ _ _ _ (State.setTop _ (mkF _ 79 _ [(.int 1)]))
  refine gIstore X95 H at_79 (Ls' := #[vI p0, vI p1, vI 3, vR w_Status_SECOND_WINS, vI 1, vR w_Player_SECOND, vI 1, vI 1, vI 1, .unset]) rfl 81 rfl ?_
  refine gAload X95 H at_81 rfl rfl 83 rfl ?_
  refine gStatic X95 H hZ hown (hw _ wd25) (hw _ wd26) (by decide) (hw _ wd27) (hw _ wd6) (rm34_4 B) e95 hml rfl pd2 rfl (W := 0) (argsL := [(.ref w_Player_SECOND)]) (rest := []) rfl rfl at_83 86 rfl ?_
  intro v96 T96 L96 hq96 X96
  obtain ⟨rfl, e96, rfl⟩ := hq96
  show Go _ _ _ _ (State.setTop _ (mkF _ 86 _ [(.ref w_Status_SECOND_TO_MOVE)]))
  refine gVirt X96 H hZ hown (hw _ wd11) (hw _ wd12) (hw _ wd14) (hw _ wd13) (by decide) E_w_Status_SECOND_TO_MOVE (hw _ wd15) (hw _ wd6) (rm38_2 B) e96 hml rfl pd1 rfl (W := 0) (argsL := []) (rest := []) rfl rfl at_86 89 rfl ?_
  intro v97 T97 L97 hq97 X97
  obtain ⟨rfl, e97, rfl⟩ := hq97
  show Go _ _ _ _ (State.setTop _ (mkF _ 89 _ [(.int 0)]))
  refine gIfN X97 H at_89 (by decide) 92 rfl ?_
  refine gIconst X97 H at_92 (z := 1) rfl 93 rfl ?_
  refine gGoto X97 H at_93 (by decide) 97 rfl ?_
  refine gIstore X97 H at_97 (Ls' := #[vI p0, vI p1, vI 3, vR w_Status_SECOND_WINS, vI 1, vR w_Player_SECOND, vI 1, vI 1, vI 1, vI 1]) rfl 99 rfl ?_
  refine gIload X97 H at_99 rfl 101 rfl ?_
  refine gIload X97 H at_101 rfl 103 rfl ?_
  refine gCmpN X97 H at_103 (by decide) 106 rfl ?_
  refine gIload X97 H at_106 rfl 108 rfl ?_
  refine gIfN X97 H at_108 (by decide) 111 rfl ?_
  refine gIload X97 H at_111 rfl 113 rfl ?_
  refine gIfN X97 H at_113 (by decide) 116 rfl ?_
  refine gIload X97 H at_116 rfl 118 rfl ?_
  refine gIfN X97 H at_118 (by decide) 121 rfl ?_
  refine gIconst X97 H at_121 (z := 1) rfl 122 rfl ?_
  refine gGoto X97 H at_122 (by decide) 126 rfl ?_
  exact gRetN X97 H hlk hret (t := .boolean) (by simp) at_126 e97 ⟨rfl, Fr.nil _⟩
theorem rm99_1 (B : Bg Z a0 w_Status_FIRST_TO_MOVE w_Player_SECOND w_Status_FIRST_WINS w_Status_SECOND_WINS w_Player_FIRST w_Status_SECOND_TO_MOVE w_Status_DRAW) :
    Con l Z (⟨"com/example/linemind/linemind/game/StatusIsWonPinLaw", "pick", "(I)Lcom/example/linemind/linemind/game/Status;"⟩ : MethodName) method_2_code 1 (some (.object "com/example/linemind/linemind/game/Status")) ({ frames := 0, cells := 0, slots := 0, locals := 0 } : Room) #[(.int 4)] Z.heap (fun v h' L => v = some (.ref w_Status_DRAW) ∧ h' = Z.heap ∧ L = []) := by
  have hw := B.1
  obtain ⟨S_w_Status_FIRST_TO_MOVE, E_w_Status_FIRST_TO_MOVE, S_w_Player_SECOND, E_w_Player_SECOND, S_w_Status_FIRST_WINS, E_w_Status_FIRST_WINS, S_w_Status_SECOND_WINS, E_w_Status_SECOND_WINS, S_w_Player_FIRST, E_w_Player_FIRST, S_w_Status_SECOND_TO_MOVE, E_w_Status_SECOND_TO_MOVE, S_w_Status_DRAW, E_w_Status_DRAW, F_w_Status_FIRST_TO_MOVE_ordinal, F_w_Status_FIRST_WINS_ordinal, F_w_Status_SECOND_WINS_ordinal, F_w_Player_SECOND_ordinal, F_w_Player_FIRST_ordinal, F_w_Status_SECOND_TO_MOVE_ordinal, F_w_Status_DRAW_ordinal⟩ := B.2
  refine Con.of (plainFor_of_name pn1) (Ls := #[vI 4]) (fun m => by first | rfl | (simp [entryFrame, mkF, argsToLocals, Value.category]; done)) ?_
  intro p e s m below meth c T0 X0 H hml hZ hown hnm hret hlk e0
  refine gIloadN X0 H d1_0 rfl 1 rfl ?_
  refine gIfY X0 H d1_1 (by decide) (by decide) 8 rfl ?_
  refine gIloadN X0 H d1_8 rfl 9 rfl ?_
  refine gIconst X0 H d1_9 (z := 1) rfl 10 rfl ?_
  refine gCmpY X0 H d1_10 (by decide) (by decide) 17 rfl ?_
  refine gIloadN X0 H d1_17 rfl 18 rfl ?_
  refine gIconst X0 H d1_18 (z := 2) rfl 19 rfl ?_
  refine gCmpY X0 H d1_19 (by decide) (by decide) 26 rfl ?_
  refine gIloadN X0 H d1_26 rfl 27 rfl ?_
  refine gIconst X0 H d1_27 (z := 3) rfl 28 rfl ?_
  refine gCmpY X0 H d1_28 (by decide) (by decide) 35 rfl ?_
  refine gGetS X0 H hZ hown (hw _ wd30) e0 S_w_Status_DRAW d1_35 38 rfl ?_
  intro T98 X98 e98
  exact gRetA X98 H hlk hret rfl rfl rfl d1_38 e98 ⟨rfl, rfl, rfl⟩
theorem rm104_2 (B : Bg Z a0 w_Status_FIRST_TO_MOVE w_Player_SECOND w_Status_FIRST_WINS w_Status_SECOND_WINS w_Player_FIRST w_Status_SECOND_TO_MOVE w_Status_DRAW) :
    Con l Z (⟨"com/example/linemind/linemind/game/Status", "isWon", "()Z"⟩ : MethodName) prog_30_method_6_code 1 (some .boolean) ({ frames := 0, cells := 0, slots := 0, locals := 0 } : Room) #[(.ref w_Status_DRAW)] Z.heap (fun v h' L => v = some (.int 0) ∧ h' = Z.heap ∧ L = []) := by
  have hw := B.1
  obtain ⟨S_w_Status_FIRST_TO_MOVE, E_w_Status_FIRST_TO_MOVE, S_w_Player_SECOND, E_w_Player_SECOND, S_w_Status_FIRST_WINS, E_w_Status_FIRST_WINS, S_w_Status_SECOND_WINS, E_w_Status_SECOND_WINS, S_w_Player_FIRST, E_w_Player_FIRST, S_w_Status_SECOND_TO_MOVE, E_w_Status_SECOND_TO_MOVE, S_w_Status_DRAW, E_w_Status_DRAW, F_w_Status_FIRST_TO_MOVE_ordinal, F_w_Status_FIRST_WINS_ordinal, F_w_Status_SECOND_WINS_ordinal, F_w_Player_SECOND_ordinal, F_w_Player_FIRST_ordinal, F_w_Status_SECOND_TO_MOVE_ordinal, F_w_Status_DRAW_ordinal⟩ := B.2
  refine Con.of (plainFor_of_name pn2) (Ls := #[vR w_Status_DRAW]) (fun m => by first | rfl | (simp [entryFrame, mkF, argsToLocals, Value.category]; done)) ?_
  intro p e s m below meth c T0 X0 H hml hZ hown hnm hret hlk e0
  refine gAloadN X0 H d2_0 rfl rfl 1 rfl ?_
  refine gGetS X0 H hZ hown (hw _ wd16) e0 S_w_Status_FIRST_WINS d2_1 4 rfl ?_
  intro T102 X102 e102
  refine gAcmp X102 H d2_4 rfl rfl (same := false) (decide_eq_false fun q => (Fld.ne F_w_Status_DRAW_ordinal F_w_Status_FIRST_WINS_ordinal (by decide)) (Value.ref.inj q)) (by decide) 7 (by decide) ?_
  refine gAloadN X102 H d2_7 rfl rfl 8 rfl ?_
  refine gGetS X102 H hZ hown (hw _ wd18) e102 S_w_Status_SECOND_WINS d2_8 11 rfl ?_
  intro T103 X103 e103
  refine gAcmp X103 H d2_11 rfl rfl (same := false) (decide_eq_false fun q => (Fld.ne F_w_Status_DRAW_ordinal F_w_Status_SECOND_WINS_ordinal (by decide)) (Value.ref.inj q)) (by decide) 18 (by decide) ?_
  refine gIconst X103 H d2_18 (z := 0) rfl 19 rfl ?_
  exact gRetN X103 H hlk hret (t := .boolean) (by simp) d2_19 e103 ⟨rfl, rfl, rfl⟩
theorem lawAll_8 (B : Bg Z a0 w_Status_FIRST_TO_MOVE w_Player_SECOND w_Status_FIRST_WINS w_Status_SECOND_WINS w_Player_FIRST w_Status_SECOND_TO_MOVE w_Status_DRAW) (p0 : Int32) (p1 : Int32) (ha0 : ((p0 &&& (2147483647 : Int32)) % (5 : Int32)) = (4 : Int32)) (ha1 : (p1 &&& (1 : Int32)) = (0 : Int32)) :
    Con l Z x code maxLocals ret room_1 #[(.int p0), (.int p1)] Z.heap (fun v h' L => v = some (.int 1) ∧ Fr Z.heap.size L) := by
  have hw := B.1
  obtain ⟨S_w_Status_FIRST_TO_MOVE, E_w_Status_FIRST_TO_MOVE, S_w_Player_SECOND, E_w_Player_SECOND, S_w_Status_FIRST_WINS, E_w_Status_FIRST_WINS, S_w_Status_SECOND_WINS, E_w_Status_SECOND_WINS, S_w_Player_FIRST, E_w_Player_FIRST, S_w_Status_SECOND_TO_MOVE, E_w_Status_SECOND_TO_MOVE, S_w_Status_DRAW, E_w_Status_DRAW, F_w_Status_FIRST_TO_MOVE_ordinal, F_w_Status_FIRST_WINS_ordinal, F_w_Status_SECOND_WINS_ordinal, F_w_Player_SECOND_ordinal, F_w_Player_FIRST_ordinal, F_w_Status_SECOND_TO_MOVE_ordinal, F_w_Status_DRAW_ordinal⟩ := B.2
  refine Con.of (plainFor_of_name pn0) (Ls := #[vI p0, vI p1, .unset, .unset, .unset, .unset, .unset, .unset, .unset, .unset]) (fun m => by first | rfl | (simp [entryFrame, mkF, argsToLocals, Value.category, maxLocals]; done)) ?_
  intro p e s m below meth c T0 X0 H hml hZ hown hnm hret hlk e0
  refine gIloadN X0 H at_0 rfl 1 rfl ?_
  refine gLdc X0 H hZ hown (hw _ wd0) at_1 3 rfl ?_
  refine g_iand X0 H at_3 (z := (p0 &&& (2147483647 : Int32))) rfl 4 rfl ?_
  refine gIconst X0 H at_4 (z := 5) rfl 5 rfl ?_
  refine g_irem X0 H at_5 (by decide) (z := 4) ha0 6 rfl ?_
  refine gIstoreN X0 H at_6 (Ls' := #[vI p0, vI p1, vI 4, .unset, .unset, .unset, .unset, .unset, .unset, .unset]) rfl 7 rfl ?_
  refine gIloadN X0 H at_7 rfl 8 rfl ?_
  refine gStatic X0 H hZ hown (hw _ wd1) (hw _ wd2) (by decide) (hw _ wd4) (hw _ wd3) (rm99_1 B) e0 hml rfl pd0 rfl (W := 0) (argsL := [(.int 4)]) (rest := []) rfl rfl at_8 11 rfl ?_
  intro v100 T100 L100 hq100 X100
  obtain ⟨rfl, e100, rfl⟩ := hq100
  show Go _ _ _ _ (State.setTop _ (mkF _ 11 _ [(.ref w_Status_DRAW)]))
  refine gAstoreN X100 H at_11 rfl (Ls' := #[vI p0, vI p1, vI 4, vR w_Status_DRAW, .unset, .unset, .unset, .unset, .unset, .unset]) rfl 12 rfl ?_
  refine gIloadN X100 H at_12 rfl 13 rfl ?_
  refine gIconst X100 H at_13 (z := 2) rfl 14 rfl ?_
  refine gCmpN X100 H at_14 (by decide) 17 rfl ?_
  refine gIloadN X100 H at_17 rfl 18 rfl ?_
  refine gIconst X100 H at_18 (z := 3) rfl 19 rfl ?_
  refine gCmpY X100 H at_19 (by decide) (by decide) 26 rfl ?_
  refine gIconst X100 H at_26 (z := 0) rfl 27 rfl ?_
  refine gIstore X100 H at_27 (Ls' := #[vI p0, vI p1, vI 4, vR w_Status_DRAW, vI 0, .unset, .unset, .unset, .unset, .unset]) rfl 29 rfl ?_
  refine gIloadN X100 H at_29 rfl 30 rfl ?_
  refine gIconst X100 H at_30 (z := 1) rfl 31 rfl ?_
  refine g_iand X100 H at_31 (z := 0) ha1 32 rfl ?_
  refine gIfY X100 H at_32 (by decide) (by decide) 41 rfl ?_
  refine gGetS X100 H hZ hown (hw _ wd40) e100 S_w_Player_FIRST at_41 44 rfl ?_
  intro T101 X101 e101
  refine gAstore X101 H at_44 rfl (Ls' := #[vI p0, vI p1, vI 4, vR w_Status_DRAW, vI 0, vR w_Player_FIRST, .unset, .unset, .unset, .unset]) rfl 46 rfl ?_
  refine gAloadN X101 H at_46 rfl rfl 47 rfl ?_
  refine gVirt X101 H hZ hown (hw _ wd11) (hw _ wd12) (hw _ wd14) (hw _ wd13) (by decide) E_w_Status_DRAW (hw _ wd15) (hw _ wd6) (rm104_2 B) e101 hml rfl pd1 rfl (W := 0) (argsL := []) (rest := []) rfl rfl at_47 50 rfl ?_
  intro v105 T105 L105 hq105 X105
  obtain ⟨rfl, e105, rfl⟩ := hq105
  show Go _ _ _ _ (State.setTop _ (mkF _ 50 _ [(.int 0)]))
  refine gIstore X105 H at_50 (Ls' := #[vI p0, vI p1, vI 4, vR w_Status_DRAW, vI 0, vR w_Player_FIRST, vI 0, .unset, .unset, .unset]) rfl 52 rfl ?_
  refine gIload X105 H at_52 rfl 54 rfl ?_
  refine gIfY X105 H at_54 (by decide) (by decide) 64 rfl ?_
  refine gIconst X105 H at_64 (z := 1) rfl 65 rfl ?_
  refine gGoto X105 H at_65 (by decide) 69 rfl ?_
  refine gIstore X105 H at_69 (Ls' := #[vI p0, vI p1, vI 4, vR w_Status_DRAW, vI 0, vR w_Player_FIRST, vI 0, vI 1, .unset, .unset]) rfl 71 rfl ?_
  refine gAload X105 H at_71 rfl rfl 73 rfl ?_
  refine gStatic X105 H hZ hown (hw _ wd20) (hw _ wd21) (by decide) (hw _ wd22) (hw _ wd6) (rm11_3 B) e105 hml rfl pd2 rfl (W := 0) (argsL := [(.ref w_Player_FIRST)]) (rest := []) rfl rfl at_73 76 rfl ?_
  intro v106 T106 L106 hq106 X106
  obtain ⟨rfl, e106, rfl⟩ := hq106
  show Go _ _ _ _ (State.setTop _ (mkF _ 76 _ [(.ref w_Status_FIRST_WINS)]))
  refine gVirt X106 H hZ hown (hw _ wd11) (hw _ wd12) (hw _ wd14) (hw _ wd13) (by decide) E_w_Status_FIRST_WINS (hw _ wd15) (hw _ wd6) (rm14_2 B) e106 hml rfl pd1 rfl (W := 0) (argsL := []) (rest := []) rfl rfl at_76 79 rfl ?_
  intro v107 T107 L107 hq107 X107
  obtain ⟨rfl, e107, rfl⟩ := hq107
  show Go _ _ _ _ (State.setTop _ (mkF _ 79 _ [(.int 1)]))
  refine gIstore X107 H at_79 (Ls' := #[vI p0, vI p1, vI 4, vR w_Status_DRAW, vI 0, vR w_Player_FIRST, vI 0, vI 1, vI 1, .unset]) rfl 81 rfl ?_
  refine gAload X107 H at_81 rfl rfl 83 rfl ?_
  refine gStatic X107 H hZ hown (hw _ wd25) (hw _ wd26) (by decide) (hw _ wd27) (hw _ wd6) (rm18_4 B) e107 hml rfl pd2 rfl (W := 0) (argsL := [(.ref w_Player_FIRST)]) (rest := []) rfl rfl at_83 86 rfl ?_
  intro v108 T108 L108 hq108 X108
  obtain ⟨rfl, e108, rfl⟩ := hq108
  show Go _ _ _ _ (State.setTop _ (mkF _ 86 _ [(.ref w_Status_FIRST_TO_MOVE)]))
  refine gVirt X108 H hZ hown (hw _ wd11) (hw _ wd12) (hw _ wd14) (hw _ wd13) (by decide) E_w_Status_FIRST_TO_MOVE (hw _ wd15) (hw _ wd6) (rm7_2 B) e108 hml rfl pd1 rfl (W := 0) (argsL := []) (rest := []) rfl rfl at_86 89 rfl ?_
  intro v109 T109 L109 hq109 X109
  obtain ⟨rfl, e109, rfl⟩ := hq109
  show Go _ _ _ _ (State.setTop _ (mkF _ 89 _ [(.int 0)]))
  refine gIfN X109 H at_89 (by decide) 92 rfl ?_
  refine gIconst X109 H at_92 (z := 1) rfl 93 rfl ?_
  refine gGoto X109 H at_93 (by decide) 97 rfl ?_
  refine gIstore X109 H at_97 (Ls' := #[vI p0, vI p1, vI 4, vR w_Status_DRAW, vI 0, vR w_Player_FIRST, vI 0, vI 1, vI 1, vI 1]) rfl 99 rfl ?_
  refine gIload X109 H at_99 rfl 101 rfl ?_
  refine gIload X109 H at_101 rfl 103 rfl ?_
  refine gCmpN X109 H at_103 (by decide) 106 rfl ?_
  refine gIload X109 H at_106 rfl 108 rfl ?_
  refine gIfN X109 H at_108 (by decide) 111 rfl ?_
  refine gIload X109 H at_111 rfl 113 rfl ?_
  refine gIfN X109 H at_113 (by decide) 116 rfl ?_
  refine gIload X109 H at_116 rfl 118 rfl ?_
  refine gIfN X109 H at_118 (by decide) 121 rfl ?_
  refine gIconst X109 H at_121 (z := 1) rfl 122 rfl ?_
  refine gGoto X109 H at_122 (by decide) 126 rfl ?_
  exact gRetN X109 H hlk hret (t := .boolean) (by simp) at_126 e109 ⟨rfl, Fr.nil _⟩
theorem lawAll_9 (B : Bg Z a0 w_Status_FIRST_TO_MOVE w_Player_SECOND w_Status_FIRST_WINS w_Status_SECOND_WINS w_Player_FIRST w_Status_SECOND_TO_MOVE w_Status_DRAW) (p0 : Int32) (p1 : Int32) (ha0 : ((p0 &&& (2147483647 : Int32)) % (5 : Int32)) = (4 : Int32)) (ha1 : (p1 &&& (1 : Int32)) = (1 : Int32)) :
    Con l Z x code maxLocals ret room_1 #[(.int p0), (.int p1)] Z.heap (fun v h' L => v = some (.int 1) ∧ Fr Z.heap.size L) := by
  have hw := B.1
  obtain ⟨S_w_Status_FIRST_TO_MOVE, E_w_Status_FIRST_TO_MOVE, S_w_Player_SECOND, E_w_Player_SECOND, S_w_Status_FIRST_WINS, E_w_Status_FIRST_WINS, S_w_Status_SECOND_WINS, E_w_Status_SECOND_WINS, S_w_Player_FIRST, E_w_Player_FIRST, S_w_Status_SECOND_TO_MOVE, E_w_Status_SECOND_TO_MOVE, S_w_Status_DRAW, E_w_Status_DRAW, F_w_Status_FIRST_TO_MOVE_ordinal, F_w_Status_FIRST_WINS_ordinal, F_w_Status_SECOND_WINS_ordinal, F_w_Player_SECOND_ordinal, F_w_Player_FIRST_ordinal, F_w_Status_SECOND_TO_MOVE_ordinal, F_w_Status_DRAW_ordinal⟩ := B.2
  refine Con.of (plainFor_of_name pn0) (Ls := #[vI p0, vI p1, .unset, .unset, .unset, .unset, .unset, .unset, .unset, .unset]) (fun m => by first | rfl | (simp [entryFrame, mkF, argsToLocals, Value.category, maxLocals]; done)) ?_
  intro p e s m below meth c T0 X0 H hml hZ hown hnm hret hlk e0
  refine gIloadN X0 H at_0 rfl 1 rfl ?_
  refine gLdc X0 H hZ hown (hw _ wd0) at_1 3 rfl ?_
  refine g_iand X0 H at_3 (z := (p0 &&& (2147483647 : Int32))) rfl 4 rfl ?_
  refine gIconst X0 H at_4 (z := 5) rfl 5 rfl ?_
  refine g_irem X0 H at_5 (by decide) (z := 4) ha0 6 rfl ?_
  refine gIstoreN X0 H at_6 (Ls' := #[vI p0, vI p1, vI 4, .unset, .unset, .unset, .unset, .unset, .unset, .unset]) rfl 7 rfl ?_
  refine gIloadN X0 H at_7 rfl 8 rfl ?_
  refine gStatic X0 H hZ hown (hw _ wd1) (hw _ wd2) (by decide) (hw _ wd4) (hw _ wd3) (rm99_1 B) e0 hml rfl pd0 rfl (W := 0) (argsL := [(.int 4)]) (rest := []) rfl rfl at_8 11 rfl ?_
  intro v110 T110 L110 hq110 X110
  obtain ⟨rfl, e110, rfl⟩ := hq110
  show Go _ _ _ _ (State.setTop _ (mkF _ 11 _ [(.ref w_Status_DRAW)]))
  refine gAstoreN X110 H at_11 rfl (Ls' := #[vI p0, vI p1, vI 4, vR w_Status_DRAW, .unset, .unset, .unset, .unset, .unset, .unset]) rfl 12 rfl ?_
  refine gIloadN X110 H at_12 rfl 13 rfl ?_
  refine gIconst X110 H at_13 (z := 2) rfl 14 rfl ?_
  refine gCmpN X110 H at_14 (by decide) 17 rfl ?_
  refine gIloadN X110 H at_17 rfl 18 rfl ?_
  refine gIconst X110 H at_18 (z := 3) rfl 19 rfl ?_
  refine gCmpY X110 H at_19 (by decide) (by decide) 26 rfl ?_
  refine gIconst X110 H at_26 (z := 0) rfl 27 rfl ?_
  refine gIstore X110 H at_27 (Ls' := #[vI p0, vI p1, vI 4, vR w_Status_DRAW, vI 0, .unset, .unset, .unset, .unset, .unset]) rfl 29 rfl ?_
  refine gIloadN X110 H at_29 rfl 30 rfl ?_
  refine gIconst X110 H at_30 (z := 1) rfl 31 rfl ?_
  refine g_iand X110 H at_31 (z := 1) ha1 32 rfl ?_
  refine gIfN X110 H at_32 (by decide) 35 rfl ?_
  refine gGetS X110 H hZ hown (hw _ wd8) e110 S_w_Player_SECOND at_35 38 rfl ?_
  intro T111 X111 e111
  refine gGoto X111 H at_38 (by decide) 44 rfl ?_
  refine gAstore X111 H at_44 rfl (Ls' := #[vI p0, vI p1, vI 4, vR w_Status_DRAW, vI 0, vR w_Player_SECOND, .unset, .unset, .unset, .unset]) rfl 46 rfl ?_
  refine gAloadN X111 H at_46 rfl rfl 47 rfl ?_
  refine gVirt X111 H hZ hown (hw _ wd11) (hw _ wd12) (hw _ wd14) (hw _ wd13) (by decide) E_w_Status_DRAW (hw _ wd15) (hw _ wd6) (rm104_2 B) e111 hml rfl pd1 rfl (W := 0) (argsL := []) (rest := []) rfl rfl at_47 50 rfl ?_
  intro v112 T112 L112 hq112 X112
  obtain ⟨rfl, e112, rfl⟩ := hq112
  show Go _ _ _ _ (State.setTop _ (mkF _ 50 _ [(.int 0)]))
  refine gIstore X112 H at_50 (Ls' := #[vI p0, vI p1, vI 4, vR w_Status_DRAW, vI 0, vR w_Player_SECOND, vI 0, .unset, .unset, .unset]) rfl 52 rfl ?_
  refine gIload X112 H at_52 rfl 54 rfl ?_
  refine gIfY X112 H at_54 (by decide) (by decide) 64 rfl ?_
  refine gIconst X112 H at_64 (z := 1) rfl 65 rfl ?_
  refine gGoto X112 H at_65 (by decide) 69 rfl ?_
  refine gIstore X112 H at_69 (Ls' := #[vI p0, vI p1, vI 4, vR w_Status_DRAW, vI 0, vR w_Player_SECOND, vI 0, vI 1, .unset, .unset]) rfl 71 rfl ?_
  refine gAload X112 H at_71 rfl rfl 73 rfl ?_
  refine gStatic X112 H hZ hown (hw _ wd20) (hw _ wd21) (by decide) (hw _ wd22) (hw _ wd6) (rm26_3 B) e112 hml rfl pd2 rfl (W := 0) (argsL := [(.ref w_Player_SECOND)]) (rest := []) rfl rfl at_73 76 rfl ?_
  intro v113 T113 L113 hq113 X113
  obtain ⟨rfl, e113, rfl⟩ := hq113
  show Go _ _ _ _ (State.setTop _ (mkF _ 76 _ [(.ref w_Status_SECOND_WINS)]))
  refine gVirt X113 H hZ hown (hw _ wd11) (hw _ wd12) (hw _ wd14) (hw _ wd13) (by decide) E_w_Status_SECOND_WINS (hw _ wd15) (hw _ wd6) (rm30_2 B) e113 hml rfl pd1 rfl (W := 0) (argsL := []) (rest := []) rfl rfl at_76 79 rfl ?_
  intro v114 T114 L114 hq114 X114
  obtain ⟨rfl, e114, rfl⟩ := hq114
  show Go _ _ _ _ (State.setTop _ (mkF _ 79 _ [(.int 1)]))
  refine gIstore X114 H at_79 (Ls' := #[vI p0, vI p1, vI 4, vR w_Status_DRAW, vI 0, vR w_Player_SECOND, vI 0, vI 1, vI 1, .unset]) rfl 81 rfl ?_
  refine gAload X114 H at_81 rfl rfl 83 rfl ?_
  refine gStatic X114 H hZ hown (hw _ wd25) (hw _ wd26) (by decide) (hw _ wd27) (hw _ wd6) (rm34_4 B) e114 hml rfl pd2 rfl (W := 0) (argsL := [(.ref w_Player_SECOND)]) (rest := []) rfl rfl at_83 86 rfl ?_
  intro v115 T115 L115 hq115 X115
  obtain ⟨rfl, e115, rfl⟩ := hq115
  show Go _ _ _ _ (State.setTop _ (mkF _ 86 _ [(.ref w_Status_SECOND_TO_MOVE)]))
  refine gVirt X115 H hZ hown (hw _ wd11) (hw _ wd12) (hw _ wd14) (hw _ wd13) (by decide) E_w_Status_SECOND_TO_MOVE (hw _ wd15) (hw _ wd6) (rm38_2 B) e115 hml rfl pd1 rfl (W := 0) (argsL := []) (rest := []) rfl rfl at_86 89 rfl ?_
  intro v116 T116 L116 hq116 X116
  obtain ⟨rfl, e116, rfl⟩ := hq116
  show Go _ _ _ _ (State.setTop _ (mkF _ 89 _ [(.int 0)]))
  refine gIfN X116 H at_89 (by decide) 92 rfl ?_
  refine gIconst X116 H at_92 (z := 1) rfl 93 rfl ?_
  refine gGoto X116 H at_93 (by decide) 97 rfl ?_
  refine gIstore X116 H at_97 (Ls' := #[vI p0, vI p1, vI 4, vR w_Status_DRAW, vI 0, vR w_Player_SECOND, vI 0, vI 1, vI 1, vI 1]) rfl 99 rfl ?_
  refine gIload X116 H at_99 rfl 101 rfl ?_
  refine gIload X116 H at_101 rfl 103 rfl ?_
  refine gCmpN X116 H at_103 (by decide) 106 rfl ?_
  refine gIload X116 H at_106 rfl 108 rfl ?_
  refine gIfN X116 H at_108 (by decide) 111 rfl ?_
  refine gIload X116 H at_111 rfl 113 rfl ?_
  refine gIfN X116 H at_113 (by decide) 116 rfl ?_
  refine gIload X116 H at_116 rfl 118 rfl ?_
  refine gIfN X116 H at_118 (by decide) 121 rfl ?_
  refine gIconst X116 H at_121 (z := 1) rfl 122 rfl ?_
  refine gGoto X116 H at_122 (by decide) 126 rfl ?_
  exact gRetN X116 H hlk hret (t := .boolean) (by simp) at_126 e116 ⟨rfl, Fr.nil _⟩
theorem lawAll (B : Bg Z a0 w_Status_FIRST_TO_MOVE w_Player_SECOND w_Status_FIRST_WINS w_Status_SECOND_WINS w_Player_FIRST w_Status_SECOND_TO_MOVE w_Status_DRAW) (p0 : Int32) (p1 : Int32) :
    Con l Z x code maxLocals ret room_1 #[(.int p0), (.int p1)] Z.heap (fun v h' L => v = some (.int 1) ∧ Fr Z.heap.size L) := by
  rcases mod_cases p0 with ha0 | ha0 | ha0 | ha0 | ha0
  · rcases m1 p1 with ha1 | ha1
    · exact lawAll_0 B p0 p1 ha0 ha1
    · exact lawAll_1 B p0 p1 ha0 ha1
  · rcases m1 p1 with ha1 | ha1
    · exact lawAll_2 B p0 p1 ha0 ha1
    · exact lawAll_3 B p0 p1 ha0 ha1
  · rcases m1 p1 with ha1 | ha1
    · exact lawAll_4 B p0 p1 ha0 ha1
    · exact lawAll_5 B p0 p1 ha0 ha1
  · rcases m1 p1 with ha1 | ha1
    · exact lawAll_6 B p0 p1 ha0 ha1
    · exact lawAll_7 B p0 p1 ha0 ha1
  · rcases m1 p1 with ha1 | ha1
    · exact lawAll_8 B p0 p1 ha0 ha1
    · exact lawAll_9 B p0 p1 ha0 ha1
end Walk
set_option maxHeartbeats 4000000 in
theorem comes_1 {Post : Tables → Env → Array Value → State → Outcome → State → Prop} (hpost : ∀ tb e args s v u, (limb_1_1.after args s (.returned v) u = true ∧ limb_1_2.after args s (.returned v) u = true ∧ True) → FrameEnd s (.returned v) u (Jvm.fieldLocs frame_1_writes args s ++ Jvm.arrayLocs frame_1_arrays args s ++ Jvm.staticLocs frame_1_statics s) 0 0 → Post tb e args s (.returned v) u) :
    ArmFor flags0 classFile x code maxLocals ret World_1 tables_1 room_1 Calls_1 rest_1 Pre_1 Post := by
  intro l hfl _ _ p e ha hc hk s m args below hf hA hF happ hP
  obtain ⟨hcalls, hrest, hpre⟩ := hP
  obtain ⟨-, -, -, hnamed, -, -, -, hat⟩ := (Spec.applies_iff hf).mp happ
  obtain ⟨hg, hn⟩ := and_e (Cond.before_iff.mp (show (Jvm.Cond.and given_1 narrow_1).before args s = true from hpre))
  obtain ⟨n1, n2⟩ := and_e hg
  obtain ⟨n3, n4⟩ := and_e n2
  obtain ⟨w0, w1, rfl⟩ : ∃ w0 w1 : Value, args = #[w0, w1] := by
    have hs : args.size = 2 := by simpa [Cond.value, given_1] using n1
    obtain ⟨L⟩ := args
    match L, hs with
    | [w0, w1], _ => exact ⟨w0, w1, rfl⟩
  have hfit : Fit s := fun {y c} hc i hi => by
    obtain ⟨ha, rfl⟩ := Array.getElem?_eq_some_iff.mp hc
    have q := List.all_eq_true.mp ((Array.all_eq_true_iff_forall_mem.mp hF) _ (Array.getElem_mem ha)) i (List.mem_range.mpr hi)
    simpa [Array.getElem?_eq_getElem hi] using q
  have hw := fun d (hd : d ∈ tables_1) => atoms_spec (ws := Jvm.Cond.code x code maxLocals ret :: tables_1) hat d (List.mem_cons_of_mem _ hd)
  obtain ⟨i0, ei0⟩ := is_v n3
  obtain rfl : w0 = (.int i0) := Option.some.inj ei0
  obtain ⟨i1, ei1⟩ := is_v n4
  obtain rfl : w1 = (.int i1) := Option.some.inj ei1
  obtain ⟨n5, n6⟩ := and_e hn
  obtain ⟨n7, n8⟩ := and_e n6
  obtain ⟨n9, n10⟩ := and_e n8
  obtain ⟨n11, n12⟩ := and_e n10
  obtain ⟨n13, n14⟩ := and_e n12
  obtain ⟨n15, n16⟩ := and_e n14
  obtain ⟨n17, n18⟩ := and_e n16
  obtain ⟨n19, n20⟩ := and_e n18
  obtain ⟨n21, n22⟩ := and_e n20
  obtain ⟨n23, n24⟩ := and_e n22
  obtain ⟨n25, n26⟩ := and_e n24
  obtain ⟨n27, n28⟩ := and_e n26
  obtain ⟨n29, n30⟩ := and_e n28
  obtain ⟨w_Status_FIRST_TO_MOVE, ev_w_Status_FIRST_TO_MOVE⟩ := exa_v n5
  obtain ⟨w_Player_SECOND, ev_w_Player_SECOND⟩ := exa_v n7
  obtain ⟨w_Status_FIRST_WINS, ev_w_Status_FIRST_WINS⟩ := exa_v n9
  obtain ⟨w_Status_SECOND_WINS, ev_w_Status_SECOND_WINS⟩ := exa_v n15
  obtain ⟨w_Player_FIRST, ev_w_Player_FIRST⟩ := exa_v n19
  obtain ⟨w_Status_SECOND_TO_MOVE, ev_w_Status_SECOND_TO_MOVE⟩ := exa_v n25
  obtain ⟨w_Status_DRAW, ev_w_Status_DRAW⟩ := exa_v n29
  have W : World s w_Status_FIRST_TO_MOVE w_Player_SECOND w_Status_FIRST_WINS w_Status_SECOND_WINS w_Player_FIRST w_Status_SECOND_TO_MOVE w_Status_DRAW := ⟨Sta.start ev_w_Status_FIRST_TO_MOVE (Or.inr ⟨(hw _ wd6), (hw _ wd7)⟩), Exa.start ev_w_Status_FIRST_TO_MOVE n5, Sta.start ev_w_Player_SECOND (Or.inr ⟨(hw _ wd9), (hw _ wd10)⟩), Exa.start ev_w_Player_SECOND n7, Sta.start ev_w_Status_FIRST_WINS (Or.inr ⟨(hw _ wd6), (hw _ wd17)⟩), Exa.start ev_w_Status_FIRST_WINS n9, Sta.start ev_w_Status_SECOND_WINS (Or.inr ⟨(hw _ wd6), (hw _ wd19)⟩), Exa.start ev_w_Status_SECOND_WINS n15, Sta.start ev_w_Player_FIRST (Or.inr ⟨(hw _ wd9), (hw _ wd24)⟩), Exa.start ev_w_Player_FIRST n19, Sta.start ev_w_Status_SECOND_TO_MOVE (Or.inr ⟨(hw _ wd6), (hw _ wd29)⟩), Exa.start ev_w_Status_SECOND_TO_MOVE n25, Sta.start ev_w_Status_DRAW (Or.inr ⟨(hw _ wd6), (hw _ wd31)⟩), Exa.start ev_w_Status_DRAW n29, eqI ev_w_Status_FIRST_TO_MOVE n11, eqI ev_w_Status_FIRST_WINS n13, eqI ev_w_Status_SECOND_WINS n17, eqI ev_w_Player_SECOND n21, eqI ev_w_Player_FIRST n23, eqI ev_w_Status_SECOND_TO_MOVE n27, eqI ev_w_Status_DRAW n30⟩
  have B : Bg s _ w_Status_FIRST_TO_MOVE w_Player_SECOND w_Status_FIRST_WINS w_Status_SECOND_WINS w_Player_FIRST w_Status_SECOND_TO_MOVE w_Status_DRAW := ⟨hw, W⟩
  obtain ⟨n, o, h1, h2, h3, _, L, rfl, ⟨rfl, N⟩, hq⟩ := (lawAll (l := l) B i0 i1) tables_1 p e ha hc hk s m _ below hf ((Spec.applies_iff_loose hf).mp happ).1 ⟨rfl, State.Warmed39.refl s, rfl⟩ trivial
  refine ⟨n, _, h1, h2, h3, hpost _ _ _ _ _ _ ⟨Cond.after_iff.mpr rfl, Cond.after_iff.mpr (eq_i res_at (Term.int_eval (1)) rfl), trivial⟩ ⟨hq.1, hq.2.1, (hq.2.2.sift fun y hy => Or.inr (N y hy)).mono (by decide) (by decide)⟩⟩
theorem main_1_1 : Claimed_1_1 := comes_1 fun _ _ _ _ _ _ h hF => ⟨h.1, hF⟩
theorem main_1_2 : Claimed_1_2 := comes_1 fun _ _ _ _ _ _ h hF => ⟨h.2.1, hF⟩
end Jvm.Pilot.@@N@@
namespace Jvm.Pilot.@@N@@
open Jvm Jvm.ClassFile Sem Op Lib Jvm.Free Jvm.Stand Jvm.Pilot.@@N@@.Jvm.D
/-! MADE BY PROGRAM (witnessworld.py) out of the Statement's table words and the real class files: 13 classes; the members and pool entries that the words name. The judged class is class 1, her method 2. -/
namespace start1
open Jvm.ClassFile
def u (s : String) : CpInfo := .utf8 (stringToUtf16 s)
/-- a pool by its gaps: so many unusable entries, then the entry; so many at the end -/
def gap : Nat → List CpInfo → List CpInfo
  | 0, r => r
  | n + 1, r => .unusable :: gap n r
def poolList (es : List (Nat × CpInfo)) (last : Nat) : List CpInfo := es.foldr (fun e r => gap e.1 (e.2 :: r)) (gap last [])
def pool (es : List (Nat × CpInfo)) (last : Nat) : Array CpInfo := ⟨poolList es last⟩
def fileOf (pool : Array CpInfo) (this : Nat) (attrs : Array Attribute := #[]) (ms : Array MethodInfo := #[]) (fl : Nat := 33) (sup : Nat := 0) (ifs : Array Nat := #[]) (fds : Array FieldInfo := #[]) : ClassFile where
  minorVersion := 0
  majorVersion := 65
  constantPool := pool
  accessFlags := fl
  thisClass := this
  superClass := sup
  interfaces := ifs
  fields := fds
  methods := ms
  attributes := attrs
def plain (name : String) (sup : Option ClassId) : Class where
  name := name
  kind := .ordinary
  loader := none
  accessFlags := 33
  super := sup
  interfaces := #[]
  cf := none
  fields := #[]
  methods := #[]
  instanceTypes := #[]
  staticTypes := #[]
  resolved := #[]
  callSites := []
  init := .initialized
  statics := none
  mirror := none

def pool0 : Array CpInfo := pool [(5, u "<init>"), (0, u "()V"), (1, .class_ 10), (1, u "java/lang/Object")] 113

def k0m0 : Method := { name := "<init>", desc := "()V", sig := { parameters := [], returnType := none }, accessFlags := 1, code := none }
/-- java/lang/Object -/
def k0 : Class := { plain "java/lang/Object" none with
  accessFlags := 33
  interfaces := #[]
  cf := some (fileOf pool0 8 #[] #[{ accessFlags := 1, nameIndex := 5, descriptorIndex := 6, attributes := #[] }] 33 0 #[] #[])
  fields := #[]
  methods := #[k0m0]
  instanceTypes := #[]
  staticTypes := #[]
  resolved := Array.replicate 124 none
  statics := none }

def pool1 : Array CpInfo := pool [(2, .class_ 4), (1, u "java/lang/Object"), (0, u "<init>"), (0, u "()V"), (0, .fieldref 8 9), (0, .class_ 10), (0, .nameAndType 11 12), (0, u "com/example/linemind/linemind/game/Status"), (0, u "FIRST_TO_MOVE"), (0, u "Lcom/example/linemind/linemind/game/Status;"), (0, .fieldref 8 14), (0, .nameAndType 15 12), (0, u "SECOND_TO_MOVE"), (0, .fieldref 8 17), (0, .nameAndType 18 12), (0, u "FIRST_WINS"), (0, .fieldref 8 20), (0, .nameAndType 21 12), (0, u "SECOND_WINS"), (0, .fieldref 8 23), (0, .nameAndType 24 12), (0, u "DRAW"), (0, .integer 2147483647), (0, .methodref 27 28), (0, .class_ 29), (0, .nameAndType 30 31), (0, u "com/example/linemind/linemind/game/StatusIsWonPinLaw"), (0, u "pick"), (0, u "(I)Lcom/example/linemind/linemind/game/Status;"), (0, .fieldref 33 34), (0, .class_ 35), (0, .nameAndType 36 37), (0, u "com/example/linemind/linemind/game/Player"), (0, u "SECOND"), (0, u "Lcom/example/linemind/linemind/game/Player;"), (0, .fieldref 33 39), (0, .nameAndType 40 37), (0, u "FIRST"), (0, .methodref 8 42), (0, .nameAndType 43 44), (0, u "isWon"), (0, u "()Z"), (0, .methodref 8 46), (0, .nameAndType 47 44), (0, u "isOver"), (0, .methodref 8 49), (0, .nameAndType 50 51), (0, u "wonBy"), (0, u "(Lcom/example/linemind/linemind/game/Player;)Lcom/example/linemind/linemind/game/Status;"), (0, .methodref 8 53), (0, .nameAndType 54 51), (0, u "toMove"), (3, u "law"), (0, u "(II)Z")] 2

def k1m0 : Method := { name := "<init>", desc := "()V", sig := { parameters := [], returnType := none }, accessFlags := 2, code := none }
def k1c1 : Code := { maxStack := 2, maxLocals := 1, code := method_2_code, exceptionTable := #[], attributes := #[] }
def k1m1 : Method := { name := "pick", desc := "(I)Lcom/example/linemind/linemind/game/Status;", sig := { parameters := [.int], returnType := some (.object "com/example/linemind/linemind/game/Status") }, accessFlags := 10, code := some k1c1 }
def k1c2 : Code := { maxStack := 2, maxLocals := 10, code := code, exceptionTable := #[], attributes := #[] }
def k1m2 : Method := { name := "law", desc := "(II)Z", sig := { parameters := [.int, .int], returnType := some .boolean }, accessFlags := 9, code := some k1c2 }
/-- com/example/linemind/linemind/game/StatusIsWonPinLaw -/
def k1 : Class := { plain "com/example/linemind/linemind/game/StatusIsWonPinLaw" (some 0) with
  accessFlags := 49
  interfaces := #[]
  cf := some (fileOf pool1 27 #[] #[{ accessFlags := 2, nameIndex := 5, descriptorIndex := 6, attributes := #[] }, { accessFlags := 10, nameIndex := 30, descriptorIndex := 31, attributes := #[] }, { accessFlags := 9, nameIndex := 58, descriptorIndex := 59, attributes := #[] }] 49 2 #[] #[])
  fields := #[]
  methods := #[k1m0, k1m1, k1m2]
  instanceTypes := #[]
  staticTypes := #[]
  resolved := Array.replicate 62 none
  statics := none }

def pool2 : Array CpInfo := pool [(1, .class_ 2), (0, u "java/lang/constant/Constable"), (0, .class_ 4), (0, u "java/lang/Object")] 6

/-- java/lang/constant/Constable -/
def k2 : Class := { plain "java/lang/constant/Constable" (some 0) with
  accessFlags := 1537
  interfaces := #[]
  cf := some (fileOf pool2 1 #[] #[] 1537 3 #[] #[])
  fields := #[]
  methods := #[]
  instanceTypes := #[]
  staticTypes := #[]
  resolved := Array.replicate 11 none
  statics := none }

def pool3 : Array CpInfo := pool [(1, .class_ 2), (0, u "java/lang/Comparable"), (0, .class_ 4), (0, u "java/lang/Object")] 7

/-- java/lang/Comparable -/
def k3 : Class := { plain "java/lang/Comparable" (some 0) with
  accessFlags := 1537
  interfaces := #[]
  cf := some (fileOf pool3 1 #[] #[] 1537 3 #[] #[])
  fields := #[]
  methods := #[]
  instanceTypes := #[]
  staticTypes := #[]
  resolved := Array.replicate 12 none
  statics := none }

def pool4 : Array CpInfo := pool [(1, .class_ 2), (0, u "java/io/Serializable"), (0, .class_ 4), (0, u "java/lang/Object")] 2

/-- java/io/Serializable -/
def k4 : Class := { plain "java/io/Serializable" (some 0) with
  accessFlags := 1537
  interfaces := #[]
  cf := some (fileOf pool4 1 #[] #[] 1537 3 #[] #[])
  fields := #[]
  methods := #[]
  instanceTypes := #[]
  staticTypes := #[]
  resolved := Array.replicate 7 none
  statics := none }

def pool5 : Array CpInfo := pool [(2, .class_ 4), (1, u "java/lang/Enum"), (0, u "name"), (0, u "Ljava/lang/String;"), (2, u "ordinal"), (0, u "I"), (1, .class_ 14), (1, u "java/lang/Object"), (4, u "hash"), (86, .class_ 108), (1, u "java/lang/Enum$EnumDesc"), (2, .class_ 112), (0, u "java/lang/constant/Constable"), (0, .class_ 114), (0, u "java/lang/Comparable"), (0, .class_ 116), (0, u "java/io/Serializable")] 87

/-- java/lang/Enum -/
def k5 : Class := { plain "java/lang/Enum" (some 0) with
  accessFlags := 1057
  interfaces := #[2, 3, 4]
  cf := some (fileOf pool5 2 #[.nestMembers #[106]] #[] 1057 12 #[111, 113, 115] #[{ accessFlags := 18, nameIndex := 5, descriptorIndex := 6, attributes := #[] }, { accessFlags := 18, nameIndex := 9, descriptorIndex := 10, attributes := #[] }, { accessFlags := 2, nameIndex := 19, descriptorIndex := 10, attributes := #[] }])
  fields := #[{ name := "name", type := (.object "java/lang/String"), accessFlags := 18, slot := 0, constantValue := 0 }, { name := "ordinal", type := .int, accessFlags := 18, slot := 1, constantValue := 0 }, { name := "hash", type := .int, accessFlags := 2, slot := 2, constantValue := 0 }]
  methods := #[]
  instanceTypes := #[(.object "java/lang/String"), .int, .int]
  staticTypes := #[]
  resolved := Array.replicate 204 none
  statics := none }

def pool6 : Array CpInfo := pool [(1, .class_ 2), (0, u "com/example/linemind/linemind/game/Status"), (0, .fieldref 1 4), (0, .nameAndType 5 6), (0, u "FIRST_TO_MOVE"), (0, u "Lcom/example/linemind/linemind/game/Status;"), (0, .fieldref 1 8), (0, .nameAndType 9 6), (0, u "SECOND_TO_MOVE"), (0, .fieldref 1 11), (0, .nameAndType 12 6), (0, u "FIRST_WINS"), (0, .fieldref 1 14), (0, .nameAndType 15 6), (0, u "SECOND_WINS"), (2, u "DRAW"), (2, u "$VALUES"), (0, u "[Lcom/example/linemind/linemind/game/Status;"), (6, .class_ 31), (1, u "java/lang/Enum"), (10, .fieldref 43 44), (0, .class_ 45), (0, .nameAndType 46 47), (0, u "com/example/linemind/linemind/game/Player"), (0, u "FIRST"), (0, u "Lcom/example/linemind/linemind/game/Player;"), (27, u "isOver"), (0, u "()Z"), (3, u "isWon"), (0, u "toMove"), (0, u "(Lcom/example/linemind/linemind/game/Player;)Lcom/example/linemind/linemind/game/Status;"), (0, u "wonBy")] 4

def k6c0 : Code := { maxStack := 2, maxLocals := 1, code := prog_30_method_4_code, exceptionTable := #[], attributes := #[] }
def k6m0 : Method := { name := "isOver", desc := "()Z", sig := { parameters := [], returnType := some .boolean }, accessFlags := 1, code := some k6c0 }
def k6c1 : Code := { maxStack := 2, maxLocals := 1, code := prog_30_method_6_code, exceptionTable := #[], attributes := #[] }
def k6m1 : Method := { name := "isWon", desc := "()Z", sig := { parameters := [], returnType := some .boolean }, accessFlags := 1, code := some k6c1 }
def k6c2 : Code := { maxStack := 2, maxLocals := 1, code := prog_30_method_7_code, exceptionTable := #[], attributes := #[] }
def k6m2 : Method := { name := "toMove", desc := "(Lcom/example/linemind/linemind/game/Player;)Lcom/example/linemind/linemind/game/Status;", sig := { parameters := [(.object "com/example/linemind/linemind/game/Player")], returnType := some (.object "com/example/linemind/linemind/game/Status") }, accessFlags := 8, code := some k6c2 }
def k6c3 : Code := { maxStack := 2, maxLocals := 1, code := prog_30_method_8_code, exceptionTable := #[], attributes := #[] }
def k6m3 : Method := { name := "wonBy", desc := "(Lcom/example/linemind/linemind/game/Player;)Lcom/example/linemind/linemind/game/Status;", sig := { parameters := [(.object "com/example/linemind/linemind/game/Player")], returnType := some (.object "com/example/linemind/linemind/game/Status") }, accessFlags := 8, code := some k6c3 }
/-- com/example/linemind/linemind/game/Status -/
def k6 : Class := { plain "com/example/linemind/linemind/game/Status" (some 5) with
  accessFlags := 16433
  interfaces := #[]
  cf := some (fileOf pool6 1 #[] #[{ accessFlags := 1, nameIndex := 75, descriptorIndex := 76, attributes := #[] }, { accessFlags := 1, nameIndex := 80, descriptorIndex := 76, attributes := #[] }, { accessFlags := 8, nameIndex := 81, descriptorIndex := 82, attributes := #[] }, { accessFlags := 8, nameIndex := 83, descriptorIndex := 82, attributes := #[] }] 16433 29 #[] #[{ accessFlags := 16409, nameIndex := 5, descriptorIndex := 6, attributes := #[] }, { accessFlags := 16409, nameIndex := 9, descriptorIndex := 6, attributes := #[] }, { accessFlags := 16409, nameIndex := 12, descriptorIndex := 6, attributes := #[] }, { accessFlags := 16409, nameIndex := 15, descriptorIndex := 6, attributes := #[] }, { accessFlags := 16409, nameIndex := 18, descriptorIndex := 6, attributes := #[] }, { accessFlags := 4122, nameIndex := 21, descriptorIndex := 22, attributes := #[] }])
  fields := #[{ name := "FIRST_TO_MOVE", type := (.object "com/example/linemind/linemind/game/Status"), accessFlags := 16409, slot := 0, constantValue := 0 }, { name := "SECOND_TO_MOVE", type := (.object "com/example/linemind/linemind/game/Status"), accessFlags := 16409, slot := 1, constantValue := 0 }, { name := "FIRST_WINS", type := (.object "com/example/linemind/linemind/game/Status"), accessFlags := 16409, slot := 2, constantValue := 0 }, { name := "SECOND_WINS", type := (.object "com/example/linemind/linemind/game/Status"), accessFlags := 16409, slot := 3, constantValue := 0 }, { name := "DRAW", type := (.object "com/example/linemind/linemind/game/Status"), accessFlags := 16409, slot := 4, constantValue := 0 }, { name := "$VALUES", type := (.array (.object "com/example/linemind/linemind/game/Status")), accessFlags := 4122, slot := 5, constantValue := 0 }]
  methods := #[k6m0, k6m1, k6m2, k6m3]
  instanceTypes := #[(.object "java/lang/String"), .int, .int]
  staticTypes := #[(.object "com/example/linemind/linemind/game/Status"), (.object "com/example/linemind/linemind/game/Status"), (.object "com/example/linemind/linemind/game/Status"), (.object "com/example/linemind/linemind/game/Status"), (.object "com/example/linemind/linemind/game/Status"), (.array (.object "com/example/linemind/linemind/game/Status"))]
  resolved := Array.replicate 88 none
  statics := some 0 }

def pool7 : Array CpInfo := pool [(1, .class_ 2), (0, u "com/example/linemind/linemind/game/Player"), (2, u "FIRST"), (0, u "Lcom/example/linemind/linemind/game/Player;"), (2, u "SECOND"), (2, u "$VALUES"), (0, u "[Lcom/example/linemind/linemind/game/Player;"), (6, .class_ 22), (1, u "java/lang/Enum")] 27

/-- com/example/linemind/linemind/game/Player -/
def k7 : Class := { plain "com/example/linemind/linemind/game/Player" (some 5) with
  accessFlags := 16433
  interfaces := #[]
  cf := some (fileOf pool7 1 #[] #[] 16433 20 #[] #[{ accessFlags := 16409, nameIndex := 5, descriptorIndex := 6, attributes := #[] }, { accessFlags := 16409, nameIndex := 9, descriptorIndex := 6, attributes := #[] }, { accessFlags := 4122, nameIndex := 12, descriptorIndex := 13, attributes := #[] }])
  fields := #[{ name := "FIRST", type := (.object "com/example/linemind/linemind/game/Player"), accessFlags := 16409, slot := 0, constantValue := 0 }, { name := "SECOND", type := (.object "com/example/linemind/linemind/game/Player"), accessFlags := 16409, slot := 1, constantValue := 0 }, { name := "$VALUES", type := (.array (.object "com/example/linemind/linemind/game/Player")), accessFlags := 4122, slot := 2, constantValue := 0 }]
  methods := #[]
  instanceTypes := #[(.object "java/lang/String"), .int, .int]
  staticTypes := #[(.object "com/example/linemind/linemind/game/Player"), (.object "com/example/linemind/linemind/game/Player"), (.array (.object "com/example/linemind/linemind/game/Player"))]
  resolved := Array.replicate 50 none
  statics := some 1 }

def pool8 : Array CpInfo := pool [(1, u "java/lang/Cloneable"), (0, .class_ 1), (0, u "java/lang/Object"), (0, .class_ 3)] 3

/-- java/lang/Cloneable -/
def k8 : Class := { plain "java/lang/Cloneable" (some 0) with
  accessFlags := 1537
  interfaces := #[]
  cf := some (fileOf pool8 2 #[] #[] 1537 4 #[] #[])
  fields := #[]
  methods := #[]
  instanceTypes := #[]
  staticTypes := #[]
  resolved := Array.replicate 8 none
  statics := none }

/-- the primitive byte -/
def k9 : Class := { plain "byte" none with kind := .primitive 'B', accessFlags := 0x411 }
/-- [B -/
def k10 : Class := { plain "[B" (some 0) with kind := .array 9 .byte, interfaces := #[8, 4], accessFlags := 1041 }

/-- the primitive int -/
def k11 : Class := { plain "int" none with kind := .primitive 'I', accessFlags := 0x411 }
/-- [I -/
def k12 : Class := { plain "[I" (some 0) with kind := .array 11 .int, interfaces := #[8, 4], accessFlags := 1041 }

def heap : Heap := #[{ cls := 6, slots := #[.ref 2, .ref 7, .ref 4, .ref 5, .ref 8, .null], vm := .statics 6 },
  { cls := 7, slots := #[.ref 6, .ref 3, .null], vm := .statics 7 },
  { cls := 6, slots := #[.null, .int 0, .int 0], vm := .none },
  { cls := 7, slots := #[.null, .int 1, .int 0], vm := .none },
  { cls := 6, slots := #[.null, .int 2, .int 0], vm := .none },
  { cls := 6, slots := #[.null, .int 3, .int 0], vm := .none },
  { cls := 7, slots := #[.null, .int 0, .int 0], vm := .none },
  { cls := 6, slots := #[.null, .int 1, .int 0], vm := .none },
  { cls := 6, slots := #[.null, .int 4, .int 0], vm := .none }]
def classes : Array Class := #[k0, k1, k2, k3, k4, k5, k6, k7, k8, k9, k10, k11, k12]
def interned : List (Array UInt16 × Addr) := []
def slotsUsed : Nat := 30
def theMethod : MethodId := ⟨1, 2⟩
def args0 : Array Value := #[.int 5, .int 5]
def aboutOver (below : List Frame) : State where
  vm := { classes := classes, interned := interned.toArray }
  heap := heap
  slotsUsed := slotsUsed
  threads := #[{ frames := .invoking theMethod args0 :: below }]
def below0 : List Frame := [.native { method := ⟨0, 0⟩, args := #[] }]
def about1 : State := aboutOver below0
def p0 : Program := .bare "" "" ""
def e0 : Env := launch0.env 0 0 0
theorem w_frames : about1.frames = Frame.invoking theMethod args0 :: below0 := rfl
set_option maxRecDepth 65536 in
theorem w_args : argsFit about1.vm theMethod args0 = true := by decide +kernel
set_option maxRecDepth 65536 in
theorem w_heap : heapFits about1 = true := by decide +kernel
set_option maxRecDepth 65536 in
theorem w_runnable : about1.curStatus? = some .runnable := by decide +kernel
set_option maxRecDepth 65536 in
theorem w_alone : about1.alone = true := by decide +kernel
set_option maxRecDepth 65536 in
theorem w_named : about1.methodNamed? x = some theMethod := by decide +kernel
set_option maxRecDepth 65536 in
theorem w_hears : about1.hears theMethod below0 = true := by decide +kernel
set_option maxRecDepth 65536 in
theorem w_ripe : about1.ripe theMethod args0 below0 = true := by decide +kernel
theorem w_running : about1.status = .running := rfl
set_option maxRecDepth 65536 in
theorem w_room : about1.hasRoom e0.platform room_1 = true :=
  launch0.hasRoom_least _ room_1 (by decide +kernel) (by decide +kernel) (by decide +kernel) (by decide +kernel) (by decide +kernel) (by decide +kernel)
theorem allAtoms_all (ts : List Jvm.Cond) (a : Array Jvm.Value) (st : Jvm.State) : (allAtoms ts).before a st = ts.all (fun c => c.before a st) := by
  induction ts with
  | nil => rfl
  | cons c t ih =>
    show (Jvm.Cond.and c (allAtoms t)).before a st = _
    rw [Jvm.Cond.before_and, ih, List.all_cons]
def words1 : List Jvm.Cond := Jvm.Cond.code x code maxLocals ret :: tables_1
/-- a 'code' word, met by the world's own term for the bytes: nothing is compared byte by byte -/
theorem code_word {y : MethodName} {bytes : ByteArray} {mx : Nat} {rt : Option FieldType} {a : Array Value} {s : State} {m : MethodId} {meth : Method} {c : Code} (h1 : s.methodNamed? y = some m) (h2 : s.vm.method? m = some meth) (h3 : meth.code = some c) (h4 : c.code = bytes)
    (h5 : (c.maxLocals == mx && c.exceptionTable.isEmpty && decide (c.maxStack ≤ mostOperands) && decide (meth.sig.returnType = rt) && !meth.locks && decide (parseMethodDescriptor y.desc = some meth.sig)) = true) : (Jvm.Cond.code y bytes mx rt).before a s = true := by
  simp only [Bool.and_eq_true, beq_iff_eq, Bool.not_eq_true', decide_eq_true_eq] at h5
  obtain ⟨⟨⟨⟨⟨g1, g2⟩, g3⟩, g4⟩, g5⟩, g6⟩ := h5
  simp [Cond.before, Cond.holds, Cond.value, h1, h2, h3, h4, g1, g2, g3, g4, g5, g6]
def isCode : Jvm.Cond → Bool
  | .code _ _ _ _ => true
  | _ => false
theorem all_split {L : List Jvm.Cond} {P : Jvm.Cond → Bool} (h1 : L.all (fun c => isCode c || P c) = true) (h2 : ∀ c ∈ L.filter isCode, P c = true) : L.all P = true := by
  refine List.all_eq_true.mpr fun c hc => ?_
  have h := List.all_eq_true.mp h1 c hc
  rcases Bool.eq_false_or_eq_true (isCode c) with hi | hi
  · exact h2 c (List.mem_filter.mpr ⟨hc, hi⟩)
  · simpa [hi] using h
set_option maxRecDepth 65536 in
theorem w_c0 : (Jvm.Cond.code x code maxLocals ret).before args0 about1 = true := code_word (m := ⟨1, 2⟩) (meth := k1m2) (c := k1c2) (by decide +kernel) rfl rfl rfl (by decide +kernel)
set_option maxRecDepth 65536 in
theorem w_c1 : (Jvm.Cond.code ({ cls := "com/example/linemind/linemind/game/StatusIsWonPinLaw", name := "pick", desc := "(I)Lcom/example/linemind/linemind/game/Status;" } : Jvm.MethodName) method_2_code (1 : Nat) (Option.some (Jvm.ClassFile.FieldType.object "com/example/linemind/linemind/game/Status"))).before args0 about1 = true := code_word (m := ⟨1, 1⟩) (meth := k1m1) (c := k1c1) (by decide +kernel) rfl rfl rfl (by decide +kernel)
set_option maxRecDepth 65536 in
theorem w_c2 : (Jvm.Cond.code ({ cls := "com/example/linemind/linemind/game/Status", name := "isWon", desc := "()Z" } : Jvm.MethodName) prog_30_method_6_code (1 : Nat) (Option.some Jvm.ClassFile.FieldType.boolean)).before args0 about1 = true := code_word (m := ⟨6, 1⟩) (meth := k6m1) (c := k6c1) (by decide +kernel) rfl rfl rfl (by decide +kernel)
set_option maxRecDepth 65536 in
theorem w_c3 : (Jvm.Cond.code ({ cls := "com/example/linemind/linemind/game/Status", name := "wonBy", desc := "(Lcom/example/linemind/linemind/game/Player;)Lcom/example/linemind/linemind/game/Status;" } : Jvm.MethodName) prog_30_method_8_code (1 : Nat) (Option.some (Jvm.ClassFile.FieldType.object "com/example/linemind/linemind/game/Status"))).before args0 about1 = true := code_word (m := ⟨6, 3⟩) (meth := k6m3) (c := k6c3) (by decide +kernel) rfl rfl rfl (by decide +kernel)
set_option maxRecDepth 65536 in
theorem w_c4 : (Jvm.Cond.code ({ cls := "com/example/linemind/linemind/game/Status", name := "toMove", desc := "(Lcom/example/linemind/linemind/game/Player;)Lcom/example/linemind/linemind/game/Status;" } : Jvm.MethodName) prog_30_method_7_code (1 : Nat) (Option.some (Jvm.ClassFile.FieldType.object "com/example/linemind/linemind/game/Status"))).before args0 about1 = true := code_word (m := ⟨6, 2⟩) (meth := k6m2) (c := k6c2) (by decide +kernel) rfl rfl rfl (by decide +kernel)
set_option maxRecDepth 65536 in
theorem w_c5 : (Jvm.Cond.code ({ cls := "com/example/linemind/linemind/game/Status", name := "isOver", desc := "()Z" } : Jvm.MethodName) prog_30_method_4_code (1 : Nat) (Option.some Jvm.ClassFile.FieldType.boolean)).before args0 about1 = true := code_word (m := ⟨6, 0⟩) (meth := k6m0) (c := k6c0) (by decide +kernel) rfl rfl rfl (by decide +kernel)
def codes1 : List Jvm.Cond := [Jvm.Cond.code x code maxLocals ret, Jvm.Cond.code ({ cls := "com/example/linemind/linemind/game/StatusIsWonPinLaw", name := "pick", desc := "(I)Lcom/example/linemind/linemind/game/Status;" } : Jvm.MethodName) method_2_code (1 : Nat) (Option.some (Jvm.ClassFile.FieldType.object "com/example/linemind/linemind/game/Status")), Jvm.Cond.code ({ cls := "com/example/linemind/linemind/game/Status", name := "isWon", desc := "()Z" } : Jvm.MethodName) prog_30_method_6_code (1 : Nat) (Option.some Jvm.ClassFile.FieldType.boolean), Jvm.Cond.code ({ cls := "com/example/linemind/linemind/game/Status", name := "wonBy", desc := "(Lcom/example/linemind/linemind/game/Player;)Lcom/example/linemind/linemind/game/Status;" } : Jvm.MethodName) prog_30_method_8_code (1 : Nat) (Option.some (Jvm.ClassFile.FieldType.object "com/example/linemind/linemind/game/Status")), Jvm.Cond.code ({ cls := "com/example/linemind/linemind/game/Status", name := "toMove", desc := "(Lcom/example/linemind/linemind/game/Player;)Lcom/example/linemind/linemind/game/Status;" } : Jvm.MethodName) prog_30_method_7_code (1 : Nat) (Option.some (Jvm.ClassFile.FieldType.object "com/example/linemind/linemind/game/Status")), Jvm.Cond.code ({ cls := "com/example/linemind/linemind/game/Status", name := "isOver", desc := "()Z" } : Jvm.MethodName) prog_30_method_4_code (1 : Nat) (Option.some Jvm.ClassFile.FieldType.boolean)]
set_option maxRecDepth 65536 in
theorem codes_eq : words1.filter isCode = codes1 := rfl
theorem w_codes : ∀ c ∈ words1.filter isCode, c.before args0 about1 = true := by
  rw [codes_eq]
  intro c hc
  simp only [codes1, List.mem_cons, List.not_mem_nil, or_false] at hc
  rcases hc with rfl | rfl | rfl | rfl | rfl | rfl
  · exact w_c0
  · exact w_c1
  · exact w_c2
  · exact w_c3
  · exact w_c4
  · exact w_c5
set_option maxRecDepth 65536 in
theorem w_t1 : (words1.take 24).all (fun c => isCode c || c.before args0 about1) = true := by decide +kernel
set_option maxRecDepth 65536 in
theorem w_t2 : (words1.drop 24).all (fun c => isCode c || c.before args0 about1) = true := by decide +kernel
theorem w_tables : (allAtoms (Jvm.Cond.code x code maxLocals ret :: tables_1)).before args0 about1 = true := by
  rw [allAtoms_all]
  show words1.all (fun c => c.before args0 about1) = true
  refine all_split ?_ w_codes
  rw [← List.take_append_drop 24 words1, List.all_append, w_t1, w_t2]
  rfl
set_option maxRecDepth 65536 in
theorem w_case : (Jvm.Cond.and given_1 narrow_1).before args0 about1 = true := by decide +kernel
theorem w_applies : (headSpec (Jvm.Cond.code x code maxLocals ret :: tables_1) room_1).applies x e0.platform about1 = true :=
  (Spec.applies_iff w_frames).mpr ⟨w_running, w_runnable, w_alone, w_named, w_hears, w_ripe, w_room, w_tables⟩
theorem atStart : AtStart classFile x code maxLocals ret World_1 tables_1 room_1 Calls_1 rest_1 Pre_1 launch0 p0 e0 about1 theMethod args0 below0 :=
  ⟨lists_1, trivial, launch0.admits_env _ _ _, launch0.least_env, fairChoices_fair.cas, fairChoices_fair.clock, w_frames, w_args, w_heap, w_applies, trivial, trivial, w_case⟩
end start1
theorem witness_1 : WitnessClaimed_1 := ⟨start1.p0, start1.e0, start1.about1, start1.theMethod, start1.args0, start1.below0, start1.atStart⟩
end Jvm.Pilot.@@N@@
