import JvmDerived
import JvmDerived.Pilot.@@N@@Statement
import JvmDerived.Pilot.@@N@@Code
set_option linter.unusedVariables false
set_option linter.unusedSimpArgs false
set_option maxRecDepth 65536
set_option maxHeartbeats 8000000
namespace Jvm.Pilot.@@N@@
open Jvm Jvm.ClassFile Sem Op Lib Jvm.Free Jvm.Stand Jvm.LawKit Jvm.RoadKit Bundle Jvm.Pilot.@@N@@.Jvm.D
abbrev vI (x : Int32) : Slot := .val (.int x)
abbrev vJ (x : Int64) : Slot := .val (.long x)
abbrev vR (x : Addr) : Slot := .val (.ref x)
abbrev vN : Slot := .val .null
/-- the run from S comes to an end at which K holds -/
def Go (p : Program) (e : Env) (below : List Frame) (K : State → Outcome → Prop) (S : State) : Prop := ∃ t o, Steps p.tables e below S t ∧ K t o
theorem Go.via {p : Program} {e : Env} {below : List Frame} {K : State → Outcome → Prop} {A B : State} (h : ∀ t, Steps p.tables e below B t → Steps p.tables e below A t) (g : Go p e below K B) : Go p e below K A := by
  obtain ⟨t, o, h1, h2⟩ := g; exact ⟨t, o, h t h1, h2⟩
/-- a method's end: what it returned, the heap and the places written answer Q -/
def EndK (s : State) (below : List Frame) (Q : Option Value → Heap → List Loc → Prop) (C S : Nat) (t : State) (o : Outcome) : Prop := t.status = .running ∧ Ended t below o ∧ ∃ v L, o = .returned v ∧ Q v t.heap L ∧ FrameEnd s o t L C S
/-- a method's contract -/
def Con (l : Launch) (Z : State) (y : MethodName) (bytes : ByteArray) (maxL : Nat) (ret : Option FieldType) (rm : Room) (as : Array Value) (h : Heap) (Q : Option Value → Heap → List Loc → Prop) : Prop :=
  ∀ ws, MetFree l y (head1 (Jvm.Cond.code y bytes maxL ret :: ws) rm) (fun a U => a = as ∧ Z.Warmed39 U.vm ∧ U.heap = h) (fun _ _ _ _ _ => True) (fun _ U o U' => ∃ v L, o = .returned v ∧ Q v U'.heap L ∧ FrameEnd U o U' L rm.cells rm.slots)
theorem Con.of {l : Launch} {Z : State} {y : MethodName} {bytes : ByteArray} {maxL : Nat} {ret : Option FieldType} {rm : Room} {as : Array Value} {h : Heap} {Q : Option Value → Heap → List Loc → Prop} {Ls : Array Slot} (hp : plainFor y = true) (hfr : ∀ m, entryFrame m as maxL = mkF m 0 Ls [])
    (body : ∀ (p : Program) (e : Env) (s : State) (m : MethodId) (below : List Frame) (meth : Method) (c : Code) (T : State), Stand p l e rm s m as below meth c T [] 0 0 → p.tables.exec = Jvm.exec ∧ c.code = bytes → c.maxLocals = maxL → Z.Warmed39 s.vm → s.vm.findClass y.cls = some m.cls → meth.name = y.name → meth.sig.returnType = ret → meth.locks = false → T.heap = h → Go p e below (EndK s below Q rm.cells rm.slots) (T.setTop (mkF m 0 Ls []))) :
    Con l Z y bytes maxL ret rm as h Q := by
  intro ws
  refine MetFree.of_bodySF hp hisR ?_
  intro p e s m args below meth c s₁ Bd hml hP hK
  obtain ⟨rfl, hZ, hh⟩ := hP
  have e0 : s₁.heap = h := by rw [← hh, Bd.state]; rfl
  obtain ⟨t, o, h1, h2⟩ := body p e s m below meth c s₁ (Stand.of_body Bd) ⟨Bd.exec, Bd.bytes⟩ hml hZ (findClass_of_methodNamed Bd.named) (name_of_methodNamed Bd.named Bd.method).1 Bd.returns Bd.notSynchronized e0
  exact ⟨t, o, castTop (hfr m) h1, h2⟩
section Steps
variable {p : Program} {l : Launch} {e : Env} {R : Room} {s : State} {m : MethodId} {args : Array Value} {below : List Frame} {meth : Method} {c : Code} {T : State} {locs : List Loc} {cells slots : Nat} {K : State → Outcome → Prop} {Z : State} {a0 : Array Value} {h : Heap} {bs : ByteArray} {Ls Ls' : Array Slot} {st : List Value} {pc pc' : Nat}

theorem gIloadN (X : Stand p l e R s m args below meth c T locs cells slots) (H : p.tables.exec = Jvm.exec ∧ c.code = bs) {k : Fin 4} {v : Int32} (hd : decode bs pc = .ok (.iload_n k, 1)) (hl : Ls[k.val]? = some (.val (.int v))) (pc' : Nat) (hp : pc + 1 = pc') (g : Go p e below K (T.setTop (mkF m pc' Ls (.int v :: st)))) : Go p e below K (T.setTop (mkF m pc Ls (st))) := by
  subst hp
  exact Go.via (fun t k => XS.iloadN (g := mkF m pc Ls (st)) X.here H.1 rfl (hb H.2 hd) hl k) g

theorem gAloadN (X : Stand p l e R s m args below meth c T locs cells slots) (H : p.tables.exec = Jvm.exec ∧ c.code = bs) {k : Fin 4} {v : Value} (hd : decode bs pc = .ok (.aload_n k, 1)) (hl : Ls[k.val]? = some (.val v)) (hv : v.isRef = true) (pc' : Nat) (hp : pc + 1 = pc') (g : Go p e below K (T.setTop (mkF m pc' Ls (v :: st)))) : Go p e below K (T.setTop (mkF m pc Ls (st))) := by
  subst hp
  exact Go.via (fun t k => XS.aloadN (g := mkF m pc Ls (st)) X.here H.1 rfl (hb H.2 hd) hl hv k) g

theorem gIstoreN (X : Stand p l e R s m args below meth c T locs cells slots) (H : p.tables.exec = Jvm.exec ∧ c.code = bs) {k : Fin 4} {v : Int32} (hd : decode bs pc = .ok (.istore_n k, 1)) (hl : storeLocals Ls k.val (.int v) = some Ls') (pc' : Nat) (hp : pc + 1 = pc') (g : Go p e below K (T.setTop (mkF m pc' Ls' (st)))) : Go p e below K (T.setTop (mkF m pc Ls (.int v :: st))) := by
  subst hp
  exact Go.via (fun t k => XS.istoreN (g := mkF m pc Ls (.int v :: st)) X.here H.1 rfl (hb H.2 hd) rfl hl k) g

theorem gIload (X : Stand p l e R s m args below meth c T locs cells slots) (H : p.tables.exec = Jvm.exec ∧ c.code = bs) {k : Nat} {v : Int32} (hd : decode bs pc = .ok (.iload k, 2)) (hl : Ls[k]? = some (.val (.int v))) (pc' : Nat) (hp : pc + 2 = pc') (g : Go p e below K (T.setTop (mkF m pc' Ls (.int v :: st)))) : Go p e below K (T.setTop (mkF m pc Ls (st))) := by
  subst hp
  exact Go.via (fun t k => XS.iload (g := mkF m pc Ls (st)) X.here H.1 rfl (hb H.2 hd) hl k) g

theorem gAload (X : Stand p l e R s m args below meth c T locs cells slots) (H : p.tables.exec = Jvm.exec ∧ c.code = bs) {k : Nat} {v : Value} (hd : decode bs pc = .ok (.aload k, 2)) (hl : Ls[k]? = some (.val v)) (hv : v.isRef = true) (pc' : Nat) (hp : pc + 2 = pc') (g : Go p e below K (T.setTop (mkF m pc' Ls (v :: st)))) : Go p e below K (T.setTop (mkF m pc Ls (st))) := by
  subst hp
  exact Go.via (fun t k => XS.aload (g := mkF m pc Ls (st)) X.here H.1 rfl (hb H.2 hd) hl hv k) g

theorem gIstore (X : Stand p l e R s m args below meth c T locs cells slots) (H : p.tables.exec = Jvm.exec ∧ c.code = bs) {k : Nat} {v : Int32} (hd : decode bs pc = .ok (.istore k, 2)) (hl : storeLocals Ls k (.int v) = some Ls') (pc' : Nat) (hp : pc + 2 = pc') (g : Go p e below K (T.setTop (mkF m pc' Ls' (st)))) : Go p e below K (T.setTop (mkF m pc Ls (.int v :: st))) := by
  subst hp
  exact Go.via (fun t k => XS.istore (g := mkF m pc Ls (.int v :: st)) X.here H.1 rfl (hb H.2 hd) rfl hl k) g

theorem gAstore (X : Stand p l e R s m args below meth c T locs cells slots) (H : p.tables.exec = Jvm.exec ∧ c.code = bs) {k : Nat} {v : Value} (hd : decode bs pc = .ok (.astore k, 2)) (hv : v.isRef = true) (hl : storeLocals Ls k v = some Ls') (pc' : Nat) (hp : pc + 2 = pc') (g : Go p e below K (T.setTop (mkF m pc' Ls' (st)))) : Go p e below K (T.setTop (mkF m pc Ls (v :: st))) := by
  subst hp
  exact Go.via (fun t k => XS.astore (g := mkF m pc Ls (v :: st)) X.here H.1 rfl (hb H.2 hd) rfl hv hl k) g

theorem gIconst (X : Stand p l e R s m args below meth c T locs cells slots) (H : p.tables.exec = Jvm.exec ∧ c.code = bs) {i : Int} {z : Int32} (hd : decode bs pc = .ok (.iconst i, 1)) (hz : Int32.ofInt i = z) (pc' : Nat) (hp : pc + 1 = pc') (g : Go p e below K (T.setTop (mkF m pc' Ls (.int z :: st)))) : Go p e below K (T.setTop (mkF m pc Ls (st))) := by
  subst hp hz
  exact Go.via (fun t k => XS.iconst (g := mkF m pc Ls (st)) X.here H.1 rfl (hb H.2 hd) k) g

theorem g_iand (X : Stand p l e R s m args below meth c T locs cells slots) (H : p.tables.exec = Jvm.exec ∧ c.code = bs) {x y z : Int32} (hd : decode bs pc = .ok (.iand, 1)) (hz : x &&& y = z) (pc' : Nat) (hp : pc + 1 = pc') (g : Go p e below K (T.setTop (mkF m pc' Ls (.int z :: st)))) : Go p e below K (T.setTop (mkF m pc Ls (.int y :: .int x :: st))) := by
  subst hp hz
  exact Go.via (fun t k => XS.iand (g := mkF m pc Ls (.int y :: .int x :: st)) X.here H.1 rfl (hb H.2 hd) rfl k) g

theorem gGoto (X : Stand p l e R s m args below meth c T locs cells slots) (H : p.tables.exec = Jvm.exec ∧ c.code = bs)  {o : Int} (hd : decode bs pc = .ok (.goto o, 3)) (ho : 0 ≤ (pc : Int) + o) (pc' : Nat) (hp : ((pc : Int) + o).toNat = pc') (g : Go p e below K (T.setTop (mkF m pc' Ls (st)))) : Go p e below K (T.setTop (mkF m pc Ls (st))) :=
  Go.via (fun t k => XS.goto (g := mkF m pc Ls (st)) X.here H.1 rfl rfl (hb H.2 hd) ho hp k) g

theorem gIfY (X : Stand p l e R s m args below meth c T locs cells slots) (H : p.tables.exec = Jvm.exec ∧ c.code = bs) {cd : ClassFile.Cond} {x : Int32} {o : Int} (hd : decode bs pc = .ok (.ifCond cd o, 3)) (hc : ifCond.holds cd x = true) (ho : 0 ≤ (pc : Int) + o) (pc' : Nat) (hp : ((pc : Int) + o).toNat = pc') (g : Go p e below K (T.setTop (mkF m pc' Ls (st)))) : Go p e below K (T.setTop (mkF m pc Ls (.int x :: st))) :=
  Go.via (fun t k => XS.ifYes (g := mkF m pc Ls (.int x :: st)) X.here H.1 rfl rfl (hb H.2 hd) rfl hc ho hp k) g

theorem gCmpY (X : Stand p l e R s m args below meth c T locs cells slots) (H : p.tables.exec = Jvm.exec ∧ c.code = bs) {cd : ClassFile.Cond} {x y : Int32} {o : Int} (hd : decode bs pc = .ok (.if_icmp cd o, 3)) (hc : if_icmp.holds cd x y = true) (ho : 0 ≤ (pc : Int) + o) (pc' : Nat) (hp : ((pc : Int) + o).toNat = pc') (g : Go p e below K (T.setTop (mkF m pc' Ls (st)))) : Go p e below K (T.setTop (mkF m pc Ls (.int y :: .int x :: st))) :=
  Go.via (fun t k => XS.icmpYes (g := mkF m pc Ls (.int y :: .int x :: st)) X.here H.1 rfl rfl (hb H.2 hd) rfl hc ho hp k) g

theorem gNullY (X : Stand p l e R s m args below meth c T locs cells slots) (H : p.tables.exec = Jvm.exec ∧ c.code = bs)  {o : Int} (hd : decode bs pc = .ok (.ifnull o, 3)) (ho : 0 ≤ (pc : Int) + o) (pc' : Nat) (hp : ((pc : Int) + o).toNat = pc') (g : Go p e below K (T.setTop (mkF m pc' Ls (st)))) : Go p e below K (T.setTop (mkF m pc Ls (.null :: st))) :=
  Go.via (fun t k => XS.ifnullYes (g := mkF m pc Ls (.null :: st)) X.here H.1 rfl rfl (hb H.2 hd) rfl ho hp k) g

theorem gIfN (X : Stand p l e R s m args below meth c T locs cells slots) (H : p.tables.exec = Jvm.exec ∧ c.code = bs) {o : Int} {cd : ClassFile.Cond} {x : Int32} (hd : decode bs pc = .ok (.ifCond cd o, 3)) (hc : ifCond.holds cd x = false) (pc' : Nat) (hp : pc + 3 = pc') (g : Go p e below K (T.setTop (mkF m pc' Ls (st)))) : Go p e below K (T.setTop (mkF m pc Ls (.int x :: st))) := by
  subst hp
  exact Go.via (fun t k => XS.ifNo (g := mkF m pc Ls (.int x :: st)) X.here H.1 rfl (hb H.2 hd) rfl hc k) g

theorem gCmpN (X : Stand p l e R s m args below meth c T locs cells slots) (H : p.tables.exec = Jvm.exec ∧ c.code = bs) {o : Int} {cd : ClassFile.Cond} {x y : Int32} (hd : decode bs pc = .ok (.if_icmp cd o, 3)) (hc : if_icmp.holds cd x y = false) (pc' : Nat) (hp : pc + 3 = pc') (g : Go p e below K (T.setTop (mkF m pc' Ls (st)))) : Go p e below K (T.setTop (mkF m pc Ls (.int y :: .int x :: st))) := by
  subst hp
  exact Go.via (fun t k => XS.icmpNo (g := mkF m pc Ls (.int y :: .int x :: st)) X.here H.1 rfl (hb H.2 hd) rfl hc k) g

theorem gNullN (X : Stand p l e R s m args below meth c T locs cells slots) (H : p.tables.exec = Jvm.exec ∧ c.code = bs) {o : Int} {b : Addr} (hd : decode bs pc = .ok (.ifnull o, 3)) (pc' : Nat) (hp : pc + 3 = pc') (g : Go p e below K (T.setTop (mkF m pc' Ls (st)))) : Go p e below K (T.setTop (mkF m pc Ls (.ref b :: st))) := by
  subst hp
  exact Go.via (fun t k => XS.ifnullNo (g := mkF m pc Ls (.ref b :: st)) X.here H.1 rfl (hb H.2 hd) rfl k) g

theorem gAcmp (X : Stand p l e R s m args below meth c T locs cells slots) (H : p.tables.exec = Jvm.exec ∧ c.code = bs) {cd : ACond} {x y : Value} {o : Int} {same : Bool} (hd : decode bs pc = .ok (.if_acmp cd o, 3)) (h1 : x.isRef = true) (h2 : y.isRef = true) (hq : decide (x = y) = same) (ho : 0 ≤ (pc : Int) + o) (pc' : Nat) (hp : pc' = if acV cd same = true then ((pc : Int) + o).toNat else pc + 3) (g : Go p e below K (T.setTop (mkF m pc' Ls (st)))) : Go p e below K (T.setTop (mkF m pc Ls (y :: x :: st))) :=
  Go.via (fun t k => Jvm.RoadKit.acmp (g := mkF m pc Ls (y :: x :: st)) X H.1 rfl h1 h2 rfl (hb H.2 hd) rfl hq ho hp k) g

theorem gGetS (X : Stand p l e R s m args below meth c T locs cells slots) (H : p.tables.exec = Jvm.exec ∧ c.code = bs) (hZ : Z.Warmed39 s.vm) {own : String} {index : Nat} (hown : s.vm.findClass own = some m.cls) {O n d : String} {v : Value} (w : (Cond.fieldLink own index O n d).before a0 Z = true) (eT : T.heap = h) (F : Sta Z h O n d v) (hd : decode bs pc = .ok (.getstatic index, 3)) (pc' : Nat) (hp : pc + 3 = pc') (g : ∀ T', Stand p l e R s m args below meth c T' locs cells slots → T'.heap = h → Go p e below K (T'.setTop (mkF m pc' Ls (v :: st)))) : Go p e below K (T.setTop (mkF m pc Ls (st))) := by
  subst hp
  obtain ⟨T', X', e', k⟩ := getS2 X H.1 hZ hown (host := "") (Or.inl w) Via.refl eT F (g := mkF m pc Ls st) rfl (hb H.2 hd)
  exact Go.via k (g T' X' e')

theorem gGetF (X : Stand p l e R s m args below meth c T locs cells slots) (H : p.tables.exec = Jvm.exec ∧ c.code = bs) (hZ : Z.Warmed39 s.vm) {own : String} {index : Nat} (hown : s.vm.findClass own = some m.cls) {R0 O n d : String} {a : Addr} {v : Value} (w : (Cond.fieldLink own index R0 n d).before a0 Z = true) (via : Via Z R0 O n d) (eT : T.heap = h) (F : Fld Z h a O n d v) (hd : decode bs pc = .ok (.getfield index, 3)) (pc' : Nat) (hp : pc + 3 = pc') (g : ∀ T', Stand p l e R s m args below meth c T' locs cells slots → T'.heap = h → Go p e below K (T'.setTop (mkF m pc' Ls (v :: st)))) : Go p e below K (T.setTop (mkF m pc Ls (.ref a :: st))) := by
  subst hp
  obtain ⟨T', X', e', k⟩ := getF X H.1 hZ hown (host := "") (Or.inl w) via eT F (g := mkF m pc Ls (.ref a :: st)) rfl rfl (hb H.2 hd)
  exact Go.via k (g T' X' e')

theorem gRetN (X : Stand p l e R s m args below meth c T locs cells slots) (H : p.tables.exec = Jvm.exec ∧ c.code = bs) (hlk : meth.locks = false) {Q : Option Value → Heap → List Loc → Prop} {C S : Nat} {t : FieldType} {z : Int32} (hret : meth.sig.returnType = some t) (ht : t = .boolean ∨ t = .byte ∨ t = .char ∨ t = .short) (hd : decode bs pc = .ok (.ireturn, 1)) (q : Q (some (.int (nar t z))) T.heap locs) (hC : cells ≤ C := by decide) (hS : slots ≤ S := by decide) : Go p e below (EndK s below Q C S) (T.setTop (mkF m pc Ls (.int z :: st))) := by
  obtain ⟨fs, hr, hrun, hended, hW, hsame⟩ := X.leave (v := (some (.int (nar t z)))) (fun h => by rw [hret] at h; cases h) hlk
  exact ⟨_, _, retN X H.1 hret ht (hb H.2 hd) hr, hrun, hended, _, _, rfl, q, ⟨_, rfl⟩, hW, hsame.mono hC hS⟩

theorem gVirt (X : Stand p l e R s m args below meth c T locs cells slots) (H : p.tables.exec = Jvm.exec ∧ c.code = bs) (hZ : Z.Warmed39 s.vm) {own : String} {index : Nat} (hown : s.vm.findClass own = some m.cls) {C : String} {y : MethodName} {bytes : ByteArray} {maxL : Nat} {ret : Option FieldType} {rm : Room} {as : Array Value} {Q : Option Value → Heap → List Loc → Prop} {W maxO : Nat} {argsL rest : List Value} {ps : List FieldType} {r : Option FieldType} (wl : (Cond.methodLink own index y).before a0 Z = true) (wd : (Cond.declares y).before a0 Z = true) (wse : (Cond.selects C y y).before a0 Z = true) (wi : (Cond.instanceMethod y).before a0 Z = true) (hy : y.cls ≠ "java/lang/invoke/MethodHandle" ∧ y.cls ≠ "java/lang/invoke/VarHandle") {b : Addr} (E : Exa Z h b C) (wc : (Cond.code y bytes maxL ret).before a0 Z = true) (wz : (Cond.initialized (y).cls).before a0 Z = true) (M : Con l Z y bytes maxL ret rm as h Q) (eT : T.heap = h) (hml : c.maxLocals = maxO) (hs : Ls.size = maxO) (hpd : parseMethodDescriptor y.desc = some ⟨ps, r⟩) (hlen : argsL.length = ps.length) (hstack : st = argsL.reverse ++ .ref b :: rest) (has : (.ref b :: argsL).toArray = as) (hd : decode bs pc = .ok (.invokevirtual index, 3)) (pc' : Nat) (hp : pc + 3 = pc')
    (g : ∀ v T' L, Q v T'.heap L → Stand p l e R s m args below meth c T' (locs ++ L) (cells + rm.cells) (slots + rm.slots) → Go p e below K (T'.setTop (mkF m pc' Ls (v.toList ++ rest)))) (hW : (rest.map fun v => v.category).sum ≤ W := by exact Nat.le_of_eq rfl) (hf : rm.frames + 1 ≤ R.frames := by decide) (hl : W + (maxL + 11) + rm.locals ≤ R.locals := by decide) (hc : cells + rm.cells ≤ R.cells := by decide) (hsl : slots + rm.slots ≤ R.slots := by decide) : Go p e below K (T.setTop (mkF m pc Ls (st))) := by
  subst hp has
  obtain ⟨cB, kB, q1, q2, q3⟩ := isOf hZ eT E
  obtain ⟨v, _, ⟨T', L', k', n'⟩, -, X', ⟨L, hQ, l', y', z'⟩, k⟩ := X.virtualBack H.1 (y := y) (z := y) hown (mvT hZ wl) (mvT hZ wd) (notFace_of_selects (args := #[]) (mvT hZ wse)) (mvT hZ wse) (mvT hZ wi) hy (backOf (W := W) (M []) hZ wc wz hf hl) q1 q3 (g := mkF m pc Ls st) rfl (hs.trans hml.symm) (Steps.refl _) (argsL := argsL) (rest := rest) (lenOf hpd hlen) hstack (by show 2 * 0 + _ ≤ _; omega) (hb H.2 hd) (fun _ _ => ⟨rfl, eT, hc, hsl⟩)
  dsimp only [Pt.U, Pt.locs, Pt.cells, Pt.slots] at X' l' y' z' k hQ
  subst l' y' z'
  exact Go.via (fun t q => k.trans q) (g v T' L hQ X')

end Steps
theorem eqI {args : Array Value} {s : State} {t : Term} {w : Addr} {C n d : String} {k : Int32} (ev : t.eval args s none [] s = some (.ref w)) (q : (Jvm.Cond.eq (.field t C n d) (.int k)).value args s none s [] = some true) : Fld s s.heap w C n d (.int k) := by
  refine Fld.start ?_
  rw [← fld_at (args := args) (first := s) (o := none) (idx := []) ev]
  obtain ⟨x, y, h1, h2, k1, k2⟩ := cmp_v (Or.inl q)
  obtain rfl : y = .int k := (Option.some.inj ((Term.int_eval k).symm.trans h2)).symm
  obtain ⟨z, rfl⟩ := k2
  simp [Cond.value, h1, h2] at q
  rw [h1, q]
theorem eqR {args : Array Value} {s : State} {t t' : Term} {w w' : Addr} {C n d : String} (ev : t.eval args s none [] s = some (.ref w)) (ev' : t'.eval args s none [] s = some (.ref w')) (q : (Jvm.Cond.eq (.field t C n d) t').value args s none s [] = some true) : Fld s s.heap w C n d (.ref w') := by
  refine Fld.start ?_
  rw [← fld_at (args := args) (first := s) (o := none) (idx := []) ev]
  obtain ⟨x, y, h1, h2, k1, k2⟩ := cmp_v (Or.inl q)
  obtain rfl : y = .ref w' := (Option.some.inj (ev'.symm.trans h2)).symm
  have hx : x.isRef = true := k2.2
  have := gotT (eq_R h1 h2 hx rfl) q
  rw [h1, this]
theorem eqN {args : Array Value} {s : State} {t : Term} {w : Addr} {C n d : String} (ev : t.eval args s none [] s = some (.ref w)) (q : (Jvm.Cond.eq (.field t C n d) .null).value args s none s [] = some true) : Fld s s.heap w C n d .null := by
  refine Fld.start ?_
  rw [← fld_at (args := args) (first := s) (o := none) (idx := []) ev]
  exact null_v q
theorem fldE {args : Array Value} {s : State} {t : Term} {w w' : Addr} {C n d : String} (ev : t.eval args s none [] s = some (.ref w)) (ev' : (Term.field t C n d).eval args s none [] s = some (.ref w')) : Fld s s.heap w C n d (.ref w') :=
  Fld.start ((fld_at (args := args) (first := s) (o := none) (idx := []) ev).symm.trans ev')
theorem t32_ne {a b : Int32} (h : a < b) : ¬ (a = b) := by rw [Int32.lt_iff_toInt_lt] at h; rw [← Int32.toInt_inj]; omega
theorem t32_as {a b : Int32} (h : a < b) : ¬ (b < a) := by rw [Int32.lt_iff_toInt_lt] at *; omega
theorem t32_ir {a b : Int32} (h : a = b) : ¬ (a < b) := by subst h; rw [Int32.lt_iff_toInt_lt]; omega
theorem t32_tot {a b : Int32} (h : ¬ (a < b)) (h2 : ¬ (a = b)) : b < a := by rw [Int32.lt_iff_toInt_lt] at *; rw [← Int32.toInt_inj] at h2; omega
theorem t32_eq {a b : Int32} (h : ¬ (a < b)) (h2 : ¬ (b < a)) : a = b := by rw [Int32.lt_iff_toInt_lt] at *; rw [← Int32.toInt_inj]; omega
theorem t64_ne {a b : Int64} (h : a < b) : ¬ (a = b) := by rw [Int64.lt_iff_toInt_lt] at h; rw [← Int64.toInt_inj]; omega
theorem t64_as {a b : Int64} (h : a < b) : ¬ (b < a) := by rw [Int64.lt_iff_toInt_lt] at *; omega
theorem t64_ir {a b : Int64} (h : a = b) : ¬ (a < b) := by subst h; rw [Int64.lt_iff_toInt_lt]; omega
theorem t64_tot {a b : Int64} (h : ¬ (a < b)) (h2 : ¬ (a = b)) : b < a := by rw [Int64.lt_iff_toInt_lt] at *; rw [← Int64.toInt_inj] at h2; omega
theorem t64_eq {a b : Int64} (h : ¬ (a < b)) (h2 : ¬ (b < a)) : a = b := by rw [Int64.lt_iff_toInt_lt] at *; rw [← Int64.toInt_inj]; omega

theorem wd0 : (Jvm.Cond.fieldLink "com/example/strict_absence/strictabsence/state/HandlingModeAllowsAbsentPinLaw" (7 : Nat) "com/example/strict_absence/strictabsence/state/HandlingMode" "EXPLICIT" "Lcom/example/strict_absence/strictabsence/state/HandlingMode;") ∈ tables_1 := List.mem_of_getElem? (i := 0) rfl
theorem wd1 : (Jvm.Cond.initialized "com/example/strict_absence/strictabsence/state/HandlingMode") ∈ tables_1 := List.mem_of_getElem? (i := 1) rfl
theorem wd2 : (Jvm.Cond.laysStatic "com/example/strict_absence/strictabsence/state/HandlingMode" "EXPLICIT" "Lcom/example/strict_absence/strictabsence/state/HandlingMode;") ∈ tables_1 := List.mem_of_getElem? (i := 2) rfl
theorem wd3 : (Jvm.Cond.methodLink "com/example/strict_absence/strictabsence/state/HandlingModeAllowsAbsentPinLaw" (22 : Nat) ({ cls := "com/example/strict_absence/strictabsence/state/HandlingMode", name := "allowsAbsent", desc := "(Z)Z" } : Jvm.MethodName)) ∈ tables_1 := List.mem_of_getElem? (i := 3) rfl
theorem wd4 : (Jvm.Cond.declares ({ cls := "com/example/strict_absence/strictabsence/state/HandlingMode", name := "allowsAbsent", desc := "(Z)Z" } : Jvm.MethodName)) ∈ tables_1 := List.mem_of_getElem? (i := 4) rfl
theorem wd5 : (Jvm.Cond.instanceMethod ({ cls := "com/example/strict_absence/strictabsence/state/HandlingMode", name := "allowsAbsent", desc := "(Z)Z" } : Jvm.MethodName)) ∈ tables_1 := List.mem_of_getElem? (i := 5) rfl
theorem wd6 : (Jvm.Cond.selects "com/example/strict_absence/strictabsence/state/HandlingMode" ({ cls := "com/example/strict_absence/strictabsence/state/HandlingMode", name := "allowsAbsent", desc := "(Z)Z" } : Jvm.MethodName) ({ cls := "com/example/strict_absence/strictabsence/state/HandlingMode", name := "allowsAbsent", desc := "(Z)Z" } : Jvm.MethodName)) ∈ tables_1 := List.mem_of_getElem? (i := 6) rfl
theorem wd7 : (Jvm.Cond.code ({ cls := "com/example/strict_absence/strictabsence/state/HandlingMode", name := "allowsAbsent", desc := "(Z)Z" } : Jvm.MethodName) prog_44_method_4_code (2 : Nat) (Option.some Jvm.ClassFile.FieldType.boolean)) ∈ tables_1 := List.mem_of_getElem? (i := 7) rfl
theorem wd8 : (Jvm.Cond.fieldLink "com/example/strict_absence/strictabsence/state/HandlingMode" (35 : Nat) "com/example/strict_absence/strictabsence/state/HandlingMode" "whenAbsent" "Lcom/example/strict_absence/strictabsence/state/Tristate;") ∈ tables_1 := List.mem_of_getElem? (i := 8) rfl
theorem wd10 : (Jvm.Cond.fieldLink "com/example/strict_absence/strictabsence/state/HandlingModeAllowsAbsentPinLaw" (16 : Nat) "com/example/strict_absence/strictabsence/state/HandlingMode" "KEEP_IF_ABSENT" "Lcom/example/strict_absence/strictabsence/state/HandlingMode;") ∈ tables_1 := List.mem_of_getElem? (i := 10) rfl
theorem wd11 : (Jvm.Cond.laysStatic "com/example/strict_absence/strictabsence/state/HandlingMode" "KEEP_IF_ABSENT" "Lcom/example/strict_absence/strictabsence/state/HandlingMode;") ∈ tables_1 := List.mem_of_getElem? (i := 11) rfl
theorem wd12 : (Jvm.Cond.methodLink "com/example/strict_absence/strictabsence/state/HandlingMode" (42 : Nat) ({ cls := "com/example/strict_absence/strictabsence/state/Tristate", name := "isNull", desc := "()Z" } : Jvm.MethodName)) ∈ tables_1 := List.mem_of_getElem? (i := 12) rfl
theorem wd13 : (Jvm.Cond.declares ({ cls := "com/example/strict_absence/strictabsence/state/Tristate", name := "isNull", desc := "()Z" } : Jvm.MethodName)) ∈ tables_1 := List.mem_of_getElem? (i := 13) rfl
theorem wd14 : (Jvm.Cond.instanceMethod ({ cls := "com/example/strict_absence/strictabsence/state/Tristate", name := "isNull", desc := "()Z" } : Jvm.MethodName)) ∈ tables_1 := List.mem_of_getElem? (i := 14) rfl
theorem wd15 : (Jvm.Cond.selects "com/example/strict_absence/strictabsence/state/Tristate" ({ cls := "com/example/strict_absence/strictabsence/state/Tristate", name := "isNull", desc := "()Z" } : Jvm.MethodName) ({ cls := "com/example/strict_absence/strictabsence/state/Tristate", name := "isNull", desc := "()Z" } : Jvm.MethodName)) ∈ tables_1 := List.mem_of_getElem? (i := 15) rfl
theorem wd16 : (Jvm.Cond.initialized "com/example/strict_absence/strictabsence/state/Tristate") ∈ tables_1 := List.mem_of_getElem? (i := 16) rfl
theorem wd17 : (Jvm.Cond.code ({ cls := "com/example/strict_absence/strictabsence/state/Tristate", name := "isNull", desc := "()Z" } : Jvm.MethodName) prog_48_method_8_code (1 : Nat) (Option.some Jvm.ClassFile.FieldType.boolean)) ∈ tables_1 := List.mem_of_getElem? (i := 17) rfl
theorem wd18 : (Jvm.Cond.fieldLink "com/example/strict_absence/strictabsence/state/Tristate" (7 : Nat) "com/example/strict_absence/strictabsence/state/Tristate" "state" "Lcom/example/strict_absence/strictabsence/state/Tristate$State;") ∈ tables_1 := List.mem_of_getElem? (i := 18) rfl
theorem wd20 : (Jvm.Cond.initialized "com/example/strict_absence/strictabsence/state/Tristate$State") ∈ tables_1 := List.mem_of_getElem? (i := 20) rfl
theorem wd21 : (Jvm.Cond.laysStatic "com/example/strict_absence/strictabsence/state/Tristate$State" "ABSENT" "Lcom/example/strict_absence/strictabsence/state/Tristate$State;") ∈ tables_1 := List.mem_of_getElem? (i := 21) rfl
theorem wd22 : (Jvm.Cond.fieldLink "com/example/strict_absence/strictabsence/state/Tristate" (49 : Nat) "com/example/strict_absence/strictabsence/state/Tristate$State" "NULL" "Lcom/example/strict_absence/strictabsence/state/Tristate$State;") ∈ tables_1 := List.mem_of_getElem? (i := 22) rfl
theorem wd23 : (Jvm.Cond.laysStatic "com/example/strict_absence/strictabsence/state/Tristate$State" "NULL" "Lcom/example/strict_absence/strictabsence/state/Tristate$State;") ∈ tables_1 := List.mem_of_getElem? (i := 23) rfl
theorem wd24 : (Jvm.Cond.fieldLink "com/example/strict_absence/strictabsence/state/HandlingModeAllowsAbsentPinLaw" (13 : Nat) "com/example/strict_absence/strictabsence/state/HandlingMode" "NULL_IF_ABSENT" "Lcom/example/strict_absence/strictabsence/state/HandlingMode;") ∈ tables_1 := List.mem_of_getElem? (i := 24) rfl
theorem wd25 : (Jvm.Cond.laysStatic "com/example/strict_absence/strictabsence/state/HandlingMode" "NULL_IF_ABSENT" "Lcom/example/strict_absence/strictabsence/state/HandlingMode;") ∈ tables_1 := List.mem_of_getElem? (i := 25) rfl
theorem wd26 : (Jvm.Cond.fieldLink "com/example/strict_absence/strictabsence/state/HandlingModeAllowsAbsentPinLaw" (19 : Nat) "com/example/strict_absence/strictabsence/state/HandlingMode" "VALUES_ONLY" "Lcom/example/strict_absence/strictabsence/state/HandlingMode;") ∈ tables_1 := List.mem_of_getElem? (i := 26) rfl
theorem wd27 : (Jvm.Cond.laysStatic "com/example/strict_absence/strictabsence/state/HandlingMode" "VALUES_ONLY" "Lcom/example/strict_absence/strictabsence/state/HandlingMode;") ∈ tables_1 := List.mem_of_getElem? (i := 27) rfl
theorem d1_0 : decode prog_44_method_4_code 0 = .ok (.aload_n 0, 1) := by decide +kernel
theorem d1_1 : decode prog_44_method_4_code 1 = .ok (.getfield 35, 3) := by decide +kernel
theorem d1_4 : decode prog_44_method_4_code 4 = .ok (.ifnull 21, 3) := by decide +kernel
theorem d1_7 : decode prog_44_method_4_code 7 = .ok (.iload_n 1, 1) := by decide +kernel
theorem d1_8 : decode prog_44_method_4_code 8 = .ok (.ifCond .eq 13, 3) := by decide +kernel
theorem d1_11 : decode prog_44_method_4_code 11 = .ok (.aload_n 0, 1) := by decide +kernel
theorem d1_12 : decode prog_44_method_4_code 12 = .ok (.getfield 35, 3) := by decide +kernel
theorem d1_15 : decode prog_44_method_4_code 15 = .ok (.invokevirtual 42, 3) := by decide +kernel
theorem d1_18 : decode prog_44_method_4_code 18 = .ok (.ifCond .ne 7, 3) := by decide +kernel
theorem d1_21 : decode prog_44_method_4_code 21 = .ok (.iconst 1, 1) := by decide +kernel
theorem d1_22 : decode prog_44_method_4_code 22 = .ok (.goto 4, 3) := by decide +kernel
theorem d1_25 : decode prog_44_method_4_code 25 = .ok (.iconst 0, 1) := by decide +kernel
theorem d1_26 : decode prog_44_method_4_code 26 = .ok (.ireturn, 1) := by decide +kernel
theorem d2_0 : decode prog_48_method_8_code 0 = .ok (.aload_n 0, 1) := by decide +kernel
theorem d2_1 : decode prog_48_method_8_code 1 = .ok (.getfield 7, 3) := by decide +kernel
theorem d2_4 : decode prog_48_method_8_code 4 = .ok (.getstatic 49, 3) := by decide +kernel
theorem d2_7 : decode prog_48_method_8_code 7 = .ok (.if_acmp .ne 7, 3) := by decide +kernel
theorem d2_10 : decode prog_48_method_8_code 10 = .ok (.iconst 1, 1) := by decide +kernel
theorem d2_11 : decode prog_48_method_8_code 11 = .ok (.goto 4, 3) := by decide +kernel
theorem d2_14 : decode prog_48_method_8_code 14 = .ok (.iconst 0, 1) := by decide +kernel
theorem d2_15 : decode prog_48_method_8_code 15 = .ok (.ireturn, 1) := by decide +kernel
theorem pd0 : parseMethodDescriptor "(Z)Z" = some ⟨[.boolean], some .boolean⟩ := by decide +kernel
theorem pd1 : parseMethodDescriptor "()Z" = some ⟨[], some .boolean⟩ := by decide +kernel
theorem pn0 : plainName "com/example/strict_absence/strictabsence/state/HandlingModeAllowsAbsentPinLaw" = true := by first | (simp [plainName, overriddenIn]; done) | decide +kernel
theorem pn1 : plainName "com/example/strict_absence/strictabsence/state/HandlingMode" = true := by first | (simp [plainName, overriddenIn]; done) | decide +kernel
theorem pn2 : plainName "com/example/strict_absence/strictabsence/state/Tristate" = true := by first | (simp [plainName, overriddenIn]; done) | decide +kernel
def World (Z : State) (w_HandlingMode_EXPLICIT w_HandlingMode_KEEP_IF_ABSENT w_HandlingMode_KEEP_IF_ABSENT_whenAbsent w_Tristate_State_ABSENT w_Tristate_State_NULL w_HandlingMode_NULL_IF_ABSENT w_HandlingMode_NULL_IF_ABSENT_whenAbsent w_HandlingMode_VALUES_ONLY : Addr) : Prop :=
  Sta Z Z.heap "com/example/strict_absence/strictabsence/state/HandlingMode" "EXPLICIT" "Lcom/example/strict_absence/strictabsence/state/HandlingMode;" (.ref w_HandlingMode_EXPLICIT) ∧
  Exa Z Z.heap w_HandlingMode_EXPLICIT "com/example/strict_absence/strictabsence/state/HandlingMode" ∧
  Sta Z Z.heap "com/example/strict_absence/strictabsence/state/HandlingMode" "KEEP_IF_ABSENT" "Lcom/example/strict_absence/strictabsence/state/HandlingMode;" (.ref w_HandlingMode_KEEP_IF_ABSENT) ∧
  Exa Z Z.heap w_HandlingMode_KEEP_IF_ABSENT "com/example/strict_absence/strictabsence/state/HandlingMode" ∧
  Exa Z Z.heap w_HandlingMode_KEEP_IF_ABSENT_whenAbsent "com/example/strict_absence/strictabsence/state/Tristate" ∧
  Sta Z Z.heap "com/example/strict_absence/strictabsence/state/Tristate$State" "ABSENT" "Lcom/example/strict_absence/strictabsence/state/Tristate$State;" (.ref w_Tristate_State_ABSENT) ∧
  Exa Z Z.heap w_Tristate_State_ABSENT "com/example/strict_absence/strictabsence/state/Tristate$State" ∧
  Sta Z Z.heap "com/example/strict_absence/strictabsence/state/Tristate$State" "NULL" "Lcom/example/strict_absence/strictabsence/state/Tristate$State;" (.ref w_Tristate_State_NULL) ∧
  Exa Z Z.heap w_Tristate_State_NULL "com/example/strict_absence/strictabsence/state/Tristate$State" ∧
  Sta Z Z.heap "com/example/strict_absence/strictabsence/state/HandlingMode" "NULL_IF_ABSENT" "Lcom/example/strict_absence/strictabsence/state/HandlingMode;" (.ref w_HandlingMode_NULL_IF_ABSENT) ∧
  Exa Z Z.heap w_HandlingMode_NULL_IF_ABSENT "com/example/strict_absence/strictabsence/state/HandlingMode" ∧
  Exa Z Z.heap w_HandlingMode_NULL_IF_ABSENT_whenAbsent "com/example/strict_absence/strictabsence/state/Tristate" ∧
  Sta Z Z.heap "com/example/strict_absence/strictabsence/state/HandlingMode" "VALUES_ONLY" "Lcom/example/strict_absence/strictabsence/state/HandlingMode;" (.ref w_HandlingMode_VALUES_ONLY) ∧
  Exa Z Z.heap w_HandlingMode_VALUES_ONLY "com/example/strict_absence/strictabsence/state/HandlingMode" ∧
  Fld Z Z.heap w_HandlingMode_EXPLICIT "com/example/strict_absence/strictabsence/state/HandlingMode" "whenAbsent" "Lcom/example/strict_absence/strictabsence/state/Tristate;" .null ∧
  Fld Z Z.heap w_HandlingMode_KEEP_IF_ABSENT "com/example/strict_absence/strictabsence/state/HandlingMode" "whenAbsent" "Lcom/example/strict_absence/strictabsence/state/Tristate;" (.ref w_HandlingMode_KEEP_IF_ABSENT_whenAbsent) ∧
  Fld Z Z.heap w_HandlingMode_KEEP_IF_ABSENT_whenAbsent "com/example/strict_absence/strictabsence/state/Tristate" "state" "Lcom/example/strict_absence/strictabsence/state/Tristate$State;" (.ref w_Tristate_State_ABSENT) ∧
  Fld Z Z.heap w_Tristate_State_ABSENT "java/lang/Enum" "ordinal" "I" (.int 0) ∧
  Fld Z Z.heap w_Tristate_State_NULL "java/lang/Enum" "ordinal" "I" (.int 1) ∧
  Fld Z Z.heap w_HandlingMode_NULL_IF_ABSENT "com/example/strict_absence/strictabsence/state/HandlingMode" "whenAbsent" "Lcom/example/strict_absence/strictabsence/state/Tristate;" (.ref w_HandlingMode_NULL_IF_ABSENT_whenAbsent) ∧
  Fld Z Z.heap w_HandlingMode_NULL_IF_ABSENT_whenAbsent "com/example/strict_absence/strictabsence/state/Tristate" "state" "Lcom/example/strict_absence/strictabsence/state/Tristate$State;" (.ref w_Tristate_State_NULL) ∧
  Fld Z Z.heap w_HandlingMode_VALUES_ONLY "com/example/strict_absence/strictabsence/state/HandlingMode" "whenAbsent" "Lcom/example/strict_absence/strictabsence/state/Tristate;" (.ref w_HandlingMode_KEEP_IF_ABSENT_whenAbsent)
abbrev Bg (Z : State) (a0 : Array Value) (w_HandlingMode_EXPLICIT w_HandlingMode_KEEP_IF_ABSENT w_HandlingMode_KEEP_IF_ABSENT_whenAbsent w_Tristate_State_ABSENT w_Tristate_State_NULL w_HandlingMode_NULL_IF_ABSENT w_HandlingMode_NULL_IF_ABSENT_whenAbsent w_HandlingMode_VALUES_ONLY : Addr) : Prop := (∀ d ∈ tables_1, d.before a0 Z = true) ∧ World Z w_HandlingMode_EXPLICIT w_HandlingMode_KEEP_IF_ABSENT w_HandlingMode_KEEP_IF_ABSENT_whenAbsent w_Tristate_State_ABSENT w_Tristate_State_NULL w_HandlingMode_NULL_IF_ABSENT w_HandlingMode_NULL_IF_ABSENT_whenAbsent w_HandlingMode_VALUES_ONLY
theorem m3 (k : Int32) : (k &&& (3 : Int32)) = (0 : Int32) ∨ (k &&& (3 : Int32)) = (1 : Int32) ∨ (k &&& (3 : Int32)) = (2 : Int32) ∨ (k &&& (3 : Int32)) = (3 : Int32) := by
  have h1 := c_mask k (3 : Int32) 2 (by decide) (by decide)
  simp only [← Int32.toInt_inj]
  have e0 : (0 : Int32).toInt = 0 := by decide
  have e1 : (1 : Int32).toInt = 1 := by decide
  have e2 : (2 : Int32).toInt = 2 := by decide
  have e3 : (3 : Int32).toInt = 3 := by decide
  omega
theorem m1 (k : Int32) : (k &&& (1 : Int32)) = (0 : Int32) ∨ (k &&& (1 : Int32)) = (1 : Int32) := by
  have h1 := c_mask k (1 : Int32) 1 (by decide) (by decide)
  simp only [← Int32.toInt_inj]
  have e0 : (0 : Int32).toInt = 0 := by decide
  have e1 : (1 : Int32).toInt = 1 := by decide
  omega
section Walk
variable {l : Launch} {Z : State} {a0 : Array Value} {w_HandlingMode_EXPLICIT w_HandlingMode_KEEP_IF_ABSENT w_HandlingMode_KEEP_IF_ABSENT_whenAbsent w_Tristate_State_ABSENT w_Tristate_State_NULL w_HandlingMode_NULL_IF_ABSENT w_HandlingMode_NULL_IF_ABSENT_whenAbsent w_HandlingMode_VALUES_ONLY : Addr}
theorem rm3_1 (B : Bg Z a0 w_HandlingMode_EXPLICIT w_HandlingMode_KEEP_IF_ABSENT w_HandlingMode_KEEP_IF_ABSENT_whenAbsent w_Tristate_State_ABSENT w_Tristate_State_NULL w_HandlingMode_NULL_IF_ABSENT w_HandlingMode_NULL_IF_ABSENT_whenAbsent w_HandlingMode_VALUES_ONLY) :
    Con l Z (⟨"com/example/strict_absence/strictabsence/state/HandlingMode", "allowsAbsent", "(Z)Z"⟩ : MethodName) prog_44_method_4_code 2 (some .boolean) ({ frames := 0, cells := 0, slots := 0, locals := 0 } : Room) #[(.ref w_HandlingMode_EXPLICIT), (.int 0)] Z.heap (fun v h' L => v = some (.int 0) ∧ h' = Z.heap ∧ L = []) := by
  have hw := B.1
  obtain ⟨S_w_HandlingMode_EXPLICIT, E_w_HandlingMode_EXPLICIT, S_w_HandlingMode_KEEP_IF_ABSENT, E_w_HandlingMode_KEEP_IF_ABSENT, E_w_HandlingMode_KEEP_IF_ABSENT_whenAbsent, S_w_Tristate_State_ABSENT, E_w_Tristate_State_ABSENT, S_w_Tristate_State_NULL, E_w_Tristate_State_NULL, S_w_HandlingMode_NULL_IF_ABSENT, E_w_HandlingMode_NULL_IF_ABSENT, E_w_HandlingMode_NULL_IF_ABSENT_whenAbsent, S_w_HandlingMode_VALUES_ONLY, E_w_HandlingMode_VALUES_ONLY, F_w_HandlingMode_EXPLICIT_whenAbsent, F_w_HandlingMode_KEEP_IF_ABSENT_whenAbsent, F_w_HandlingMode_KEEP_IF_ABSENT_whenAbsent_state, F_w_Tristate_State_ABSENT_ordinal, F_w_Tristate_State_NULL_ordinal, F_w_HandlingMode_NULL_IF_ABSENT_whenAbsent, F_w_HandlingMode_NULL_IF_ABSENT_whenAbsent_state, F_w_HandlingMode_VALUES_ONLY_whenAbsent⟩ := B.2
  refine Con.of (plainFor_of_name pn1) (Ls := #[vR w_HandlingMode_EXPLICIT, vI 0]) (fun m => by first | rfl | (simp [entryFrame, mkF, argsToLocals, Value.category]; done)) ?_
  intro p e s m below meth c T0 X0 H hml hZ hown hnm hret hlk e0
  refine gAloadN X0 H d1_0 rfl rfl 1 rfl ?_
  refine gGetF X0 H hZ hown (hw _ wd8) Via.refl e0 F_w_HandlingMode_EXPLICIT_whenAbsent d1_1 4 rfl ?_
  intro T2 X2 e2
  refine gNullY X2 H d1_4 (by decide) 25 rfl ?_
  refine gIconst X2 H d1_25 (z := 0) rfl 26 rfl ?_
  exact gRetN X2 H hlk hret (t := .boolean) (by simp) d1_26 ⟨rfl, e2, rfl⟩
theorem lawAll_0 (B : Bg Z a0 w_HandlingMode_EXPLICIT w_HandlingMode_KEEP_IF_ABSENT w_HandlingMode_KEEP_IF_ABSENT_whenAbsent w_Tristate_State_ABSENT w_Tristate_State_NULL w_HandlingMode_NULL_IF_ABSENT w_HandlingMode_NULL_IF_ABSENT_whenAbsent w_HandlingMode_VALUES_ONLY) (p0 : Int32) (p1 : Int32) (ha0 : (p0 &&& (3 : Int32)) = (0 : Int32)) (ha1 : (p1 &&& (1 : Int32)) = (0 : Int32)) :
    Con l Z x code maxLocals ret room_1 #[(.int p0), (.int p1)] Z.heap (fun v h' L => v = some (.int 1) ∧ Fr Z.heap.size L) := by
  have hw := B.1
  obtain ⟨S_w_HandlingMode_EXPLICIT, E_w_HandlingMode_EXPLICIT, S_w_HandlingMode_KEEP_IF_ABSENT, E_w_HandlingMode_KEEP_IF_ABSENT, E_w_HandlingMode_KEEP_IF_ABSENT_whenAbsent, S_w_Tristate_State_ABSENT, E_w_Tristate_State_ABSENT, S_w_Tristate_State_NULL, E_w_Tristate_State_NULL, S_w_HandlingMode_NULL_IF_ABSENT, E_w_HandlingMode_NULL_IF_ABSENT, E_w_HandlingMode_NULL_IF_ABSENT_whenAbsent, S_w_HandlingMode_VALUES_ONLY, E_w_HandlingMode_VALUES_ONLY, F_w_HandlingMode_EXPLICIT_whenAbsent, F_w_HandlingMode_KEEP_IF_ABSENT_whenAbsent, F_w_HandlingMode_KEEP_IF_ABSENT_whenAbsent_state, F_w_Tristate_State_ABSENT_ordinal, F_w_Tristate_State_NULL_ordinal, F_w_HandlingMode_NULL_IF_ABSENT_whenAbsent, F_w_HandlingMode_NULL_IF_ABSENT_whenAbsent_state, F_w_HandlingMode_VALUES_ONLY_whenAbsent⟩ := B.2
  refine Con.of (plainFor_of_name pn0) (Ls := #[vI p0, vI p1, .unset, .unset, .unset, .unset]) (fun m => by first | rfl | (simp [entryFrame, mkF, argsToLocals, Value.category, maxLocals]; done)) ?_
  intro p e s m below meth c T0 X0 H hml hZ hown hnm hret hlk e0
  refine gIloadN X0 H at_0 rfl 1 rfl ?_
  refine gIconst X0 H at_1 (z := 3) rfl 2 rfl ?_
  refine g_iand X0 H at_2 (z := 0) ha0 3 rfl ?_
  refine gIstoreN X0 H at_3 (Ls' := #[vI p0, vI p1, vI 0, .unset, .unset, .unset]) rfl 4 rfl ?_
  refine gIloadN X0 H at_4 rfl 5 rfl ?_
  refine gIconst X0 H at_5 (z := 1) rfl 6 rfl ?_
  refine g_iand X0 H at_6 (z := 0) ha1 7 rfl ?_
  refine gIfY X0 H at_7 (by decide) (by decide) 14 rfl ?_
  refine gIconst X0 H at_14 (z := 0) rfl 15 rfl ?_
  refine gIstoreN X0 H at_15 (Ls' := #[vI p0, vI p1, vI 0, vI 0, .unset, .unset]) rfl 16 rfl ?_
  refine gIloadN X0 H at_16 rfl 17 rfl ?_
  refine gIfN X0 H at_17 (by decide) 20 rfl ?_
  refine gGetS X0 H hZ hown (hw _ wd0) e0 S_w_HandlingMode_EXPLICIT at_20 23 rfl ?_
  intro T1 X1 e1
  refine gAstore X1 H at_23 rfl (Ls' := #[vI p0, vI p1, vI 0, vI 0, vR w_HandlingMode_EXPLICIT, .unset]) rfl 25 rfl ?_
  refine gIconst X1 H at_25 (z := 0) rfl 26 rfl ?_
  refine gIstore X1 H at_26 (Ls' := #[vI p0, vI p1, vI 0, vI 0, vR w_HandlingMode_EXPLICIT, vI 0]) rfl 28 rfl ?_
  refine gGoto X1 H at_28 (by decide) 79 rfl ?_
  refine gAload X1 H at_79 rfl rfl 81 rfl ?_
  refine gIloadN X1 H at_81 rfl 82 rfl ?_
  refine gVirt X1 H hZ hown (hw _ wd3) (hw _ wd4) (hw _ wd6) (hw _ wd5) (by decide) E_w_HandlingMode_EXPLICIT (hw _ wd7) (hw _ wd1) (rm3_1 B) e1 hml rfl pd0 rfl (W := 0) (argsL := [(.int 0)]) (rest := []) rfl rfl at_82 85 rfl ?_
  intro v4 T4 L4 hq4 X4
  obtain ⟨rfl, e4, rfl⟩ := hq4
  show Go _ _ _ _ (State.setTop _ (mkF _ 85 _ [(.int 0)]))
  refine gIload X4 H at_85 rfl 87 rfl ?_
  refine gCmpN X4 H at_87 (by decide) 90 rfl ?_
  refine gIconst X4 H at_90 (z := 1) rfl 91 rfl ?_
  refine gGoto X4 H at_91 (by decide) 95 rfl ?_
  exact gRetN X4 H hlk hret (t := .boolean) (by simp) at_95 ⟨rfl, Fr.nil _⟩
theorem rm7_1 (B : Bg Z a0 w_HandlingMode_EXPLICIT w_HandlingMode_KEEP_IF_ABSENT w_HandlingMode_KEEP_IF_ABSENT_whenAbsent w_Tristate_State_ABSENT w_Tristate_State_NULL w_HandlingMode_NULL_IF_ABSENT w_HandlingMode_NULL_IF_ABSENT_whenAbsent w_HandlingMode_VALUES_ONLY) :
    Con l Z (⟨"com/example/strict_absence/strictabsence/state/HandlingMode", "allowsAbsent", "(Z)Z"⟩ : MethodName) prog_44_method_4_code 2 (some .boolean) ({ frames := 0, cells := 0, slots := 0, locals := 0 } : Room) #[(.ref w_HandlingMode_EXPLICIT), (.int 1)] Z.heap (fun v h' L => v = some (.int 0) ∧ h' = Z.heap ∧ L = []) := by
  have hw := B.1
  obtain ⟨S_w_HandlingMode_EXPLICIT, E_w_HandlingMode_EXPLICIT, S_w_HandlingMode_KEEP_IF_ABSENT, E_w_HandlingMode_KEEP_IF_ABSENT, E_w_HandlingMode_KEEP_IF_ABSENT_whenAbsent, S_w_Tristate_State_ABSENT, E_w_Tristate_State_ABSENT, S_w_Tristate_State_NULL, E_w_Tristate_State_NULL, S_w_HandlingMode_NULL_IF_ABSENT, E_w_HandlingMode_NULL_IF_ABSENT, E_w_HandlingMode_NULL_IF_ABSENT_whenAbsent, S_w_HandlingMode_VALUES_ONLY, E_w_HandlingMode_VALUES_ONLY, F_w_HandlingMode_EXPLICIT_whenAbsent, F_w_HandlingMode_KEEP_IF_ABSENT_whenAbsent, F_w_HandlingMode_KEEP_IF_ABSENT_whenAbsent_state, F_w_Tristate_State_ABSENT_ordinal, F_w_Tristate_State_NULL_ordinal, F_w_HandlingMode_NULL_IF_ABSENT_whenAbsent, F_w_HandlingMode_NULL_IF_ABSENT_whenAbsent_state, F_w_HandlingMode_VALUES_ONLY_whenAbsent⟩ := B.2
  refine Con.of (plainFor_of_name pn1) (Ls := #[vR w_HandlingMode_EXPLICIT, vI 1]) (fun m => by first | rfl | (simp [entryFrame, mkF, argsToLocals, Value.category]; done)) ?_
  intro p e s m below meth c T0 X0 H hml hZ hown hnm hret hlk e0
  refine gAloadN X0 H d1_0 rfl rfl 1 rfl ?_
  refine gGetF X0 H hZ hown (hw _ wd8) Via.refl e0 F_w_HandlingMode_EXPLICIT_whenAbsent d1_1 4 rfl ?_
  intro T6 X6 e6
  refine gNullY X6 H d1_4 (by decide) 25 rfl ?_
  refine gIconst X6 H d1_25 (z := 0) rfl 26 rfl ?_
  exact gRetN X6 H hlk hret (t := .boolean) (by simp) d1_26 ⟨rfl, e6, rfl⟩
theorem lawAll_1 (B : Bg Z a0 w_HandlingMode_EXPLICIT w_HandlingMode_KEEP_IF_ABSENT w_HandlingMode_KEEP_IF_ABSENT_whenAbsent w_Tristate_State_ABSENT w_Tristate_State_NULL w_HandlingMode_NULL_IF_ABSENT w_HandlingMode_NULL_IF_ABSENT_whenAbsent w_HandlingMode_VALUES_ONLY) (p0 : Int32) (p1 : Int32) (ha0 : (p0 &&& (3 : Int32)) = (0 : Int32)) (ha1 : (p1 &&& (1 : Int32)) = (1 : Int32)) :
    Con l Z x code maxLocals ret room_1 #[(.int p0), (.int p1)] Z.heap (fun v h' L => v = some (.int 1) ∧ Fr Z.heap.size L) := by
  have hw := B.1
  obtain ⟨S_w_HandlingMode_EXPLICIT, E_w_HandlingMode_EXPLICIT, S_w_HandlingMode_KEEP_IF_ABSENT, E_w_HandlingMode_KEEP_IF_ABSENT, E_w_HandlingMode_KEEP_IF_ABSENT_whenAbsent, S_w_Tristate_State_ABSENT, E_w_Tristate_State_ABSENT, S_w_Tristate_State_NULL, E_w_Tristate_State_NULL, S_w_HandlingMode_NULL_IF_ABSENT, E_w_HandlingMode_NULL_IF_ABSENT, E_w_HandlingMode_NULL_IF_ABSENT_whenAbsent, S_w_HandlingMode_VALUES_ONLY, E_w_HandlingMode_VALUES_ONLY, F_w_HandlingMode_EXPLICIT_whenAbsent, F_w_HandlingMode_KEEP_IF_ABSENT_whenAbsent, F_w_HandlingMode_KEEP_IF_ABSENT_whenAbsent_state, F_w_Tristate_State_ABSENT_ordinal, F_w_Tristate_State_NULL_ordinal, F_w_HandlingMode_NULL_IF_ABSENT_whenAbsent, F_w_HandlingMode_NULL_IF_ABSENT_whenAbsent_state, F_w_HandlingMode_VALUES_ONLY_whenAbsent⟩ := B.2
  refine Con.of (plainFor_of_name pn0) (Ls := #[vI p0, vI p1, .unset, .unset, .unset, .unset]) (fun m => by first | rfl | (simp [entryFrame, mkF, argsToLocals, Value.category, maxLocals]; done)) ?_
  intro p e s m below meth c T0 X0 H hml hZ hown hnm hret hlk e0
  refine gIloadN X0 H at_0 rfl 1 rfl ?_
  refine gIconst X0 H at_1 (z := 3) rfl 2 rfl ?_
  refine g_iand X0 H at_2 (z := 0) ha0 3 rfl ?_
  refine gIstoreN X0 H at_3 (Ls' := #[vI p0, vI p1, vI 0, .unset, .unset, .unset]) rfl 4 rfl ?_
  refine gIloadN X0 H at_4 rfl 5 rfl ?_
  refine gIconst X0 H at_5 (z := 1) rfl 6 rfl ?_
  refine g_iand X0 H at_6 (z := 1) ha1 7 rfl ?_
  refine gIfN X0 H at_7 (by decide) 10 rfl ?_
  refine gIconst X0 H at_10 (z := 1) rfl 11 rfl ?_
  refine gGoto X0 H at_11 (by decide) 15 rfl ?_
  refine gIstoreN X0 H at_15 (Ls' := #[vI p0, vI p1, vI 0, vI 1, .unset, .unset]) rfl 16 rfl ?_
  refine gIloadN X0 H at_16 rfl 17 rfl ?_
  refine gIfN X0 H at_17 (by decide) 20 rfl ?_
  refine gGetS X0 H hZ hown (hw _ wd0) e0 S_w_HandlingMode_EXPLICIT at_20 23 rfl ?_
  intro T5 X5 e5
  refine gAstore X5 H at_23 rfl (Ls' := #[vI p0, vI p1, vI 0, vI 1, vR w_HandlingMode_EXPLICIT, .unset]) rfl 25 rfl ?_
  refine gIconst X5 H at_25 (z := 0) rfl 26 rfl ?_
  refine gIstore X5 H at_26 (Ls' := #[vI p0, vI p1, vI 0, vI 1, vR w_HandlingMode_EXPLICIT, vI 0]) rfl 28 rfl ?_
  refine gGoto X5 H at_28 (by decide) 79 rfl ?_
  refine gAload X5 H at_79 rfl rfl 81 rfl ?_
  refine gIloadN X5 H at_81 rfl 82 rfl ?_
  refine gVirt X5 H hZ hown (hw _ wd3) (hw _ wd4) (hw _ wd6) (hw _ wd5) (by decide) E_w_HandlingMode_EXPLICIT (hw _ wd7) (hw _ wd1) (rm7_1 B) e5 hml rfl pd0 rfl (W := 0) (argsL := [(.int 1)]) (rest := []) rfl rfl at_82 85 rfl ?_
  intro v8 T8 L8 hq8 X8
  obtain ⟨rfl, e8, rfl⟩ := hq8
  show Go _ _ _ _ (State.setTop _ (mkF _ 85 _ [(.int 0)]))
  refine gIload X8 H at_85 rfl 87 rfl ?_
  refine gCmpN X8 H at_87 (by decide) 90 rfl ?_
  refine gIconst X8 H at_90 (z := 1) rfl 91 rfl ?_
  refine gGoto X8 H at_91 (by decide) 95 rfl ?_
  exact gRetN X8 H hlk hret (t := .boolean) (by simp) at_95 ⟨rfl, Fr.nil _⟩
theorem rm11_1 (B : Bg Z a0 w_HandlingMode_EXPLICIT w_HandlingMode_KEEP_IF_ABSENT w_HandlingMode_KEEP_IF_ABSENT_whenAbsent w_Tristate_State_ABSENT w_Tristate_State_NULL w_HandlingMode_NULL_IF_ABSENT w_HandlingMode_NULL_IF_ABSENT_whenAbsent w_HandlingMode_VALUES_ONLY) :
    Con l Z (⟨"com/example/strict_absence/strictabsence/state/HandlingMode", "allowsAbsent", "(Z)Z"⟩ : MethodName) prog_44_method_4_code 2 (some .boolean) ({ frames := 0, cells := 0, slots := 0, locals := 0 } : Room) #[(.ref w_HandlingMode_NULL_IF_ABSENT), (.int 0)] Z.heap (fun v h' L => v = some (.int 1) ∧ h' = Z.heap ∧ L = []) := by
  have hw := B.1
  obtain ⟨S_w_HandlingMode_EXPLICIT, E_w_HandlingMode_EXPLICIT, S_w_HandlingMode_KEEP_IF_ABSENT, E_w_HandlingMode_KEEP_IF_ABSENT, E_w_HandlingMode_KEEP_IF_ABSENT_whenAbsent, S_w_Tristate_State_ABSENT, E_w_Tristate_State_ABSENT, S_w_Tristate_State_NULL, E_w_Tristate_State_NULL, S_w_HandlingMode_NULL_IF_ABSENT, E_w_HandlingMode_NULL_IF_ABSENT, E_w_HandlingMode_NULL_IF_ABSENT_whenAbsent, S_w_HandlingMode_VALUES_ONLY, E_w_HandlingMode_VALUES_ONLY, F_w_HandlingMode_EXPLICIT_whenAbsent, F_w_HandlingMode_KEEP_IF_ABSENT_whenAbsent, F_w_HandlingMode_KEEP_IF_ABSENT_whenAbsent_state, F_w_Tristate_State_ABSENT_ordinal, F_w_Tristate_State_NULL_ordinal, F_w_HandlingMode_NULL_IF_ABSENT_whenAbsent, F_w_HandlingMode_NULL_IF_ABSENT_whenAbsent_state, F_w_HandlingMode_VALUES_ONLY_whenAbsent⟩ := B.2
  refine Con.of (plainFor_of_name pn1) (Ls := #[vR w_HandlingMode_NULL_IF_ABSENT, vI 0]) (fun m => by first | rfl | (simp [entryFrame, mkF, argsToLocals, Value.category]; done)) ?_
  intro p e s m below meth c T0 X0 H hml hZ hown hnm hret hlk e0
  refine gAloadN X0 H d1_0 rfl rfl 1 rfl ?_
  refine gGetF X0 H hZ hown (hw _ wd8) Via.refl e0 F_w_HandlingMode_NULL_IF_ABSENT_whenAbsent d1_1 4 rfl ?_
  intro T10 X10 e10
  refine gNullN X10 H d1_4 7 rfl ?_
  refine gIloadN X10 H d1_7 rfl 8 rfl ?_
  refine gIfY X10 H d1_8 (by decide) (by decide) 21 rfl ?_
  refine gIconst X10 H d1_21 (z := 1) rfl 22 rfl ?_
  refine gGoto X10 H d1_22 (by decide) 26 rfl ?_
  exact gRetN X10 H hlk hret (t := .boolean) (by simp) d1_26 ⟨rfl, e10, rfl⟩
theorem lawAll_2 (B : Bg Z a0 w_HandlingMode_EXPLICIT w_HandlingMode_KEEP_IF_ABSENT w_HandlingMode_KEEP_IF_ABSENT_whenAbsent w_Tristate_State_ABSENT w_Tristate_State_NULL w_HandlingMode_NULL_IF_ABSENT w_HandlingMode_NULL_IF_ABSENT_whenAbsent w_HandlingMode_VALUES_ONLY) (p0 : Int32) (p1 : Int32) (ha0 : (p0 &&& (3 : Int32)) = (1 : Int32)) (ha1 : (p1 &&& (1 : Int32)) = (0 : Int32)) :
    Con l Z x code maxLocals ret room_1 #[(.int p0), (.int p1)] Z.heap (fun v h' L => v = some (.int 1) ∧ Fr Z.heap.size L) := by
  have hw := B.1
  obtain ⟨S_w_HandlingMode_EXPLICIT, E_w_HandlingMode_EXPLICIT, S_w_HandlingMode_KEEP_IF_ABSENT, E_w_HandlingMode_KEEP_IF_ABSENT, E_w_HandlingMode_KEEP_IF_ABSENT_whenAbsent, S_w_Tristate_State_ABSENT, E_w_Tristate_State_ABSENT, S_w_Tristate_State_NULL, E_w_Tristate_State_NULL, S_w_HandlingMode_NULL_IF_ABSENT, E_w_HandlingMode_NULL_IF_ABSENT, E_w_HandlingMode_NULL_IF_ABSENT_whenAbsent, S_w_HandlingMode_VALUES_ONLY, E_w_HandlingMode_VALUES_ONLY, F_w_HandlingMode_EXPLICIT_whenAbsent, F_w_HandlingMode_KEEP_IF_ABSENT_whenAbsent, F_w_HandlingMode_KEEP_IF_ABSENT_whenAbsent_state, F_w_Tristate_State_ABSENT_ordinal, F_w_Tristate_State_NULL_ordinal, F_w_HandlingMode_NULL_IF_ABSENT_whenAbsent, F_w_HandlingMode_NULL_IF_ABSENT_whenAbsent_state, F_w_HandlingMode_VALUES_ONLY_whenAbsent⟩ := B.2
  refine Con.of (plainFor_of_name pn0) (Ls := #[vI p0, vI p1, .unset, .unset, .unset, .unset]) (fun m => by first | rfl | (simp [entryFrame, mkF, argsToLocals, Value.category, maxLocals]; done)) ?_
  intro p e s m below meth c T0 X0 H hml hZ hown hnm hret hlk e0
  refine gIloadN X0 H at_0 rfl 1 rfl ?_
  refine gIconst X0 H at_1 (z := 3) rfl 2 rfl ?_
  refine g_iand X0 H at_2 (z := 1) ha0 3 rfl ?_
  refine gIstoreN X0 H at_3 (Ls' := #[vI p0, vI p1, vI 1, .unset, .unset, .unset]) rfl 4 rfl ?_
  refine gIloadN X0 H at_4 rfl 5 rfl ?_
  refine gIconst X0 H at_5 (z := 1) rfl 6 rfl ?_
  refine g_iand X0 H at_6 (z := 0) ha1 7 rfl ?_
  refine gIfY X0 H at_7 (by decide) (by decide) 14 rfl ?_
  refine gIconst X0 H at_14 (z := 0) rfl 15 rfl ?_
  refine gIstoreN X0 H at_15 (Ls' := #[vI p0, vI p1, vI 1, vI 0, .unset, .unset]) rfl 16 rfl ?_
  refine gIloadN X0 H at_16 rfl 17 rfl ?_
  refine gIfY X0 H at_17 (by decide) (by decide) 31 rfl ?_
  refine gIloadN X0 H at_31 rfl 32 rfl ?_
  refine gIconst X0 H at_32 (z := 1) rfl 33 rfl ?_
  refine gCmpN X0 H at_33 (by decide) 36 rfl ?_
  refine gGetS X0 H hZ hown (hw _ wd24) e0 S_w_HandlingMode_NULL_IF_ABSENT at_36 39 rfl ?_
  intro T9 X9 e9
  refine gAstore X9 H at_39 rfl (Ls' := #[vI p0, vI p1, vI 1, vI 0, vR w_HandlingMode_NULL_IF_ABSENT, .unset]) rfl 41 rfl ?_
  refine gIloadN X9 H at_41 rfl 42 rfl ?_
  refine gIfN X9 H at_42 (by decide) 45 rfl ?_
  refine gIconst X9 H at_45 (z := 1) rfl 46 rfl ?_
  refine gGoto X9 H at_46 (by decide) 50 rfl ?_
  refine gIstore X9 H at_50 (Ls' := #[vI p0, vI p1, vI 1, vI 0, vR w_HandlingMode_NULL_IF_ABSENT, vI 1]) rfl 52 rfl ?_
  refine gGoto X9 H at_52 (by decide) 79 rfl ?_
  refine gAload X9 H at_79 rfl rfl 81 rfl ?_
  refine gIloadN X9 H at_81 rfl 82 rfl ?_
  refine gVirt X9 H hZ hown (hw _ wd3) (hw _ wd4) (hw _ wd6) (hw _ wd5) (by decide) E_w_HandlingMode_NULL_IF_ABSENT (hw _ wd7) (hw _ wd1) (rm11_1 B) e9 hml rfl pd0 rfl (W := 0) (argsL := [(.int 0)]) (rest := []) rfl rfl at_82 85 rfl ?_
  intro v12 T12 L12 hq12 X12
  obtain ⟨rfl, e12, rfl⟩ := hq12
  show Go _ _ _ _ (State.setTop _ (mkF _ 85 _ [(.int 1)]))
  refine gIload X12 H at_85 rfl 87 rfl ?_
  refine gCmpN X12 H at_87 (by decide) 90 rfl ?_
  refine gIconst X12 H at_90 (z := 1) rfl 91 rfl ?_
  refine gGoto X12 H at_91 (by decide) 95 rfl ?_
  exact gRetN X12 H hlk hret (t := .boolean) (by simp) at_95 ⟨rfl, Fr.nil _⟩
theorem rm18_2 (B : Bg Z a0 w_HandlingMode_EXPLICIT w_HandlingMode_KEEP_IF_ABSENT w_HandlingMode_KEEP_IF_ABSENT_whenAbsent w_Tristate_State_ABSENT w_Tristate_State_NULL w_HandlingMode_NULL_IF_ABSENT w_HandlingMode_NULL_IF_ABSENT_whenAbsent w_HandlingMode_VALUES_ONLY) :
    Con l Z (⟨"com/example/strict_absence/strictabsence/state/Tristate", "isNull", "()Z"⟩ : MethodName) prog_48_method_8_code 1 (some .boolean) ({ frames := 0, cells := 0, slots := 0, locals := 0 } : Room) #[(.ref w_HandlingMode_NULL_IF_ABSENT_whenAbsent)] Z.heap (fun v h' L => v = some (.int 1) ∧ h' = Z.heap ∧ L = []) := by
  have hw := B.1
  obtain ⟨S_w_HandlingMode_EXPLICIT, E_w_HandlingMode_EXPLICIT, S_w_HandlingMode_KEEP_IF_ABSENT, E_w_HandlingMode_KEEP_IF_ABSENT, E_w_HandlingMode_KEEP_IF_ABSENT_whenAbsent, S_w_Tristate_State_ABSENT, E_w_Tristate_State_ABSENT, S_w_Tristate_State_NULL, E_w_Tristate_State_NULL, S_w_HandlingMode_NULL_IF_ABSENT, E_w_HandlingMode_NULL_IF_ABSENT, E_w_HandlingMode_NULL_IF_ABSENT_whenAbsent, S_w_HandlingMode_VALUES_ONLY, E_w_HandlingMode_VALUES_ONLY, F_w_HandlingMode_EXPLICIT_whenAbsent, F_w_HandlingMode_KEEP_IF_ABSENT_whenAbsent, F_w_HandlingMode_KEEP_IF_ABSENT_whenAbsent_state, F_w_Tristate_State_ABSENT_ordinal, F_w_Tristate_State_NULL_ordinal, F_w_HandlingMode_NULL_IF_ABSENT_whenAbsent, F_w_HandlingMode_NULL_IF_ABSENT_whenAbsent_state, F_w_HandlingMode_VALUES_ONLY_whenAbsent⟩ := B.2
  refine Con.of (plainFor_of_name pn2) (Ls := #[vR w_HandlingMode_NULL_IF_ABSENT_whenAbsent]) (fun m => by first | rfl | (simp [entryFrame, mkF, argsToLocals, Value.category]; done)) ?_
  intro p e s m below meth c T0 X0 H hml hZ hown hnm hret hlk e0
  refine gAloadN X0 H d2_0 rfl rfl 1 rfl ?_
  refine gGetF X0 H hZ hown (hw _ wd18) Via.refl e0 F_w_HandlingMode_NULL_IF_ABSENT_whenAbsent_state d2_1 4 rfl ?_
  intro T16 X16 e16
  refine gGetS X16 H hZ hown (hw _ wd22) e16 S_w_Tristate_State_NULL d2_4 7 rfl ?_
  intro T17 X17 e17
  refine gAcmp X17 H d2_7 rfl rfl (same := true) (decide_eq_true rfl) (by decide) 10 (by decide) ?_
  refine gIconst X17 H d2_10 (z := 1) rfl 11 rfl ?_
  refine gGoto X17 H d2_11 (by decide) 15 rfl ?_
  exact gRetN X17 H hlk hret (t := .boolean) (by simp) d2_15 ⟨rfl, e17, rfl⟩
theorem rm20_1 (B : Bg Z a0 w_HandlingMode_EXPLICIT w_HandlingMode_KEEP_IF_ABSENT w_HandlingMode_KEEP_IF_ABSENT_whenAbsent w_Tristate_State_ABSENT w_Tristate_State_NULL w_HandlingMode_NULL_IF_ABSENT w_HandlingMode_NULL_IF_ABSENT_whenAbsent w_HandlingMode_VALUES_ONLY) :
    Con l Z (⟨"com/example/strict_absence/strictabsence/state/HandlingMode", "allowsAbsent", "(Z)Z"⟩ : MethodName) prog_44_method_4_code 2 (some .boolean) ({ frames := 1, cells := 0, slots := 0, locals := 12 } : Room) #[(.ref w_HandlingMode_NULL_IF_ABSENT), (.int 1)] Z.heap (fun v h' L => v = some (.int 0) ∧ h' = Z.heap ∧ L = []) := by
  have hw := B.1
  obtain ⟨S_w_HandlingMode_EXPLICIT, E_w_HandlingMode_EXPLICIT, S_w_HandlingMode_KEEP_IF_ABSENT, E_w_HandlingMode_KEEP_IF_ABSENT, E_w_HandlingMode_KEEP_IF_ABSENT_whenAbsent, S_w_Tristate_State_ABSENT, E_w_Tristate_State_ABSENT, S_w_Tristate_State_NULL, E_w_Tristate_State_NULL, S_w_HandlingMode_NULL_IF_ABSENT, E_w_HandlingMode_NULL_IF_ABSENT, E_w_HandlingMode_NULL_IF_ABSENT_whenAbsent, S_w_HandlingMode_VALUES_ONLY, E_w_HandlingMode_VALUES_ONLY, F_w_HandlingMode_EXPLICIT_whenAbsent, F_w_HandlingMode_KEEP_IF_ABSENT_whenAbsent, F_w_HandlingMode_KEEP_IF_ABSENT_whenAbsent_state, F_w_Tristate_State_ABSENT_ordinal, F_w_Tristate_State_NULL_ordinal, F_w_HandlingMode_NULL_IF_ABSENT_whenAbsent, F_w_HandlingMode_NULL_IF_ABSENT_whenAbsent_state, F_w_HandlingMode_VALUES_ONLY_whenAbsent⟩ := B.2
  refine Con.of (plainFor_of_name pn1) (Ls := #[vR w_HandlingMode_NULL_IF_ABSENT, vI 1]) (fun m => by first | rfl | (simp [entryFrame, mkF, argsToLocals, Value.category]; done)) ?_
  intro p e s m below meth c T0 X0 H hml hZ hown hnm hret hlk e0
  refine gAloadN X0 H d1_0 rfl rfl 1 rfl ?_
  refine gGetF X0 H hZ hown (hw _ wd8) Via.refl e0 F_w_HandlingMode_NULL_IF_ABSENT_whenAbsent d1_1 4 rfl ?_
  intro T14 X14 e14
  refine gNullN X14 H d1_4 7 rfl ?_
  refine gIloadN X14 H d1_7 rfl 8 rfl ?_
  refine gIfN X14 H d1_8 (by decide) 11 rfl ?_
  refine gAloadN X14 H d1_11 rfl rfl 12 rfl ?_
  refine gGetF X14 H hZ hown (hw _ wd8) Via.refl e14 F_w_HandlingMode_NULL_IF_ABSENT_whenAbsent d1_12 15 rfl ?_
  intro T15 X15 e15
  refine gVirt X15 H hZ hown (hw _ wd12) (hw _ wd13) (hw _ wd15) (hw _ wd14) (by decide) E_w_HandlingMode_NULL_IF_ABSENT_whenAbsent (hw _ wd17) (hw _ wd16) (rm18_2 B) e15 hml rfl pd1 rfl (W := 0) (argsL := []) (rest := []) rfl rfl d1_15 18 rfl ?_
  intro v19 T19 L19 hq19 X19
  obtain ⟨rfl, e19, rfl⟩ := hq19
  show Go _ _ _ _ (State.setTop _ (mkF _ 18 _ [(.int 1)]))
  refine gIfY X19 H d1_18 (by decide) (by decide) 25 rfl ?_
  refine gIconst X19 H d1_25 (z := 0) rfl 26 rfl ?_
  exact gRetN X19 H hlk hret (t := .boolean) (by simp) d1_26 ⟨rfl, e19, rfl⟩
theorem lawAll_3 (B : Bg Z a0 w_HandlingMode_EXPLICIT w_HandlingMode_KEEP_IF_ABSENT w_HandlingMode_KEEP_IF_ABSENT_whenAbsent w_Tristate_State_ABSENT w_Tristate_State_NULL w_HandlingMode_NULL_IF_ABSENT w_HandlingMode_NULL_IF_ABSENT_whenAbsent w_HandlingMode_VALUES_ONLY) (p0 : Int32) (p1 : Int32) (ha0 : (p0 &&& (3 : Int32)) = (1 : Int32)) (ha1 : (p1 &&& (1 : Int32)) = (1 : Int32)) :
    Con l Z x code maxLocals ret room_1 #[(.int p0), (.int p1)] Z.heap (fun v h' L => v = some (.int 1) ∧ Fr Z.heap.size L) := by
  have hw := B.1
  obtain ⟨S_w_HandlingMode_EXPLICIT, E_w_HandlingMode_EXPLICIT, S_w_HandlingMode_KEEP_IF_ABSENT, E_w_HandlingMode_KEEP_IF_ABSENT, E_w_HandlingMode_KEEP_IF_ABSENT_whenAbsent, S_w_Tristate_State_ABSENT, E_w_Tristate_State_ABSENT, S_w_Tristate_State_NULL, E_w_Tristate_State_NULL, S_w_HandlingMode_NULL_IF_ABSENT, E_w_HandlingMode_NULL_IF_ABSENT, E_w_HandlingMode_NULL_IF_ABSENT_whenAbsent, S_w_HandlingMode_VALUES_ONLY, E_w_HandlingMode_VALUES_ONLY, F_w_HandlingMode_EXPLICIT_whenAbsent, F_w_HandlingMode_KEEP_IF_ABSENT_whenAbsent, F_w_HandlingMode_KEEP_IF_ABSENT_whenAbsent_state, F_w_Tristate_State_ABSENT_ordinal, F_w_Tristate_State_NULL_ordinal, F_w_HandlingMode_NULL_IF_ABSENT_whenAbsent, F_w_HandlingMode_NULL_IF_ABSENT_whenAbsent_state, F_w_HandlingMode_VALUES_ONLY_whenAbsent⟩ := B.2
  refine Con.of (plainFor_of_name pn0) (Ls := #[vI p0, vI p1, .unset, .unset, .unset, .unset]) (fun m => by first | rfl | (simp [entryFrame, mkF, argsToLocals, Value.category, maxLocals]; done)) ?_
  intro p e s m below meth c T0 X0 H hml hZ hown hnm hret hlk e0
  refine gIloadN X0 H at_0 rfl 1 rfl ?_
  refine gIconst X0 H at_1 (z := 3) rfl 2 rfl ?_
  refine g_iand X0 H at_2 (z := 1) ha0 3 rfl ?_
  refine gIstoreN X0 H at_3 (Ls' := #[vI p0, vI p1, vI 1, .unset, .unset, .unset]) rfl 4 rfl ?_
  refine gIloadN X0 H at_4 rfl 5 rfl ?_
  refine gIconst X0 H at_5 (z := 1) rfl 6 rfl ?_
  refine g_iand X0 H at_6 (z := 1) ha1 7 rfl ?_
  refine gIfN X0 H at_7 (by decide) 10 rfl ?_
  refine gIconst X0 H at_10 (z := 1) rfl 11 rfl ?_
  refine gGoto X0 H at_11 (by decide) 15 rfl ?_
  refine gIstoreN X0 H at_15 (Ls' := #[vI p0, vI p1, vI 1, vI 1, .unset, .unset]) rfl 16 rfl ?_
  refine gIloadN X0 H at_16 rfl 17 rfl ?_
  refine gIfY X0 H at_17 (by decide) (by decide) 31 rfl ?_
  refine gIloadN X0 H at_31 rfl 32 rfl ?_
  refine gIconst X0 H at_32 (z := 1) rfl 33 rfl ?_
  refine gCmpN X0 H at_33 (by decide) 36 rfl ?_
  refine gGetS X0 H hZ hown (hw _ wd24) e0 S_w_HandlingMode_NULL_IF_ABSENT at_36 39 rfl ?_
  intro T13 X13 e13
  refine gAstore X13 H at_39 rfl (Ls' := #[vI p0, vI p1, vI 1, vI 1, vR w_HandlingMode_NULL_IF_ABSENT, .unset]) rfl 41 rfl ?_
  refine gIloadN X13 H at_41 rfl 42 rfl ?_
  refine gIfY X13 H at_42 (by decide) (by decide) 49 rfl ?_
  refine gIconst X13 H at_49 (z := 0) rfl 50 rfl ?_
  refine gIstore X13 H at_50 (Ls' := #[vI p0, vI p1, vI 1, vI 1, vR w_HandlingMode_NULL_IF_ABSENT, vI 0]) rfl 52 rfl ?_
  refine gGoto X13 H at_52 (by decide) 79 rfl ?_
  refine gAload X13 H at_79 rfl rfl 81 rfl ?_
  refine gIloadN X13 H at_81 rfl 82 rfl ?_
  refine gVirt X13 H hZ hown (hw _ wd3) (hw _ wd4) (hw _ wd6) (hw _ wd5) (by decide) E_w_HandlingMode_NULL_IF_ABSENT (hw _ wd7) (hw _ wd1) (rm20_1 B) e13 hml rfl pd0 rfl (W := 0) (argsL := [(.int 1)]) (rest := []) rfl rfl at_82 85 rfl ?_
  intro v21 T21 L21 hq21 X21
  obtain ⟨rfl, e21, rfl⟩ := hq21
  show Go _ _ _ _ (State.setTop _ (mkF _ 85 _ [(.int 0)]))
  refine gIload X21 H at_85 rfl 87 rfl ?_
  refine gCmpN X21 H at_87 (by decide) 90 rfl ?_
  refine gIconst X21 H at_90 (z := 1) rfl 91 rfl ?_
  refine gGoto X21 H at_91 (by decide) 95 rfl ?_
  exact gRetN X21 H hlk hret (t := .boolean) (by simp) at_95 ⟨rfl, Fr.nil _⟩
theorem rm24_1 (B : Bg Z a0 w_HandlingMode_EXPLICIT w_HandlingMode_KEEP_IF_ABSENT w_HandlingMode_KEEP_IF_ABSENT_whenAbsent w_Tristate_State_ABSENT w_Tristate_State_NULL w_HandlingMode_NULL_IF_ABSENT w_HandlingMode_NULL_IF_ABSENT_whenAbsent w_HandlingMode_VALUES_ONLY) :
    Con l Z (⟨"com/example/strict_absence/strictabsence/state/HandlingMode", "allowsAbsent", "(Z)Z"⟩ : MethodName) prog_44_method_4_code 2 (some .boolean) ({ frames := 0, cells := 0, slots := 0, locals := 0 } : Room) #[(.ref w_HandlingMode_KEEP_IF_ABSENT), (.int 0)] Z.heap (fun v h' L => v = some (.int 1) ∧ h' = Z.heap ∧ L = []) := by
  have hw := B.1
  obtain ⟨S_w_HandlingMode_EXPLICIT, E_w_HandlingMode_EXPLICIT, S_w_HandlingMode_KEEP_IF_ABSENT, E_w_HandlingMode_KEEP_IF_ABSENT, E_w_HandlingMode_KEEP_IF_ABSENT_whenAbsent, S_w_Tristate_State_ABSENT, E_w_Tristate_State_ABSENT, S_w_Tristate_State_NULL, E_w_Tristate_State_NULL, S_w_HandlingMode_NULL_IF_ABSENT, E_w_HandlingMode_NULL_IF_ABSENT, E_w_HandlingMode_NULL_IF_ABSENT_whenAbsent, S_w_HandlingMode_VALUES_ONLY, E_w_HandlingMode_VALUES_ONLY, F_w_HandlingMode_EXPLICIT_whenAbsent, F_w_HandlingMode_KEEP_IF_ABSENT_whenAbsent, F_w_HandlingMode_KEEP_IF_ABSENT_whenAbsent_state, F_w_Tristate_State_ABSENT_ordinal, F_w_Tristate_State_NULL_ordinal, F_w_HandlingMode_NULL_IF_ABSENT_whenAbsent, F_w_HandlingMode_NULL_IF_ABSENT_whenAbsent_state, F_w_HandlingMode_VALUES_ONLY_whenAbsent⟩ := B.2
  refine Con.of (plainFor_of_name pn1) (Ls := #[vR w_HandlingMode_KEEP_IF_ABSENT, vI 0]) (fun m => by first | rfl | (simp [entryFrame, mkF, argsToLocals, Value.category]; done)) ?_
  intro p e s m below meth c T0 X0 H hml hZ hown hnm hret hlk e0
  refine gAloadN X0 H d1_0 rfl rfl 1 rfl ?_
  refine gGetF X0 H hZ hown (hw _ wd8) Via.refl e0 F_w_HandlingMode_KEEP_IF_ABSENT_whenAbsent d1_1 4 rfl ?_
  intro T23 X23 e23
  refine gNullN X23 H d1_4 7 rfl ?_
  refine gIloadN X23 H d1_7 rfl 8 rfl ?_
  refine gIfY X23 H d1_8 (by decide) (by decide) 21 rfl ?_
  refine gIconst X23 H d1_21 (z := 1) rfl 22 rfl ?_
  refine gGoto X23 H d1_22 (by decide) 26 rfl ?_
  exact gRetN X23 H hlk hret (t := .boolean) (by simp) d1_26 ⟨rfl, e23, rfl⟩
theorem lawAll_4 (B : Bg Z a0 w_HandlingMode_EXPLICIT w_HandlingMode_KEEP_IF_ABSENT w_HandlingMode_KEEP_IF_ABSENT_whenAbsent w_Tristate_State_ABSENT w_Tristate_State_NULL w_HandlingMode_NULL_IF_ABSENT w_HandlingMode_NULL_IF_ABSENT_whenAbsent w_HandlingMode_VALUES_ONLY) (p0 : Int32) (p1 : Int32) (ha0 : (p0 &&& (3 : Int32)) = (2 : Int32)) (ha1 : (p1 &&& (1 : Int32)) = (0 : Int32)) :
    Con l Z x code maxLocals ret room_1 #[(.int p0), (.int p1)] Z.heap (fun v h' L => v = some (.int 1) ∧ Fr Z.heap.size L) := by
  have hw := B.1
  obtain ⟨S_w_HandlingMode_EXPLICIT, E_w_HandlingMode_EXPLICIT, S_w_HandlingMode_KEEP_IF_ABSENT, E_w_HandlingMode_KEEP_IF_ABSENT, E_w_HandlingMode_KEEP_IF_ABSENT_whenAbsent, S_w_Tristate_State_ABSENT, E_w_Tristate_State_ABSENT, S_w_Tristate_State_NULL, E_w_Tristate_State_NULL, S_w_HandlingMode_NULL_IF_ABSENT, E_w_HandlingMode_NULL_IF_ABSENT, E_w_HandlingMode_NULL_IF_ABSENT_whenAbsent, S_w_HandlingMode_VALUES_ONLY, E_w_HandlingMode_VALUES_ONLY, F_w_HandlingMode_EXPLICIT_whenAbsent, F_w_HandlingMode_KEEP_IF_ABSENT_whenAbsent, F_w_HandlingMode_KEEP_IF_ABSENT_whenAbsent_state, F_w_Tristate_State_ABSENT_ordinal, F_w_Tristate_State_NULL_ordinal, F_w_HandlingMode_NULL_IF_ABSENT_whenAbsent, F_w_HandlingMode_NULL_IF_ABSENT_whenAbsent_state, F_w_HandlingMode_VALUES_ONLY_whenAbsent⟩ := B.2
  refine Con.of (plainFor_of_name pn0) (Ls := #[vI p0, vI p1, .unset, .unset, .unset, .unset]) (fun m => by first | rfl | (simp [entryFrame, mkF, argsToLocals, Value.category, maxLocals]; done)) ?_
  intro p e s m below meth c T0 X0 H hml hZ hown hnm hret hlk e0
  refine gIloadN X0 H at_0 rfl 1 rfl ?_
  refine gIconst X0 H at_1 (z := 3) rfl 2 rfl ?_
  refine g_iand X0 H at_2 (z := 2) ha0 3 rfl ?_
  refine gIstoreN X0 H at_3 (Ls' := #[vI p0, vI p1, vI 2, .unset, .unset, .unset]) rfl 4 rfl ?_
  refine gIloadN X0 H at_4 rfl 5 rfl ?_
  refine gIconst X0 H at_5 (z := 1) rfl 6 rfl ?_
  refine g_iand X0 H at_6 (z := 0) ha1 7 rfl ?_
  refine gIfY X0 H at_7 (by decide) (by decide) 14 rfl ?_
  refine gIconst X0 H at_14 (z := 0) rfl 15 rfl ?_
  refine gIstoreN X0 H at_15 (Ls' := #[vI p0, vI p1, vI 2, vI 0, .unset, .unset]) rfl 16 rfl ?_
  refine gIloadN X0 H at_16 rfl 17 rfl ?_
  refine gIfY X0 H at_17 (by decide) (by decide) 31 rfl ?_
  refine gIloadN X0 H at_31 rfl 32 rfl ?_
  refine gIconst X0 H at_32 (z := 1) rfl 33 rfl ?_
  refine gCmpY X0 H at_33 (by decide) (by decide) 55 rfl ?_
  refine gIloadN X0 H at_55 rfl 56 rfl ?_
  refine gIconst X0 H at_56 (z := 2) rfl 57 rfl ?_
  refine gCmpN X0 H at_57 (by decide) 60 rfl ?_
  refine gGetS X0 H hZ hown (hw _ wd10) e0 S_w_HandlingMode_KEEP_IF_ABSENT at_60 63 rfl ?_
  intro T22 X22 e22
  refine gAstore X22 H at_63 rfl (Ls' := #[vI p0, vI p1, vI 2, vI 0, vR w_HandlingMode_KEEP_IF_ABSENT, .unset]) rfl 65 rfl ?_
  refine gIconst X22 H at_65 (z := 1) rfl 66 rfl ?_
  refine gIstore X22 H at_66 (Ls' := #[vI p0, vI p1, vI 2, vI 0, vR w_HandlingMode_KEEP_IF_ABSENT, vI 1]) rfl 68 rfl ?_
  refine gGoto X22 H at_68 (by decide) 79 rfl ?_
  refine gAload X22 H at_79 rfl rfl 81 rfl ?_
  refine gIloadN X22 H at_81 rfl 82 rfl ?_
  refine gVirt X22 H hZ hown (hw _ wd3) (hw _ wd4) (hw _ wd6) (hw _ wd5) (by decide) E_w_HandlingMode_KEEP_IF_ABSENT (hw _ wd7) (hw _ wd1) (rm24_1 B) e22 hml rfl pd0 rfl (W := 0) (argsL := [(.int 0)]) (rest := []) rfl rfl at_82 85 rfl ?_
  intro v25 T25 L25 hq25 X25
  obtain ⟨rfl, e25, rfl⟩ := hq25
  show Go _ _ _ _ (State.setTop _ (mkF _ 85 _ [(.int 1)]))
  refine gIload X25 H at_85 rfl 87 rfl ?_
  refine gCmpN X25 H at_87 (by decide) 90 rfl ?_
  refine gIconst X25 H at_90 (z := 1) rfl 91 rfl ?_
  refine gGoto X25 H at_91 (by decide) 95 rfl ?_
  exact gRetN X25 H hlk hret (t := .boolean) (by simp) at_95 ⟨rfl, Fr.nil _⟩
theorem rm31_2 (B : Bg Z a0 w_HandlingMode_EXPLICIT w_HandlingMode_KEEP_IF_ABSENT w_HandlingMode_KEEP_IF_ABSENT_whenAbsent w_Tristate_State_ABSENT w_Tristate_State_NULL w_HandlingMode_NULL_IF_ABSENT w_HandlingMode_NULL_IF_ABSENT_whenAbsent w_HandlingMode_VALUES_ONLY) :
    Con l Z (⟨"com/example/strict_absence/strictabsence/state/Tristate", "isNull", "()Z"⟩ : MethodName) prog_48_method_8_code 1 (some .boolean) ({ frames := 0, cells := 0, slots := 0, locals := 0 } : Room) #[(.ref w_HandlingMode_KEEP_IF_ABSENT_whenAbsent)] Z.heap (fun v h' L => v = some (.int 0) ∧ h' = Z.heap ∧ L = []) := by
  have hw := B.1
  obtain ⟨S_w_HandlingMode_EXPLICIT, E_w_HandlingMode_EXPLICIT, S_w_HandlingMode_KEEP_IF_ABSENT, E_w_HandlingMode_KEEP_IF_ABSENT, E_w_HandlingMode_KEEP_IF_ABSENT_whenAbsent, S_w_Tristate_State_ABSENT, E_w_Tristate_State_ABSENT, S_w_Tristate_State_NULL, E_w_Tristate_State_NULL, S_w_HandlingMode_NULL_IF_ABSENT, E_w_HandlingMode_NULL_IF_ABSENT, E_w_HandlingMode_NULL_IF_ABSENT_whenAbsent, S_w_HandlingMode_VALUES_ONLY, E_w_HandlingMode_VALUES_ONLY, F_w_HandlingMode_EXPLICIT_whenAbsent, F_w_HandlingMode_KEEP_IF_ABSENT_whenAbsent, F_w_HandlingMode_KEEP_IF_ABSENT_whenAbsent_state, F_w_Tristate_State_ABSENT_ordinal, F_w_Tristate_State_NULL_ordinal, F_w_HandlingMode_NULL_IF_ABSENT_whenAbsent, F_w_HandlingMode_NULL_IF_ABSENT_whenAbsent_state, F_w_HandlingMode_VALUES_ONLY_whenAbsent⟩ := B.2
  refine Con.of (plainFor_of_name pn2) (Ls := #[vR w_HandlingMode_KEEP_IF_ABSENT_whenAbsent]) (fun m => by first | rfl | (simp [entryFrame, mkF, argsToLocals, Value.category]; done)) ?_
  intro p e s m below meth c T0 X0 H hml hZ hown hnm hret hlk e0
  refine gAloadN X0 H d2_0 rfl rfl 1 rfl ?_
  refine gGetF X0 H hZ hown (hw _ wd18) Via.refl e0 F_w_HandlingMode_KEEP_IF_ABSENT_whenAbsent_state d2_1 4 rfl ?_
  intro T29 X29 e29
  refine gGetS X29 H hZ hown (hw _ wd22) e29 S_w_Tristate_State_NULL d2_4 7 rfl ?_
  intro T30 X30 e30
  refine gAcmp X30 H d2_7 rfl rfl (same := false) (decide_eq_false fun q => (Fld.ne F_w_Tristate_State_ABSENT_ordinal F_w_Tristate_State_NULL_ordinal (by decide)) (Value.ref.inj q)) (by decide) 14 (by decide) ?_
  refine gIconst X30 H d2_14 (z := 0) rfl 15 rfl ?_
  exact gRetN X30 H hlk hret (t := .boolean) (by simp) d2_15 ⟨rfl, e30, rfl⟩
theorem rm33_1 (B : Bg Z a0 w_HandlingMode_EXPLICIT w_HandlingMode_KEEP_IF_ABSENT w_HandlingMode_KEEP_IF_ABSENT_whenAbsent w_Tristate_State_ABSENT w_Tristate_State_NULL w_HandlingMode_NULL_IF_ABSENT w_HandlingMode_NULL_IF_ABSENT_whenAbsent w_HandlingMode_VALUES_ONLY) :
    Con l Z (⟨"com/example/strict_absence/strictabsence/state/HandlingMode", "allowsAbsent", "(Z)Z"⟩ : MethodName) prog_44_method_4_code 2 (some .boolean) ({ frames := 1, cells := 0, slots := 0, locals := 12 } : Room) #[(.ref w_HandlingMode_KEEP_IF_ABSENT), (.int 1)] Z.heap (fun v h' L => v = some (.int 1) ∧ h' = Z.heap ∧ L = []) := by
  have hw := B.1
  obtain ⟨S_w_HandlingMode_EXPLICIT, E_w_HandlingMode_EXPLICIT, S_w_HandlingMode_KEEP_IF_ABSENT, E_w_HandlingMode_KEEP_IF_ABSENT, E_w_HandlingMode_KEEP_IF_ABSENT_whenAbsent, S_w_Tristate_State_ABSENT, E_w_Tristate_State_ABSENT, S_w_Tristate_State_NULL, E_w_Tristate_State_NULL, S_w_HandlingMode_NULL_IF_ABSENT, E_w_HandlingMode_NULL_IF_ABSENT, E_w_HandlingMode_NULL_IF_ABSENT_whenAbsent, S_w_HandlingMode_VALUES_ONLY, E_w_HandlingMode_VALUES_ONLY, F_w_HandlingMode_EXPLICIT_whenAbsent, F_w_HandlingMode_KEEP_IF_ABSENT_whenAbsent, F_w_HandlingMode_KEEP_IF_ABSENT_whenAbsent_state, F_w_Tristate_State_ABSENT_ordinal, F_w_Tristate_State_NULL_ordinal, F_w_HandlingMode_NULL_IF_ABSENT_whenAbsent, F_w_HandlingMode_NULL_IF_ABSENT_whenAbsent_state, F_w_HandlingMode_VALUES_ONLY_whenAbsent⟩ := B.2
  refine Con.of (plainFor_of_name pn1) (Ls := #[vR w_HandlingMode_KEEP_IF_ABSENT, vI 1]) (fun m => by first | rfl | (simp [entryFrame, mkF, argsToLocals, Value.category]; done)) ?_
  intro p e s m below meth c T0 X0 H hml hZ hown hnm hret hlk e0
  refine gAloadN X0 H d1_0 rfl rfl 1 rfl ?_
  refine gGetF X0 H hZ hown (hw _ wd8) Via.refl e0 F_w_HandlingMode_KEEP_IF_ABSENT_whenAbsent d1_1 4 rfl ?_
  intro T27 X27 e27
  refine gNullN X27 H d1_4 7 rfl ?_
  refine gIloadN X27 H d1_7 rfl 8 rfl ?_
  refine gIfN X27 H d1_8 (by decide) 11 rfl ?_
  refine gAloadN X27 H d1_11 rfl rfl 12 rfl ?_
  refine gGetF X27 H hZ hown (hw _ wd8) Via.refl e27 F_w_HandlingMode_KEEP_IF_ABSENT_whenAbsent d1_12 15 rfl ?_
  intro T28 X28 e28
  refine gVirt X28 H hZ hown (hw _ wd12) (hw _ wd13) (hw _ wd15) (hw _ wd14) (by decide) E_w_HandlingMode_KEEP_IF_ABSENT_whenAbsent (hw _ wd17) (hw _ wd16) (rm31_2 B) e28 hml rfl pd1 rfl (W := 0) (argsL := []) (rest := []) rfl rfl d1_15 18 rfl ?_
  intro v32 T32 L32 hq32 X32
  obtain ⟨rfl, e32, rfl⟩ := hq32
  show Go _ _ _ _ (State.setTop _ (mkF _ 18 _ [(.int 0)]))
  refine gIfN X32 H d1_18 (by decide) 21 rfl ?_
  refine gIconst X32 H d1_21 (z := 1) rfl 22 rfl ?_
  refine gGoto X32 H d1_22 (by decide) 26 rfl ?_
  exact gRetN X32 H hlk hret (t := .boolean) (by simp) d1_26 ⟨rfl, e32, rfl⟩
theorem lawAll_5 (B : Bg Z a0 w_HandlingMode_EXPLICIT w_HandlingMode_KEEP_IF_ABSENT w_HandlingMode_KEEP_IF_ABSENT_whenAbsent w_Tristate_State_ABSENT w_Tristate_State_NULL w_HandlingMode_NULL_IF_ABSENT w_HandlingMode_NULL_IF_ABSENT_whenAbsent w_HandlingMode_VALUES_ONLY) (p0 : Int32) (p1 : Int32) (ha0 : (p0 &&& (3 : Int32)) = (2 : Int32)) (ha1 : (p1 &&& (1 : Int32)) = (1 : Int32)) :
    Con l Z x code maxLocals ret room_1 #[(.int p0), (.int p1)] Z.heap (fun v h' L => v = some (.int 1) ∧ Fr Z.heap.size L) := by
  have hw := B.1
  obtain ⟨S_w_HandlingMode_EXPLICIT, E_w_HandlingMode_EXPLICIT, S_w_HandlingMode_KEEP_IF_ABSENT, E_w_HandlingMode_KEEP_IF_ABSENT, E_w_HandlingMode_KEEP_IF_ABSENT_whenAbsent, S_w_Tristate_State_ABSENT, E_w_Tristate_State_ABSENT, S_w_Tristate_State_NULL, E_w_Tristate_State_NULL, S_w_HandlingMode_NULL_IF_ABSENT, E_w_HandlingMode_NULL_IF_ABSENT, E_w_HandlingMode_NULL_IF_ABSENT_whenAbsent, S_w_HandlingMode_VALUES_ONLY, E_w_HandlingMode_VALUES_ONLY, F_w_HandlingMode_EXPLICIT_whenAbsent, F_w_HandlingMode_KEEP_IF_ABSENT_whenAbsent, F_w_HandlingMode_KEEP_IF_ABSENT_whenAbsent_state, F_w_Tristate_State_ABSENT_ordinal, F_w_Tristate_State_NULL_ordinal, F_w_HandlingMode_NULL_IF_ABSENT_whenAbsent, F_w_HandlingMode_NULL_IF_ABSENT_whenAbsent_state, F_w_HandlingMode_VALUES_ONLY_whenAbsent⟩ := B.2
  refine Con.of (plainFor_of_name pn0) (Ls := #[vI p0, vI p1, .unset, .unset, .unset, .unset]) (fun m => by first | rfl | (simp [entryFrame, mkF, argsToLocals, Value.category, maxLocals]; done)) ?_
  intro p e s m below meth c T0 X0 H hml hZ hown hnm hret hlk e0
  refine gIloadN X0 H at_0 rfl 1 rfl ?_
  refine gIconst X0 H at_1 (z := 3) rfl 2 rfl ?_
  refine g_iand X0 H at_2 (z := 2) ha0 3 rfl ?_
  refine gIstoreN X0 H at_3 (Ls' := #[vI p0, vI p1, vI 2, .unset, .unset, .unset]) rfl 4 rfl ?_
  refine gIloadN X0 H at_4 rfl 5 rfl ?_
  refine gIconst X0 H at_5 (z := 1) rfl 6 rfl ?_
  refine g_iand X0 H at_6 (z := 1) ha1 7 rfl ?_
  refine gIfN X0 H at_7 (by decide) 10 rfl ?_
  refine gIconst X0 H at_10 (z := 1) rfl 11 rfl ?_
  refine gGoto X0 H at_11 (by decide) 15 rfl ?_
  refine gIstoreN X0 H at_15 (Ls' := #[vI p0, vI p1, vI 2, vI 1, .unset, .unset]) rfl 16 rfl ?_
  refine gIloadN X0 H at_16 rfl 17 rfl ?_
  refine gIfY X0 H at_17 (by decide) (by decide) 31 rfl ?_
  refine gIloadN X0 H at_31 rfl 32 rfl ?_
  refine gIconst X0 H at_32 (z := 1) rfl 33 rfl ?_
  refine gCmpY X0 H at_33 (by decide) (by decide) 55 rfl ?_
  refine gIloadN X0 H at_55 rfl 56 rfl ?_
  refine gIconst X0 H at_56 (z := 2) rfl 57 rfl ?_
  refine gCmpN X0 H at_57 (by decide) 60 rfl ?_
  refine gGetS X0 H hZ hown (hw _ wd10) e0 S_w_HandlingMode_KEEP_IF_ABSENT at_60 63 rfl ?_
  intro T26 X26 e26
  refine gAstore X26 H at_63 rfl (Ls' := #[vI p0, vI p1, vI 2, vI 1, vR w_HandlingMode_KEEP_IF_ABSENT, .unset]) rfl 65 rfl ?_
  refine gIconst X26 H at_65 (z := 1) rfl 66 rfl ?_
  refine gIstore X26 H at_66 (Ls' := #[vI p0, vI p1, vI 2, vI 1, vR w_HandlingMode_KEEP_IF_ABSENT, vI 1]) rfl 68 rfl ?_
  refine gGoto X26 H at_68 (by decide) 79 rfl ?_
  refine gAload X26 H at_79 rfl rfl 81 rfl ?_
  refine gIloadN X26 H at_81 rfl 82 rfl ?_
  refine gVirt X26 H hZ hown (hw _ wd3) (hw _ wd4) (hw _ wd6) (hw _ wd5) (by decide) E_w_HandlingMode_KEEP_IF_ABSENT (hw _ wd7) (hw _ wd1) (rm33_1 B) e26 hml rfl pd0 rfl (W := 0) (argsL := [(.int 1)]) (rest := []) rfl rfl at_82 85 rfl ?_
  intro v34 T34 L34 hq34 X34
  obtain ⟨rfl, e34, rfl⟩ := hq34
  show Go _ _ _ _ (State.setTop _ (mkF _ 85 _ [(.int 1)]))
  refine gIload X34 H at_85 rfl 87 rfl ?_
  refine gCmpN X34 H at_87 (by decide) 90 rfl ?_
  refine gIconst X34 H at_90 (z := 1) rfl 91 rfl ?_
  refine gGoto X34 H at_91 (by decide) 95 rfl ?_
  exact gRetN X34 H hlk hret (t := .boolean) (by simp) at_95 ⟨rfl, Fr.nil _⟩
theorem rm37_1 (B : Bg Z a0 w_HandlingMode_EXPLICIT w_HandlingMode_KEEP_IF_ABSENT w_HandlingMode_KEEP_IF_ABSENT_whenAbsent w_Tristate_State_ABSENT w_Tristate_State_NULL w_HandlingMode_NULL_IF_ABSENT w_HandlingMode_NULL_IF_ABSENT_whenAbsent w_HandlingMode_VALUES_ONLY) :
    Con l Z (⟨"com/example/strict_absence/strictabsence/state/HandlingMode", "allowsAbsent", "(Z)Z"⟩ : MethodName) prog_44_method_4_code 2 (some .boolean) ({ frames := 0, cells := 0, slots := 0, locals := 0 } : Room) #[(.ref w_HandlingMode_VALUES_ONLY), (.int 0)] Z.heap (fun v h' L => v = some (.int 1) ∧ h' = Z.heap ∧ L = []) := by
  have hw := B.1
  obtain ⟨S_w_HandlingMode_EXPLICIT, E_w_HandlingMode_EXPLICIT, S_w_HandlingMode_KEEP_IF_ABSENT, E_w_HandlingMode_KEEP_IF_ABSENT, E_w_HandlingMode_KEEP_IF_ABSENT_whenAbsent, S_w_Tristate_State_ABSENT, E_w_Tristate_State_ABSENT, S_w_Tristate_State_NULL, E_w_Tristate_State_NULL, S_w_HandlingMode_NULL_IF_ABSENT, E_w_HandlingMode_NULL_IF_ABSENT, E_w_HandlingMode_NULL_IF_ABSENT_whenAbsent, S_w_HandlingMode_VALUES_ONLY, E_w_HandlingMode_VALUES_ONLY, F_w_HandlingMode_EXPLICIT_whenAbsent, F_w_HandlingMode_KEEP_IF_ABSENT_whenAbsent, F_w_HandlingMode_KEEP_IF_ABSENT_whenAbsent_state, F_w_Tristate_State_ABSENT_ordinal, F_w_Tristate_State_NULL_ordinal, F_w_HandlingMode_NULL_IF_ABSENT_whenAbsent, F_w_HandlingMode_NULL_IF_ABSENT_whenAbsent_state, F_w_HandlingMode_VALUES_ONLY_whenAbsent⟩ := B.2
  refine Con.of (plainFor_of_name pn1) (Ls := #[vR w_HandlingMode_VALUES_ONLY, vI 0]) (fun m => by first | rfl | (simp [entryFrame, mkF, argsToLocals, Value.category]; done)) ?_
  intro p e s m below meth c T0 X0 H hml hZ hown hnm hret hlk e0
  refine gAloadN X0 H d1_0 rfl rfl 1 rfl ?_
  refine gGetF X0 H hZ hown (hw _ wd8) Via.refl e0 F_w_HandlingMode_VALUES_ONLY_whenAbsent d1_1 4 rfl ?_
  intro T36 X36 e36
  refine gNullN X36 H d1_4 7 rfl ?_
  refine gIloadN X36 H d1_7 rfl 8 rfl ?_
  refine gIfY X36 H d1_8 (by decide) (by decide) 21 rfl ?_
  refine gIconst X36 H d1_21 (z := 1) rfl 22 rfl ?_
  refine gGoto X36 H d1_22 (by decide) 26 rfl ?_
  exact gRetN X36 H hlk hret (t := .boolean) (by simp) d1_26 ⟨rfl, e36, rfl⟩
theorem lawAll_6 (B : Bg Z a0 w_HandlingMode_EXPLICIT w_HandlingMode_KEEP_IF_ABSENT w_HandlingMode_KEEP_IF_ABSENT_whenAbsent w_Tristate_State_ABSENT w_Tristate_State_NULL w_HandlingMode_NULL_IF_ABSENT w_HandlingMode_NULL_IF_ABSENT_whenAbsent w_HandlingMode_VALUES_ONLY) (p0 : Int32) (p1 : Int32) (ha0 : (p0 &&& (3 : Int32)) = (3 : Int32)) (ha1 : (p1 &&& (1 : Int32)) = (0 : Int32)) :
    Con l Z x code maxLocals ret room_1 #[(.int p0), (.int p1)] Z.heap (fun v h' L => v = some (.int 1) ∧ Fr Z.heap.size L) := by
  have hw := B.1
  obtain ⟨S_w_HandlingMode_EXPLICIT, E_w_HandlingMode_EXPLICIT, S_w_HandlingMode_KEEP_IF_ABSENT, E_w_HandlingMode_KEEP_IF_ABSENT, E_w_HandlingMode_KEEP_IF_ABSENT_whenAbsent, S_w_Tristate_State_ABSENT, E_w_Tristate_State_ABSENT, S_w_Tristate_State_NULL, E_w_Tristate_State_NULL, S_w_HandlingMode_NULL_IF_ABSENT, E_w_HandlingMode_NULL_IF_ABSENT, E_w_HandlingMode_NULL_IF_ABSENT_whenAbsent, S_w_HandlingMode_VALUES_ONLY, E_w_HandlingMode_VALUES_ONLY, F_w_HandlingMode_EXPLICIT_whenAbsent, F_w_HandlingMode_KEEP_IF_ABSENT_whenAbsent, F_w_HandlingMode_KEEP_IF_ABSENT_whenAbsent_state, F_w_Tristate_State_ABSENT_ordinal, F_w_Tristate_State_NULL_ordinal, F_w_HandlingMode_NULL_IF_ABSENT_whenAbsent, F_w_HandlingMode_NULL_IF_ABSENT_whenAbsent_state, F_w_HandlingMode_VALUES_ONLY_whenAbsent⟩ := B.2
  refine Con.of (plainFor_of_name pn0) (Ls := #[vI p0, vI p1, .unset, .unset, .unset, .unset]) (fun m => by first | rfl | (simp [entryFrame, mkF, argsToLocals, Value.category, maxLocals]; done)) ?_
  intro p e s m below meth c T0 X0 H hml hZ hown hnm hret hlk e0
  refine gIloadN X0 H at_0 rfl 1 rfl ?_
  refine gIconst X0 H at_1 (z := 3) rfl 2 rfl ?_
  refine g_iand X0 H at_2 (z := 3) ha0 3 rfl ?_
  refine gIstoreN X0 H at_3 (Ls' := #[vI p0, vI p1, vI 3, .unset, .unset, .unset]) rfl 4 rfl ?_
  refine gIloadN X0 H at_4 rfl 5 rfl ?_
  refine gIconst X0 H at_5 (z := 1) rfl 6 rfl ?_
  refine g_iand X0 H at_6 (z := 0) ha1 7 rfl ?_
  refine gIfY X0 H at_7 (by decide) (by decide) 14 rfl ?_
  refine gIconst X0 H at_14 (z := 0) rfl 15 rfl ?_
  refine gIstoreN X0 H at_15 (Ls' := #[vI p0, vI p1, vI 3, vI 0, .unset, .unset]) rfl 16 rfl ?_
  refine gIloadN X0 H at_16 rfl 17 rfl ?_
  refine gIfY X0 H at_17 (by decide) (by decide) 31 rfl ?_
  refine gIloadN X0 H at_31 rfl 32 rfl ?_
  refine gIconst X0 H at_32 (z := 1) rfl 33 rfl ?_
  refine gCmpY X0 H at_33 (by decide) (by decide) 55 rfl ?_
  refine gIloadN X0 H at_55 rfl 56 rfl ?_
  refine gIconst X0 H at_56 (z := 2) rfl 57 rfl ?_
  refine gCmpY X0 H at_57 (by decide) (by decide) 71 rfl ?_
  refine gGetS X0 H hZ hown (hw _ wd26) e0 S_w_HandlingMode_VALUES_ONLY at_71 74 rfl ?_
  intro T35 X35 e35
  refine gAstore X35 H at_74 rfl (Ls' := #[vI p0, vI p1, vI 3, vI 0, vR w_HandlingMode_VALUES_ONLY, .unset]) rfl 76 rfl ?_
  refine gIconst X35 H at_76 (z := 1) rfl 77 rfl ?_
  refine gIstore X35 H at_77 (Ls' := #[vI p0, vI p1, vI 3, vI 0, vR w_HandlingMode_VALUES_ONLY, vI 1]) rfl 79 rfl ?_
  refine gAload X35 H at_79 rfl rfl 81 rfl ?_
  refine gIloadN X35 H at_81 rfl 82 rfl ?_
  refine gVirt X35 H hZ hown (hw _ wd3) (hw _ wd4) (hw _ wd6) (hw _ wd5) (by decide) E_w_HandlingMode_VALUES_ONLY (hw _ wd7) (hw _ wd1) (rm37_1 B) e35 hml rfl pd0 rfl (W := 0) (argsL := [(.int 0)]) (rest := []) rfl rfl at_82 85 rfl ?_
  intro v38 T38 L38 hq38 X38
  obtain ⟨rfl, e38, rfl⟩ := hq38
  show Go _ _ _ _ (State.setTop _ (mkF _ 85 _ [(.int 1)]))
  refine gIload X38 H at_85 rfl 87 rfl ?_
  refine gCmpN X38 H at_87 (by decide) 90 rfl ?_
  refine gIconst X38 H at_90 (z := 1) rfl 91 rfl ?_
  refine gGoto X38 H at_91 (by decide) 95 rfl ?_
  exact gRetN X38 H hlk hret (t := .boolean) (by simp) at_95 ⟨rfl, Fr.nil _⟩
theorem rm43_1 (B : Bg Z a0 w_HandlingMode_EXPLICIT w_HandlingMode_KEEP_IF_ABSENT w_HandlingMode_KEEP_IF_ABSENT_whenAbsent w_Tristate_State_ABSENT w_Tristate_State_NULL w_HandlingMode_NULL_IF_ABSENT w_HandlingMode_NULL_IF_ABSENT_whenAbsent w_HandlingMode_VALUES_ONLY) :
    Con l Z (⟨"com/example/strict_absence/strictabsence/state/HandlingMode", "allowsAbsent", "(Z)Z"⟩ : MethodName) prog_44_method_4_code 2 (some .boolean) ({ frames := 1, cells := 0, slots := 0, locals := 12 } : Room) #[(.ref w_HandlingMode_VALUES_ONLY), (.int 1)] Z.heap (fun v h' L => v = some (.int 1) ∧ h' = Z.heap ∧ L = []) := by
  have hw := B.1
  obtain ⟨S_w_HandlingMode_EXPLICIT, E_w_HandlingMode_EXPLICIT, S_w_HandlingMode_KEEP_IF_ABSENT, E_w_HandlingMode_KEEP_IF_ABSENT, E_w_HandlingMode_KEEP_IF_ABSENT_whenAbsent, S_w_Tristate_State_ABSENT, E_w_Tristate_State_ABSENT, S_w_Tristate_State_NULL, E_w_Tristate_State_NULL, S_w_HandlingMode_NULL_IF_ABSENT, E_w_HandlingMode_NULL_IF_ABSENT, E_w_HandlingMode_NULL_IF_ABSENT_whenAbsent, S_w_HandlingMode_VALUES_ONLY, E_w_HandlingMode_VALUES_ONLY, F_w_HandlingMode_EXPLICIT_whenAbsent, F_w_HandlingMode_KEEP_IF_ABSENT_whenAbsent, F_w_HandlingMode_KEEP_IF_ABSENT_whenAbsent_state, F_w_Tristate_State_ABSENT_ordinal, F_w_Tristate_State_NULL_ordinal, F_w_HandlingMode_NULL_IF_ABSENT_whenAbsent, F_w_HandlingMode_NULL_IF_ABSENT_whenAbsent_state, F_w_HandlingMode_VALUES_ONLY_whenAbsent⟩ := B.2
  refine Con.of (plainFor_of_name pn1) (Ls := #[vR w_HandlingMode_VALUES_ONLY, vI 1]) (fun m => by first | rfl | (simp [entryFrame, mkF, argsToLocals, Value.category]; done)) ?_
  intro p e s m below meth c T0 X0 H hml hZ hown hnm hret hlk e0
  refine gAloadN X0 H d1_0 rfl rfl 1 rfl ?_
  refine gGetF X0 H hZ hown (hw _ wd8) Via.refl e0 F_w_HandlingMode_VALUES_ONLY_whenAbsent d1_1 4 rfl ?_
  intro T40 X40 e40
  refine gNullN X40 H d1_4 7 rfl ?_
  refine gIloadN X40 H d1_7 rfl 8 rfl ?_
  refine gIfN X40 H d1_8 (by decide) 11 rfl ?_
  refine gAloadN X40 H d1_11 rfl rfl 12 rfl ?_
  refine gGetF X40 H hZ hown (hw _ wd8) Via.refl e40 F_w_HandlingMode_VALUES_ONLY_whenAbsent d1_12 15 rfl ?_
  intro T41 X41 e41
  refine gVirt X41 H hZ hown (hw _ wd12) (hw _ wd13) (hw _ wd15) (hw _ wd14) (by decide) E_w_HandlingMode_KEEP_IF_ABSENT_whenAbsent (hw _ wd17) (hw _ wd16) (rm31_2 B) e41 hml rfl pd1 rfl (W := 0) (argsL := []) (rest := []) rfl rfl d1_15 18 rfl ?_
  intro v42 T42 L42 hq42 X42
  obtain ⟨rfl, e42, rfl⟩ := hq42
  show Go _ _ _ _ (State.setTop _ (mkF _ 18 _ [(.int 0)]))
  refine gIfN X42 H d1_18 (by decide) 21 rfl ?_
  refine gIconst X42 H d1_21 (z := 1) rfl 22 rfl ?_
  refine gGoto X42 H d1_22 (by decide) 26 rfl ?_
  exact gRetN X42 H hlk hret (t := .boolean) (by simp) d1_26 ⟨rfl, e42, rfl⟩
theorem lawAll_7 (B : Bg Z a0 w_HandlingMode_EXPLICIT w_HandlingMode_KEEP_IF_ABSENT w_HandlingMode_KEEP_IF_ABSENT_whenAbsent w_Tristate_State_ABSENT w_Tristate_State_NULL w_HandlingMode_NULL_IF_ABSENT w_HandlingMode_NULL_IF_ABSENT_whenAbsent w_HandlingMode_VALUES_ONLY) (p0 : Int32) (p1 : Int32) (ha0 : (p0 &&& (3 : Int32)) = (3 : Int32)) (ha1 : (p1 &&& (1 : Int32)) = (1 : Int32)) :
    Con l Z x code maxLocals ret room_1 #[(.int p0), (.int p1)] Z.heap (fun v h' L => v = some (.int 1) ∧ Fr Z.heap.size L) := by
  have hw := B.1
  obtain ⟨S_w_HandlingMode_EXPLICIT, E_w_HandlingMode_EXPLICIT, S_w_HandlingMode_KEEP_IF_ABSENT, E_w_HandlingMode_KEEP_IF_ABSENT, E_w_HandlingMode_KEEP_IF_ABSENT_whenAbsent, S_w_Tristate_State_ABSENT, E_w_Tristate_State_ABSENT, S_w_Tristate_State_NULL, E_w_Tristate_State_NULL, S_w_HandlingMode_NULL_IF_ABSENT, E_w_HandlingMode_NULL_IF_ABSENT, E_w_HandlingMode_NULL_IF_ABSENT_whenAbsent, S_w_HandlingMode_VALUES_ONLY, E_w_HandlingMode_VALUES_ONLY, F_w_HandlingMode_EXPLICIT_whenAbsent, F_w_HandlingMode_KEEP_IF_ABSENT_whenAbsent, F_w_HandlingMode_KEEP_IF_ABSENT_whenAbsent_state, F_w_Tristate_State_ABSENT_ordinal, F_w_Tristate_State_NULL_ordinal, F_w_HandlingMode_NULL_IF_ABSENT_whenAbsent, F_w_HandlingMode_NULL_IF_ABSENT_whenAbsent_state, F_w_HandlingMode_VALUES_ONLY_whenAbsent⟩ := B.2
  refine Con.of (plainFor_of_name pn0) (Ls := #[vI p0, vI p1, .unset, .unset, .unset, .unset]) (fun m => by first | rfl | (simp [entryFrame, mkF, argsToLocals, Value.category, maxLocals]; done)) ?_
  intro p e s m below meth c T0 X0 H hml hZ hown hnm hret hlk e0
  refine gIloadN X0 H at_0 rfl 1 rfl ?_
  refine gIconst X0 H at_1 (z := 3) rfl 2 rfl ?_
  refine g_iand X0 H at_2 (z := 3) ha0 3 rfl ?_
  refine gIstoreN X0 H at_3 (Ls' := #[vI p0, vI p1, vI 3, .unset, .unset, .unset]) rfl 4 rfl ?_
  refine gIloadN X0 H at_4 rfl 5 rfl ?_
  refine gIconst X0 H at_5 (z := 1) rfl 6 rfl ?_
  refine g_iand X0 H at_6 (z := 1) ha1 7 rfl ?_
  refine gIfN X0 H at_7 (by decide) 10 rfl ?_
  refine gIconst X0 H at_10 (z := 1) rfl 11 rfl ?_
  refine gGoto X0 H at_11 (by decide) 15 rfl ?_
  refine gIstoreN X0 H at_15 (Ls' := #[vI p0, vI p1, vI 3, vI 1, .unset, .unset]) rfl 16 rfl ?_
  refine gIloadN X0 H at_16 rfl 17 rfl ?_
  refine gIfY X0 H at_17 (by decide) (by decide) 31 rfl ?_
  refine gIloadN X0 H at_31 rfl 32 rfl ?_
  refine gIconst X0 H at_32 (z := 1) rfl 33 rfl ?_
  refine gCmpY X0 H at_33 (by decide) (by decide) 55 rfl ?_
  refine gIloadN X0 H at_55 rfl 56 rfl ?_
  refine gIconst X0 H at_56 (z := 2) rfl 57 rfl ?_
  refine gCmpY X0 H at_57 (by decide) (by decide) 71 rfl ?_
  refine gGetS X0 H hZ hown (hw _ wd26) e0 S_w_HandlingMode_VALUES_ONLY at_71 74 rfl ?_
  intro T39 X39 e39
  refine gAstore X39 H at_74 rfl (Ls' := #[vI p0, vI p1, vI 3, vI 1, vR w_HandlingMode_VALUES_ONLY, .unset]) rfl 76 rfl ?_
  refine gIconst X39 H at_76 (z := 1) rfl 77 rfl ?_
  refine gIstore X39 H at_77 (Ls' := #[vI p0, vI p1, vI 3, vI 1, vR w_HandlingMode_VALUES_ONLY, vI 1]) rfl 79 rfl ?_
  refine gAload X39 H at_79 rfl rfl 81 rfl ?_
  refine gIloadN X39 H at_81 rfl 82 rfl ?_
  refine gVirt X39 H hZ hown (hw _ wd3) (hw _ wd4) (hw _ wd6) (hw _ wd5) (by decide) E_w_HandlingMode_VALUES_ONLY (hw _ wd7) (hw _ wd1) (rm43_1 B) e39 hml rfl pd0 rfl (W := 0) (argsL := [(.int 1)]) (rest := []) rfl rfl at_82 85 rfl ?_
  intro v44 T44 L44 hq44 X44
  obtain ⟨rfl, e44, rfl⟩ := hq44
  show Go _ _ _ _ (State.setTop _ (mkF _ 85 _ [(.int 1)]))
  refine gIload X44 H at_85 rfl 87 rfl ?_
  refine gCmpN X44 H at_87 (by decide) 90 rfl ?_
  refine gIconst X44 H at_90 (z := 1) rfl 91 rfl ?_
  refine gGoto X44 H at_91 (by decide) 95 rfl ?_
  exact gRetN X44 H hlk hret (t := .boolean) (by simp) at_95 ⟨rfl, Fr.nil _⟩
theorem lawAll (B : Bg Z a0 w_HandlingMode_EXPLICIT w_HandlingMode_KEEP_IF_ABSENT w_HandlingMode_KEEP_IF_ABSENT_whenAbsent w_Tristate_State_ABSENT w_Tristate_State_NULL w_HandlingMode_NULL_IF_ABSENT w_HandlingMode_NULL_IF_ABSENT_whenAbsent w_HandlingMode_VALUES_ONLY) (p0 : Int32) (p1 : Int32) :
    Con l Z x code maxLocals ret room_1 #[(.int p0), (.int p1)] Z.heap (fun v h' L => v = some (.int 1) ∧ Fr Z.heap.size L) := by
  rcases m3 p0 with ha0 | ha0 | ha0 | ha0
  · rcases m1 p1 with ha1 | ha1
    · exact lawAll_0 B p0 p1 ha0 ha1
    · exact lawAll_1 B p0 p1 ha0 ha1
  · rcases m1 p1 with ha1 | ha1
    · exact lawAll_2 B p0 p1 ha0 ha1
    · exact lawAll_3 B p0 p1 ha0 ha1
  · rcases m1 p1 with ha1 | ha1
    · exact lawAll_4 B p0 p1 ha0 ha1
    · exact lawAll_5 B p0 p1 ha0 ha1
  · rcases m1 p1 with ha1 | ha1
    · exact lawAll_6 B p0 p1 ha0 ha1
    · exact lawAll_7 B p0 p1 ha0 ha1
end Walk
set_option maxHeartbeats 4000000 in
theorem comes_1 {Post : Tables → Env → Array Value → State → Outcome → State → Prop} (hpost : ∀ tb e args s v u, (limb_1_1.after args s (.returned v) u = true ∧ limb_1_2.after args s (.returned v) u = true ∧ True) → FrameEnd s (.returned v) u (Jvm.fieldLocs frame_1_writes args s ++ Jvm.arrayLocs frame_1_arrays args s ++ Jvm.staticLocs frame_1_statics s) 0 0 → Post tb e args s (.returned v) u) :
    ArmFor flags0 classFile x code maxLocals ret World_1 tables_1 room_1 Calls_1 rest_1 Pre_1 Post := by
  intro l hfl _ _ p e ha hc hk s m args below hf hA hF happ hP
  obtain ⟨hcalls, hrest, hpre⟩ := hP
  obtain ⟨-, -, -, hnamed, -, -, -, hat⟩ := (Spec.applies_iff hf).mp happ
  obtain ⟨hg, hn⟩ := and_e (Cond.before_iff.mp (show (Jvm.Cond.and given_1 narrow_1).before args s = true from hpre))
  obtain ⟨n1, n2⟩ := and_e hg
  obtain ⟨n3, n4⟩ := and_e n2
  obtain ⟨w0, w1, rfl⟩ : ∃ w0 w1 : Value, args = #[w0, w1] := by
    have hs : args.size = 2 := by simpa [Cond.value, given_1] using n1
    obtain ⟨L⟩ := args
    match L, hs with
    | [w0, w1], _ => exact ⟨w0, w1, rfl⟩
  have hfit : Fit s := fun {y c} hc i hi => by
    obtain ⟨ha, rfl⟩ := Array.getElem?_eq_some_iff.mp hc
    have q := List.all_eq_true.mp ((Array.all_eq_true_iff_forall_mem.mp hF) _ (Array.getElem_mem ha)) i (List.mem_range.mpr hi)
    simpa [Array.getElem?_eq_getElem hi] using q
  have hw := fun d (hd : d ∈ tables_1) => atoms_spec (ws := Jvm.Cond.code x code maxLocals ret :: tables_1) hat d (List.mem_cons_of_mem _ hd)
  obtain ⟨i0, ei0⟩ := is_v n3
  obtain rfl : w0 = (.int i0) := Option.some.inj ei0
  obtain ⟨i1, ei1⟩ := is_v n4
  obtain rfl : w1 = (.int i1) := Option.some.inj ei1
  obtain ⟨n5, n6⟩ := and_e hn
  obtain ⟨n7, n8⟩ := and_e n6
  obtain ⟨n9, n10⟩ := and_e n8
  obtain ⟨n11, n12⟩ := and_e n10
  obtain ⟨n13, n14⟩ := and_e n12
  obtain ⟨n15, n16⟩ := and_e n14
  obtain ⟨n17, n18⟩ := and_e n16
  obtain ⟨n19, n20⟩ := and_e n18
  obtain ⟨n21, n22⟩ := and_e n20
  obtain ⟨n23, n24⟩ := and_e n22
  obtain ⟨n25, n26⟩ := and_e n24
  obtain ⟨n27, n28⟩ := and_e n26
  obtain ⟨n29, n30⟩ := and_e n28
  obtain ⟨w_HandlingMode_EXPLICIT, ev_w_HandlingMode_EXPLICIT⟩ := exa_v n5
  obtain ⟨w_HandlingMode_KEEP_IF_ABSENT, ev_w_HandlingMode_KEEP_IF_ABSENT⟩ := exa_v n9
  obtain ⟨w_HandlingMode_KEEP_IF_ABSENT_whenAbsent, ev_w_HandlingMode_KEEP_IF_ABSENT_whenAbsent⟩ := exa_v n11
  obtain ⟨w_Tristate_State_ABSENT, ev_w_Tristate_State_ABSENT⟩ := exa_v n13
  obtain ⟨w_Tristate_State_NULL, ev_w_Tristate_State_NULL⟩ := exa_v n17
  obtain ⟨w_HandlingMode_NULL_IF_ABSENT, ev_w_HandlingMode_NULL_IF_ABSENT⟩ := exa_v n23
  obtain ⟨w_HandlingMode_NULL_IF_ABSENT_whenAbsent, ev_w_HandlingMode_NULL_IF_ABSENT_whenAbsent⟩ := exa_v n25
  obtain ⟨w_HandlingMode_VALUES_ONLY, ev_w_HandlingMode_VALUES_ONLY⟩ := exa_v n29
  have W : World s w_HandlingMode_EXPLICIT w_HandlingMode_KEEP_IF_ABSENT w_HandlingMode_KEEP_IF_ABSENT_whenAbsent w_Tristate_State_ABSENT w_Tristate_State_NULL w_HandlingMode_NULL_IF_ABSENT w_HandlingMode_NULL_IF_ABSENT_whenAbsent w_HandlingMode_VALUES_ONLY := ⟨Sta.start ev_w_HandlingMode_EXPLICIT (Or.inr ⟨(hw _ wd1), (hw _ wd2)⟩), Exa.start ev_w_HandlingMode_EXPLICIT n5, Sta.start ev_w_HandlingMode_KEEP_IF_ABSENT (Or.inr ⟨(hw _ wd1), (hw _ wd11)⟩), Exa.start ev_w_HandlingMode_KEEP_IF_ABSENT n9, Exa.start ev_w_HandlingMode_KEEP_IF_ABSENT_whenAbsent n11, Sta.start ev_w_Tristate_State_ABSENT (Or.inr ⟨(hw _ wd20), (hw _ wd21)⟩), Exa.start ev_w_Tristate_State_ABSENT n13, Sta.start ev_w_Tristate_State_NULL (Or.inr ⟨(hw _ wd20), (hw _ wd23)⟩), Exa.start ev_w_Tristate_State_NULL n17, Sta.start ev_w_HandlingMode_NULL_IF_ABSENT (Or.inr ⟨(hw _ wd1), (hw _ wd25)⟩), Exa.start ev_w_HandlingMode_NULL_IF_ABSENT n23, Exa.start ev_w_HandlingMode_NULL_IF_ABSENT_whenAbsent n25, Sta.start ev_w_HandlingMode_VALUES_ONLY (Or.inr ⟨(hw _ wd1), (hw _ wd27)⟩), Exa.start ev_w_HandlingMode_VALUES_ONLY n29, eqN ev_w_HandlingMode_EXPLICIT n7, fldE ev_w_HandlingMode_KEEP_IF_ABSENT ev_w_HandlingMode_KEEP_IF_ABSENT_whenAbsent, eqR ev_w_HandlingMode_KEEP_IF_ABSENT_whenAbsent ev_w_Tristate_State_ABSENT n15, eqI ev_w_Tristate_State_ABSENT n19, eqI ev_w_Tristate_State_NULL n21, fldE ev_w_HandlingMode_NULL_IF_ABSENT ev_w_HandlingMode_NULL_IF_ABSENT_whenAbsent, eqR ev_w_HandlingMode_NULL_IF_ABSENT_whenAbsent ev_w_Tristate_State_NULL n27, eqR ev_w_HandlingMode_VALUES_ONLY ev_w_HandlingMode_KEEP_IF_ABSENT_whenAbsent n30⟩
  have B : Bg s _ w_HandlingMode_EXPLICIT w_HandlingMode_KEEP_IF_ABSENT w_HandlingMode_KEEP_IF_ABSENT_whenAbsent w_Tristate_State_ABSENT w_Tristate_State_NULL w_HandlingMode_NULL_IF_ABSENT w_HandlingMode_NULL_IF_ABSENT_whenAbsent w_HandlingMode_VALUES_ONLY := ⟨hw, W⟩
  obtain ⟨n, o, h1, h2, h3, _, L, rfl, ⟨rfl, N⟩, hq⟩ := (lawAll (l := l) B i0 i1) tables_1 p e ha hc hk s m _ below hf ((Spec.applies_iff_loose hf).mp happ).1 ⟨rfl, State.Warmed39.refl s, rfl⟩ trivial
  refine ⟨n, _, h1, h2, h3, hpost _ _ _ _ _ _ ⟨Cond.after_iff.mpr rfl, Cond.after_iff.mpr (eq_i res_at (Term.int_eval (1)) rfl), trivial⟩ ⟨hq.1, hq.2.1, (hq.2.2.sift fun y hy => Or.inr (N y hy)).mono (by decide) (by decide)⟩⟩
theorem main_1_1 : Claimed_1_1 := comes_1 fun _ _ _ _ _ _ h hF => ⟨h.1, hF⟩
theorem main_1_2 : Claimed_1_2 := comes_1 fun _ _ _ _ _ _ h hF => ⟨h.2.1, hF⟩
end Jvm.Pilot.@@N@@
namespace Jvm.Pilot.@@N@@
open Jvm Jvm.ClassFile Sem Op Lib Jvm.Free Jvm.Stand Jvm.Pilot.@@N@@.Jvm.D
/-! MADE BY PROGRAM (witnessworld.py) out of the Statement's table words and the real class files: 14 classes; the members and pool entries that the words name. The judged class is class 1, her method 1. -/
namespace start1
open Jvm.ClassFile
def u (s : String) : CpInfo := .utf8 (stringToUtf16 s)
/-- a pool by its gaps: so many unusable entries, then the entry; so many at the end -/
def gap : Nat → List CpInfo → List CpInfo
  | 0, r => r
  | n + 1, r => .unusable :: gap n r
def poolList (es : List (Nat × CpInfo)) (last : Nat) : List CpInfo := es.foldr (fun e r => gap e.1 (e.2 :: r)) (gap last [])
def pool (es : List (Nat × CpInfo)) (last : Nat) : Array CpInfo := ⟨poolList es last⟩
def fileOf (pool : Array CpInfo) (this : Nat) (attrs : Array Attribute := #[]) (ms : Array MethodInfo := #[]) (fl : Nat := 33) (sup : Nat := 0) (ifs : Array Nat := #[]) (fds : Array FieldInfo := #[]) : ClassFile where
  minorVersion := 0
  majorVersion := 65
  constantPool := pool
  accessFlags := fl
  thisClass := this
  superClass := sup
  interfaces := ifs
  fields := fds
  methods := ms
  attributes := attrs
def plain (name : String) (sup : Option ClassId) : Class where
  name := name
  kind := .ordinary
  loader := none
  accessFlags := 33
  super := sup
  interfaces := #[]
  cf := none
  fields := #[]
  methods := #[]
  instanceTypes := #[]
  staticTypes := #[]
  resolved := #[]
  callSites := []
  init := .initialized
  statics := none
  mirror := none

def pool0 : Array CpInfo := pool [(5, u "<init>"), (0, u "()V"), (1, .class_ 10), (1, u "java/lang/Object")] 113

def k0m0 : Method := { name := "<init>", desc := "()V", sig := { parameters := [], returnType := none }, accessFlags := 1, code := none }
/-- java/lang/Object -/
def k0 : Class := { plain "java/lang/Object" none with
  accessFlags := 33
  interfaces := #[]
  cf := some (fileOf pool0 8 #[] #[{ accessFlags := 1, nameIndex := 5, descriptorIndex := 6, attributes := #[] }] 33 0 #[] #[])
  fields := #[]
  methods := #[k0m0]
  instanceTypes := #[]
  staticTypes := #[]
  resolved := Array.replicate 124 none
  statics := none }

def pool1 : Array CpInfo := pool [(2, .class_ 4), (1, u "java/lang/Object"), (0, u "<init>"), (0, u "()V"), (0, .fieldref 8 9), (0, .class_ 10), (0, .nameAndType 11 12), (0, u "com/example/strict_absence/strictabsence/state/HandlingMode"), (0, u "EXPLICIT"), (0, u "Lcom/example/strict_absence/strictabsence/state/HandlingMode;"), (0, .fieldref 8 14), (0, .nameAndType 15 12), (0, u "NULL_IF_ABSENT"), (0, .fieldref 8 17), (0, .nameAndType 18 12), (0, u "KEEP_IF_ABSENT"), (0, .fieldref 8 20), (0, .nameAndType 21 12), (0, u "VALUES_ONLY"), (0, .methodref 8 23), (0, .nameAndType 24 25), (0, u "allowsAbsent"), (0, u "(Z)Z"), (0, .class_ 27), (0, u "com/example/strict_absence/strictabsence/state/HandlingModeAllowsAbsentPinLaw"), (2, u "law"), (0, u "(II)Z")] 3

def k1m0 : Method := { name := "<init>", desc := "()V", sig := { parameters := [], returnType := none }, accessFlags := 1, code := none }
def k1c1 : Code := { maxStack := 2, maxLocals := 6, code := code, exceptionTable := #[], attributes := #[] }
def k1m1 : Method := { name := "law", desc := "(II)Z", sig := { parameters := [.int, .int], returnType := some .boolean }, accessFlags := 9, code := some k1c1 }
/-- com/example/strict_absence/strictabsence/state/HandlingModeAllowsAbsentPinLaw -/
def k1 : Class := { plain "com/example/strict_absence/strictabsence/state/HandlingModeAllowsAbsentPinLaw" (some 0) with
  accessFlags := 49
  interfaces := #[]
  cf := some (fileOf pool1 26 #[] #[{ accessFlags := 1, nameIndex := 5, descriptorIndex := 6, attributes := #[] }, { accessFlags := 9, nameIndex := 30, descriptorIndex := 31, attributes := #[] }] 49 2 #[] #[])
  fields := #[]
  methods := #[k1m0, k1m1]
  instanceTypes := #[]
  staticTypes := #[]
  resolved := Array.replicate 35 none
  statics := none }

def pool2 : Array CpInfo := pool [(1, .class_ 2), (0, u "java/lang/constant/Constable"), (0, .class_ 4), (0, u "java/lang/Object")] 6

/-- java/lang/constant/Constable -/
def k2 : Class := { plain "java/lang/constant/Constable" (some 0) with
  accessFlags := 1537
  interfaces := #[]
  cf := some (fileOf pool2 1 #[] #[] 1537 3 #[] #[])
  fields := #[]
  methods := #[]
  instanceTypes := #[]
  staticTypes := #[]
  resolved := Array.replicate 11 none
  statics := none }

def pool3 : Array CpInfo := pool [(1, .class_ 2), (0, u "java/lang/Comparable"), (0, .class_ 4), (0, u "java/lang/Object")] 7

/-- java/lang/Comparable -/
def k3 : Class := { plain "java/lang/Comparable" (some 0) with
  accessFlags := 1537
  interfaces := #[]
  cf := some (fileOf pool3 1 #[] #[] 1537 3 #[] #[])
  fields := #[]
  methods := #[]
  instanceTypes := #[]
  staticTypes := #[]
  resolved := Array.replicate 12 none
  statics := none }

def pool4 : Array CpInfo := pool [(1, .class_ 2), (0, u "java/io/Serializable"), (0, .class_ 4), (0, u "java/lang/Object")] 2

/-- java/io/Serializable -/
def k4 : Class := { plain "java/io/Serializable" (some 0) with
  accessFlags := 1537
  interfaces := #[]
  cf := some (fileOf pool4 1 #[] #[] 1537 3 #[] #[])
  fields := #[]
  methods := #[]
  instanceTypes := #[]
  staticTypes := #[]
  resolved := Array.replicate 7 none
  statics := none }

def pool5 : Array CpInfo := pool [(2, .class_ 4), (1, u "java/lang/Enum"), (0, u "name"), (0, u "Ljava/lang/String;"), (2, u "ordinal"), (0, u "I"), (1, .class_ 14), (1, u "java/lang/Object"), (4, u "hash"), (86, .class_ 108), (1, u "java/lang/Enum$EnumDesc"), (2, .class_ 112), (0, u "java/lang/constant/Constable"), (0, .class_ 114), (0, u "java/lang/Comparable"), (0, .class_ 116), (0, u "java/io/Serializable")] 87

/-- java/lang/Enum -/
def k5 : Class := { plain "java/lang/Enum" (some 0) with
  accessFlags := 1057
  interfaces := #[2, 3, 4]
  cf := some (fileOf pool5 2 #[.nestMembers #[106]] #[] 1057 12 #[111, 113, 115] #[{ accessFlags := 18, nameIndex := 5, descriptorIndex := 6, attributes := #[] }, { accessFlags := 18, nameIndex := 9, descriptorIndex := 10, attributes := #[] }, { accessFlags := 2, nameIndex := 19, descriptorIndex := 10, attributes := #[] }])
  fields := #[{ name := "name", type := (.object "java/lang/String"), accessFlags := 18, slot := 0, constantValue := 0 }, { name := "ordinal", type := .int, accessFlags := 18, slot := 1, constantValue := 0 }, { name := "hash", type := .int, accessFlags := 2, slot := 2, constantValue := 0 }]
  methods := #[]
  instanceTypes := #[(.object "java/lang/String"), .int, .int]
  staticTypes := #[]
  resolved := Array.replicate 204 none
  statics := none }

def pool6 : Array CpInfo := pool [(1, .class_ 2), (0, u "com/example/strict_absence/strictabsence/state/HandlingMode"), (2, u "EXPLICIT"), (0, u "Lcom/example/strict_absence/strictabsence/state/HandlingMode;"), (2, u "NULL_IF_ABSENT"), (2, u "KEEP_IF_ABSENT"), (2, u "VALUES_ONLY"), (2, u "$VALUES"), (0, u "[Lcom/example/strict_absence/strictabsence/state/HandlingMode;"), (6, .class_ 28), (1, u "java/lang/Enum"), (6, .fieldref 1 36), (0, .nameAndType 37 38), (0, u "whenAbsent"), (0, u "Lcom/example/strict_absence/strictabsence/state/Tristate;"), (2, u "whenNull"), (0, .methodref 43 44), (0, .class_ 45), (0, .nameAndType 46 47), (0, u "com/example/strict_absence/strictabsence/state/Tristate"), (0, u "isNull"), (0, u "()Z"), (36, u "allowsAbsent"), (0, u "(Z)Z")] 9

def k6c0 : Code := { maxStack := 1, maxLocals := 2, code := prog_44_method_4_code, exceptionTable := #[], attributes := #[] }
def k6m0 : Method := { name := "allowsAbsent", desc := "(Z)Z", sig := { parameters := [.boolean], returnType := some .boolean }, accessFlags := 1, code := some k6c0 }
/-- com/example/strict_absence/strictabsence/state/HandlingMode -/
def k6 : Class := { plain "com/example/strict_absence/strictabsence/state/HandlingMode" (some 5) with
  accessFlags := 16433
  interfaces := #[]
  cf := some (fileOf pool6 1 #[] #[{ accessFlags := 1, nameIndex := 84, descriptorIndex := 85, attributes := #[] }] 16433 26 #[] #[{ accessFlags := 16409, nameIndex := 5, descriptorIndex := 6, attributes := #[] }, { accessFlags := 16409, nameIndex := 9, descriptorIndex := 6, attributes := #[] }, { accessFlags := 16409, nameIndex := 12, descriptorIndex := 6, attributes := #[] }, { accessFlags := 16409, nameIndex := 15, descriptorIndex := 6, attributes := #[] }, { accessFlags := 18, nameIndex := 37, descriptorIndex := 38, attributes := #[] }, { accessFlags := 18, nameIndex := 41, descriptorIndex := 38, attributes := #[] }, { accessFlags := 4122, nameIndex := 18, descriptorIndex := 19, attributes := #[] }])
  fields := #[{ name := "EXPLICIT", type := (.object "com/example/strict_absence/strictabsence/state/HandlingMode"), accessFlags := 16409, slot := 0, constantValue := 0 }, { name := "NULL_IF_ABSENT", type := (.object "com/example/strict_absence/strictabsence/state/HandlingMode"), accessFlags := 16409, slot := 1, constantValue := 0 }, { name := "KEEP_IF_ABSENT", type := (.object "com/example/strict_absence/strictabsence/state/HandlingMode"), accessFlags := 16409, slot := 2, constantValue := 0 }, { name := "VALUES_ONLY", type := (.object "com/example/strict_absence/strictabsence/state/HandlingMode"), accessFlags := 16409, slot := 3, constantValue := 0 }, { name := "whenAbsent", type := (.object "com/example/strict_absence/strictabsence/state/Tristate"), accessFlags := 18, slot := 3, constantValue := 0 }, { name := "whenNull", type := (.object "com/example/strict_absence/strictabsence/state/Tristate"), accessFlags := 18, slot := 4, constantValue := 0 }, { name := "$VALUES", type := (.array (.object "com/example/strict_absence/strictabsence/state/HandlingMode")), accessFlags := 4122, slot := 4, constantValue := 0 }]
  methods := #[k6m0]
  instanceTypes := #[(.object "java/lang/String"), .int, .int, (.object "com/example/strict_absence/strictabsence/state/Tristate"), (.object "com/example/strict_absence/strictabsence/state/Tristate")]
  staticTypes := #[(.object "com/example/strict_absence/strictabsence/state/HandlingMode"), (.object "com/example/strict_absence/strictabsence/state/HandlingMode"), (.object "com/example/strict_absence/strictabsence/state/HandlingMode"), (.object "com/example/strict_absence/strictabsence/state/HandlingMode"), (.array (.object "com/example/strict_absence/strictabsence/state/HandlingMode"))]
  resolved := Array.replicate 95 none
  statics := some 0 }

def pool7 : Array CpInfo := pool [(2, .class_ 4), (1, u "java/lang/Object"), (2, .fieldref 8 9), (0, .class_ 10), (0, .nameAndType 11 12), (0, u "com/example/strict_absence/strictabsence/state/Tristate"), (0, u "state"), (0, u "Lcom/example/strict_absence/strictabsence/state/Tristate$State;"), (2, u "value"), (0, u "Ljava/lang/Object;"), (2, u "ABSENT"), (0, u "Lcom/example/strict_absence/strictabsence/state/Tristate;"), (2, u "NULL"), (8, .class_ 34), (1, u "com/example/strict_absence/strictabsence/state/Tristate$State"), (14, .fieldref 32 50), (0, .nameAndType 23 12), (41, u "()Z"), (0, u "isNull")] 31

def k7c0 : Code := { maxStack := 2, maxLocals := 1, code := prog_48_method_8_code, exceptionTable := #[], attributes := #[] }
def k7m0 : Method := { name := "isNull", desc := "()Z", sig := { parameters := [], returnType := some .boolean }, accessFlags := 1, code := some k7c0 }
/-- com/example/strict_absence/strictabsence/state/Tristate -/
def k7 : Class := { plain "com/example/strict_absence/strictabsence/state/Tristate" (some 0) with
  accessFlags := 49
  interfaces := #[]
  cf := some (fileOf pool7 8 #[.nestMembers #[32]] #[{ accessFlags := 1, nameIndex := 93, descriptorIndex := 92, attributes := #[] }] 49 2 #[] #[{ accessFlags := 26, nameIndex := 19, descriptorIndex := 20, attributes := #[] }, { accessFlags := 26, nameIndex := 23, descriptorIndex := 20, attributes := #[] }, { accessFlags := 18, nameIndex := 11, descriptorIndex := 12, attributes := #[] }, { accessFlags := 18, nameIndex := 15, descriptorIndex := 16, attributes := #[] }])
  fields := #[{ name := "ABSENT", type := (.object "com/example/strict_absence/strictabsence/state/Tristate"), accessFlags := 26, slot := 0, constantValue := 0 }, { name := "NULL", type := (.object "com/example/strict_absence/strictabsence/state/Tristate"), accessFlags := 26, slot := 1, constantValue := 0 }, { name := "state", type := (.object "com/example/strict_absence/strictabsence/state/Tristate$State"), accessFlags := 18, slot := 0, constantValue := 0 }, { name := "value", type := (.object "java/lang/Object"), accessFlags := 18, slot := 1, constantValue := 0 }]
  methods := #[k7m0]
  instanceTypes := #[(.object "com/example/strict_absence/strictabsence/state/Tristate$State"), (.object "java/lang/Object")]
  staticTypes := #[(.object "com/example/strict_absence/strictabsence/state/Tristate"), (.object "com/example/strict_absence/strictabsence/state/Tristate")]
  resolved := Array.replicate 125 none
  statics := none }

def pool8 : Array CpInfo := pool [(1, .class_ 2), (0, u "com/example/strict_absence/strictabsence/state/Tristate$State"), (2, u "ABSENT"), (0, u "Lcom/example/strict_absence/strictabsence/state/Tristate$State;"), (2, u "NULL"), (2, u "VALUE"), (2, u "$VALUES"), (0, u "[Lcom/example/strict_absence/strictabsence/state/Tristate$State;"), (6, .class_ 25), (1, u "java/lang/Enum"), (26, .class_ 53), (0, u "com/example/strict_absence/strictabsence/state/Tristate")] 2

/-- com/example/strict_absence/strictabsence/state/Tristate$State -/
def k8 : Class := { plain "com/example/strict_absence/strictabsence/state/Tristate$State" (some 5) with
  accessFlags := 16433
  interfaces := #[]
  cf := some (fileOf pool8 1 #[.nestHost 52] #[] 16433 23 #[] #[{ accessFlags := 16409, nameIndex := 5, descriptorIndex := 6, attributes := #[] }, { accessFlags := 16409, nameIndex := 9, descriptorIndex := 6, attributes := #[] }, { accessFlags := 16409, nameIndex := 12, descriptorIndex := 6, attributes := #[] }, { accessFlags := 4122, nameIndex := 15, descriptorIndex := 16, attributes := #[] }])
  fields := #[{ name := "ABSENT", type := (.object "com/example/strict_absence/strictabsence/state/Tristate$State"), accessFlags := 16409, slot := 0, constantValue := 0 }, { name := "NULL", type := (.object "com/example/strict_absence/strictabsence/state/Tristate$State"), accessFlags := 16409, slot := 1, constantValue := 0 }, { name := "VALUE", type := (.object "com/example/strict_absence/strictabsence/state/Tristate$State"), accessFlags := 16409, slot := 2, constantValue := 0 }, { name := "$VALUES", type := (.array (.object "com/example/strict_absence/strictabsence/state/Tristate$State")), accessFlags := 4122, slot := 3, constantValue := 0 }]
  methods := #[]
  instanceTypes := #[(.object "java/lang/String"), .int, .int]
  staticTypes := #[(.object "com/example/strict_absence/strictabsence/state/Tristate$State"), (.object "com/example/strict_absence/strictabsence/state/Tristate$State"), (.object "com/example/strict_absence/strictabsence/state/Tristate$State"), (.array (.object "com/example/strict_absence/strictabsence/state/Tristate$State"))]
  resolved := Array.replicate 56 none
  statics := some 1 }

def pool9 : Array CpInfo := pool [(1, u "java/lang/Cloneable"), (0, .class_ 1), (0, u "java/lang/Object"), (0, .class_ 3)] 3

/-- java/lang/Cloneable -/
def k9 : Class := { plain "java/lang/Cloneable" (some 0) with
  accessFlags := 1537
  interfaces := #[]
  cf := some (fileOf pool9 2 #[] #[] 1537 4 #[] #[])
  fields := #[]
  methods := #[]
  instanceTypes := #[]
  staticTypes := #[]
  resolved := Array.replicate 8 none
  statics := none }

/-- the primitive byte -/
def k10 : Class := { plain "byte" none with kind := .primitive 'B', accessFlags := 0x411 }
/-- [B -/
def k11 : Class := { plain "[B" (some 0) with kind := .array 10 .byte, interfaces := #[9, 4], accessFlags := 1041 }

/-- the primitive int -/
def k12 : Class := { plain "int" none with kind := .primitive 'I', accessFlags := 0x411 }
/-- [I -/
def k13 : Class := { plain "[I" (some 0) with kind := .array 12 .int, interfaces := #[9, 4], accessFlags := 1041 }

def heap : Heap := #[{ cls := 6, slots := #[.ref 2, .ref 7, .ref 3, .ref 9, .null], vm := .statics 6 },
  { cls := 8, slots := #[.ref 5, .ref 6, .null, .null], vm := .statics 8 },
  { cls := 6, slots := #[.null, .int 0, .int 0, .null, .null], vm := .none },
  { cls := 6, slots := #[.null, .int 0, .int 0, .ref 4, .null], vm := .none },
  { cls := 7, slots := #[.ref 5, .null], vm := .none },
  { cls := 8, slots := #[.null, .int 0, .int 0], vm := .none },
  { cls := 8, slots := #[.null, .int 1, .int 0], vm := .none },
  { cls := 6, slots := #[.null, .int 0, .int 0, .ref 8, .null], vm := .none },
  { cls := 7, slots := #[.ref 6, .null], vm := .none },
  { cls := 6, slots := #[.null, .int 0, .int 0, .ref 4, .null], vm := .none }]
def classes : Array Class := #[k0, k1, k2, k3, k4, k5, k6, k7, k8, k9, k10, k11, k12, k13]
def interned : List (Array UInt16 × Addr) := []
def slotsUsed : Nat := 39
def theMethod : MethodId := ⟨1, 1⟩
def args0 : Array Value := #[.int 5, .int 5]
def aboutOver (below : List Frame) : State where
  vm := { classes := classes, interned := interned.toArray }
  heap := heap
  slotsUsed := slotsUsed
  threads := #[{ frames := .invoking theMethod args0 :: below }]
def below0 : List Frame := [.native { method := ⟨0, 0⟩, args := #[] }]
def about1 : State := aboutOver below0
def p0 : Program := .bare "" "" ""
def e0 : Env := launch0.env 0 0 0
theorem w_frames : about1.frames = Frame.invoking theMethod args0 :: below0 := rfl
set_option maxRecDepth 65536 in
theorem w_args : argsFit about1.vm theMethod args0 = true := by decide +kernel
set_option maxRecDepth 65536 in
theorem w_heap : heapFits about1 = true := by decide +kernel
set_option maxRecDepth 65536 in
theorem w_runnable : about1.curStatus? = some .runnable := by decide +kernel
set_option maxRecDepth 65536 in
theorem w_alone : about1.alone = true := by decide +kernel
set_option maxRecDepth 65536 in
theorem w_named : about1.methodNamed? x = some theMethod := by decide +kernel
set_option maxRecDepth 65536 in
theorem w_hears : about1.hears theMethod below0 = true := by decide +kernel
set_option maxRecDepth 65536 in
theorem w_ripe : about1.ripe theMethod args0 below0 = true := by decide +kernel
theorem w_running : about1.status = .running := rfl
set_option maxRecDepth 65536 in
theorem w_room : about1.hasRoom e0.platform room_1 = true :=
  launch0.hasRoom_least _ room_1 (by decide +kernel) (by decide +kernel) (by decide +kernel) (by decide +kernel) (by decide +kernel) (by decide +kernel)
theorem allAtoms_all (ts : List Jvm.Cond) (a : Array Jvm.Value) (st : Jvm.State) : (allAtoms ts).before a st = ts.all (fun c => c.before a st) := by
  induction ts with
  | nil => rfl
  | cons c t ih =>
    show (Jvm.Cond.and c (allAtoms t)).before a st = _
    rw [Jvm.Cond.before_and, ih, List.all_cons]
def words1 : List Jvm.Cond := Jvm.Cond.code x code maxLocals ret :: tables_1
/-- a 'code' word, met by the world's own term for the bytes: nothing is compared byte by byte -/
theorem code_word {y : MethodName} {bytes : ByteArray} {mx : Nat} {rt : Option FieldType} {a : Array Value} {s : State} {m : MethodId} {meth : Method} {c : Code} (h1 : s.methodNamed? y = some m) (h2 : s.vm.method? m = some meth) (h3 : meth.code = some c) (h4 : c.code = bytes)
    (h5 : (c.maxLocals == mx && c.exceptionTable.isEmpty && decide (c.maxStack ≤ mostOperands) && decide (meth.sig.returnType = rt) && !meth.locks && decide (parseMethodDescriptor y.desc = some meth.sig)) = true) : (Jvm.Cond.code y bytes mx rt).before a s = true := by
  simp only [Bool.and_eq_true, beq_iff_eq, Bool.not_eq_true', decide_eq_true_eq] at h5
  obtain ⟨⟨⟨⟨⟨g1, g2⟩, g3⟩, g4⟩, g5⟩, g6⟩ := h5
  simp [Cond.before, Cond.holds, Cond.value, h1, h2, h3, h4, g1, g2, g3, g4, g5, g6]
def isCode : Jvm.Cond → Bool
  | .code _ _ _ _ => true
  | _ => false
theorem all_split {L : List Jvm.Cond} {P : Jvm.Cond → Bool} (h1 : L.all (fun c => isCode c || P c) = true) (h2 : ∀ c ∈ L.filter isCode, P c = true) : L.all P = true := by
  refine List.all_eq_true.mpr fun c hc => ?_
  have h := List.all_eq_true.mp h1 c hc
  rcases Bool.eq_false_or_eq_true (isCode c) with hi | hi
  · exact h2 c (List.mem_filter.mpr ⟨hc, hi⟩)
  · simpa [hi] using h
set_option maxRecDepth 65536 in
theorem w_c0 : (Jvm.Cond.code x code maxLocals ret).before args0 about1 = true := code_word (m := ⟨1, 1⟩) (meth := k1m1) (c := k1c1) (by decide +kernel) rfl rfl rfl (by decide +kernel)
set_option maxRecDepth 65536 in
theorem w_c1 : (Jvm.Cond.code ({ cls := "com/example/strict_absence/strictabsence/state/HandlingMode", name := "allowsAbsent", desc := "(Z)Z" } : Jvm.MethodName) prog_44_method_4_code (2 : Nat) (Option.some Jvm.ClassFile.FieldType.boolean)).before args0 about1 = true := code_word (m := ⟨6, 0⟩) (meth := k6m0) (c := k6c0) (by decide +kernel) rfl rfl rfl (by decide +kernel)
set_option maxRecDepth 65536 in
theorem w_c2 : (Jvm.Cond.code ({ cls := "com/example/strict_absence/strictabsence/state/Tristate", name := "isNull", desc := "()Z" } : Jvm.MethodName) prog_48_method_8_code (1 : Nat) (Option.some Jvm.ClassFile.FieldType.boolean)).before args0 about1 = true := code_word (m := ⟨7, 0⟩) (meth := k7m0) (c := k7c0) (by decide +kernel) rfl rfl rfl (by decide +kernel)
def codes1 : List Jvm.Cond := [Jvm.Cond.code x code maxLocals ret, Jvm.Cond.code ({ cls := "com/example/strict_absence/strictabsence/state/HandlingMode", name := "allowsAbsent", desc := "(Z)Z" } : Jvm.MethodName) prog_44_method_4_code (2 : Nat) (Option.some Jvm.ClassFile.FieldType.boolean), Jvm.Cond.code ({ cls := "com/example/strict_absence/strictabsence/state/Tristate", name := "isNull", desc := "()Z" } : Jvm.MethodName) prog_48_method_8_code (1 : Nat) (Option.some Jvm.ClassFile.FieldType.boolean)]
set_option maxRecDepth 65536 in
theorem codes_eq : words1.filter isCode = codes1 := rfl
theorem w_codes : ∀ c ∈ words1.filter isCode, c.before args0 about1 = true := by
  rw [codes_eq]
  intro c hc
  simp only [codes1, List.mem_cons, List.not_mem_nil, or_false] at hc
  rcases hc with rfl | rfl | rfl
  · exact w_c0
  · exact w_c1
  · exact w_c2
set_option maxRecDepth 65536 in
theorem w_t1 : (words1.take 24).all (fun c => isCode c || c.before args0 about1) = true := by decide +kernel
set_option maxRecDepth 65536 in
theorem w_t2 : (words1.drop 24).all (fun c => isCode c || c.before args0 about1) = true := by decide +kernel
theorem w_tables : (allAtoms (Jvm.Cond.code x code maxLocals ret :: tables_1)).before args0 about1 = true := by
  rw [allAtoms_all]
  show words1.all (fun c => c.before args0 about1) = true
  refine all_split ?_ w_codes
  rw [← List.take_append_drop 24 words1, List.all_append, w_t1, w_t2]
  rfl
set_option maxRecDepth 65536 in
theorem w_case : (Jvm.Cond.and given_1 narrow_1).before args0 about1 = true := by decide +kernel
theorem w_applies : (headSpec (Jvm.Cond.code x code maxLocals ret :: tables_1) room_1).applies x e0.platform about1 = true :=
  (Spec.applies_iff w_frames).mpr ⟨w_running, w_runnable, w_alone, w_named, w_hears, w_ripe, w_room, w_tables⟩
theorem atStart : AtStart classFile x code maxLocals ret World_1 tables_1 room_1 Calls_1 rest_1 Pre_1 launch0 p0 e0 about1 theMethod args0 below0 :=
  ⟨lists_1, trivial, launch0.admits_env _ _ _, launch0.least_env, fairChoices_fair.cas, fairChoices_fair.clock, w_frames, w_args, w_heap, w_applies, trivial, trivial, w_case⟩
end start1
theorem witness_1 : WitnessClaimed_1 := ⟨start1.p0, start1.e0, start1.about1, start1.theMethod, start1.args0, start1.below0, start1.atStart⟩
end Jvm.Pilot.@@N@@
