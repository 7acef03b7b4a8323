import JvmDerived
import JvmDerived.Pilot.@@N@@Statement
import JvmDerived.Pilot.@@N@@Code
set_option linter.unusedVariables false
set_option linter.unusedSimpArgs false
set_option maxRecDepth 65536
set_option maxHeartbeats 8000000
namespace Jvm.Pilot.@@N@@
open Jvm Jvm.ClassFile Sem Op Lib Jvm.Free Jvm.Stand Jvm.LawKit Jvm.RoadKit Bundle Jvm.Pilot.@@N@@.Jvm.D
abbrev vI (x : Int32) : Slot := .val (.int x)
abbrev vJ (x : Int64) : Slot := .val (.long x)
abbrev vR (x : Addr) : Slot := .val (.ref x)
abbrev vN : Slot := .val .null
/-- the run from S comes to an end at which K holds -/
def Go (p : Program) (e : Env) (below : List Frame) (K : State → Outcome → Prop) (S : State) : Prop := ∃ t o, Steps p.tables e below S t ∧ K t o
theorem Go.via {p : Program} {e : Env} {below : List Frame} {K : State → Outcome → Prop} {A B : State} (h : ∀ t, Steps p.tables e below B t → Steps p.tables e below A t) (g : Go p e below K B) : Go p e below K A := by
  obtain ⟨t, o, h1, h2⟩ := g; exact ⟨t, o, h t h1, h2⟩
/-- a method's end: what it returned, the heap and the places written answer Q -/
def EndK (s : State) (below : List Frame) (Q : Option Value → Heap → List Loc → Prop) (C S : Nat) (t : State) (o : Outcome) : Prop := t.status = .running ∧ Ended t below o ∧ ∃ v L, o = .returned v ∧ Q v t.heap L ∧ FrameEnd s o t L C S
/-- a method's contract -/
def Con (l : Launch) (Z : State) (y : MethodName) (bytes : ByteArray) (maxL : Nat) (ret : Option FieldType) (rm : Room) (as : Array Value) (h : Heap) (Q : Option Value → Heap → List Loc → Prop) : Prop :=
  ∀ ws, MetFree l y (head1 (Jvm.Cond.code y bytes maxL ret :: ws) rm) (fun a U => a = as ∧ Z.Warmed39 U.vm ∧ U.heap = h) (fun _ _ _ _ _ => True) (fun _ U o U' => ∃ v L, o = .returned v ∧ Q v U'.heap L ∧ FrameEnd U o U' L rm.cells rm.slots)
theorem Con.of {l : Launch} {Z : State} {y : MethodName} {bytes : ByteArray} {maxL : Nat} {ret : Option FieldType} {rm : Room} {as : Array Value} {h : Heap} {Q : Option Value → Heap → List Loc → Prop} {Ls : Array Slot} (hp : plainFor y = true) (hfr : ∀ m, entryFrame m as maxL = mkF m 0 Ls [])
    (body : ∀ (p : Program) (e : Env) (s : State) (m : MethodId) (below : List Frame) (meth : Method) (c : Code) (T : State), Stand p l e rm s m as below meth c T [] 0 0 → p.tables.exec = Jvm.exec ∧ c.code = bytes → c.maxLocals = maxL → Z.Warmed39 s.vm → s.vm.findClass y.cls = some m.cls → meth.name = y.name → meth.sig.returnType = ret → meth.locks = false → T.heap = h → Go p e below (EndK s below Q rm.cells rm.slots) (T.setTop (mkF m 0 Ls []))) :
    Con l Z y bytes maxL ret rm as h Q := by
  intro ws
  refine MetFree.of_bodySF hp hisR ?_
  intro p e s m args below meth c s₁ Bd hml hP hK
  obtain ⟨rfl, hZ, hh⟩ := hP
  have e0 : s₁.heap = h := by rw [← hh, Bd.state]; rfl
  obtain ⟨t, o, h1, h2⟩ := body p e s m below meth c s₁ (Stand.of_body Bd) ⟨Bd.exec, Bd.bytes⟩ hml hZ (findClass_of_methodNamed Bd.named) (name_of_methodNamed Bd.named Bd.method).1 Bd.returns Bd.notSynchronized e0
  exact ⟨t, o, castTop (hfr m) h1, h2⟩
section Steps
variable {p : Program} {l : Launch} {e : Env} {R : Room} {s : State} {m : MethodId} {args : Array Value} {below : List Frame} {meth : Method} {c : Code} {T : State} {locs : List Loc} {cells slots : Nat} {K : State → Outcome → Prop} {Z : State} {a0 : Array Value} {h : Heap} {bs : ByteArray} {Ls Ls' : Array Slot} {st : List Value} {pc pc' : Nat}

theorem gIloadN (X : Stand p l e R s m args below meth c T locs cells slots) (H : p.tables.exec = Jvm.exec ∧ c.code = bs) {k : Fin 4} {v : Int32} (hd : decode bs pc = .ok (.iload_n k, 1)) (hl : Ls[k.val]? = some (.val (.int v))) (pc' : Nat) (hp : pc + 1 = pc') (g : Go p e below K (T.setTop (mkF m pc' Ls (.int v :: st)))) : Go p e below K (T.setTop (mkF m pc Ls (st))) := by
  subst hp
  exact Go.via (fun t k => XS.iloadN (g := mkF m pc Ls (st)) X.here H.1 rfl (hb H.2 hd) hl k) g

theorem gAloadN (X : Stand p l e R s m args below meth c T locs cells slots) (H : p.tables.exec = Jvm.exec ∧ c.code = bs) {k : Fin 4} {v : Value} (hd : decode bs pc = .ok (.aload_n k, 1)) (hl : Ls[k.val]? = some (.val v)) (hv : v.isRef = true) (pc' : Nat) (hp : pc + 1 = pc') (g : Go p e below K (T.setTop (mkF m pc' Ls (v :: st)))) : Go p e below K (T.setTop (mkF m pc Ls (st))) := by
  subst hp
  exact Go.via (fun t k => XS.aloadN (g := mkF m pc Ls (st)) X.here H.1 rfl (hb H.2 hd) hl hv k) g

theorem gIstoreN (X : Stand p l e R s m args below meth c T locs cells slots) (H : p.tables.exec = Jvm.exec ∧ c.code = bs) {k : Fin 4} {v : Int32} (hd : decode bs pc = .ok (.istore_n k, 1)) (hl : storeLocals Ls k.val (.int v) = some Ls') (pc' : Nat) (hp : pc + 1 = pc') (g : Go p e below K (T.setTop (mkF m pc' Ls' (st)))) : Go p e below K (T.setTop (mkF m pc Ls (.int v :: st))) := by
  subst hp
  exact Go.via (fun t k => XS.istoreN (g := mkF m pc Ls (.int v :: st)) X.here H.1 rfl (hb H.2 hd) rfl hl k) g

theorem gAstoreN (X : Stand p l e R s m args below meth c T locs cells slots) (H : p.tables.exec = Jvm.exec ∧ c.code = bs) {k : Fin 4} {v : Value} (hd : decode bs pc = .ok (.astore_n k, 1)) (hv : v.isRef = true) (hl : storeLocals Ls k.val v = some Ls') (pc' : Nat) (hp : pc + 1 = pc') (g : Go p e below K (T.setTop (mkF m pc' Ls' (st)))) : Go p e below K (T.setTop (mkF m pc Ls (v :: st))) := by
  subst hp
  exact Go.via (fun t k => XS.astoreN (g := mkF m pc Ls (v :: st)) X.here H.1 rfl (hb H.2 hd) rfl hv hl k) g

theorem gIload (X : Stand p l e R s m args below meth c T locs cells slots) (H : p.tables.exec = Jvm.exec ∧ c.code = bs) {k : Nat} {v : Int32} (hd : decode bs pc = .ok (.iload k, 2)) (hl : Ls[k]? = some (.val (.int v))) (pc' : Nat) (hp : pc + 2 = pc') (g : Go p e below K (T.setTop (mkF m pc' Ls (.int v :: st)))) : Go p e below K (T.setTop (mkF m pc Ls (st))) := by
  subst hp
  exact Go.via (fun t k => XS.iload (g := mkF m pc Ls (st)) X.here H.1 rfl (hb H.2 hd) hl k) g

theorem gIstore (X : Stand p l e R s m args below meth c T locs cells slots) (H : p.tables.exec = Jvm.exec ∧ c.code = bs) {k : Nat} {v : Int32} (hd : decode bs pc = .ok (.istore k, 2)) (hl : storeLocals Ls k (.int v) = some Ls') (pc' : Nat) (hp : pc + 2 = pc') (g : Go p e below K (T.setTop (mkF m pc' Ls' (st)))) : Go p e below K (T.setTop (mkF m pc Ls (.int v :: st))) := by
  subst hp
  exact Go.via (fun t k => XS.istore (g := mkF m pc Ls (.int v :: st)) X.here H.1 rfl (hb H.2 hd) rfl hl k) g

theorem gIconst (X : Stand p l e R s m args below meth c T locs cells slots) (H : p.tables.exec = Jvm.exec ∧ c.code = bs) {i : Int} {z : Int32} (hd : decode bs pc = .ok (.iconst i, 1)) (hz : Int32.ofInt i = z) (pc' : Nat) (hp : pc + 1 = pc') (g : Go p e below K (T.setTop (mkF m pc' Ls (.int z :: st)))) : Go p e below K (T.setTop (mkF m pc Ls (st))) := by
  subst hp hz
  exact Go.via (fun t k => XS.iconst (g := mkF m pc Ls (st)) X.here H.1 rfl (hb H.2 hd) k) g

theorem gBipush (X : Stand p l e R s m args below meth c T locs cells slots) (H : p.tables.exec = Jvm.exec ∧ c.code = bs) {i : Int} {z : Int32} (hd : decode bs pc = .ok (.bipush i, 2)) (hz : (Int8.ofInt i).toInt32 = z) (pc' : Nat) (hp : pc + 2 = pc') (g : Go p e below K (T.setTop (mkF m pc' Ls (.int z :: st)))) : Go p e below K (T.setTop (mkF m pc Ls (st))) := by
  subst hp hz
  exact Go.via (fun t k => XS.bipush (g := mkF m pc Ls (st)) X.here H.1 rfl (hb H.2 hd) k) g

theorem g_iand (X : Stand p l e R s m args below meth c T locs cells slots) (H : p.tables.exec = Jvm.exec ∧ c.code = bs) {x y z : Int32} (hd : decode bs pc = .ok (.iand, 1)) (hz : x &&& y = z) (pc' : Nat) (hp : pc + 1 = pc') (g : Go p e below K (T.setTop (mkF m pc' Ls (.int z :: st)))) : Go p e below K (T.setTop (mkF m pc Ls (.int y :: .int x :: st))) := by
  subst hp hz
  exact Go.via (fun t k => XS.iand (g := mkF m pc Ls (.int y :: .int x :: st)) X.here H.1 rfl (hb H.2 hd) rfl k) g

theorem g_irem (X : Stand p l e R s m args below meth c T locs cells slots) (H : p.tables.exec = Jvm.exec ∧ c.code = bs) {x y z : Int32} (hd : decode bs pc = .ok (.irem, 1)) (hy : y ≠ 0) (hz : x % y = z) (pc' : Nat) (hp : pc + 1 = pc') (g : Go p e below K (T.setTop (mkF m pc' Ls (.int z :: st)))) : Go p e below K (T.setTop (mkF m pc Ls (.int y :: .int x :: st))) := by
  subst hp hz
  exact Go.via (fun t k => iremM (g := mkF m pc Ls (.int y :: .int x :: st)) X H.1 rfl (hb H.2 hd) rfl hy k) g

theorem gDup (X : Stand p l e R s m args below meth c T locs cells slots) (H : p.tables.exec = Jvm.exec ∧ c.code = bs) {v : Value} (hd : decode bs pc = .ok (.dup, 1)) (hc : v.category = 1) (pc' : Nat) (hp : pc + 1 = pc') (g : Go p e below K (T.setTop (mkF m pc' Ls (v :: v :: st)))) : Go p e below K (T.setTop (mkF m pc Ls (v :: st))) := by
  subst hp
  exact Go.via (fun t k => XS.dup (g := mkF m pc Ls (v :: st)) X.here H.1 rfl (hb H.2 hd) rfl hc k) g

theorem gGoto (X : Stand p l e R s m args below meth c T locs cells slots) (H : p.tables.exec = Jvm.exec ∧ c.code = bs)  {o : Int} (hd : decode bs pc = .ok (.goto o, 3)) (ho : 0 ≤ (pc : Int) + o) (pc' : Nat) (hp : ((pc : Int) + o).toNat = pc') (g : Go p e below K (T.setTop (mkF m pc' Ls (st)))) : Go p e below K (T.setTop (mkF m pc Ls (st))) :=
  Go.via (fun t k => XS.goto (g := mkF m pc Ls (st)) X.here H.1 rfl rfl (hb H.2 hd) ho hp k) g

theorem gCmpY (X : Stand p l e R s m args below meth c T locs cells slots) (H : p.tables.exec = Jvm.exec ∧ c.code = bs) {cd : ClassFile.Cond} {x y : Int32} {o : Int} (hd : decode bs pc = .ok (.if_icmp cd o, 3)) (hc : if_icmp.holds cd x y = true) (ho : 0 ≤ (pc : Int) + o) (pc' : Nat) (hp : ((pc : Int) + o).toNat = pc') (g : Go p e below K (T.setTop (mkF m pc' Ls (st)))) : Go p e below K (T.setTop (mkF m pc Ls (.int y :: .int x :: st))) :=
  Go.via (fun t k => XS.icmpYes (g := mkF m pc Ls (.int y :: .int x :: st)) X.here H.1 rfl rfl (hb H.2 hd) rfl hc ho hp k) g

theorem gCmpN (X : Stand p l e R s m args below meth c T locs cells slots) (H : p.tables.exec = Jvm.exec ∧ c.code = bs) {o : Int} {cd : ClassFile.Cond} {x y : Int32} (hd : decode bs pc = .ok (.if_icmp cd o, 3)) (hc : if_icmp.holds cd x y = false) (pc' : Nat) (hp : pc + 3 = pc') (g : Go p e below K (T.setTop (mkF m pc' Ls (st)))) : Go p e below K (T.setTop (mkF m pc Ls (.int y :: .int x :: st))) := by
  subst hp
  exact Go.via (fun t k => XS.icmpNo (g := mkF m pc Ls (.int y :: .int x :: st)) X.here H.1 rfl (hb H.2 hd) rfl hc k) g

theorem gAcmp (X : Stand p l e R s m args below meth c T locs cells slots) (H : p.tables.exec = Jvm.exec ∧ c.code = bs) {cd : ACond} {x y : Value} {o : Int} {same : Bool} (hd : decode bs pc = .ok (.if_acmp cd o, 3)) (h1 : x.isRef = true) (h2 : y.isRef = true) (hq : decide (x = y) = same) (ho : 0 ≤ (pc : Int) + o) (pc' : Nat) (hp : pc' = if acV cd same = true then ((pc : Int) + o).toNat else pc + 3) (g : Go p e below K (T.setTop (mkF m pc' Ls (st)))) : Go p e below K (T.setTop (mkF m pc Ls (y :: x :: st))) :=
  Go.via (fun t k => Jvm.RoadKit.acmp (g := mkF m pc Ls (y :: x :: st)) X H.1 rfl h1 h2 rfl (hb H.2 hd) rfl hq ho hp k) g

theorem gLdc (X : Stand p l e R s m args below meth c T locs cells slots) (H : p.tables.exec = Jvm.exec ∧ c.code = bs) (hZ : Z.Warmed39 s.vm) {own : String} {index : Nat} (hown : s.vm.findClass own = some m.cls) {v : Int32} (w : (Cond.constant own index v).before a0 Z = true) (hd : decode bs pc = .ok (.ldc index, 2)) (pc' : Nat) (hp : pc + 2 = pc') (g : Go p e below K (T.setTop (mkF m pc' Ls (.int v :: st)))) : Go p e below K (T.setTop (mkF m pc Ls (st))) := by
  subst hp
  exact Go.via (X.ldcInt H.1 hown (mvT hZ w) (g := mkF m pc Ls st) rfl (hb H.2 hd)) g

theorem gGetS (X : Stand p l e R s m args below meth c T locs cells slots) (H : p.tables.exec = Jvm.exec ∧ c.code = bs) (hZ : Z.Warmed39 s.vm) {own : String} {index : Nat} (hown : s.vm.findClass own = some m.cls) {O n d : String} {v : Value} (w : (Cond.fieldLink own index O n d).before a0 Z = true) (eT : T.heap = h) (F : Sta Z h O n d v) (hd : decode bs pc = .ok (.getstatic index, 3)) (pc' : Nat) (hp : pc + 3 = pc') (g : ∀ T', Stand p l e R s m args below meth c T' locs cells slots → T'.heap = h → Go p e below K (T'.setTop (mkF m pc' Ls (v :: st)))) : Go p e below K (T.setTop (mkF m pc Ls (st))) := by
  subst hp
  obtain ⟨T', X', e', k⟩ := getS2 X H.1 hZ hown (host := "") (Or.inl w) Via.refl eT F (g := mkF m pc Ls st) rfl (hb H.2 hd)
  exact Go.via k (g T' X' e')

theorem gRetN (X : Stand p l e R s m args below meth c T locs cells slots) (H : p.tables.exec = Jvm.exec ∧ c.code = bs) (hlk : meth.locks = false) {Q : Option Value → Heap → List Loc → Prop} {C S : Nat} {t : FieldType} {z : Int32} (hret : meth.sig.returnType = some t) (ht : t = .boolean ∨ t = .byte ∨ t = .char ∨ t = .short) (hd : decode bs pc = .ok (.ireturn, 1)) (eT : T.heap = h) (q : Q (some (.int (nar t z))) h locs) (hC : cells ≤ C := by decide) (hS : slots ≤ S := by decide) : Go p e below (EndK s below Q C S) (T.setTop (mkF m pc Ls (.int z :: st))) := by
  subst eT
  obtain ⟨fs, hr, hrun, hended, hW, hsame⟩ := X.leave (v := (some (.int (nar t z)))) (fun h => by rw [hret] at h; cases h) hlk
  exact ⟨_, _, retN X H.1 hret ht (hb H.2 hd) hr, hrun, hended, _, _, rfl, q, ⟨_, rfl⟩, hW, hsame.mono hC hS⟩

theorem gNewR (X : Stand p l e R s m args below meth c T locs cells slots) (H : p.tables.exec = Jvm.exec ∧ c.code = bs) (hZ : Z.Warmed39 s.vm) {own : String} {index : Nat} (hown : s.vm.findClass own = some m.cls) {C : String} (w1 : (Cond.classLink own index C).before a0 Z = true) (w2 : (Cond.arrayOver (.object C)).before a0 Z = true) (eT : T.heap = h) {n : Int32} (hn : ¬ n < 0) {cap : Nat} (hcap : n.toNatClampNeg ≤ cap) (hb8 : cap * 8 ≤ 536870912) {vs : List Value} (hvs : List.replicate cap Value.null = vs) (hc : cells + 1 ≤ R.cells) (hsl : slots + cap ≤ R.slots) (hd : decode bs pc = .ok (.anewarray index, 3)) (pc' : Nat) (hp : pc + 3 = pc')
    (g : ∀ T' h' b k, Stand p l e R s m args below meth c T' locs (cells + 1) (slots + cap) → T'.heap = h' → h.size = b → Ext h h' → Arv Z h' b k (.object C) n vs .null → Ovr Z k C → Go p e below K (T'.setTop (mkF m pc' Ls (.ref b :: st)))) : Go p e below K (T.setTop (mkF m pc Ls (.int n :: st))) := by
  subst hp
  obtain ⟨T', h', k', X', e', E', A', O', k⟩ := newR X H.1 hZ hown w1 w2 eT (g := mkF m pc Ls (.int n :: st)) rfl (hb H.2 hd) rfl hn hcap hb8 hc hsl
  refine Go.via k (g T' h' _ k' X' e' rfl E' ?_ O')
  rw [← hvs]
  exact (Arv.new A' hn).pad (pad_rep [] _ _)

theorem gAaload (X : Stand p l e R s m args below meth c T locs cells slots) (H : p.tables.exec = Jvm.exec ∧ c.code = bs) (hZ : Z.Warmed39 s.vm) (eT : T.heap = h) {a : Addr} {k : ClassId} {n j : Int32} {vs : List Value} {dv v : Value} {ty : FieldType} (hty : ty.isReference = true) (A : Arv Z h a k ty n vs dv) (hj : ¬ j < 0 ∧ j < n) (hv : vs.getD j.toNatClampNeg dv = v) (hd : decode bs pc = .ok (.aaload, 1)) (pc' : Nat) (hp : pc + 1 = pc') (g : Go p e below K (T.setTop (mkF m pc' Ls (v :: st)))) : Go p e below K (T.setTop (mkF m pc Ls (.int j :: .ref a :: st))) := by
  subst hp
  obtain ⟨c', Ar, q, S, N, Hs, Gs⟩ := A
  have hin := inb_of S hj
  exact Go.via (X.aaload H.1 (j := j) (v := v) (by rw [eT]; exact Ar.1) (State.isArrayOf_alike hZ.alike Ar.2.1) hty Ar.2.2 hin (Hs.at hin hv) (g := mkF m pc Ls (.int j :: .ref a :: st)) rfl rfl (hb H.2 hd)) g

theorem gAastore (X : Stand p l e R s m args below meth c T locs cells slots) (H : p.tables.exec = Jvm.exec ∧ c.code = bs) (hZ : Z.Warmed39 s.vm) (eT : T.heap = h) {a : Addr} {k : ClassId} {n j : Int32} {vs vs' : List Value} {dv : Value} {v : Value} {C : String} (hft : fits (.object C) v = true) (hsto : Sto Z h a v) (A : Arv Z h a k (.object C) n vs dv) (hj : ¬ j < 0 ∧ j < n) {i : Nat} (hi : j.toNatClampNeg = i) (hlt : i < vs.length) (hvs : vs.set i v = vs') (hd : decode bs pc = .ok (.aastore, 1)) (pc' : Nat) (hp : pc + 1 = pc')
    (g : ∀ T' h', Stand p l e R s m args below meth c T' (locs ++ [⟨a, j.toNatClampNeg⟩]) cells slots → T'.heap = h' → Wr h h' a j.toNatClampNeg v → Arv Z h' a k (.object C) n vs' dv → Go p e below K (T'.setTop (mkF m pc' Ls st))) : Go p e below K (T.setTop (mkF m pc Ls (v :: .int j :: .ref a :: st))) := by
  subst hp hvs
  obtain ⟨c', Ar, q, S, N, Hs, Gs⟩ := A
  have hin := inb_of S hj
  obtain ⟨T', h', X', e', W', k'⟩ := stR X H.1 hZ eT Ar (j := j) hin rfl hsto (g := mkF m pc Ls (v :: .int j :: .ref a :: st)) rfl rfl (hb H.2 hd)
  exact Go.via k' (g T' h' X' e' W' (Arv.set Ar q S N Hs Gs hft W' i hi hlt))

theorem gVirt (X : Stand p l e R s m args below meth c T locs cells slots) (H : p.tables.exec = Jvm.exec ∧ c.code = bs) (hZ : Z.Warmed39 s.vm) {own : String} {index : Nat} (hown : s.vm.findClass own = some m.cls) {C : String} {y : MethodName} {bytes : ByteArray} {maxL : Nat} {ret : Option FieldType} {rm : Room} {as : Array Value} {Q : Option Value → Heap → List Loc → Prop} {W maxO : Nat} {argsL rest : List Value} {ps : List FieldType} {r : Option FieldType} (wl : (Cond.methodLink own index y).before a0 Z = true) (wd : (Cond.declares y).before a0 Z = true) (wse : (Cond.selects C y y).before a0 Z = true) (wi : (Cond.instanceMethod y).before a0 Z = true) (hy : y.cls ≠ "java/lang/invoke/MethodHandle" ∧ y.cls ≠ "java/lang/invoke/VarHandle") {b : Addr} (E : Exa Z h b C) (wc : (Cond.code y bytes maxL ret).before a0 Z = true) (wz : (Cond.initialized (y).cls).before a0 Z = true) (M : Con l Z y bytes maxL ret rm as h Q) (eT : T.heap = h) (hml : c.maxLocals = maxO) (hs : Ls.size = maxO) (hpd : parseMethodDescriptor y.desc = some ⟨ps, r⟩) (hlen : argsL.length = ps.length) (hstack : st = argsL.reverse ++ .ref b :: rest) (has : (.ref b :: argsL).toArray = as) (hd : decode bs pc = .ok (.invokevirtual index, 3)) (pc' : Nat) (hp : pc + 3 = pc')
    (g : ∀ v T' L, Q v T'.heap L → Stand p l e R s m args below meth c T' (locs ++ L) (cells + rm.cells) (slots + rm.slots) → Go p e below K (T'.setTop (mkF m pc' Ls (v.toList ++ rest)))) (hW : (rest.map fun v => v.category).sum ≤ W := by exact Nat.le_of_eq rfl) (hf : rm.frames + 1 ≤ R.frames := by decide) (hl : W + (maxL + 11) + rm.locals ≤ R.locals := by decide) (hc : cells + rm.cells ≤ R.cells := by decide) (hsl : slots + rm.slots ≤ R.slots := by decide) : Go p e below K (T.setTop (mkF m pc Ls (st))) := by
  subst hp has
  obtain ⟨cB, kB, q1, q2, q3⟩ := isOf hZ eT E
  obtain ⟨v, _, ⟨T', L', k', n'⟩, -, X', ⟨L, hQ, l', y', z'⟩, k⟩ := X.virtualBack H.1 (y := y) (z := y) hown (mvT hZ wl) (mvT hZ wd) (notFace_of_selects (args := #[]) (mvT hZ wse)) (mvT hZ wse) (mvT hZ wi) hy (backOf (W := W) (M []) hZ wc wz hf hl) q1 q3 (g := mkF m pc Ls st) rfl (hs.trans hml.symm) (Steps.refl _) (argsL := argsL) (rest := rest) (lenOf hpd hlen) hstack (by show 2 * 0 + _ ≤ _; omega) (hb H.2 hd) (fun _ _ => ⟨rfl, eT, hc, hsl⟩)
  dsimp only [Pt.U, Pt.locs, Pt.cells, Pt.slots] at X' l' y' z' k hQ
  subst l' y' z'
  exact Go.via (fun t q => k.trans q) (g v T' L hQ X')

end Steps
theorem eqI {args : Array Value} {s : State} {t : Term} {w : Addr} {C n d : String} {k : Int32} (ev : t.eval args s none [] s = some (.ref w)) (q : (Jvm.Cond.eq (.field t C n d) (.int k)).value args s none s [] = some true) : Fld s s.heap w C n d (.int k) := by
  refine Fld.start ?_
  rw [← fld_at (args := args) (first := s) (o := none) (idx := []) ev]
  obtain ⟨x, y, h1, h2, k1, k2⟩ := cmp_v (Or.inl q)
  obtain rfl : y = .int k := (Option.some.inj ((Term.int_eval k).symm.trans h2)).symm
  obtain ⟨z, rfl⟩ := k2
  simp [Cond.value, h1, h2] at q
  rw [h1, q]
theorem eqR {args : Array Value} {s : State} {t t' : Term} {w w' : Addr} {C n d : String} (ev : t.eval args s none [] s = some (.ref w)) (ev' : t'.eval args s none [] s = some (.ref w')) (q : (Jvm.Cond.eq (.field t C n d) t').value args s none s [] = some true) : Fld s s.heap w C n d (.ref w') := by
  refine Fld.start ?_
  rw [← fld_at (args := args) (first := s) (o := none) (idx := []) ev]
  obtain ⟨x, y, h1, h2, k1, k2⟩ := cmp_v (Or.inl q)
  obtain rfl : y = .ref w' := (Option.some.inj (ev'.symm.trans h2)).symm
  have hx : x.isRef = true := k2.2
  have := gotT (eq_R h1 h2 hx rfl) q
  rw [h1, this]
theorem eqN {args : Array Value} {s : State} {t : Term} {w : Addr} {C n d : String} (ev : t.eval args s none [] s = some (.ref w)) (q : (Jvm.Cond.eq (.field t C n d) .null).value args s none s [] = some true) : Fld s s.heap w C n d .null := by
  refine Fld.start ?_
  rw [← fld_at (args := args) (first := s) (o := none) (idx := []) ev]
  exact null_v q
theorem fldE {args : Array Value} {s : State} {t : Term} {w w' : Addr} {C n d : String} (ev : t.eval args s none [] s = some (.ref w)) (ev' : (Term.field t C n d).eval args s none [] s = some (.ref w')) : Fld s s.heap w C n d (.ref w') :=
  Fld.start ((fld_at (args := args) (first := s) (o := none) (idx := []) ev).symm.trans ev')
theorem t32_ne {a b : Int32} (h : a < b) : ¬ (a = b) := by rw [Int32.lt_iff_toInt_lt] at h; rw [← Int32.toInt_inj]; omega
theorem t32_as {a b : Int32} (h : a < b) : ¬ (b < a) := by rw [Int32.lt_iff_toInt_lt] at *; omega
theorem t32_ir {a b : Int32} (h : a = b) : ¬ (a < b) := by subst h; rw [Int32.lt_iff_toInt_lt]; omega
theorem t32_tot {a b : Int32} (h : ¬ (a < b)) (h2 : ¬ (a = b)) : b < a := by rw [Int32.lt_iff_toInt_lt] at *; rw [← Int32.toInt_inj] at h2; omega
theorem t32_eq {a b : Int32} (h : ¬ (a < b)) (h2 : ¬ (b < a)) : a = b := by rw [Int32.lt_iff_toInt_lt] at *; rw [← Int32.toInt_inj]; omega
theorem t64_ne {a b : Int64} (h : a < b) : ¬ (a = b) := by rw [Int64.lt_iff_toInt_lt] at h; rw [← Int64.toInt_inj]; omega
theorem t64_as {a b : Int64} (h : a < b) : ¬ (b < a) := by rw [Int64.lt_iff_toInt_lt] at *; omega
theorem t64_ir {a b : Int64} (h : a = b) : ¬ (a < b) := by subst h; rw [Int64.lt_iff_toInt_lt]; omega
theorem t64_tot {a b : Int64} (h : ¬ (a < b)) (h2 : ¬ (a = b)) : b < a := by rw [Int64.lt_iff_toInt_lt] at *; rw [← Int64.toInt_inj] at h2; omega
theorem t64_eq {a b : Int64} (h : ¬ (a < b)) (h2 : ¬ (b < a)) : a = b := by rw [Int64.lt_iff_toInt_lt] at *; rw [← Int64.toInt_inj]; omega

theorem wd0 : (Jvm.Cond.classLink "com/example/unfussy_repo/unfussyrepo/query/ResultOfOnePinLaw" (7 : Nat) "com/example/unfussy_repo/unfussyrepo/query/Result") ∈ tables_1 := List.mem_of_getElem? (i := 0) rfl
theorem wd1 : (Jvm.Cond.arrayOver (Jvm.ClassFile.FieldType.object "com/example/unfussy_repo/unfussyrepo/query/Result")) ∈ tables_1 := List.mem_of_getElem? (i := 1) rfl
theorem wd2 : (Jvm.Cond.fieldLink "com/example/unfussy_repo/unfussyrepo/query/ResultOfOnePinLaw" (9 : Nat) "com/example/unfussy_repo/unfussyrepo/query/Result" "ROWS" "Lcom/example/unfussy_repo/unfussyrepo/query/Result;") ∈ tables_1 := List.mem_of_getElem? (i := 2) rfl
theorem wd3 : (Jvm.Cond.initialized "com/example/unfussy_repo/unfussyrepo/query/Result") ∈ tables_1 := List.mem_of_getElem? (i := 3) rfl
theorem wd4 : (Jvm.Cond.laysStatic "com/example/unfussy_repo/unfussyrepo/query/Result" "ROWS" "Lcom/example/unfussy_repo/unfussyrepo/query/Result;") ∈ tables_1 := List.mem_of_getElem? (i := 4) rfl
theorem wd6 : (Jvm.Cond.fieldLink "com/example/unfussy_repo/unfussyrepo/query/ResultOfOnePinLaw" (13 : Nat) "com/example/unfussy_repo/unfussyrepo/query/Result" "ONE" "Lcom/example/unfussy_repo/unfussyrepo/query/Result;") ∈ tables_1 := List.mem_of_getElem? (i := 6) rfl
theorem wd7 : (Jvm.Cond.laysStatic "com/example/unfussy_repo/unfussyrepo/query/Result" "ONE" "Lcom/example/unfussy_repo/unfussyrepo/query/Result;") ∈ tables_1 := List.mem_of_getElem? (i := 7) rfl
theorem wd8 : (Jvm.Cond.fieldLink "com/example/unfussy_repo/unfussyrepo/query/ResultOfOnePinLaw" (16 : Nat) "com/example/unfussy_repo/unfussyrepo/query/Result" "OPTIONAL" "Lcom/example/unfussy_repo/unfussyrepo/query/Result;") ∈ tables_1 := List.mem_of_getElem? (i := 8) rfl
theorem wd9 : (Jvm.Cond.laysStatic "com/example/unfussy_repo/unfussyrepo/query/Result" "OPTIONAL" "Lcom/example/unfussy_repo/unfussyrepo/query/Result;") ∈ tables_1 := List.mem_of_getElem? (i := 9) rfl
theorem wd10 : (Jvm.Cond.fieldLink "com/example/unfussy_repo/unfussyrepo/query/ResultOfOnePinLaw" (19 : Nat) "com/example/unfussy_repo/unfussyrepo/query/Result" "PAGE" "Lcom/example/unfussy_repo/unfussyrepo/query/Result;") ∈ tables_1 := List.mem_of_getElem? (i := 10) rfl
theorem wd11 : (Jvm.Cond.laysStatic "com/example/unfussy_repo/unfussyrepo/query/Result" "PAGE" "Lcom/example/unfussy_repo/unfussyrepo/query/Result;") ∈ tables_1 := List.mem_of_getElem? (i := 11) rfl
theorem wd12 : (Jvm.Cond.fieldLink "com/example/unfussy_repo/unfussyrepo/query/ResultOfOnePinLaw" (22 : Nat) "com/example/unfussy_repo/unfussyrepo/query/Result" "SLICE" "Lcom/example/unfussy_repo/unfussyrepo/query/Result;") ∈ tables_1 := List.mem_of_getElem? (i := 12) rfl
theorem wd13 : (Jvm.Cond.laysStatic "com/example/unfussy_repo/unfussyrepo/query/Result" "SLICE" "Lcom/example/unfussy_repo/unfussyrepo/query/Result;") ∈ tables_1 := List.mem_of_getElem? (i := 13) rfl
theorem wd14 : (Jvm.Cond.fieldLink "com/example/unfussy_repo/unfussyrepo/query/ResultOfOnePinLaw" (25 : Nat) "com/example/unfussy_repo/unfussyrepo/query/Result" "COUNT" "Lcom/example/unfussy_repo/unfussyrepo/query/Result;") ∈ tables_1 := List.mem_of_getElem? (i := 14) rfl
theorem wd15 : (Jvm.Cond.laysStatic "com/example/unfussy_repo/unfussyrepo/query/Result" "COUNT" "Lcom/example/unfussy_repo/unfussyrepo/query/Result;") ∈ tables_1 := List.mem_of_getElem? (i := 15) rfl
theorem wd16 : (Jvm.Cond.fieldLink "com/example/unfussy_repo/unfussyrepo/query/ResultOfOnePinLaw" (28 : Nat) "com/example/unfussy_repo/unfussyrepo/query/Result" "INT_COUNT" "Lcom/example/unfussy_repo/unfussyrepo/query/Result;") ∈ tables_1 := List.mem_of_getElem? (i := 16) rfl
theorem wd17 : (Jvm.Cond.laysStatic "com/example/unfussy_repo/unfussyrepo/query/Result" "INT_COUNT" "Lcom/example/unfussy_repo/unfussyrepo/query/Result;") ∈ tables_1 := List.mem_of_getElem? (i := 17) rfl
theorem wd18 : (Jvm.Cond.fieldLink "com/example/unfussy_repo/unfussyrepo/query/ResultOfOnePinLaw" (31 : Nat) "com/example/unfussy_repo/unfussyrepo/query/Result" "EXISTS" "Lcom/example/unfussy_repo/unfussyrepo/query/Result;") ∈ tables_1 := List.mem_of_getElem? (i := 18) rfl
theorem wd19 : (Jvm.Cond.laysStatic "com/example/unfussy_repo/unfussyrepo/query/Result" "EXISTS" "Lcom/example/unfussy_repo/unfussyrepo/query/Result;") ∈ tables_1 := List.mem_of_getElem? (i := 19) rfl
theorem wd20 : (Jvm.Cond.fieldLink "com/example/unfussy_repo/unfussyrepo/query/ResultOfOnePinLaw" (34 : Nat) "com/example/unfussy_repo/unfussyrepo/query/Result" "DELETED_ROWS" "Lcom/example/unfussy_repo/unfussyrepo/query/Result;") ∈ tables_1 := List.mem_of_getElem? (i := 20) rfl
theorem wd21 : (Jvm.Cond.laysStatic "com/example/unfussy_repo/unfussyrepo/query/Result" "DELETED_ROWS" "Lcom/example/unfussy_repo/unfussyrepo/query/Result;") ∈ tables_1 := List.mem_of_getElem? (i := 21) rfl
theorem wd22 : (Jvm.Cond.fieldLink "com/example/unfussy_repo/unfussyrepo/query/ResultOfOnePinLaw" (37 : Nat) "com/example/unfussy_repo/unfussyrepo/query/Result" "CHANGED_COUNT" "Lcom/example/unfussy_repo/unfussyrepo/query/Result;") ∈ tables_1 := List.mem_of_getElem? (i := 22) rfl
theorem wd23 : (Jvm.Cond.laysStatic "com/example/unfussy_repo/unfussyrepo/query/Result" "CHANGED_COUNT" "Lcom/example/unfussy_repo/unfussyrepo/query/Result;") ∈ tables_1 := List.mem_of_getElem? (i := 23) rfl
theorem wd24 : (Jvm.Cond.fieldLink "com/example/unfussy_repo/unfussyrepo/query/ResultOfOnePinLaw" (40 : Nat) "com/example/unfussy_repo/unfussyrepo/query/Result" "CHANGED_INT_COUNT" "Lcom/example/unfussy_repo/unfussyrepo/query/Result;") ∈ tables_1 := List.mem_of_getElem? (i := 24) rfl
theorem wd25 : (Jvm.Cond.laysStatic "com/example/unfussy_repo/unfussyrepo/query/Result" "CHANGED_INT_COUNT" "Lcom/example/unfussy_repo/unfussyrepo/query/Result;") ∈ tables_1 := List.mem_of_getElem? (i := 25) rfl
theorem wd26 : (Jvm.Cond.fieldLink "com/example/unfussy_repo/unfussyrepo/query/ResultOfOnePinLaw" (43 : Nat) "com/example/unfussy_repo/unfussyrepo/query/Result" "CHANGED" "Lcom/example/unfussy_repo/unfussyrepo/query/Result;") ∈ tables_1 := List.mem_of_getElem? (i := 26) rfl
theorem wd27 : (Jvm.Cond.laysStatic "com/example/unfussy_repo/unfussyrepo/query/Result" "CHANGED" "Lcom/example/unfussy_repo/unfussyrepo/query/Result;") ∈ tables_1 := List.mem_of_getElem? (i := 27) rfl
theorem wd28 : (Jvm.Cond.constant "com/example/unfussy_repo/unfussyrepo/query/ResultOfOnePinLaw" (46 : Nat) (2147483647 : Int32)) ∈ tables_1 := List.mem_of_getElem? (i := 28) rfl
theorem wd29 : (Jvm.Cond.methodLink "com/example/unfussy_repo/unfussyrepo/query/ResultOfOnePinLaw" (47 : Nat) ({ cls := "com/example/unfussy_repo/unfussyrepo/query/Result", name := "ofOne", desc := "()Z" } : Jvm.MethodName)) ∈ tables_1 := List.mem_of_getElem? (i := 29) rfl
theorem wd30 : (Jvm.Cond.declares ({ cls := "com/example/unfussy_repo/unfussyrepo/query/Result", name := "ofOne", desc := "()Z" } : Jvm.MethodName)) ∈ tables_1 := List.mem_of_getElem? (i := 30) rfl
theorem wd31 : (Jvm.Cond.instanceMethod ({ cls := "com/example/unfussy_repo/unfussyrepo/query/Result", name := "ofOne", desc := "()Z" } : Jvm.MethodName)) ∈ tables_1 := List.mem_of_getElem? (i := 31) rfl
theorem wd32 : (Jvm.Cond.selects "com/example/unfussy_repo/unfussyrepo/query/Result" ({ cls := "com/example/unfussy_repo/unfussyrepo/query/Result", name := "ofOne", desc := "()Z" } : Jvm.MethodName) ({ cls := "com/example/unfussy_repo/unfussyrepo/query/Result", name := "ofOne", desc := "()Z" } : Jvm.MethodName)) ∈ tables_1 := List.mem_of_getElem? (i := 32) rfl
theorem wd33 : (Jvm.Cond.code ({ cls := "com/example/unfussy_repo/unfussyrepo/query/Result", name := "ofOne", desc := "()Z" } : Jvm.MethodName) prog_55_method_6_code (1 : Nat) (Option.some Jvm.ClassFile.FieldType.boolean)) ∈ tables_1 := List.mem_of_getElem? (i := 33) rfl
theorem wd34 : (Jvm.Cond.fieldLink "com/example/unfussy_repo/unfussyrepo/query/Result" (7 : Nat) "com/example/unfussy_repo/unfussyrepo/query/Result" "ONE" "Lcom/example/unfussy_repo/unfussyrepo/query/Result;") ∈ tables_1 := List.mem_of_getElem? (i := 34) rfl
theorem wd35 : (Jvm.Cond.fieldLink "com/example/unfussy_repo/unfussyrepo/query/Result" (10 : Nat) "com/example/unfussy_repo/unfussyrepo/query/Result" "OPTIONAL" "Lcom/example/unfussy_repo/unfussyrepo/query/Result;") ∈ tables_1 := List.mem_of_getElem? (i := 35) rfl
theorem d1_0 : decode prog_55_method_6_code 0 = .ok (.aload_n 0, 1) := by decide +kernel
theorem d1_1 : decode prog_55_method_6_code 1 = .ok (.getstatic 7, 3) := by decide +kernel
theorem d1_4 : decode prog_55_method_6_code 4 = .ok (.if_acmp .eq 10, 3) := by decide +kernel
theorem d1_7 : decode prog_55_method_6_code 7 = .ok (.aload_n 0, 1) := by decide +kernel
theorem d1_8 : decode prog_55_method_6_code 8 = .ok (.getstatic 10, 3) := by decide +kernel
theorem d1_11 : decode prog_55_method_6_code 11 = .ok (.if_acmp .ne 7, 3) := by decide +kernel
theorem d1_14 : decode prog_55_method_6_code 14 = .ok (.iconst 1, 1) := by decide +kernel
theorem d1_15 : decode prog_55_method_6_code 15 = .ok (.goto 4, 3) := by decide +kernel
theorem d1_18 : decode prog_55_method_6_code 18 = .ok (.iconst 0, 1) := by decide +kernel
theorem d1_19 : decode prog_55_method_6_code 19 = .ok (.ireturn, 1) := by decide +kernel
theorem pd0 : parseMethodDescriptor "()Z" = some ⟨[], some .boolean⟩ := by decide +kernel
theorem pn0 : plainName "com/example/unfussy_repo/unfussyrepo/query/ResultOfOnePinLaw" = true := by first | (simp [plainName, overriddenIn]; done) | decide +kernel
theorem pn1 : plainName "com/example/unfussy_repo/unfussyrepo/query/Result" = true := by first | (simp [plainName, overriddenIn]; done) | decide +kernel
def World (Z : State) (w_Result_ROWS w_Result_ONE w_Result_OPTIONAL w_Result_PAGE w_Result_SLICE w_Result_COUNT w_Result_INT_COUNT w_Result_EXISTS w_Result_DELETED_ROWS w_Result_CHANGED_COUNT w_Result_CHANGED_INT_COUNT w_Result_CHANGED : Addr) : Prop :=
  Sta Z Z.heap "com/example/unfussy_repo/unfussyrepo/query/Result" "ROWS" "Lcom/example/unfussy_repo/unfussyrepo/query/Result;" (.ref w_Result_ROWS) ∧
  Exa Z Z.heap w_Result_ROWS "com/example/unfussy_repo/unfussyrepo/query/Result" ∧
  Sta Z Z.heap "com/example/unfussy_repo/unfussyrepo/query/Result" "ONE" "Lcom/example/unfussy_repo/unfussyrepo/query/Result;" (.ref w_Result_ONE) ∧
  Exa Z Z.heap w_Result_ONE "com/example/unfussy_repo/unfussyrepo/query/Result" ∧
  Sta Z Z.heap "com/example/unfussy_repo/unfussyrepo/query/Result" "OPTIONAL" "Lcom/example/unfussy_repo/unfussyrepo/query/Result;" (.ref w_Result_OPTIONAL) ∧
  Exa Z Z.heap w_Result_OPTIONAL "com/example/unfussy_repo/unfussyrepo/query/Result" ∧
  Sta Z Z.heap "com/example/unfussy_repo/unfussyrepo/query/Result" "PAGE" "Lcom/example/unfussy_repo/unfussyrepo/query/Result;" (.ref w_Result_PAGE) ∧
  Exa Z Z.heap w_Result_PAGE "com/example/unfussy_repo/unfussyrepo/query/Result" ∧
  Sta Z Z.heap "com/example/unfussy_repo/unfussyrepo/query/Result" "SLICE" "Lcom/example/unfussy_repo/unfussyrepo/query/Result;" (.ref w_Result_SLICE) ∧
  Exa Z Z.heap w_Result_SLICE "com/example/unfussy_repo/unfussyrepo/query/Result" ∧
  Sta Z Z.heap "com/example/unfussy_repo/unfussyrepo/query/Result" "COUNT" "Lcom/example/unfussy_repo/unfussyrepo/query/Result;" (.ref w_Result_COUNT) ∧
  Exa Z Z.heap w_Result_COUNT "com/example/unfussy_repo/unfussyrepo/query/Result" ∧
  Sta Z Z.heap "com/example/unfussy_repo/unfussyrepo/query/Result" "INT_COUNT" "Lcom/example/unfussy_repo/unfussyrepo/query/Result;" (.ref w_Result_INT_COUNT) ∧
  Exa Z Z.heap w_Result_INT_COUNT "com/example/unfussy_repo/unfussyrepo/query/Result" ∧
  Sta Z Z.heap "com/example/unfussy_repo/unfussyrepo/query/Result" "EXISTS" "Lcom/example/unfussy_repo/unfussyrepo/query/Result;" (.ref w_Result_EXISTS) ∧
  Exa Z Z.heap w_Result_EXISTS "com/example/unfussy_repo/unfussyrepo/query/Result" ∧
  Sta Z Z.heap "com/example/unfussy_repo/unfussyrepo/query/Result" "DELETED_ROWS" "Lcom/example/unfussy_repo/unfussyrepo/query/Result;" (.ref w_Result_DELETED_ROWS) ∧
  Exa Z Z.heap w_Result_DELETED_ROWS "com/example/unfussy_repo/unfussyrepo/query/Result" ∧
  Sta Z Z.heap "com/example/unfussy_repo/unfussyrepo/query/Result" "CHANGED_COUNT" "Lcom/example/unfussy_repo/unfussyrepo/query/Result;" (.ref w_Result_CHANGED_COUNT) ∧
  Exa Z Z.heap w_Result_CHANGED_COUNT "com/example/unfussy_repo/unfussyrepo/query/Result" ∧
  Sta Z Z.heap "com/example/unfussy_repo/unfussyrepo/query/Result" "CHANGED_INT_COUNT" "Lcom/example/unfussy_repo/unfussyrepo/query/Result;" (.ref w_Result_CHANGED_INT_COUNT) ∧
  Exa Z Z.heap w_Result_CHANGED_INT_COUNT "com/example/unfussy_repo/unfussyrepo/query/Result" ∧
  Sta Z Z.heap "com/example/unfussy_repo/unfussyrepo/query/Result" "CHANGED" "Lcom/example/unfussy_repo/unfussyrepo/query/Result;" (.ref w_Result_CHANGED) ∧
  Exa Z Z.heap w_Result_CHANGED "com/example/unfussy_repo/unfussyrepo/query/Result" ∧
  Fld Z Z.heap w_Result_ROWS "java/lang/Enum" "ordinal" "I" (.int 0) ∧
  Fld Z Z.heap w_Result_ONE "java/lang/Enum" "ordinal" "I" (.int 1) ∧
  Fld Z Z.heap w_Result_OPTIONAL "java/lang/Enum" "ordinal" "I" (.int 2) ∧
  Fld Z Z.heap w_Result_PAGE "java/lang/Enum" "ordinal" "I" (.int 3) ∧
  Fld Z Z.heap w_Result_EXISTS "java/lang/Enum" "ordinal" "I" (.int 7) ∧
  Fld Z Z.heap w_Result_CHANGED "java/lang/Enum" "ordinal" "I" (.int 11) ∧
  Fld Z Z.heap w_Result_SLICE "java/lang/Enum" "ordinal" "I" (.int 4) ∧
  Fld Z Z.heap w_Result_DELETED_ROWS "java/lang/Enum" "ordinal" "I" (.int 8) ∧
  Fld Z Z.heap w_Result_CHANGED_INT_COUNT "java/lang/Enum" "ordinal" "I" (.int 10) ∧
  Fld Z Z.heap w_Result_CHANGED_COUNT "java/lang/Enum" "ordinal" "I" (.int 9) ∧
  Fld Z Z.heap w_Result_INT_COUNT "java/lang/Enum" "ordinal" "I" (.int 6) ∧
  Fld Z Z.heap w_Result_COUNT "java/lang/Enum" "ordinal" "I" (.int 5)
abbrev Bg (Z : State) (a0 : Array Value) (w_Result_ROWS w_Result_ONE w_Result_OPTIONAL w_Result_PAGE w_Result_SLICE w_Result_COUNT w_Result_INT_COUNT w_Result_EXISTS w_Result_DELETED_ROWS w_Result_CHANGED_COUNT w_Result_CHANGED_INT_COUNT w_Result_CHANGED : Addr) : Prop := (∀ d ∈ tables_1, d.before a0 Z = true) ∧ World Z w_Result_ROWS w_Result_ONE w_Result_OPTIONAL w_Result_PAGE w_Result_SLICE w_Result_COUNT w_Result_INT_COUNT w_Result_EXISTS w_Result_DELETED_ROWS w_Result_CHANGED_COUNT w_Result_CHANGED_INT_COUNT w_Result_CHANGED
abbrev yM1 : MethodName := ⟨"com/example/unfussy_repo/unfussyrepo/query/Result", "ofOne", "()Z"⟩
theorem extT {a b c : Heap} (x : Ext a b) (y : Ext b c) : Ext a c := ⟨Nat.le_trans x.1 y.1, fun q r s => y.2 q r (x.2 q r s)⟩
theorem extR (a : Heap) : Ext a a := ⟨Nat.le_refl _, fun _ _ q => q⟩
theorem extK {h0 h h' : Heap} {ws : List Addr} (O : Ext h0 h) (K : Keep h h' ws) (q : ∀ x ∈ ws, h0.size ≤ x) : Ext h0 h' := ⟨Nat.le_trans O.1 K.1, fun x c r => K.2.1 x c (O.2 x c r) fun z => absurd (Array.getElem?_eq_some_iff.mp r).1 (Nat.not_lt.mpr (q x z))⟩
theorem extW {h0 h h' : Heap} {a : Addr} {sl : Nat} {v : Value} (O : Ext h0 h) (W : Wr h h' a sl v) (q : h0.size ≤ a) : Ext h0 h' := extK O (Keep.of_wr W) (allS q all0)
theorem leW {h0 h h' : Heap} {a : Addr} {sl : Nat} {v : Value} (q : h0.size ≤ h.size) (W : Wr h h' a sl v) : h0.size ≤ h'.size := by rw [W.size]; exact q
theorem neB {a b : Addr} {h : Heap} (x : a < h.size) (y : h.size ≤ b) : a ≠ b := Nat.ne_of_lt (Nat.lt_of_lt_of_le x y)

theorem stoV {Z : State} {h : Heap} {a y : Addr} {k : ClassId} {ty : FieldType} {n : Int32} {vs : List Value} {d : Value} {C : String} (A : Arv Z h a k ty n vs d) (O : Ovr Z k C) (I : Ins Z h y C true) : Sto Z h a (.ref y) := by
  obtain ⟨c, Ar, q, -⟩ := A
  exact Sto.ofV Ar q O I

theorem mod_cases (k : Int32) : ((k &&& (2147483647 : Int32)) % (12 : Int32)) = (0 : Int32) ∨ ((k &&& (2147483647 : Int32)) % (12 : Int32)) = (1 : Int32) ∨ ((k &&& (2147483647 : Int32)) % (12 : Int32)) = (2 : Int32) ∨ ((k &&& (2147483647 : Int32)) % (12 : Int32)) = (3 : Int32) ∨ ((k &&& (2147483647 : Int32)) % (12 : Int32)) = (4 : Int32) ∨ ((k &&& (2147483647 : Int32)) % (12 : Int32)) = (5 : Int32) ∨ ((k &&& (2147483647 : Int32)) % (12 : Int32)) = (6 : Int32) ∨ ((k &&& (2147483647 : Int32)) % (12 : Int32)) = (7 : Int32) ∨ ((k &&& (2147483647 : Int32)) % (12 : Int32)) = (8 : Int32) ∨ ((k &&& (2147483647 : Int32)) % (12 : Int32)) = (9 : Int32) ∨ ((k &&& (2147483647 : Int32)) % (12 : Int32)) = (10 : Int32) ∨ ((k &&& (2147483647 : Int32)) % (12 : Int32)) = (11 : Int32) := by
  have h1 := c_mask k (2147483647 : Int32) 31 (by decide) (by decide)
  have h2 := (c_irem (k &&& (2147483647 : Int32)) (12 : Int32) 12 (by decide)).1 (by omega)
  simp only [← Int32.toInt_inj]
  have e : ∀ i : Fin 12, (Int32.ofNat i.1).toInt = (i.1 : Int) := by decide
  have e0 : (0 : Int32).toInt = 0 := by decide
  have e1 : (1 : Int32).toInt = 1 := by decide
  have e2 : (2 : Int32).toInt = 2 := by decide
  have e3 : (3 : Int32).toInt = 3 := by decide
  have e4 : (4 : Int32).toInt = 4 := by decide
  have e5 : (5 : Int32).toInt = 5 := by decide
  have e6 : (6 : Int32).toInt = 6 := by decide
  have e7 : (7 : Int32).toInt = 7 := by decide
  have e8 : (8 : Int32).toInt = 8 := by decide
  have e9 : (9 : Int32).toInt = 9 := by decide
  have e10 : (10 : Int32).toInt = 10 := by decide
  have e11 : (11 : Int32).toInt = 11 := by decide
  omega
section Walk
variable {l : Launch} {Z : State} {a0 : Array Value} {w_Result_ROWS w_Result_ONE w_Result_OPTIONAL w_Result_PAGE w_Result_SLICE w_Result_COUNT w_Result_INT_COUNT w_Result_EXISTS w_Result_DELETED_ROWS w_Result_CHANGED_COUNT w_Result_CHANGED_INT_COUNT w_Result_CHANGED : Addr}
theorem rm29_1 (B : Bg Z a0 w_Result_ROWS w_Result_ONE w_Result_OPTIONAL w_Result_PAGE w_Result_SLICE w_Result_COUNT w_Result_INT_COUNT w_Result_EXISTS w_Result_DELETED_ROWS w_Result_CHANGED_COUNT w_Result_CHANGED_INT_COUNT w_Result_CHANGED) (h : Heap) (O : Ext Z.heap h) :
    Con l Z yM1 prog_55_method_6_code 1 (some .boolean) ({ frames := 0, cells := 0, slots := 0, locals := 0 } : Room) #[(.ref w_Result_ROWS)] h (fun v h' L => v = some (.int 0) ∧ h' = h ∧ L = []) := by
  have hw := B.1
  obtain ⟨S_w_Result_ROWS, E_w_Result_ROWS, S_w_Result_ONE, E_w_Result_ONE, S_w_Result_OPTIONAL, E_w_Result_OPTIONAL, S_w_Result_PAGE, E_w_Result_PAGE, S_w_Result_SLICE, E_w_Result_SLICE, S_w_Result_COUNT, E_w_Result_COUNT, S_w_Result_INT_COUNT, E_w_Result_INT_COUNT, S_w_Result_EXISTS, E_w_Result_EXISTS, S_w_Result_DELETED_ROWS, E_w_Result_DELETED_ROWS, S_w_Result_CHANGED_COUNT, E_w_Result_CHANGED_COUNT, S_w_Result_CHANGED_INT_COUNT, E_w_Result_CHANGED_INT_COUNT, S_w_Result_CHANGED, E_w_Result_CHANGED, F_w_Result_ROWS_ordinal, F_w_Result_ONE_ordinal, F_w_Result_OPTIONAL_ordinal, F_w_Result_PAGE_ordinal, F_w_Result_EXISTS_ordinal, F_w_Result_CHANGED_ordinal, F_w_Result_SLICE_ordinal, F_w_Result_DELETED_ROWS_ordinal, F_w_Result_CHANGED_INT_COUNT_ordinal, F_w_Result_CHANGED_COUNT_ordinal, F_w_Result_INT_COUNT_ordinal, F_w_Result_COUNT_ordinal⟩ := B.2
  refine Con.of (plainFor_of_name pn1) (Ls := #[vR w_Result_ROWS]) (fun m => by first | rfl | (simp [entryFrame, mkF, argsToLocals, Value.category]; done)) ?_
  intro p e s m below meth c T0 X0 H hml hZ hown hnm hret hlk e0
  refine gAloadN X0 H d1_0 rfl rfl 1 rfl ?_
  refine gGetS X0 H hZ hown (hw _ wd34) e0 (S_w_Result_ONE.ext O) d1_1 4 rfl ?_
  intro T27 X27 e27
  refine gAcmp X27 H d1_4 rfl rfl (same := false) (decide_eq_false fun q => (Fld.ne F_w_Result_ROWS_ordinal F_w_Result_ONE_ordinal (by decide)) (Value.ref.inj q)) (by decide) 7 (by decide) ?_
  refine gAloadN X27 H d1_7 rfl rfl 8 rfl ?_
  refine gGetS X27 H hZ hown (hw _ wd35) e27 (S_w_Result_OPTIONAL.ext O) d1_8 11 rfl ?_
  intro T28 X28 e28
  refine gAcmp X28 H d1_11 rfl rfl (same := false) (decide_eq_false fun q => (Fld.ne F_w_Result_ROWS_ordinal F_w_Result_OPTIONAL_ordinal (by decide)) (Value.ref.inj q)) (by decide) 18 (by decide) ?_
  refine gIconst X28 H d1_18 (z := 0) rfl 19 rfl ?_
  exact gRetN X28 H hlk hret (t := .boolean) (by simp) d1_19 e28 ⟨rfl, rfl, rfl⟩
theorem lawAll_0 (B : Bg Z a0 w_Result_ROWS w_Result_ONE w_Result_OPTIONAL w_Result_PAGE w_Result_SLICE w_Result_COUNT w_Result_INT_COUNT w_Result_EXISTS w_Result_DELETED_ROWS w_Result_CHANGED_COUNT w_Result_CHANGED_INT_COUNT w_Result_CHANGED) (p0 : Int32) (ha0 : ((p0 &&& (2147483647 : Int32)) % (12 : Int32)) = (0 : Int32)) :
    Con l Z x code maxLocals ret room_1 #[(.int p0)] Z.heap (fun v h' L => v = some (.int 1) ∧ Fr Z.heap.size L) := by
  have hw := B.1
  obtain ⟨S_w_Result_ROWS, E_w_Result_ROWS, S_w_Result_ONE, E_w_Result_ONE, S_w_Result_OPTIONAL, E_w_Result_OPTIONAL, S_w_Result_PAGE, E_w_Result_PAGE, S_w_Result_SLICE, E_w_Result_SLICE, S_w_Result_COUNT, E_w_Result_COUNT, S_w_Result_INT_COUNT, E_w_Result_INT_COUNT, S_w_Result_EXISTS, E_w_Result_EXISTS, S_w_Result_DELETED_ROWS, E_w_Result_DELETED_ROWS, S_w_Result_CHANGED_COUNT, E_w_Result_CHANGED_COUNT, S_w_Result_CHANGED_INT_COUNT, E_w_Result_CHANGED_INT_COUNT, S_w_Result_CHANGED, E_w_Result_CHANGED, F_w_Result_ROWS_ordinal, F_w_Result_ONE_ordinal, F_w_Result_OPTIONAL_ordinal, F_w_Result_PAGE_ordinal, F_w_Result_EXISTS_ordinal, F_w_Result_CHANGED_ordinal, F_w_Result_SLICE_ordinal, F_w_Result_DELETED_ROWS_ordinal, F_w_Result_CHANGED_INT_COUNT_ordinal, F_w_Result_CHANGED_COUNT_ordinal, F_w_Result_INT_COUNT_ordinal, F_w_Result_COUNT_ordinal⟩ := B.2
  refine Con.of (plainFor_of_name pn0) (Ls := #[vI p0, .unset, .unset, .unset, .unset]) (fun m => by first | rfl | (simp [entryFrame, mkF, argsToLocals, Value.category, maxLocals]; done)) ?_
  intro p e s m below meth c T0 X0 H hml hZ hown hnm hret hlk e0
  have O0 := extR Z.heap
  have M0 := Nat.le_refl Z.heap.size
  have N0 := Fr.nil Z.heap.size
  refine gBipush X0 H at_0 (z := 12) rfl 2 rfl ?_
  refine gNewR X0 H hZ hown (hw _ wd0) (hw _ wd1) e0 (by decide) (cap := 12) (by decide) (by decide) (vs := [.null, .null, .null, .null, .null, .null, .null, .null, .null, .null, .null, .null]) rfl (by decide) (by decide) at_2 5 rfl ?_
  intro T1 h1 b1 k1 X1 e1 z1 E1 V1 Q1
  have G_b1 := Nat.le_trans O0.1 (Nat.le_of_eq z1)
  have sz_b1 := Nat.le_trans M0 (Nat.le_of_eq z1)
  have O1 := extT O0 E1
  refine gDup X1 H at_5 rfl 6 rfl ?_
  refine gIconst X1 H at_6 (z := 0) rfl 7 rfl ?_
  refine gGetS X1 H hZ hown (hw _ wd2) e1 (S_w_Result_ROWS.ext O1) at_7 10 rfl ?_
  intro T2 X2 e2
  refine gAastore X2 H hZ e2 rfl (stoV V1 Q1 (Ins.self (E_w_Result_ROWS.ext O1))) V1 ⟨by decide, by decide⟩ (i := 0) rfl (Nat.le_of_ble_eq_true rfl) (vs' := [(.ref w_Result_ROWS), .null, .null, .null, .null, .null, .null, .null, .null, .null, .null, .null]) rfl at_10 11 rfl ?_
  intro T3 h3 X3 e3 W3 V3
  have O3 := extW O1 W3 G_b1
  have N3 := Fr.snoc X3 N0 G_b1
  refine gDup X3 H at_11 rfl 12 rfl ?_
  refine gIconst X3 H at_12 (z := 1) rfl 13 rfl ?_
  refine gGetS X3 H hZ hown (hw _ wd6) e3 (S_w_Result_ONE.ext O3) at_13 16 rfl ?_
  intro T4 X4 e4
  refine gAastore X4 H hZ e4 rfl (stoV V3 Q1 (Ins.self (E_w_Result_ONE.ext O3))) V3 ⟨by decide, by decide⟩ (i := 1) rfl (Nat.le_of_ble_eq_true rfl) (vs' := [(.ref w_Result_ROWS), (.ref w_Result_ONE), .null, .null, .null, .null, .null, .null, .null, .null, .null, .null]) rfl at_16 17 rfl ?_
  intro T5 h5 X5 e5 W5 V5
  have O5 := extW O3 W5 G_b1
  have N5 := Fr.snoc X5 N3 G_b1
  refine gDup X5 H at_17 rfl 18 rfl ?_
  refine gIconst X5 H at_18 (z := 2) rfl 19 rfl ?_
  refine gGetS X5 H hZ hown (hw _ wd8) e5 (S_w_Result_OPTIONAL.ext O5) at_19 22 rfl ?_
  intro T6 X6 e6
  refine gAastore X6 H hZ e6 rfl (stoV V5 Q1 (Ins.self (E_w_Result_OPTIONAL.ext O5))) V5 ⟨by decide, by decide⟩ (i := 2) rfl (Nat.le_of_ble_eq_true rfl) (vs' := [(.ref w_Result_ROWS), (.ref w_Result_ONE), (.ref w_Result_OPTIONAL), .null, .null, .null, .null, .null, .null, .null, .null, .null]) rfl at_22 23 rfl ?_
  intro T7 h7 X7 e7 W7 V7
  have O7 := extW O5 W7 G_b1
  have N7 := Fr.snoc X7 N5 G_b1
  refine gDup X7 H at_23 rfl 24 rfl ?_
  refine gIconst X7 H at_24 (z := 3) rfl 25 rfl ?_
  refine gGetS X7 H hZ hown (hw _ wd10) e7 (S_w_Result_PAGE.ext O7) at_25 28 rfl ?_
  intro T8 X8 e8
  refine gAastore X8 H hZ e8 rfl (stoV V7 Q1 (Ins.self (E_w_Result_PAGE.ext O7))) V7 ⟨by decide, by decide⟩ (i := 3) rfl (Nat.le_of_ble_eq_true rfl) (vs' := [(.ref w_Result_ROWS), (.ref w_Result_ONE), (.ref w_Result_OPTIONAL), (.ref w_Result_PAGE), .null, .null, .null, .null, .null, .null, .null, .null]) rfl at_28 29 rfl ?_
  intro T9 h9 X9 e9 W9 V9
  have O9 := extW O7 W9 G_b1
  have N9 := Fr.snoc X9 N7 G_b1
  refine gDup X9 H at_29 rfl 30 rfl ?_
  refine gIconst X9 H at_30 (z := 4) rfl 31 rfl ?_
  refine gGetS X9 H hZ hown (hw _ wd12) e9 (S_w_Result_SLICE.ext O9) at_31 34 rfl ?_
  intro T10 X10 e10
  refine gAastore X10 H hZ e10 rfl (stoV V9 Q1 (Ins.self (E_w_Result_SLICE.ext O9))) V9 ⟨by decide, by decide⟩ (i := 4) rfl (Nat.le_of_ble_eq_true rfl) (vs' := [(.ref w_Result_ROWS), (.ref w_Result_ONE), (.ref w_Result_OPTIONAL), (.ref w_Result_PAGE), (.ref w_Result_SLICE), .null, .null, .null, .null, .null, .null, .null]) rfl at_34 35 rfl ?_
  intro T11 h11 X11 e11 W11 V11
  have O11 := extW O9 W11 G_b1
  have N11 := Fr.snoc X11 N9 G_b1
  refine gDup X11 H at_35 rfl 36 rfl ?_
  refine gIconst X11 H at_36 (z := 5) rfl 37 rfl ?_
  refine gGetS X11 H hZ hown (hw _ wd14) e11 (S_w_Result_COUNT.ext O11) at_37 40 rfl ?_
  intro T12 X12 e12
  refine gAastore X12 H hZ e12 rfl (stoV V11 Q1 (Ins.self (E_w_Result_COUNT.ext O11))) V11 ⟨by decide, by decide⟩ (i := 5) rfl (Nat.le_of_ble_eq_true rfl) (vs' := [(.ref w_Result_ROWS), (.ref w_Result_ONE), (.ref w_Result_OPTIONAL), (.ref w_Result_PAGE), (.ref w_Result_SLICE), (.ref w_Result_COUNT), .null, .null, .null, .null, .null, .null]) rfl at_40 41 rfl ?_
  intro T13 h13 X13 e13 W13 V13
  have O13 := extW O11 W13 G_b1
  have N13 := Fr.snoc X13 N11 G_b1
  refine gDup X13 H at_41 rfl 42 rfl ?_
  refine gBipush X13 H at_42 (z := 6) rfl 44 rfl ?_
  refine gGetS X13 H hZ hown (hw _ wd16) e13 (S_w_Result_INT_COUNT.ext O13) at_44 47 rfl ?_
  intro T14 X14 e14
  refine gAastore X14 H hZ e14 rfl (stoV V13 Q1 (Ins.self (E_w_Result_INT_COUNT.ext O13))) V13 ⟨by decide, by decide⟩ (i := 6) rfl (Nat.le_of_ble_eq_true rfl) (vs' := [(.ref w_Result_ROWS), (.ref w_Result_ONE), (.ref w_Result_OPTIONAL), (.ref w_Result_PAGE), (.ref w_Result_SLICE), (.ref w_Result_COUNT), (.ref w_Result_INT_COUNT), .null, .null, .null, .null, .null]) rfl at_47 48 rfl ?_
  intro T15 h15 X15 e15 W15 V15
  have O15 := extW O13 W15 G_b1
  have N15 := Fr.snoc X15 N13 G_b1
  refine gDup X15 H at_48 rfl 49 rfl ?_
  refine gBipush X15 H at_49 (z := 7) rfl 51 rfl ?_
  refine gGetS X15 H hZ hown (hw _ wd18) e15 (S_w_Result_EXISTS.ext O15) at_51 54 rfl ?_
  intro T16 X16 e16
  refine gAastore X16 H hZ e16 rfl (stoV V15 Q1 (Ins.self (E_w_Result_EXISTS.ext O15))) V15 ⟨by decide, by decide⟩ (i := 7) rfl (Nat.le_of_ble_eq_true rfl) (vs' := [(.ref w_Result_ROWS), (.ref w_Result_ONE), (.ref w_Result_OPTIONAL), (.ref w_Result_PAGE), (.ref w_Result_SLICE), (.ref w_Result_COUNT), (.ref w_Result_INT_COUNT), (.ref w_Result_EXISTS), .null, .null, .null, .null]) rfl at_54 55 rfl ?_
  intro T17 h17 X17 e17 W17 V17
  have O17 := extW O15 W17 G_b1
  have N17 := Fr.snoc X17 N15 G_b1
  refine gDup X17 H at_55 rfl 56 rfl ?_
  refine gBipush X17 H at_56 (z := 8) rfl 58 rfl ?_
  refine gGetS X17 H hZ hown (hw _ wd20) e17 (S_w_Result_DELETED_ROWS.ext O17) at_58 61 rfl ?_
  intro T18 X18 e18
  refine gAastore X18 H hZ e18 rfl (stoV V17 Q1 (Ins.self (E_w_Result_DELETED_ROWS.ext O17))) V17 ⟨by decide, by decide⟩ (i := 8) rfl (Nat.le_of_ble_eq_true rfl) (vs' := [(.ref w_Result_ROWS), (.ref w_Result_ONE), (.ref w_Result_OPTIONAL), (.ref w_Result_PAGE), (.ref w_Result_SLICE), (.ref w_Result_COUNT), (.ref w_Result_INT_COUNT), (.ref w_Result_EXISTS), (.ref w_Result_DELETED_ROWS), .null, .null, .null]) rfl at_61 62 rfl ?_
  intro T19 h19 X19 e19 W19 V19
  have O19 := extW O17 W19 G_b1
  have N19 := Fr.snoc X19 N17 G_b1
  refine gDup X19 H at_62 rfl 63 rfl ?_
  refine gBipush X19 H at_63 (z := 9) rfl 65 rfl ?_
  refine gGetS X19 H hZ hown (hw _ wd22) e19 (S_w_Result_CHANGED_COUNT.ext O19) at_65 68 rfl ?_
  intro T20 X20 e20
  refine gAastore X20 H hZ e20 rfl (stoV V19 Q1 (Ins.self (E_w_Result_CHANGED_COUNT.ext O19))) V19 ⟨by decide, by decide⟩ (i := 9) rfl (Nat.le_of_ble_eq_true rfl) (vs' := [(.ref w_Result_ROWS), (.ref w_Result_ONE), (.ref w_Result_OPTIONAL), (.ref w_Result_PAGE), (.ref w_Result_SLICE), (.ref w_Result_COUNT), (.ref w_Result_INT_COUNT), (.ref w_Result_EXISTS), (.ref w_Result_DELETED_ROWS), (.ref w_Result_CHANGED_COUNT), .null, .null]) rfl at_68 69 rfl ?_
  intro T21 h21 X21 e21 W21 V21
  have O21 := extW O19 W21 G_b1
  have N21 := Fr.snoc X21 N19 G_b1
  refine gDup X21 H at_69 rfl 70 rfl ?_
  refine gBipush X21 H at_70 (z := 10) rfl 72 rfl ?_
  refine gGetS X21 H hZ hown (hw _ wd24) e21 (S_w_Result_CHANGED_INT_COUNT.ext O21) at_72 75 rfl ?_
  intro T22 X22 e22
  refine gAastore X22 H hZ e22 rfl (stoV V21 Q1 (Ins.self (E_w_Result_CHANGED_INT_COUNT.ext O21))) V21 ⟨by decide, by decide⟩ (i := 10) rfl (Nat.le_of_ble_eq_true rfl) (vs' := [(.ref w_Result_ROWS), (.ref w_Result_ONE), (.ref w_Result_OPTIONAL), (.ref w_Result_PAGE), (.ref w_Result_SLICE), (.ref w_Result_COUNT), (.ref w_Result_INT_COUNT), (.ref w_Result_EXISTS), (.ref w_Result_DELETED_ROWS), (.ref w_Result_CHANGED_COUNT), (.ref w_Result_CHANGED_INT_COUNT), .null]) rfl at_75 76 rfl ?_
  intro T23 h23 X23 e23 W23 V23
  have O23 := extW O21 W23 G_b1
  have N23 := Fr.snoc X23 N21 G_b1
  refine gDup X23 H at_76 rfl 77 rfl ?_
  refine gBipush X23 H at_77 (z := 11) rfl 79 rfl ?_
  refine gGetS X23 H hZ hown (hw _ wd26) e23 (S_w_Result_CHANGED.ext O23) at_79 82 rfl ?_
  intro T24 X24 e24
  refine gAastore X24 H hZ e24 rfl (stoV V23 Q1 (Ins.self (E_w_Result_CHANGED.ext O23))) V23 ⟨by decide, by decide⟩ (i := 11) rfl (Nat.le_of_ble_eq_true rfl) (vs' := [(.ref w_Result_ROWS), (.ref w_Result_ONE), (.ref w_Result_OPTIONAL), (.ref w_Result_PAGE), (.ref w_Result_SLICE), (.ref w_Result_COUNT), (.ref w_Result_INT_COUNT), (.ref w_Result_EXISTS), (.ref w_Result_DELETED_ROWS), (.ref w_Result_CHANGED_COUNT), (.ref w_Result_CHANGED_INT_COUNT), (.ref w_Result_CHANGED)]) rfl at_82 83 rfl ?_
  intro T25 h25 X25 e25 W25 V25
  have O25 := extW O23 W25 G_b1
  have N25 := Fr.snoc X25 N23 G_b1
  refine gAstoreN X25 H at_83 rfl (Ls' := #[vI p0, vR b1, .unset, .unset, .unset]) rfl 84 rfl ?_
  refine gIloadN X25 H at_84 rfl 85 rfl ?_
  refine gLdc X25 H hZ hown (hw _ wd28) at_85 87 rfl ?_
  refine g_iand X25 H at_87 (z := (p0 &&& (2147483647 : Int32))) rfl 88 rfl ?_
  refine gBipush X25 H at_88 (z := 12) rfl 90 rfl ?_
  refine g_irem X25 H at_90 (by decide) (z := 0) ha0 91 rfl ?_
  refine gIstoreN X25 H at_91 (Ls' := #[vI p0, vR b1, vI 0, .unset, .unset]) rfl 92 rfl ?_
  refine gAloadN X25 H at_92 rfl rfl 93 rfl ?_
  refine gIloadN X25 H at_93 rfl 94 rfl ?_
  refine gAaload X25 H hZ e25 rfl V25 ⟨by decide, by decide⟩ (v := (.ref w_Result_ROWS)) rfl at_94 95 rfl ?_
  refine gAstoreN X25 H at_95 rfl (Ls' := #[vI p0, vR b1, vI 0, vR w_Result_ROWS, .unset]) rfl 96 rfl ?_
  refine gIloadN X25 H at_96 rfl 97 rfl ?_
  refine gIconst X25 H at_97 (z := 1) rfl 98 rfl ?_
  refine gCmpN X25 H at_98 (by decide) 101 rfl ?_
  refine gIloadN X25 H at_101 rfl 102 rfl ?_
  refine gIconst X25 H at_102 (z := 2) rfl 103 rfl ?_
  refine gCmpY X25 H at_103 (by decide) (by decide) 110 rfl ?_
  refine gIconst X25 H at_110 (z := 0) rfl 111 rfl ?_
  refine gIstore X25 H at_111 (Ls' := #[vI p0, vR b1, vI 0, vR w_Result_ROWS, vI 0]) rfl 113 rfl ?_
  refine gAloadN X25 H at_113 rfl rfl 114 rfl ?_
  refine gVirt X25 H hZ hown (hw _ wd29) (hw _ wd30) (hw _ wd32) (hw _ wd31) (by decide) (E_w_Result_ROWS.ext O25) (hw _ wd33) (hw _ wd3) (rm29_1 B _ O25) e25 hml rfl pd0 rfl (W := 0) (argsL := []) (rest := []) rfl rfl at_114 117 rfl ?_
  intro v30 T30 L30 hq30 X30
  obtain ⟨rfl, e30, rfl⟩ := hq30
  have N30 := Fr.app N25 (Fr.nil _)
  show Go _ _ _ _ (State.setTop _ (mkF _ 117 _ [(.int 0)]))
  refine gIload X30 H at_117 rfl 119 rfl ?_
  refine gCmpN X30 H at_119 (by decide) 122 rfl ?_
  refine gIconst X30 H at_122 (z := 1) rfl 123 rfl ?_
  refine gGoto X30 H at_123 (by decide) 127 rfl ?_
  exact gRetN X30 H hlk hret (t := .boolean) (by simp) at_127 e30 ⟨rfl, N30⟩
theorem rm58_1 (B : Bg Z a0 w_Result_ROWS w_Result_ONE w_Result_OPTIONAL w_Result_PAGE w_Result_SLICE w_Result_COUNT w_Result_INT_COUNT w_Result_EXISTS w_Result_DELETED_ROWS w_Result_CHANGED_COUNT w_Result_CHANGED_INT_COUNT w_Result_CHANGED) (h : Heap) (O : Ext Z.heap h) :
    Con l Z yM1 prog_55_method_6_code 1 (some .boolean) ({ frames := 0, cells := 0, slots := 0, locals := 0 } : Room) #[(.ref w_Result_ONE)] h (fun v h' L => v = some (.int 1) ∧ h' = h ∧ L = []) := by
  have hw := B.1
  obtain ⟨S_w_Result_ROWS, E_w_Result_ROWS, S_w_Result_ONE, E_w_Result_ONE, S_w_Result_OPTIONAL, E_w_Result_OPTIONAL, S_w_Result_PAGE, E_w_Result_PAGE, S_w_Result_SLICE, E_w_Result_SLICE, S_w_Result_COUNT, E_w_Result_COUNT, S_w_Result_INT_COUNT, E_w_Result_INT_COUNT, S_w_Result_EXISTS, E_w_Result_EXISTS, S_w_Result_DELETED_ROWS, E_w_Result_DELETED_ROWS, S_w_Result_CHANGED_COUNT, E_w_Result_CHANGED_COUNT, S_w_Result_CHANGED_INT_COUNT, E_w_Result_CHANGED_INT_COUNT, S_w_Result_CHANGED, E_w_Result_CHANGED, F_w_Result_ROWS_ordinal, F_w_Result_ONE_ordinal, F_w_Result_OPTIONAL_ordinal, F_w_Result_PAGE_ordinal, F_w_Result_EXISTS_ordinal, F_w_Result_CHANGED_ordinal, F_w_Result_SLICE_ordinal, F_w_Result_DELETED_ROWS_ordinal, F_w_Result_CHANGED_INT_COUNT_ordinal, F_w_Result_CHANGED_COUNT_ordinal, F_w_Result_INT_COUNT_ordinal, F_w_Result_COUNT_ordinal⟩ := B.2
  refine Con.of (plainFor_of_name pn1) (Ls := #[vR w_Result_ONE]) (fun m => by first | rfl | (simp [entryFrame, mkF, argsToLocals, Value.category]; done)) ?_
  intro p e s m below meth c T0 X0 H hml hZ hown hnm hret hlk e0
  refine gAloadN X0 H d1_0 rfl rfl 1 rfl ?_
  refine gGetS X0 H hZ hown (hw _ wd34) e0 (S_w_Result_ONE.ext O) d1_1 4 rfl ?_
  intro T57 X57 e57
  refine gAcmp X57 H d1_4 rfl rfl (same := true) (decide_eq_true rfl) (by decide) 14 (by decide) ?_
  refine gIconst X57 H d1_14 (z := 1) rfl 15 rfl ?_
  refine gGoto X57 H d1_15 (by decide) 19 rfl ?_
  exact gRetN X57 H hlk hret (t := .boolean) (by simp) d1_19 e57 ⟨rfl, rfl, rfl⟩
theorem lawAll_1 (B : Bg Z a0 w_Result_ROWS w_Result_ONE w_Result_OPTIONAL w_Result_PAGE w_Result_SLICE w_Result_COUNT w_Result_INT_COUNT w_Result_EXISTS w_Result_DELETED_ROWS w_Result_CHANGED_COUNT w_Result_CHANGED_INT_COUNT w_Result_CHANGED) (p0 : Int32) (ha0 : ((p0 &&& (2147483647 : Int32)) % (12 : Int32)) = (1 : Int32)) :
    Con l Z x code maxLocals ret room_1 #[(.int p0)] Z.heap (fun v h' L => v = some (.int 1) ∧ Fr Z.heap.size L) := by
  have hw := B.1
  obtain ⟨S_w_Result_ROWS, E_w_Result_ROWS, S_w_Result_ONE, E_w_Result_ONE, S_w_Result_OPTIONAL, E_w_Result_OPTIONAL, S_w_Result_PAGE, E_w_Result_PAGE, S_w_Result_SLICE, E_w_Result_SLICE, S_w_Result_COUNT, E_w_Result_COUNT, S_w_Result_INT_COUNT, E_w_Result_INT_COUNT, S_w_Result_EXISTS, E_w_Result_EXISTS, S_w_Result_DELETED_ROWS, E_w_Result_DELETED_ROWS, S_w_Result_CHANGED_COUNT, E_w_Result_CHANGED_COUNT, S_w_Result_CHANGED_INT_COUNT, E_w_Result_CHANGED_INT_COUNT, S_w_Result_CHANGED, E_w_Result_CHANGED, F_w_Result_ROWS_ordinal, F_w_Result_ONE_ordinal, F_w_Result_OPTIONAL_ordinal, F_w_Result_PAGE_ordinal, F_w_Result_EXISTS_ordinal, F_w_Result_CHANGED_ordinal, F_w_Result_SLICE_ordinal, F_w_Result_DELETED_ROWS_ordinal, F_w_Result_CHANGED_INT_COUNT_ordinal, F_w_Result_CHANGED_COUNT_ordinal, F_w_Result_INT_COUNT_ordinal, F_w_Result_COUNT_ordinal⟩ := B.2
  refine Con.of (plainFor_of_name pn0) (Ls := #[vI p0, .unset, .unset, .unset, .unset]) (fun m => by first | rfl | (simp [entryFrame, mkF, argsToLocals, Value.category, maxLocals]; done)) ?_
  intro p e s m below meth c T0 X0 H hml hZ hown hnm hret hlk e0
  have O0 := extR Z.heap
  have M0 := Nat.le_refl Z.heap.size
  have N0 := Fr.nil Z.heap.size
  refine gBipush X0 H at_0 (z := 12) rfl 2 rfl ?_
  refine gNewR X0 H hZ hown (hw _ wd0) (hw _ wd1) e0 (by decide) (cap := 12) (by decide) (by decide) (vs := [.null, .null, .null, .null, .null, .null, .null, .null, .null, .null, .null, .null]) rfl (by decide) (by decide) at_2 5 rfl ?_
  intro T31 h31 b31 k31 X31 e31 z31 E31 V31 Q31
  have G_b31 := Nat.le_trans O0.1 (Nat.le_of_eq z31)
  have sz_b31 := Nat.le_trans M0 (Nat.le_of_eq z31)
  have O31 := extT O0 E31
  refine gDup X31 H at_5 rfl 6 rfl ?_
  refine gIconst X31 H at_6 (z := 0) rfl 7 rfl ?_
  refine gGetS X31 H hZ hown (hw _ wd2) e31 (S_w_Result_ROWS.ext O31) at_7 10 rfl ?_
  intro T32 X32 e32
  refine gAastore X32 H hZ e32 rfl (stoV V31 Q31 (Ins.self (E_w_Result_ROWS.ext O31))) V31 ⟨by decide, by decide⟩ (i := 0) rfl (Nat.le_of_ble_eq_true rfl) (vs' := [(.ref w_Result_ROWS), .null, .null, .null, .null, .null, .null, .null, .null, .null, .null, .null]) rfl at_10 11 rfl ?_
  intro T33 h33 X33 e33 W33 V33
  have O33 := extW O31 W33 G_b31
  have N33 := Fr.snoc X33 N0 G_b31
  refine gDup X33 H at_11 rfl 12 rfl ?_
  refine gIconst X33 H at_12 (z := 1) rfl 13 rfl ?_
  refine gGetS X33 H hZ hown (hw _ wd6) e33 (S_w_Result_ONE.ext O33) at_13 16 rfl ?_
  intro T34 X34 e34
  refine gAastore X34 H hZ e34 rfl (stoV V33 Q31 (Ins.self (E_w_Result_ONE.ext O33))) V33 ⟨by decide, by decide⟩ (i := 1) rfl (Nat.le_of_ble_eq_true rfl) (vs' := [(.ref w_Result_ROWS), (.ref w_Result_ONE), .null, .null, .null, .null, .null, .null, .null, .null, .null, .null]) rfl at_16 17 rfl ?_
  intro T35 h35 X35 e35 W35 V35
  have O35 := extW O33 W35 G_b31
  have N35 := Fr.snoc X35 N33 G_b31
  refine gDup X35 H at_17 rfl 18 rfl ?_
  refine gIconst X35 H at_18 (z := 2) rfl 19 rfl ?_
  refine gGetS X35 H hZ hown (hw _ wd8) e35 (S_w_Result_OPTIONAL.ext O35) at_19 22 rfl ?_
  intro T36 X36 e36
  refine gAastore X36 H hZ e36 rfl (stoV V35 Q31 (Ins.self (E_w_Result_OPTIONAL.ext O35))) V35 ⟨by decide, by decide⟩ (i := 2) rfl (Nat.le_of_ble_eq_true rfl) (vs' := [(.ref w_Result_ROWS), (.ref w_Result_ONE), (.ref w_Result_OPTIONAL), .null, .null, .null, .null, .null, .null, .null, .null, .null]) rfl at_22 23 rfl ?_
  intro T37 h37 X37 e37 W37 V37
  have O37 := extW O35 W37 G_b31
  have N37 := Fr.snoc X37 N35 G_b31
  refine gDup X37 H at_23 rfl 24 rfl ?_
  refine gIconst X37 H at_24 (z := 3) rfl 25 rfl ?_
  refine gGetS X37 H hZ hown (hw _ wd10) e37 (S_w_Result_PAGE.ext O37) at_25 28 rfl ?_
  intro T38 X38 e38
  refine gAastore X38 H hZ e38 rfl (stoV V37 Q31 (Ins.self (E_w_Result_PAGE.ext O37))) V37 ⟨by decide, by decide⟩ (i := 3) rfl (Nat.le_of_ble_eq_true rfl) (vs' := [(.ref w_Result_ROWS), (.ref w_Result_ONE), (.ref w_Result_OPTIONAL), (.ref w_Result_PAGE), .null, .null, .null, .null, .null, .null, .null, .null]) rfl at_28 29 rfl ?_
  intro T39 h39 X39 e39 W39 V39
  have O39 := extW O37 W39 G_b31
  have N39 := Fr.snoc X39 N37 G_b31
  refine gDup X39 H at_29 rfl 30 rfl ?_
  refine gIconst X39 H at_30 (z := 4) rfl 31 rfl ?_
  refine gGetS X39 H hZ hown (hw _ wd12) e39 (S_w_Result_SLICE.ext O39) at_31 34 rfl ?_
  intro T40 X40 e40
  refine gAastore X40 H hZ e40 rfl (stoV V39 Q31 (Ins.self (E_w_Result_SLICE.ext O39))) V39 ⟨by decide, by decide⟩ (i := 4) rfl (Nat.le_of_ble_eq_true rfl) (vs' := [(.ref w_Result_ROWS), (.ref w_Result_ONE), (.ref w_Result_OPTIONAL), (.ref w_Result_PAGE), (.ref w_Result_SLICE), .null, .null, .null, .null, .null, .null, .null]) rfl at_34 35 rfl ?_
  intro T41 h41 X41 e41 W41 V41
  have O41 := extW O39 W41 G_b31
  have N41 := Fr.snoc X41 N39 G_b31
  refine gDup X41 H at_35 rfl 36 rfl ?_
  refine gIconst X41 H at_36 (z := 5) rfl 37 rfl ?_
  refine gGetS X41 H hZ hown (hw _ wd14) e41 (S_w_Result_COUNT.ext O41) at_37 40 rfl ?_
  intro T42 X42 e42
  refine gAastore X42 H hZ e42 rfl (stoV V41 Q31 (Ins.self (E_w_Result_COUNT.ext O41))) V41 ⟨by decide, by decide⟩ (i := 5) rfl (Nat.le_of_ble_eq_true rfl) (vs' := [(.ref w_Result_ROWS), (.ref w_Result_ONE), (.ref w_Result_OPTIONAL), (.ref w_Result_PAGE), (.ref w_Result_SLICE), (.ref w_Result_COUNT), .null, .null, .null, .null, .null, .null]) rfl at_40 41 rfl ?_
  intro T43 h43 X43 e43 W43 V43
  have O43 := extW O41 W43 G_b31
  have N43 := Fr.snoc X43 N41 G_b31
  refine gDup X43 H at_41 rfl 42 rfl ?_
  refine gBipush X43 H at_42 (z := 6) rfl 44 rfl ?_
  refine gGetS X43 H hZ hown (hw _ wd16) e43 (S_w_Result_INT_COUNT.ext O43) at_44 47 rfl ?_
  intro T44 X44 e44
  refine gAastore X44 H hZ e44 rfl (stoV V43 Q31 (Ins.self (E_w_Result_INT_COUNT.ext O43))) V43 ⟨by decide, by decide⟩ (i := 6) rfl (Nat.le_of_ble_eq_true rfl) (vs' := [(.ref w_Result_ROWS), (.ref w_Result_ONE), (.ref w_Result_OPTIONAL), (.ref w_Result_PAGE), (.ref w_Result_SLICE), (.ref w_Result_COUNT), (.ref w_Result_INT_COUNT), .null, .null, .null, .null, .null]) rfl at_47 48 rfl ?_
  intro T45 h45 X45 e45 W45 V45
  have O45 := extW O43 W45 G_b31
  have N45 := Fr.snoc X45 N43 G_b31
  refine gDup X45 H at_48 rfl 49 rfl ?_
  refine gBipush X45 H at_49 (z := 7) rfl 51 rfl ?_
  refine gGetS X45 H hZ hown (hw _ wd18) e45 (S_w_Result_EXISTS.ext O45) at_51 54 rfl ?_
  intro T46 X46 e46
  refine gAastore X46 H hZ e46 rfl (stoV V45 Q31 (Ins.self (E_w_Result_EXISTS.ext O45))) V45 ⟨by decide, by decide⟩ (i := 7) rfl (Nat.le_of_ble_eq_true rfl) (vs' := [(.ref w_Result_ROWS), (.ref w_Result_ONE), (.ref w_Result_OPTIONAL), (.ref w_Result_PAGE), (.ref w_Result_SLICE), (.ref w_Result_COUNT), (.ref w_Result_INT_COUNT), (.ref w_Result_EXISTS), .null, .null, .null, .null]) rfl at_54 55 rfl ?_
  intro T47 h47 X47 e47 W47 V47
  have O47 := extW O45 W47 G_b31
  have N47 := Fr.snoc X47 N45 G_b31
  refine gDup X47 H at_55 rfl 56 rfl ?_
  refine gBipush X47 H at_56 (z := 8) rfl 58 rfl ?_
  refine gGetS X47 H hZ hown (hw _ wd20) e47 (S_w_Result_DELETED_ROWS.ext O47) at_58 61 rfl ?_
  intro T48 X48 e48
  refine gAastore X48 H hZ e48 rfl (stoV V47 Q31 (Ins.self (E_w_Result_DELETED_ROWS.ext O47))) V47 ⟨by decide, by decide⟩ (i := 8) rfl (Nat.le_of_ble_eq_true rfl) (vs' := [(.ref w_Result_ROWS), (.ref w_Result_ONE), (.ref w_Result_OPTIONAL), (.ref w_Result_PAGE), (.ref w_Result_SLICE), (.ref w_Result_COUNT), (.ref w_Result_INT_COUNT), (.ref w_Result_EXISTS), (.ref w_Result_DELETED_ROWS), .null, .null, .null]) rfl at_61 62 rfl ?_
  intro T49 h49 X49 e49 W49 V49
  have O49 := extW O47 W49 G_b31
  have N49 := Fr.snoc X49 N47 G_b31
  refine gDup X49 H at_62 rfl 63 rfl ?_
  refine gBipush X49 H at_63 (z := 9) rfl 65 rfl ?_
  refine gGetS X49 H hZ hown (hw _ wd22) e49 (S_w_Result_CHANGED_COUNT.ext O49) at_65 68 rfl ?_
  intro T50 X50 e50
  refine gAastore X50 H hZ e50 rfl (stoV V49 Q31 (Ins.self (E_w_Result_CHANGED_COUNT.ext O49))) V49 ⟨by decide, by decide⟩ (i := 9) rfl (Nat.le_of_ble_eq_true rfl) (vs' := [(.ref w_Result_ROWS), (.ref w_Result_ONE), (.ref w_Result_OPTIONAL), (.ref w_Result_PAGE), (.ref w_Result_SLICE), (.ref w_Result_COUNT), (.ref w_Result_INT_COUNT), (.ref w_Result_EXISTS), (.ref w_Result_DELETED_ROWS), (.ref w_Result_CHANGED_COUNT), .null, .null]) rfl at_68 69 rfl ?_
  intro T51 h51 X51 e51 W51 V51
  have O51 := extW O49 W51 G_b31
  have N51 := Fr.snoc X51 N49 G_b31
  refine gDup X51 H at_69 rfl 70 rfl ?_
  refine gBipush X51 H at_70 (z := 10) rfl 72 rfl ?_
  refine gGetS X51 H hZ hown (hw _ wd24) e51 (S_w_Result_CHANGED_INT_COUNT.ext O51) at_72 75 rfl ?_
  intro T52 X52 e52
  refine gAastore X52 H hZ e52 rfl (stoV V51 Q31 (Ins.self (E_w_Result_CHANGED_INT_COUNT.ext O51))) V51 ⟨by decide, by decide⟩ (i := 10) rfl (Nat.le_of_ble_eq_true rfl) (vs' := [(.ref w_Result_ROWS), (.ref w_Result_ONE), (.ref w_Result_OPTIONAL), (.ref w_Result_PAGE), (.ref w_Result_SLICE), (.ref w_Result_COUNT), (.ref w_Result_INT_COUNT), (.ref w_Result_EXISTS), (.ref w_Result_DELETED_ROWS), (.ref w_Result_CHANGED_COUNT), (.ref w_Result_CHANGED_INT_COUNT), .null]) rfl at_75 76 rfl ?_
  intro T53 h53 X53 e53 W53 V53
  have O53 := extW O51 W53 G_b31
  have N53 := Fr.snoc X53 N51 G_b31
  refine gDup X53 H at_76 rfl 77 rfl ?_
  refine gBipush X53 H at_77 (z := 11) rfl 79 rfl ?_
  refine gGetS X53 H hZ hown (hw _ wd26) e53 (S_w_Result_CHANGED.ext O53) at_79 82 rfl ?_
  intro T54 X54 e54
  refine gAastore X54 H hZ e54 rfl (stoV V53 Q31 (Ins.self (E_w_Result_CHANGED.ext O53))) V53 ⟨by decide, by decide⟩ (i := 11) rfl (Nat.le_of_ble_eq_true rfl) (vs' := [(.ref w_Result_ROWS), (.ref w_Result_ONE), (.ref w_Result_OPTIONAL), (.ref w_Result_PAGE), (.ref w_Result_SLICE), (.ref w_Result_COUNT), (.ref w_Result_INT_COUNT), (.ref w_Result_EXISTS), (.ref w_Result_DELETED_ROWS), (.ref w_Result_CHANGED_COUNT), (.ref w_Result_CHANGED_INT_COUNT), (.ref w_Result_CHANGED)]) rfl at_82 83 rfl ?_
  intro T55 h55 X55 e55 W55 V55
  have O55 := extW O53 W55 G_b31
  have N55 := Fr.snoc X55 N53 G_b31
  refine gAstoreN X55 H at_83 rfl (Ls' := #[vI p0, vR b31, .unset, .unset, .unset]) rfl 84 rfl ?_
  refine gIloadN X55 H at_84 rfl 85 rfl ?_
  refine gLdc X55 H hZ hown (hw _ wd28) at_85 87 rfl ?_
  refine g_iand X55 H at_87 (z := (p0 &&& (2147483647 : Int32))) rfl 88 rfl ?_
  refine gBipush X55 H at_88 (z := 12) rfl 90 rfl ?_
  refine g_irem X55 H at_90 (by decide) (z := 1) ha0 91 rfl ?_
  refine gIstoreN X55 H at_91 (Ls' := #[vI p0, vR b31, vI 1, .unset, .unset]) rfl 92 rfl ?_
  refine gAloadN X55 H at_92 rfl rfl 93 rfl ?_
  refine gIloadN X55 H at_93 rfl 94 rfl ?_
  refine gAaload X55 H hZ e55 rfl V55 ⟨by decide, by decide⟩ (v := (.ref w_Result_ONE)) rfl at_94 95 rfl ?_
  refine gAstoreN X55 H at_95 rfl (Ls' := #[vI p0, vR b31, vI 1, vR w_Result_ONE, .unset]) rfl 96 rfl ?_
  refine gIloadN X55 H at_96 rfl 97 rfl ?_
  refine gIconst X55 H at_97 (z := 1) rfl 98 rfl ?_
  refine gCmpY X55 H at_98 (by decide) (by decide) 106 rfl ?_
  refine gIconst X55 H at_106 (z := 1) rfl 107 rfl ?_
  refine gGoto X55 H at_107 (by decide) 111 rfl ?_
  refine gIstore X55 H at_111 (Ls' := #[vI p0, vR b31, vI 1, vR w_Result_ONE, vI 1]) rfl 113 rfl ?_
  refine gAloadN X55 H at_113 rfl rfl 114 rfl ?_
  refine gVirt X55 H hZ hown (hw _ wd29) (hw _ wd30) (hw _ wd32) (hw _ wd31) (by decide) (E_w_Result_ONE.ext O55) (hw _ wd33) (hw _ wd3) (rm58_1 B _ O55) e55 hml rfl pd0 rfl (W := 0) (argsL := []) (rest := []) rfl rfl at_114 117 rfl ?_
  intro v59 T59 L59 hq59 X59
  obtain ⟨rfl, e59, rfl⟩ := hq59
  have N59 := Fr.app N55 (Fr.nil _)
  show Go _ _ _ _ (State.setTop _ (mkF _ 117 _ [(.int 1)]))
  refine gIload X59 H at_117 rfl 119 rfl ?_
  refine gCmpN X59 H at_119 (by decide) 122 rfl ?_
  refine gIconst X59 H at_122 (z := 1) rfl 123 rfl ?_
  refine gGoto X59 H at_123 (by decide) 127 rfl ?_
  exact gRetN X59 H hlk hret (t := .boolean) (by simp) at_127 e59 ⟨rfl, N59⟩
theorem rm88_1 (B : Bg Z a0 w_Result_ROWS w_Result_ONE w_Result_OPTIONAL w_Result_PAGE w_Result_SLICE w_Result_COUNT w_Result_INT_COUNT w_Result_EXISTS w_Result_DELETED_ROWS w_Result_CHANGED_COUNT w_Result_CHANGED_INT_COUNT w_Result_CHANGED) (h : Heap) (O : Ext Z.heap h) :
    Con l Z yM1 prog_55_method_6_code 1 (some .boolean) ({ frames := 0, cells := 0, slots := 0, locals := 0 } : Room) #[(.ref w_Result_OPTIONAL)] h (fun v h' L => v = some (.int 1) ∧ h' = h ∧ L = []) := by
  have hw := B.1
  obtain ⟨S_w_Result_ROWS, E_w_Result_ROWS, S_w_Result_ONE, E_w_Result_ONE, S_w_Result_OPTIONAL, E_w_Result_OPTIONAL, S_w_Result_PAGE, E_w_Result_PAGE, S_w_Result_SLICE, E_w_Result_SLICE, S_w_Result_COUNT, E_w_Result_COUNT, S_w_Result_INT_COUNT, E_w_Result_INT_COUNT, S_w_Result_EXISTS, E_w_Result_EXISTS, S_w_Result_DELETED_ROWS, E_w_Result_DELETED_ROWS, S_w_Result_CHANGED_COUNT, E_w_Result_CHANGED_COUNT, S_w_Result_CHANGED_INT_COUNT, E_w_Result_CHANGED_INT_COUNT, S_w_Result_CHANGED, E_w_Result_CHANGED, F_w_Result_ROWS_ordinal, F_w_Result_ONE_ordinal, F_w_Result_OPTIONAL_ordinal, F_w_Result_PAGE_ordinal, F_w_Result_EXISTS_ordinal, F_w_Result_CHANGED_ordinal, F_w_Result_SLICE_ordinal, F_w_Result_DELETED_ROWS_ordinal, F_w_Result_CHANGED_INT_COUNT_ordinal, F_w_Result_CHANGED_COUNT_ordinal, F_w_Result_INT_COUNT_ordinal, F_w_Result_COUNT_ordinal⟩ := B.2
  refine Con.of (plainFor_of_name pn1) (Ls := #[vR w_Result_OPTIONAL]) (fun m => by first | rfl | (simp [entryFrame, mkF, argsToLocals, Value.category]; done)) ?_
  intro p e s m below meth c T0 X0 H hml hZ hown hnm hret hlk e0
  refine gAloadN X0 H d1_0 rfl rfl 1 rfl ?_
  refine gGetS X0 H hZ hown (hw _ wd34) e0 (S_w_Result_ONE.ext O) d1_1 4 rfl ?_
  intro T86 X86 e86
  refine gAcmp X86 H d1_4 rfl rfl (same := false) (decide_eq_false fun q => (Fld.ne F_w_Result_OPTIONAL_ordinal F_w_Result_ONE_ordinal (by decide)) (Value.ref.inj q)) (by decide) 7 (by decide) ?_
  refine gAloadN X86 H d1_7 rfl rfl 8 rfl ?_
  refine gGetS X86 H hZ hown (hw _ wd35) e86 (S_w_Result_OPTIONAL.ext O) d1_8 11 rfl ?_
  intro T87 X87 e87
  refine gAcmp X87 H d1_11 rfl rfl (same := true) (decide_eq_true rfl) (by decide) 14 (by decide) ?_
  refine gIconst X87 H d1_14 (z := 1) rfl 15 rfl ?_
  refine gGoto X87 H d1_15 (by decide) 19 rfl ?_
  exact gRetN X87 H hlk hret (t := .boolean) (by simp) d1_19 e87 ⟨rfl, rfl, rfl⟩
theorem lawAll_2 (B : Bg Z a0 w_Result_ROWS w_Result_ONE w_Result_OPTIONAL w_Result_PAGE w_Result_SLICE w_Result_COUNT w_Result_INT_COUNT w_Result_EXISTS w_Result_DELETED_ROWS w_Result_CHANGED_COUNT w_Result_CHANGED_INT_COUNT w_Result_CHANGED) (p0 : Int32) (ha0 : ((p0 &&& (2147483647 : Int32)) % (12 : Int32)) = (2 : Int32)) :
    Con l Z x code maxLocals ret room_1 #[(.int p0)] Z.heap (fun v h' L => v = some (.int 1) ∧ Fr Z.heap.size L) := by
  have hw := B.1
  obtain ⟨S_w_Result_ROWS, E_w_Result_ROWS, S_w_Result_ONE, E_w_Result_ONE, S_w_Result_OPTIONAL, E_w_Result_OPTIONAL, S_w_Result_PAGE, E_w_Result_PAGE, S_w_Result_SLICE, E_w_Result_SLICE, S_w_Result_COUNT, E_w_Result_COUNT, S_w_Result_INT_COUNT, E_w_Result_INT_COUNT, S_w_Result_EXISTS, E_w_Result_EXISTS, S_w_Result_DELETED_ROWS, E_w_Result_DELETED_ROWS, S_w_Result_CHANGED_COUNT, E_w_Result_CHANGED_COUNT, S_w_Result_CHANGED_INT_COUNT, E_w_Result_CHANGED_INT_COUNT, S_w_Result_CHANGED, E_w_Result_CHANGED, F_w_Result_ROWS_ordinal, F_w_Result_ONE_ordinal, F_w_Result_OPTIONAL_ordinal, F_w_Result_PAGE_ordinal, F_w_Result_EXISTS_ordinal, F_w_Result_CHANGED_ordinal, F_w_Result_SLICE_ordinal, F_w_Result_DELETED_ROWS_ordinal, F_w_Result_CHANGED_INT_COUNT_ordinal, F_w_Result_CHANGED_COUNT_ordinal, F_w_Result_INT_COUNT_ordinal, F_w_Result_COUNT_ordinal⟩ := B.2
  refine Con.of (plainFor_of_name pn0) (Ls := #[vI p0, .unset, .unset, .unset, .unset]) (fun m => by first | rfl | (simp [entryFrame, mkF, argsToLocals, Value.category, maxLocals]; done)) ?_
  intro p e s m below meth c T0 X0 H hml hZ hown hnm hret hlk e0
  have O0 := extR Z.heap
  have M0 := Nat.le_refl Z.heap.size
  have N0 := Fr.nil Z.heap.size
  refine gBipush X0 H at_0 (z := 12) rfl 2 rfl ?_
  refine gNewR X0 H hZ hown (hw _ wd0) (hw _ wd1) e0 (by decide) (cap := 12) (by decide) (by decide) (vs := [.null, .null, .null, .null, .null, .null, .null, .null, .null, .null, .null, .null]) rfl (by decide) (by decide) at_2 5 rfl ?_
  intro T60 h60 b60 k60 X60 e60 z60 E60 V60 Q60
  have G_b60 := Nat.le_trans O0.1 (Nat.le_of_eq z60)
  have sz_b60 := Nat.le_trans M0 (Nat.le_of_eq z60)
  have O60 := extT O0 E60
  refine gDup X60 H at_5 rfl 6 rfl ?_
  refine gIconst X60 H at_6 (z := 0) rfl 7 rfl ?_
  refine gGetS X60 H hZ hown (hw _ wd2) e60 (S_w_Result_ROWS.ext O60) at_7 10 rfl ?_
  intro T61 X61 e61
  refine gAastore X61 H hZ e61 rfl (stoV V60 Q60 (Ins.self (E_w_Result_ROWS.ext O60))) V60 ⟨by decide, by decide⟩ (i := 0) rfl (Nat.le_of_ble_eq_true rfl) (vs' := [(.ref w_Result_ROWS), .null, .null, .null, .null, .null, .null, .null, .null, .null, .null, .null]) rfl at_10 11 rfl ?_
  intro T62 h62 X62 e62 W62 V62
  have O62 := extW O60 W62 G_b60
  have N62 := Fr.snoc X62 N0 G_b60
  refine gDup X62 H at_11 rfl 12 rfl ?_
  refine gIconst X62 H at_12 (z := 1) rfl 13 rfl ?_
  refine gGetS X62 H hZ hown (hw _ wd6) e62 (S_w_Result_ONE.ext O62) at_13 16 rfl ?_
  intro T63 X63 e63
  refine gAastore X63 H hZ e63 rfl (stoV V62 Q60 (Ins.self (E_w_Result_ONE.ext O62))) V62 ⟨by decide, by decide⟩ (i := 1) rfl (Nat.le_of_ble_eq_true rfl) (vs' := [(.ref w_Result_ROWS), (.ref w_Result_ONE), .null, .null, .null, .null, .null, .null, .null, .null, .null, .null]) rfl at_16 17 rfl ?_
  intro T64 h64 X64 e64 W64 V64
  have O64 := extW O62 W64 G_b60
  have N64 := Fr.snoc X64 N62 G_b60
  refine gDup X64 H at_17 rfl 18 rfl ?_
  refine gIconst X64 H at_18 (z := 2) rfl 19 rfl ?_
  refine gGetS X64 H hZ hown (hw _ wd8) e64 (S_w_Result_OPTIONAL.ext O64) at_19 22 rfl ?_
  intro T65 X65 e65
  refine gAastore X65 H hZ e65 rfl (stoV V64 Q60 (Ins.self (E_w_Result_OPTIONAL.ext O64))) V64 ⟨by decide, by decide⟩ (i := 2) rfl (Nat.le_of_ble_eq_true rfl) (vs' := [(.ref w_Result_ROWS), (.ref w_Result_ONE), (.ref w_Result_OPTIONAL), .null, .null, .null, .null, .null, .null, .null, .null, .null]) rfl at_22 23 rfl ?_
  intro T66 h66 X66 e66 W66 V66
  have O66 := extW O64 W66 G_b60
  have N66 := Fr.snoc X66 N64 G_b60
  refine gDup X66 H at_23 rfl 24 rfl ?_
  refine gIconst X66 H at_24 (z := 3) rfl 25 rfl ?_
  refine gGetS X66 H hZ hown (hw _ wd10) e66 (S_w_Result_PAGE.ext O66) at_25 28 rfl ?_
  intro T67 X67 e67
  refine gAastore X67 H hZ e67 rfl (stoV V66 Q60 (Ins.self (E_w_Result_PAGE.ext O66))) V66 ⟨by decide, by decide⟩ (i := 3) rfl (Nat.le_of_ble_eq_true rfl) (vs' := [(.ref w_Result_ROWS), (.ref w_Result_ONE), (.ref w_Result_OPTIONAL), (.ref w_Result_PAGE), .null, .null, .null, .null, .null, .null, .null, .null]) rfl at_28 29 rfl ?_
  intro T68 h68 X68 e68 W68 V68
  have O68 := extW O66 W68 G_b60
  have N68 := Fr.snoc X68 N66 G_b60
  refine gDup X68 H at_29 rfl 30 rfl ?_
  refine gIconst X68 H at_30 (z := 4) rfl 31 rfl ?_
  refine gGetS X68 H hZ hown (hw _ wd12) e68 (S_w_Result_SLICE.ext O68) at_31 34 rfl ?_
  intro T69 X69 e69
  refine gAastore X69 H hZ e69 rfl (stoV V68 Q60 (Ins.self (E_w_Result_SLICE.ext O68))) V68 ⟨by decide, by decide⟩ (i := 4) rfl (Nat.le_of_ble_eq_true rfl) (vs' := [(.ref w_Result_ROWS), (.ref w_Result_ONE), (.ref w_Result_OPTIONAL), (.ref w_Result_PAGE), (.ref w_Result_SLICE), .null, .null, .null, .null, .null, .null, .null]) rfl at_34 35 rfl ?_
  intro T70 h70 X70 e70 W70 V70
  have O70 := extW O68 W70 G_b60
  have N70 := Fr.snoc X70 N68 G_b60
  refine gDup X70 H at_35 rfl 36 rfl ?_
  refine gIconst X70 H at_36 (z := 5) rfl 37 rfl ?_
  refine gGetS X70 H hZ hown (hw _ wd14) e70 (S_w_Result_COUNT.ext O70) at_37 40 rfl ?_
  intro T71 X71 e71
  refine gAastore X71 H hZ e71 rfl (stoV V70 Q60 (Ins.self (E_w_Result_COUNT.ext O70))) V70 ⟨by decide, by decide⟩ (i := 5) rfl (Nat.le_of_ble_eq_true rfl) (vs' := [(.ref w_Result_ROWS), (.ref w_Result_ONE), (.ref w_Result_OPTIONAL), (.ref w_Result_PAGE), (.ref w_Result_SLICE), (.ref w_Result_COUNT), .null, .null, .null, .null, .null, .null]) rfl at_40 41 rfl ?_
  intro T72 h72 X72 e72 W72 V72
  have O72 := extW O70 W72 G_b60
  have N72 := Fr.snoc X72 N70 G_b60
  refine gDup X72 H at_41 rfl 42 rfl ?_
  refine gBipush X72 H at_42 (z := 6) rfl 44 rfl ?_
  refine gGetS X72 H hZ hown (hw _ wd16) e72 (S_w_Result_INT_COUNT.ext O72) at_44 47 rfl ?_
  intro T73 X73 e73
  refine gAastore X73 H hZ e73 rfl (stoV V72 Q60 (Ins.self (E_w_Result_INT_COUNT.ext O72))) V72 ⟨by decide, by decide⟩ (i := 6) rfl (Nat.le_of_ble_eq_true rfl) (vs' := [(.ref w_Result_ROWS), (.ref w_Result_ONE), (.ref w_Result_OPTIONAL), (.ref w_Result_PAGE), (.ref w_Result_SLICE), (.ref w_Result_COUNT), (.ref w_Result_INT_COUNT), .null, .null, .null, .null, .null]) rfl at_47 48 rfl ?_
  intro T74 h74 X74 e74 W74 V74
  have O74 := extW O72 W74 G_b60
  have N74 := Fr.snoc X74 N72 G_b60
  refine gDup X74 H at_48 rfl 49 rfl ?_
  refine gBipush X74 H at_49 (z := 7) rfl 51 rfl ?_
  refine gGetS X74 H hZ hown (hw _ wd18) e74 (S_w_Result_EXISTS.ext O74) at_51 54 rfl ?_
  intro T75 X75 e75
  refine gAastore X75 H hZ e75 rfl (stoV V74 Q60 (Ins.self (E_w_Result_EXISTS.ext O74))) V74 ⟨by decide, by decide⟩ (i := 7) rfl (Nat.le_of_ble_eq_true rfl) (vs' := [(.ref w_Result_ROWS), (.ref w_Result_ONE), (.ref w_Result_OPTIONAL), (.ref w_Result_PAGE), (.ref w_Result_SLICE), (.ref w_Result_COUNT), (.ref w_Result_INT_COUNT), (.ref w_Result_EXISTS), .null, .null, .null, .null]) rfl at_54 55 rfl ?_
  intro T76 h76 X76 e76 W76 V76
  have O76 := extW O74 W76 G_b60
  have N76 := Fr.snoc X76 N74 G_b60
  refine gDup X76 H at_55 rfl 56 rfl ?_
  refine gBipush X76 H at_56 (z := 8) rfl 58 rfl ?_
  refine gGetS X76 H hZ hown (hw _ wd20) e76 (S_w_Result_DELETED_ROWS.ext O76) at_58 61 rfl ?_
  intro T77 X77 e77
  refine gAastore X77 H hZ e77 rfl (stoV V76 Q60 (Ins.self (E_w_Result_DELETED_ROWS.ext O76))) V76 ⟨by decide, by decide⟩ (i := 8) rfl (Nat.le_of_ble_eq_true rfl) (vs' := [(.ref w_Result_ROWS), (.ref w_Result_ONE), (.ref w_Result_OPTIONAL), (.ref w_Result_PAGE), (.ref w_Result_SLICE), (.ref w_Result_COUNT), (.ref w_Result_INT_COUNT), (.ref w_Result_EXISTS), (.ref w_Result_DELETED_ROWS), .null, .null, .null]) rfl at_61 62 rfl ?_
  intro T78 h78 X78 e78 W78 V78
  have O78 := extW O76 W78 G_b60
  have N78 := Fr.snoc X78 N76 G_b60
  refine gDup X78 H at_62 rfl 63 rfl ?_
  refine gBipush X78 H at_63 (z := 9) rfl 65 rfl ?_
  refine gGetS X78 H hZ hown (hw _ wd22) e78 (S_w_Result_CHANGED_COUNT.ext O78) at_65 68 rfl ?_
  intro T79 X79 e79
  refine gAastore X79 H hZ e79 rfl (stoV V78 Q60 (Ins.self (E_w_Result_CHANGED_COUNT.ext O78))) V78 ⟨by decide, by decide⟩ (i := 9) rfl (Nat.le_of_ble_eq_true rfl) (vs' := [(.ref w_Result_ROWS), (.ref w_Result_ONE), (.ref w_Result_OPTIONAL), (.ref w_Result_PAGE), (.ref w_Result_SLICE), (.ref w_Result_COUNT), (.ref w_Result_INT_COUNT), (.ref w_Result_EXISTS), (.ref w_Result_DELETED_ROWS), (.ref w_Result_CHANGED_COUNT), .null, .null]) rfl at_68 69 rfl ?_
  intro T80 h80 X80 e80 W80 V80
  have O80 := extW O78 W80 G_b60
  have N80 := Fr.snoc X80 N78 G_b60
  refine gDup X80 H at_69 rfl 70 rfl ?_
  refine gBipush X80 H at_70 (z := 10) rfl 72 rfl ?_
  refine gGetS X80 H hZ hown (hw _ wd24) e80 (S_w_Result_CHANGED_INT_COUNT.ext O80) at_72 75 rfl ?_
  intro T81 X81 e81
  refine gAastore X81 H hZ e81 rfl (stoV V80 Q60 (Ins.self (E_w_Result_CHANGED_INT_COUNT.ext O80))) V80 ⟨by decide, by decide⟩ (i := 10) rfl (Nat.le_of_ble_eq_true rfl) (vs' := [(.ref w_Result_ROWS), (.ref w_Result_ONE), (.ref w_Result_OPTIONAL), (.ref w_Result_PAGE), (.ref w_Result_SLICE), (.ref w_Result_COUNT), (.ref w_Result_INT_COUNT), (.ref w_Result_EXISTS), (.ref w_Result_DELETED_ROWS), (.ref w_Result_CHANGED_COUNT), (.ref w_Result_CHANGED_INT_COUNT), .null]) rfl at_75 76 rfl ?_
  intro T82 h82 X82 e82 W82 V82
  have O82 := extW O80 W82 G_b60
  have N82 := Fr.snoc X82 N80 G_b60
  refine gDup X82 H at_76 rfl 77 rfl ?_
  refine gBipush X82 H at_77 (z := 11) rfl 79 rfl ?_
  refine gGetS X82 H hZ hown (hw _ wd26) e82 (S_w_Result_CHANGED.ext O82) at_79 82 rfl ?_
  intro T83 X83 e83
  refine gAastore X83 H hZ e83 rfl (stoV V82 Q60 (Ins.self (E_w_Result_CHANGED.ext O82))) V82 ⟨by decide, by decide⟩ (i := 11) rfl (Nat.le_of_ble_eq_true rfl) (vs' := [(.ref w_Result_ROWS), (.ref w_Result_ONE), (.ref w_Result_OPTIONAL), (.ref w_Result_PAGE), (.ref w_Result_SLICE), (.ref w_Result_COUNT), (.ref w_Result_INT_COUNT), (.ref w_Result_EXISTS), (.ref w_Result_DELETED_ROWS), (.ref w_Result_CHANGED_COUNT), (.ref w_Result_CHANGED_INT_COUNT), (.ref w_Result_CHANGED)]) rfl at_82 83 rfl ?_
  intro T84 h84 X84 e84 W84 V84
  have O84 := extW O82 W84 G_b60
  have N84 := Fr.snoc X84 N82 G_b60
  refine gAstoreN X84 H at_83 rfl (Ls' := #[vI p0, vR b60, .unset, .unset, .unset]) rfl 84 rfl ?_
  refine gIloadN X84 H at_84 rfl 85 rfl ?_
  refine gLdc X84 H hZ hown (hw _ wd28) at_85 87 rfl ?_
  refine g_iand X84 H at_87 (z := (p0 &&& (2147483647 : Int32))) rfl 88 rfl ?_
  refine gBipush X84 H at_88 (z := 12) rfl 90 rfl ?_
  refine g_irem X84 H at_90 (by decide) (z := 2) ha0 91 rfl ?_
  refine gIstoreN X84 H at_91 (Ls' := #[vI p0, vR b60, vI 2, .unset, .unset]) rfl 92 rfl ?_
  refine gAloadN X84 H at_92 rfl rfl 93 rfl ?_
  refine gIloadN X84 H at_93 rfl 94 rfl ?_
  refine gAaload X84 H hZ e84 rfl V84 ⟨by decide, by decide⟩ (v := (.ref w_Result_OPTIONAL)) rfl at_94 95 rfl ?_
  refine gAstoreN X84 H at_95 rfl (Ls' := #[vI p0, vR b60, vI 2, vR w_Result_OPTIONAL, .unset]) rfl 96 rfl ?_
  refine gIloadN X84 H at_96 rfl 97 rfl ?_
  refine gIconst X84 H at_97 (z := 1) rfl 98 rfl ?_
  refine gCmpN X84 H at_98 (by decide) 101 rfl ?_
  refine gIloadN X84 H at_101 rfl 102 rfl ?_
  refine gIconst X84 H at_102 (z := 2) rfl 103 rfl ?_
  refine gCmpN X84 H at_103 (by decide) 106 rfl ?_
  refine gIconst X84 H at_106 (z := 1) rfl 107 rfl ?_
  refine gGoto X84 H at_107 (by decide) 111 rfl ?_
  refine gIstore X84 H at_111 (Ls' := #[vI p0, vR b60, vI 2, vR w_Result_OPTIONAL, vI 1]) rfl 113 rfl ?_
  refine gAloadN X84 H at_113 rfl rfl 114 rfl ?_
  refine gVirt X84 H hZ hown (hw _ wd29) (hw _ wd30) (hw _ wd32) (hw _ wd31) (by decide) (E_w_Result_OPTIONAL.ext O84) (hw _ wd33) (hw _ wd3) (rm88_1 B _ O84) e84 hml rfl pd0 rfl (W := 0) (argsL := []) (rest := []) rfl rfl at_114 117 rfl ?_
  intro v89 T89 L89 hq89 X89
  obtain ⟨rfl, e89, rfl⟩ := hq89
  have N89 := Fr.app N84 (Fr.nil _)
  show Go _ _ _ _ (State.setTop _ (mkF _ 117 _ [(.int 1)]))
  refine gIload X89 H at_117 rfl 119 rfl ?_
  refine gCmpN X89 H at_119 (by decide) 122 rfl ?_
  refine gIconst X89 H at_122 (z := 1) rfl 123 rfl ?_
  refine gGoto X89 H at_123 (by decide) 127 rfl ?_
  exact gRetN X89 H hlk hret (t := .boolean) (by simp) at_127 e89 ⟨rfl, N89⟩
theorem rm118_1 (B : Bg Z a0 w_Result_ROWS w_Result_ONE w_Result_OPTIONAL w_Result_PAGE w_Result_SLICE w_Result_COUNT w_Result_INT_COUNT w_Result_EXISTS w_Result_DELETED_ROWS w_Result_CHANGED_COUNT w_Result_CHANGED_INT_COUNT w_Result_CHANGED) (h : Heap) (O : Ext Z.heap h) :
    Con l Z yM1 prog_55_method_6_code 1 (some .boolean) ({ frames := 0, cells := 0, slots := 0, locals := 0 } : Room) #[(.ref w_Result_PAGE)] h (fun v h' L => v = some (.int 0) ∧ h' = h ∧ L = []) := by
  have hw := B.1
  obtain ⟨S_w_Result_ROWS, E_w_Result_ROWS, S_w_Result_ONE, E_w_Result_ONE, S_w_Result_OPTIONAL, E_w_Result_OPTIONAL, S_w_Result_PAGE, E_w_Result_PAGE, S_w_Result_SLICE, E_w_Result_SLICE, S_w_Result_COUNT, E_w_Result_COUNT, S_w_Result_INT_COUNT, E_w_Result_INT_COUNT, S_w_Result_EXISTS, E_w_Result_EXISTS, S_w_Result_DELETED_ROWS, E_w_Result_DELETED_ROWS, S_w_Result_CHANGED_COUNT, E_w_Result_CHANGED_COUNT, S_w_Result_CHANGED_INT_COUNT, E_w_Result_CHANGED_INT_COUNT, S_w_Result_CHANGED, E_w_Result_CHANGED, F_w_Result_ROWS_ordinal, F_w_Result_ONE_ordinal, F_w_Result_OPTIONAL_ordinal, F_w_Result_PAGE_ordinal, F_w_Result_EXISTS_ordinal, F_w_Result_CHANGED_ordinal, F_w_Result_SLICE_ordinal, F_w_Result_DELETED_ROWS_ordinal, F_w_Result_CHANGED_INT_COUNT_ordinal, F_w_Result_CHANGED_COUNT_ordinal, F_w_Result_INT_COUNT_ordinal, F_w_Result_COUNT_ordinal⟩ := B.2
  refine Con.of (plainFor_of_name pn1) (Ls := #[vR w_Result_PAGE]) (fun m => by first | rfl | (simp [entryFrame, mkF, argsToLocals, Value.category]; done)) ?_
  intro p e s m below meth c T0 X0 H hml hZ hown hnm hret hlk e0
  refine gAloadN X0 H d1_0 rfl rfl 1 rfl ?_
  refine gGetS X0 H hZ hown (hw _ wd34) e0 (S_w_Result_ONE.ext O) d1_1 4 rfl ?_
  intro T116 X116 e116
  refine gAcmp X116 H d1_4 rfl rfl (same := false) (decide_eq_false fun q => (Fld.ne F_w_Result_PAGE_ordinal F_w_Result_ONE_ordinal (by decide)) (Value.ref.inj q)) (by decide) 7 (by decide) ?_
  refine gAloadN X116 H d1_7 rfl rfl 8 rfl ?_
  refine gGetS X116 H hZ hown (hw _ wd35) e116 (S_w_Result_OPTIONAL.ext O) d1_8 11 rfl ?_
  intro T117 X117 e117
  refine gAcmp X117 H d1_11 rfl rfl (same := false) (decide_eq_false fun q => (Fld.ne F_w_Result_PAGE_ordinal F_w_Result_OPTIONAL_ordinal (by decide)) (Value.ref.inj q)) (by decide) 18 (by decide) ?_
  refine gIconst X117 H d1_18 (z := 0) rfl 19 rfl ?_
  exact gRetN X117 H hlk hret (t := .boolean) (by simp) d1_19 e117 ⟨rfl, rfl, rfl⟩
theorem lawAll_3 (B : Bg Z a0 w_Result_ROWS w_Result_ONE w_Result_OPTIONAL w_Result_PAGE w_Result_SLICE w_Result_COUNT w_Result_INT_COUNT w_Result_EXISTS w_Result_DELETED_ROWS w_Result_CHANGED_COUNT w_Result_CHANGED_INT_COUNT w_Result_CHANGED) (p0 : Int32) (ha0 : ((p0 &&& (2147483647 : Int32)) % (12 : Int32)) = (3 : Int32)) :
    Con l Z x code maxLocals ret room_1 #[(.int p0)] Z.heap (fun v h' L => v = some (.int 1) ∧ Fr Z.heap.size L) := by
  have hw := B.1
  obtain ⟨S_w_Result_ROWS, E_w_Result_ROWS, S_w_Result_ONE, E_w_Result_ONE, S_w_Result_OPTIONAL, E_w_Result_OPTIONAL, S_w_Result_PAGE, E_w_Result_PAGE, S_w_Result_SLICE, E_w_Result_SLICE, S_w_Result_COUNT, E_w_Result_COUNT, S_w_Result_INT_COUNT, E_w_Result_INT_COUNT, S_w_Result_EXISTS, E_w_Result_EXISTS, S_w_Result_DELETED_ROWS, E_w_Result_DELETED_ROWS, S_w_Result_CHANGED_COUNT, E_w_Result_CHANGED_COUNT, S_w_Result_CHANGED_INT_COUNT, E_w_Result_CHANGED_INT_COUNT, S_w_Result_CHANGED, E_w_Result_CHANGED, F_w_Result_ROWS_ordinal, F_w_Result_ONE_ordinal, F_w_Result_OPTIONAL_ordinal, F_w_Result_PAGE_ordinal, F_w_Result_EXISTS_ordinal, F_w_Result_CHANGED_ordinal, F_w_Result_SLICE_ordinal, F_w_Result_DELETED_ROWS_ordinal, F_w_Result_CHANGED_INT_COUNT_ordinal, F_w_Result_CHANGED_COUNT_ordinal, F_w_Result_INT_COUNT_ordinal, F_w_Result_COUNT_ordinal⟩ := B.2
  refine Con.of (plainFor_of_name pn0) (Ls := #[vI p0, .unset, .unset, .unset, .unset]) (fun m => by first | rfl | (simp [entryFrame, mkF, argsToLocals, Value.category, maxLocals]; done)) ?_
  intro p e s m below meth c T0 X0 H hml hZ hown hnm hret hlk e0
  have O0 := extR Z.heap
  have M0 := Nat.le_refl Z.heap.size
  have N0 := Fr.nil Z.heap.size
  refine gBipush X0 H at_0 (z := 12) rfl 2 rfl ?_
  refine gNewR X0 H hZ hown (hw _ wd0) (hw _ wd1) e0 (by decide) (cap := 12) (by decide) (by decide) (vs := [.null, .null, .null, .null, .null, .null, .null, .null, .null, .null, .null, .null]) rfl (by decide) (by decide) at_2 5 rfl ?_
  intro T90 h90 b90 k90 X90 e90 z90 E90 V90 Q90
  have G_b90 := Nat.le_trans O0.1 (Nat.le_of_eq z90)
  have sz_b90 := Nat.le_trans M0 (Nat.le_of_eq z90)
  have O90 := extT O0 E90
  refine gDup X90 H at_5 rfl 6 rfl ?_
  refine gIconst X90 H at_6 (z := 0) rfl 7 rfl ?_
  refine gGetS X90 H hZ hown (hw _ wd2) e90 (S_w_Result_ROWS.ext O90) at_7 10 rfl ?_
  intro T91 X91 e91
  refine gAastore X91 H hZ e91 rfl (stoV V90 Q90 (Ins.self (E_w_Result_ROWS.ext O90))) V90 ⟨by decide, by decide⟩ (i := 0) rfl (Nat.le_of_ble_eq_true rfl) (vs' := [(.ref w_Result_ROWS), .null, .null, .null, .null, .null, .null, .null, .null, .null, .null, .null]) rfl at_10 11 rfl ?_
  intro T92 h92 X92 e92 W92 V92
  have O92 := extW O90 W92 G_b90
  have N92 := Fr.snoc X92 N0 G_b90
  refine gDup X92 H at_11 rfl 12 rfl ?_
  refine gIconst X92 H at_12 (z := 1) rfl 13 rfl ?_
  refine gGetS X92 H hZ hown (hw _ wd6) e92 (S_w_Result_ONE.ext O92) at_13 16 rfl ?_
  intro T93 X93 e93
  refine gAastore X93 H hZ e93 rfl (stoV V92 Q90 (Ins.self (E_w_Result_ONE.ext O92))) V92 ⟨by decide, by decide⟩ (i := 1) rfl (Nat.le_of_ble_eq_true rfl) (vs' := [(.ref w_Result_ROWS), (.ref w_Result_ONE), .null, .null, .null, .null, .null, .null, .null, .null, .null, .null]) rfl at_16 17 rfl ?_
  intro T94 h94 X94 e94 W94 V94
  have O94 := extW O92 W94 G_b90
  have N94 := Fr.snoc X94 N92 G_b90
  refine gDup X94 H at_17 rfl 18 rfl ?_
  refine gIconst X94 H at_18 (z := 2) rfl 19 rfl ?_
  refine gGetS X94 H hZ hown (hw _ wd8) e94 (S_w_Result_OPTIONAL.ext O94) at_19 22 rfl ?_
  intro T95 X95 e95
  refine gAastore X95 H hZ e95 rfl (stoV V94 Q90 (Ins.self (E_w_Result_OPTIONAL.ext O94))) V94 ⟨by decide, by decide⟩ (i := 2) rfl (Nat.le_of_ble_eq_true rfl) (vs' := [(.ref w_Result_ROWS), (.ref w_Result_ONE), (.ref w_Result_OPTIONAL), .null, .null, .null, .null, .null, .null, .null, .null, .null]) rfl at_22 23 rfl ?_
  intro T96 h96 X96 e96 W96 V96
  have O96 := extW O94 W96 G_b90
  have N96 := Fr.snoc X96 N94 G_b90
  refine gDup X96 H at_23 rfl 24 rfl ?_
  refine gIconst X96 H at_24 (z := 3) rfl 25 rfl ?_
  refine gGetS X96 H hZ hown (hw _ wd10) e96 (S_w_Result_PAGE.ext O96) at_25 28 rfl ?_
  intro T97 X97 e97
  refine gAastore X97 H hZ e97 rfl (stoV V96 Q90 (Ins.self (E_w_Result_PAGE.ext O96))) V96 ⟨by decide, by decide⟩ (i := 3) rfl (Nat.le_of_ble_eq_true rfl) (vs' := [(.ref w_Result_ROWS), (.ref w_Result_ONE), (.ref w_Result_OPTIONAL), (.ref w_Result_PAGE), .null, .null, .null, .null, .null, .null, .null, .null]) rfl at_28 29 rfl ?_
  intro T98 h98 X98 e98 W98 V98
  have O98 := extW O96 W98 G_b90
  have N98 := Fr.snoc X98 N96 G_b90
  refine gDup X98 H at_29 rfl 30 rfl ?_
  refine gIconst X98 H at_30 (z := 4) rfl 31 rfl ?_
  refine gGetS X98 H hZ hown (hw _ wd12) e98 (S_w_Result_SLICE.ext O98) at_31 34 rfl ?_
  intro T99 X99 e99
  refine gAastore X99 H hZ e99 rfl (stoV V98 Q90 (Ins.self (E_w_Result_SLICE.ext O98))) V98 ⟨by decide, by decide⟩ (i := 4) rfl (Nat.le_of_ble_eq_true rfl) (vs' := [(.ref w_Result_ROWS), (.ref w_Result_ONE), (.ref w_Result_OPTIONAL), (.ref w_Result_PAGE), (.ref w_Result_SLICE), .null, .null, .null, .null, .null, .null, .null]) rfl at_34 35 rfl ?_
  intro T100 h100 X100 e100 W100 V100
  have O100 := extW O98 W100 G_b90
  have N100 := Fr.snoc X100 N98 G_b90
  refine gDup X100 H at_35 rfl 36 rfl ?_
  refine gIconst X100 H at_36 (z := 5) rfl 37 rfl ?_
  refine gGetS X100 H hZ hown (hw _ wd14) e100 (S_w_Result_COUNT.ext O100) at_37 40 rfl ?_
  intro T101 X101 e101
  refine gAastore X101 H hZ e101 rfl (stoV V100 Q90 (Ins.self (E_w_Result_COUNT.ext O100))) V100 ⟨by decide, by decide⟩ (i := 5) rfl (Nat.le_of_ble_eq_true rfl) (vs' := [(.ref w_Result_ROWS), (.ref w_Result_ONE), (.ref w_Result_OPTIONAL), (.ref w_Result_PAGE), (.ref w_Result_SLICE), (.ref w_Result_COUNT), .null, .null, .null, .null, .null, .null]) rfl at_40 41 rfl ?_
  intro T102 h102 X102 e102 W102 V102
  have O102 := extW O100 W102 G_b90
  have N102 := Fr.snoc X102 N100 G_b90
  refine gDup X102 H at_41 rfl 42 rfl ?_
  refine gBipush X102 H at_42 (z := 6) rfl 44 rfl ?_
  refine gGetS X102 H hZ hown (hw _ wd16) e102 (S_w_Result_INT_COUNT.ext O102) at_44 47 rfl ?_
  intro T103 X103 e103
  refine gAastore X103 H hZ e103 rfl (stoV V102 Q90 (Ins.self (E_w_Result_INT_COUNT.ext O102))) V102 ⟨by decide, by decide⟩ (i := 6) rfl (Nat.le_of_ble_eq_true rfl) (vs' := [(.ref w_Result_ROWS), (.ref w_Result_ONE), (.ref w_Result_OPTIONAL), (.ref w_Result_PAGE), (.ref w_Result_SLICE), (.ref w_Result_COUNT), (.ref w_Result_INT_COUNT), .null, .null, .null, .null, .null]) rfl at_47 48 rfl ?_
  intro T104 h104 X104 e104 W104 V104
  have O104 := extW O102 W104 G_b90
  have N104 := Fr.snoc X104 N102 G_b90
  refine gDup X104 H at_48 rfl 49 rfl ?_
  refine gBipush X104 H at_49 (z := 7) rfl 51 rfl ?_
  refine gGetS X104 H hZ hown (hw _ wd18) e104 (S_w_Result_EXISTS.ext O104) at_51 54 rfl ?_
  intro T105 X105 e105
  refine gAastore X105 H hZ e105 rfl (stoV V104 Q90 (Ins.self (E_w_Result_EXISTS.ext O104))) V104 ⟨by decide, by decide⟩ (i := 7) rfl (Nat.le_of_ble_eq_true rfl) (vs' := [(.ref w_Result_ROWS), (.ref w_Result_ONE), (.ref w_Result_OPTIONAL), (.ref w_Result_PAGE), (.ref w_Result_SLICE), (.ref w_Result_COUNT), (.ref w_Result_INT_COUNT), (.ref w_Result_EXISTS), .null, .null, .null, .null]) rfl at_54 55 rfl ?_
  intro T106 h106 X106 e106 W106 V106
  have O106 := extW O104 W106 G_b90
  have N106 := Fr.snoc X106 N104 G_b90
  refine gDup X106 H at_55 rfl 56 rfl ?_
  refine gBipush X106 H at_56 (z := 8) rfl 58 rfl ?_
  refine gGetS X106 H hZ hown (hw _ wd20) e106 (S_w_Result_DELETED_ROWS.ext O106) at_58 61 rfl ?_
  intro T107 X107 e107
  refine gAastore X107 H hZ e107 rfl (stoV V106 Q90 (Ins.self (E_w_Result_DELETED_ROWS.ext O106))) V106 ⟨by decide, by decide⟩ (i := 8) rfl (Nat.le_of_ble_eq_true rfl) (vs' := [(.ref w_Result_ROWS), (.ref w_Result_ONE), (.ref w_Result_OPTIONAL), (.ref w_Result_PAGE), (.ref w_Result_SLICE), (.ref w_Result_COUNT), (.ref w_Result_INT_COUNT), (.ref w_Result_EXISTS), (.ref w_Result_DELETED_ROWS), .null, .null, .null]) rfl at_61 62 rfl ?_
  intro T108 h108 X108 e108 W108 V108
  have O108 := extW O106 W108 G_b90
  have N108 := Fr.snoc X108 N106 G_b90
  refine gDup X108 H at_62 rfl 63 rfl ?_
  refine gBipush X108 H at_63 (z := 9) rfl 65 rfl ?_
  refine gGetS X108 H hZ hown (hw _ wd22) e108 (S_w_Result_CHANGED_COUNT.ext O108) at_65 68 rfl ?_
  intro T109 X109 e109
  refine gAastore X109 H hZ e109 rfl (stoV V108 Q90 (Ins.self (E_w_Result_CHANGED_COUNT.ext O108))) V108 ⟨by decide, by decide⟩ (i := 9) rfl (Nat.le_of_ble_eq_true rfl) (vs' := [(.ref w_Result_ROWS), (.ref w_Result_ONE), (.ref w_Result_OPTIONAL), (.ref w_Result_PAGE), (.ref w_Result_SLICE), (.ref w_Result_COUNT), (.ref w_Result_INT_COUNT), (.ref w_Result_EXISTS), (.ref w_Result_DELETED_ROWS), (.ref w_Result_CHANGED_COUNT), .null, .null]) rfl at_68 69 rfl ?_
  intro T110 h110 X110 e110 W110 V110
  have O110 := extW O108 W110 G_b90
  have N110 := Fr.snoc X110 N108 G_b90
  refine gDup X110 H at_69 rfl 70 rfl ?_
  refine gBipush X110 H at_70 (z := 10) rfl 72 rfl ?_
  refine gGetS X110 H hZ hown (hw _ wd24) e110 (S_w_Result_CHANGED_INT_COUNT.ext O110) at_72 75 rfl ?_
  intro T111 X111 e111
  refine gAastore X111 H hZ e111 rfl (stoV V110 Q90 (Ins.self (E_w_Result_CHANGED_INT_COUNT.ext O110))) V110 ⟨by decide, by decide⟩ (i := 10) rfl (Nat.le_of_ble_eq_true rfl) (vs' := [(.ref w_Result_ROWS), (.ref w_Result_ONE), (.ref w_Result_OPTIONAL), (.ref w_Result_PAGE), (.ref w_Result_SLICE), (.ref w_Result_COUNT), (.ref w_Result_INT_COUNT), (.ref w_Result_EXISTS), (.ref w_Result_DELETED_ROWS), (.ref w_Result_CHANGED_COUNT), (.ref w_Result_CHANGED_INT_COUNT), .null]) rfl at_75 76 rfl ?_
  intro T112 h112 X112 e112 W112 V112
  have O112 := extW O110 W112 G_b90
  have N112 := Fr.snoc X112 N110 G_b90
  refine gDup X112 H at_76 rfl 77 rfl ?_
  refine gBipush X112 H at_77 (z := 11) rfl 79 rfl ?_
  refine gGetS X112 H hZ hown (hw _ wd26) e112 (S_w_Result_CHANGED.ext O112) at_79 82 rfl ?_
  intro T113 X113 e113
  refine gAastore X113 H hZ e113 rfl (stoV V112 Q90 (Ins.self (E_w_Result_CHANGED.ext O112))) V112 ⟨by decide, by decide⟩ (i := 11) rfl (Nat.le_of_ble_eq_true rfl) (vs' := [(.ref w_Result_ROWS), (.ref w_Result_ONE), (.ref w_Result_OPTIONAL), (.ref w_Result_PAGE), (.ref w_Result_SLICE), (.ref w_Result_COUNT), (.ref w_Result_INT_COUNT), (.ref w_Result_EXISTS), (.ref w_Result_DELETED_ROWS), (.ref w_Result_CHANGED_COUNT), (.ref w_Result_CHANGED_INT_COUNT), (.ref w_Result_CHANGED)]) rfl at_82 83 rfl ?_
  intro T114 h114 X114 e114 W114 V114
  have O114 := extW O112 W114 G_b90
  have N114 := Fr.snoc X114 N112 G_b90
  refine gAstoreN X114 H at_83 rfl (Ls' := #[vI p0, vR b90, .unset, .unset, .unset]) rfl 84 rfl ?_
  refine gIloadN X114 H at_84 rfl 85 rfl ?_
  refine gLdc X114 H hZ hown (hw _ wd28) at_85 87 rfl ?_
  refine g_iand X114 H at_87 (z := (p0 &&& (2147483647 : Int32))) rfl 88 rfl ?_
  refine gBipush X114 H at_88 (z := 12) rfl 90 rfl ?_
  refine g_irem X114 H at_90 (by decide) (z := 3) ha0 91 rfl ?_
  refine gIstoreN X114 H at_91 (Ls' := #[vI p0, vR b90, vI 3, .unset, .unset]) rfl 92 rfl ?_
  refine gAloadN X114 H at_92 rfl rfl 93 rfl ?_
  refine gIloadN X114 H at_93 rfl 94 rfl ?_
  refine gAaload X114 H hZ e114 rfl V114 ⟨by decide, by decide⟩ (v := (.ref w_Result_PAGE)) rfl at_94 95 rfl ?_
  refine gAstoreN X114 H at_95 rfl (Ls' := #[vI p0, vR b90, vI 3, vR w_Result_PAGE, .unset]) rfl 96 rfl ?_
  refine gIloadN X114 H at_96 rfl 97 rfl ?_
  refine gIconst X114 H at_97 (z := 1) rfl 98 rfl ?_
  refine gCmpN X114 H at_98 (by decide) 101 rfl ?_
  refine gIloadN X114 H at_101 rfl 102 rfl ?_
  refine gIconst X114 H at_102 (z := 2) rfl 103 rfl ?_
  refine gCmpY X114 H at_103 (by decide) (by decide) 110 rfl ?_
  refine gIconst X114 H at_110 (z := 0) rfl 111 rfl ?_
  refine gIstore X114 H at_111 (Ls' := #[vI p0, vR b90, vI 3, vR w_Result_PAGE, vI 0]) rfl 113 rfl ?_
  refine gAloadN X114 H at_113 rfl rfl 114 rfl ?_
  refine gVirt X114 H hZ hown (hw _ wd29) (hw _ wd30) (hw _ wd32) (hw _ wd31) (by decide) (E_w_Result_PAGE.ext O114) (hw _ wd33) (hw _ wd3) (rm118_1 B _ O114) e114 hml rfl pd0 rfl (W := 0) (argsL := []) (rest := []) rfl rfl at_114 117 rfl ?_
  intro v119 T119 L119 hq119 X119
  obtain ⟨rfl, e119, rfl⟩ := hq119
  have N119 := Fr.app N114 (Fr.nil _)
  show Go _ _ _ _ (State.setTop _ (mkF _ 117 _ [(.int 0)]))
  refine gIload X119 H at_117 rfl 119 rfl ?_
  refine gCmpN X119 H at_119 (by decide) 122 rfl ?_
  refine gIconst X119 H at_122 (z := 1) rfl 123 rfl ?_
  refine gGoto X119 H at_123 (by decide) 127 rfl ?_
  exact gRetN X119 H hlk hret (t := .boolean) (by simp) at_127 e119 ⟨rfl, N119⟩
theorem rm148_1 (B : Bg Z a0 w_Result_ROWS w_Result_ONE w_Result_OPTIONAL w_Result_PAGE w_Result_SLICE w_Result_COUNT w_Result_INT_COUNT w_Result_EXISTS w_Result_DELETED_ROWS w_Result_CHANGED_COUNT w_Result_CHANGED_INT_COUNT w_Result_CHANGED) (h : Heap) (O : Ext Z.heap h) :
    Con l Z yM1 prog_55_method_6_code 1 (some .boolean) ({ frames := 0, cells := 0, slots := 0, locals := 0 } : Room) #[(.ref w_Result_SLICE)] h (fun v h' L => v = some (.int 0) ∧ h' = h ∧ L = []) := by
  have hw := B.1
  obtain ⟨S_w_Result_ROWS, E_w_Result_ROWS, S_w_Result_ONE, E_w_Result_ONE, S_w_Result_OPTIONAL, E_w_Result_OPTIONAL, S_w_Result_PAGE, E_w_Result_PAGE, S_w_Result_SLICE, E_w_Result_SLICE, S_w_Result_COUNT, E_w_Result_COUNT, S_w_Result_INT_COUNT, E_w_Result_INT_COUNT, S_w_Result_EXISTS, E_w_Result_EXISTS, S_w_Result_DELETED_ROWS, E_w_Result_DELETED_ROWS, S_w_Result_CHANGED_COUNT, E_w_Result_CHANGED_COUNT, S_w_Result_CHANGED_INT_COUNT, E_w_Result_CHANGED_INT_COUNT, S_w_Result_CHANGED, E_w_Result_CHANGED, F_w_Result_ROWS_ordinal, F_w_Result_ONE_ordinal, F_w_Result_OPTIONAL_ordinal, F_w_Result_PAGE_ordinal, F_w_Result_EXISTS_ordinal, F_w_Result_CHANGED_ordinal, F_w_Result_SLICE_ordinal, F_w_Result_DELETED_ROWS_ordinal, F_w_Result_CHANGED_INT_COUNT_ordinal, F_w_Result_CHANGED_COUNT_ordinal, F_w_Result_INT_COUNT_ordinal, F_w_Result_COUNT_ordinal⟩ := B.2
  refine Con.of (plainFor_of_name pn1) (Ls := #[vR w_Result_SLICE]) (fun m => by first | rfl | (simp [entryFrame, mkF, argsToLocals, Value.category]; done)) ?_
  intro p e s m below meth c T0 X0 H hml hZ hown hnm hret hlk e0
  refine gAloadN X0 H d1_0 rfl rfl 1 rfl ?_
  refine gGetS X0 H hZ hown (hw _ wd34) e0 (S_w_Result_ONE.ext O) d1_1 4 rfl ?_
  intro T146 X146 e146
  refine gAcmp X146 H d1_4 rfl rfl (same := false) (decide_eq_false fun q => (Fld.ne F_w_Result_SLICE_ordinal F_w_Result_ONE_ordinal (by decide)) (Value.ref.inj q)) (by decide) 7 (by decide) ?_
  refine gAloadN X146 H d1_7 rfl rfl 8 rfl ?_
  refine gGetS X146 H hZ hown (hw _ wd35) e146 (S_w_Result_OPTIONAL.ext O) d1_8 11 rfl ?_
  intro T147 X147 e147
  refine gAcmp X147 H d1_11 rfl rfl (same := false) (decide_eq_false fun q => (Fld.ne F_w_Result_SLICE_ordinal F_w_Result_OPTIONAL_ordinal (by decide)) (Value.ref.inj q)) (by decide) 18 (by decide) ?_
  refine gIconst X147 H d1_18 (z := 0) rfl 19 rfl ?_
  exact gRetN X147 H hlk hret (t := .boolean) (by simp) d1_19 e147 ⟨rfl, rfl, rfl⟩
theorem lawAll_4 (B : Bg Z a0 w_Result_ROWS w_Result_ONE w_Result_OPTIONAL w_Result_PAGE w_Result_SLICE w_Result_COUNT w_Result_INT_COUNT w_Result_EXISTS w_Result_DELETED_ROWS w_Result_CHANGED_COUNT w_Result_CHANGED_INT_COUNT w_Result_CHANGED) (p0 : Int32) (ha0 : ((p0 &&& (2147483647 : Int32)) % (12 : Int32)) = (4 : Int32)) :
    Con l Z x code maxLocals ret room_1 #[(.int p0)] Z.heap (fun v h' L => v = some (.int 1) ∧ Fr Z.heap.size L) := by
  have hw := B.1
  obtain ⟨S_w_Result_ROWS, E_w_Result_ROWS, S_w_Result_ONE, E_w_Result_ONE, S_w_Result_OPTIONAL, E_w_Result_OPTIONAL, S_w_Result_PAGE, E_w_Result_PAGE, S_w_Result_SLICE, E_w_Result_SLICE, S_w_Result_COUNT, E_w_Result_COUNT, S_w_Result_INT_COUNT, E_w_Result_INT_COUNT, S_w_Result_EXISTS, E_w_Result_EXISTS, S_w_Result_DELETED_ROWS, E_w_Result_DELETED_ROWS, S_w_Result_CHANGED_COUNT, E_w_Result_CHANGED_COUNT, S_w_Result_CHANGED_INT_COUNT, E_w_Result_CHANGED_INT_COUNT, S_w_Result_CHANGED, E_w_Result_CHANGED, F_w_Result_ROWS_ordinal, F_w_Result_ONE_ordinal, F_w_Result_OPTIONAL_ordinal, F_w_Result_PAGE_ordinal, F_w_Result_EXISTS_ordinal, F_w_Result_CHANGED_ordinal, F_w_Result_SLICE_ordinal, F_w_Result_DELETED_ROWS_ordinal, F_w_Result_CHANGED_INT_COUNT_ordinal, F_w_Result_CHANGED_COUNT_ordinal, F_w_Result_INT_COUNT_ordinal, F_w_Result_COUNT_ordinal⟩ := B.2
  refine Con.of (plainFor_of_name pn0) (Ls := #[vI p0, .unset, .unset, .unset, .unset]) (fun m => by first | rfl | (simp [entryFrame, mkF, argsToLocals, Value.category, maxLocals]; done)) ?_
  intro p e s m below meth c T0 X0 H hml hZ hown hnm hret hlk e0
  have O0 := extR Z.heap
  have M0 := Nat.le_refl Z.heap.size
  have N0 := Fr.nil Z.heap.size
  refine gBipush X0 H at_0 (z := 12) rfl 2 rfl ?_
  refine gNewR X0 H hZ hown (hw _ wd0) (hw _ wd1) e0 (by decide) (cap := 12) (by decide) (by decide) (vs := [.null, .null, .null, .null, .null, .null, .null, .null, .null, .null, .null, .null]) rfl (by decide) (by decide) at_2 5 rfl ?_
  intro T120 h120 b120 k120 X120 e120 z120 E120 V120 Q120
  have G_b120 := Nat.le_trans O0.1 (Nat.le_of_eq z120)
  have sz_b120 := Nat.le_trans M0 (Nat.le_of_eq z120)
  have O120 := extT O0 E120
  refine gDup X120 H at_5 rfl 6 rfl ?_
  refine gIconst X120 H at_6 (z := 0) rfl 7 rfl ?_
  refine gGetS X120 H hZ hown (hw _ wd2) e120 (S_w_Result_ROWS.ext O120) at_7 10 rfl ?_
  intro T121 X121 e121
  refine gAastore X121 H hZ e121 rfl (stoV V120 Q120 (Ins.self (E_w_Result_ROWS.ext O120))) V120 ⟨by decide, by decide⟩ (i := 0) rfl (Nat.le_of_ble_eq_true rfl) (vs' := [(.ref w_Result_ROWS), .null, .null, .null, .null, .null, .null, .null, .null, .null, .null, .null]) rfl at_10 11 rfl ?_
  intro T122 h122 X122 e122 W122 V122
  have O122 := extW O120 W122 G_b120
  have N122 := Fr.snoc X122 N0 G_b120
  refine gDup X122 H at_11 rfl 12 rfl ?_
  refine gIconst X122 H at_12 (z := 1) rfl 13 rfl ?_
  refine gGetS X122 H hZ hown (hw _ wd6) e122 (S_w_Result_ONE.ext O122) at_13 16 rfl ?_
  intro T123 X123 e123
  refine gAastore X123 H hZ e123 rfl (stoV V122 Q120 (Ins.self (E_w_Result_ONE.ext O122))) V122 ⟨by decide, by decide⟩ (i := 1) rfl (Nat.le_of_ble_eq_true rfl) (vs' := [(.ref w_Result_ROWS), (.ref w_Result_ONE), .null, .null, .null, .null, .null, .null, .null, .null, .null, .null]) rfl at_16 17 rfl ?_
  intro T124 h124 X124 e124 W124 V124
  have O124 := extW O122 W124 G_b120
  have N124 := Fr.snoc X124 N122 G_b120
  refine gDup X124 H at_17 rfl 18 rfl ?_
  refine gIconst X124 H at_18 (z := 2) rfl 19 rfl ?_
  refine gGetS X124 H hZ hown (hw _ wd8) e124 (S_w_Result_OPTIONAL.ext O124) at_19 22 rfl ?_
  intro T125 X125 e125
  refine gAastore X125 H hZ e125 rfl (stoV V124 Q120 (Ins.self (E_w_Result_OPTIONAL.ext O124))) V124 ⟨by decide, by decide⟩ (i := 2) rfl (Nat.le_of_ble_eq_true rfl) (vs' := [(.ref w_Result_ROWS), (.ref w_Result_ONE), (.ref w_Result_OPTIONAL), .null, .null, .null, .null, .null, .null, .null, .null, .null]) rfl at_22 23 rfl ?_
  intro T126 h126 X126 e126 W126 V126
  have O126 := extW O124 W126 G_b120
  have N126 := Fr.snoc X126 N124 G_b120
  refine gDup X126 H at_23 rfl 24 rfl ?_
  refine gIconst X126 H at_24 (z := 3) rfl 25 rfl ?_
  refine gGetS X126 H hZ hown (hw _ wd10) e126 (S_w_Result_PAGE.ext O126) at_25 28 rfl ?_
  intro T127 X127 e127
  refine gAastore X127 H hZ e127 rfl (stoV V126 Q120 (Ins.self (E_w_Result_PAGE.ext O126))) V126 ⟨by decide, by decide⟩ (i := 3) rfl (Nat.le_of_ble_eq_true rfl) (vs' := [(.ref w_Result_ROWS), (.ref w_Result_ONE), (.ref w_Result_OPTIONAL), (.ref w_Result_PAGE), .null, .null, .null, .null, .null, .null, .null, .null]) rfl at_28 29 rfl ?_
  intro T128 h128 X128 e128 W128 V128
  have O128 := extW O126 W128 G_b120
  have N128 := Fr.snoc X128 N126 G_b120
  refine gDup X128 H at_29 rfl 30 rfl ?_
  refine gIconst X128 H at_30 (z := 4) rfl 31 rfl ?_
  refine gGetS X128 H hZ hown (hw _ wd12) e128 (S_w_Result_SLICE.ext O128) at_31 34 rfl ?_
  intro T129 X129 e129
  refine gAastore X129 H hZ e129 rfl (stoV V128 Q120 (Ins.self (E_w_Result_SLICE.ext O128))) V128 ⟨by decide, by decide⟩ (i := 4) rfl (Nat.le_of_ble_eq_true rfl) (vs' := [(.ref w_Result_ROWS), (.ref w_Result_ONE), (.ref w_Result_OPTIONAL), (.ref w_Result_PAGE), (.ref w_Result_SLICE), .null, .null, .null, .null, .null, .null, .null]) rfl at_34 35 rfl ?_
  intro T130 h130 X130 e130 W130 V130
  have O130 := extW O128 W130 G_b120
  have N130 := Fr.snoc X130 N128 G_b120
  refine gDup X130 H at_35 rfl 36 rfl ?_
  refine gIconst X130 H at_36 (z := 5) rfl 37 rfl ?_
  refine gGetS X130 H hZ hown (hw _ wd14) e130 (S_w_Result_COUNT.ext O130) at_37 40 rfl ?_
  intro T131 X131 e131
  refine gAastore X131 H hZ e131 rfl (stoV V130 Q120 (Ins.self (E_w_Result_COUNT.ext O130))) V130 ⟨by decide, by decide⟩ (i := 5) rfl (Nat.le_of_ble_eq_true rfl) (vs' := [(.ref w_Result_ROWS), (.ref w_Result_ONE), (.ref w_Result_OPTIONAL), (.ref w_Result_PAGE), (.ref w_Result_SLICE), (.ref w_Result_COUNT), .null, .null, .null, .null, .null, .null]) rfl at_40 41 rfl ?_
  intro T132 h132 X132 e132 W132 V132
  have O132 := extW O130 W132 G_b120
  have N132 := Fr.snoc X132 N130 G_b120
  refine gDup X132 H at_41 rfl 42 rfl ?_
  refine gBipush X132 H at_42 (z := 6) rfl 44 rfl ?_
  refine gGetS X132 H hZ hown (hw _ wd16) e132 (S_w_Result_INT_COUNT.ext O132) at_44 47 rfl ?_
  intro T133 X133 e133
  refine gAastore X133 H hZ e133 rfl (stoV V132 Q120 (Ins.self (E_w_Result_INT_COUNT.ext O132))) V132 ⟨by decide, by decide⟩ (i := 6) rfl (Nat.le_of_ble_eq_true rfl) (vs' := [(.ref w_Result_ROWS), (.ref w_Result_ONE), (.ref w_Result_OPTIONAL), (.ref w_Result_PAGE), (.ref w_Result_SLICE), (.ref w_Result_COUNT), (.ref w_Result_INT_COUNT), .null, .null, .null, .null, .null]) rfl at_47 48 rfl ?_
  intro T134 h134 X134 e134 W134 V134
  have O134 := extW O132 W134 G_b120
  have N134 := Fr.snoc X134 N132 G_b120
  refine gDup X134 H at_48 rfl 49 rfl ?_
  refine gBipush X134 H at_49 (z := 7) rfl 51 rfl ?_
  refine gGetS X134 H hZ hown (hw _ wd18) e134 (S_w_Result_EXISTS.ext O134) at_51 54 rfl ?_
  intro T135 X135 e135
  refine gAastore X135 H hZ e135 rfl (stoV V134 Q120 (Ins.self (E_w_Result_EXISTS.ext O134))) V134 ⟨by decide, by decide⟩ (i := 7) rfl (Nat.le_of_ble_eq_true rfl) (vs' := [(.ref w_Result_ROWS), (.ref w_Result_ONE), (.ref w_Result_OPTIONAL), (.ref w_Result_PAGE), (.ref w_Result_SLICE), (.ref w_Result_COUNT), (.ref w_Result_INT_COUNT), (.ref w_Result_EXISTS), .null, .null, .null, .null]) rfl at_54 55 rfl ?_
  intro T136 h136 X136 e136 W136 V136
  have O136 := extW O134 W136 G_b120
  have N136 := Fr.snoc X136 N134 G_b120
  refine gDup X136 H at_55 rfl 56 rfl ?_
  refine gBipush X136 H at_56 (z := 8) rfl 58 rfl ?_
  refine gGetS X136 H hZ hown (hw _ wd20) e136 (S_w_Result_DELETED_ROWS.ext O136) at_58 61 rfl ?_
  intro T137 X137 e137
  refine gAastore X137 H hZ e137 rfl (stoV V136 Q120 (Ins.self (E_w_Result_DELETED_ROWS.ext O136))) V136 ⟨by decide, by decide⟩ (i := 8) rfl (Nat.le_of_ble_eq_true rfl) (vs' := [(.ref w_Result_ROWS), (.ref w_Result_ONE), (.ref w_Result_OPTIONAL), (.ref w_Result_PAGE), (.ref w_Result_SLICE), (.ref w_Result_COUNT), (.ref w_Result_INT_COUNT), (.ref w_Result_EXISTS), (.ref w_Result_DELETED_ROWS), .null, .null, .null]) rfl at_61 62 rfl ?_
  intro T138 h138 X138 e138 W138 V138
  have O138 := extW O136 W138 G_b120
  have N138 := Fr.snoc X138 N136 G_b120
  refine gDup X138 H at_62 rfl 63 rfl ?_
  refine gBipush X138 H at_63 (z := 9) rfl 65 rfl ?_
  refine gGetS X138 H hZ hown (hw _ wd22) e138 (S_w_Result_CHANGED_COUNT.ext O138) at_65 68 rfl ?_
  intro T139 X139 e139
  refine gAastore X139 H hZ e139 rfl (stoV V138 Q120 (Ins.self (E_w_Result_CHANGED_COUNT.ext O138))) V138 ⟨by decide, by decide⟩ (i := 9) rfl (Nat.le_of_ble_eq_true rfl) (vs' := [(.ref w_Result_ROWS), (.ref w_Result_ONE), (.ref w_Result_OPTIONAL), (.ref w_Result_PAGE), (.ref w_Result_SLICE), (.ref w_Result_COUNT), (.ref w_Result_INT_COUNT), (.ref w_Result_EXISTS), (.ref w_Result_DELETED_ROWS), (.ref w_Result_CHANGED_COUNT), .null, .null]) rfl at_68 69 rfl ?_
  intro T140 h140 X140 e140 W140 V140
  have O140 := extW O138 W140 G_b120
  have N140 := Fr.snoc X140 N138 G_b120
  refine gDup X140 H at_69 rfl 70 rfl ?_
  refine gBipush X140 H at_70 (z := 10) rfl 72 rfl ?_
  refine gGetS X140 H hZ hown (hw _ wd24) e140 (S_w_Result_CHANGED_INT_COUNT.ext O140) at_72 75 rfl ?_
  intro T141 X141 e141
  refine gAastore X141 H hZ e141 rfl (stoV V140 Q120 (Ins.self (E_w_Result_CHANGED_INT_COUNT.ext O140))) V140 ⟨by decide, by decide⟩ (i := 10) rfl (Nat.le_of_ble_eq_true rfl) (vs' := [(.ref w_Result_ROWS), (.ref w_Result_ONE), (.ref w_Result_OPTIONAL), (.ref w_Result_PAGE), (.ref w_Result_SLICE), (.ref w_Result_COUNT), (.ref w_Result_INT_COUNT), (.ref w_Result_EXISTS), (.ref w_Result_DELETED_ROWS), (.ref w_Result_CHANGED_COUNT), (.ref w_Result_CHANGED_INT_COUNT), .null]) rfl at_75 76 rfl ?_
  intro T142 h142 X142 e142 W142 V142
  have O142 := extW O140 W142 G_b120
  have N142 := Fr.snoc X142 N140 G_b120
  refine gDup X142 H at_76 rfl 77 rfl ?_
  refine gBipush X142 H at_77 (z := 11) rfl 79 rfl ?_
  refine gGetS X142 H hZ hown (hw _ wd26) e142 (S_w_Result_CHANGED.ext O142) at_79 82 rfl ?_
  intro T143 X143 e143
  refine gAastore X143 H hZ e143 rfl (stoV V142 Q120 (Ins.self (E_w_Result_CHANGED.ext O142))) V142 ⟨by decide, by decide⟩ (i := 11) rfl (Nat.le_of_ble_eq_true rfl) (vs' := [(.ref w_Result_ROWS), (.ref w_Result_ONE), (.ref w_Result_OPTIONAL), (.ref w_Result_PAGE), (.ref w_Result_SLICE), (.ref w_Result_COUNT), (.ref w_Result_INT_COUNT), (.ref w_Result_EXISTS), (.ref w_Result_DELETED_ROWS), (.ref w_Result_CHANGED_COUNT), (.ref w_Result_CHANGED_INT_COUNT), (.ref w_Result_CHANGED)]) rfl at_82 83 rfl ?_
  intro T144 h144 X144 e144 W144 V144
  have O144 := extW O142 W144 G_b120
  have N144 := Fr.snoc X144 N142 G_b120
  refine gAstoreN X144 H at_83 rfl (Ls' := #[vI p0, vR b120, .unset, .unset, .unset]) rfl 84 rfl ?_
  refine gIloadN X144 H at_84 rfl 85 rfl ?_
  refine gLdc X144 H hZ hown (hw _ wd28) at_85 87 rfl ?_
  refine g_iand X144 H at_87 (z := (p0 &&& (2147483647 : Int32))) rfl 88 rfl ?_
  refine gBipush X144 H at_88 (z := 12) rfl 90 rfl ?_
  refine g_irem X144 H at_90 (by decide) (z := 4) ha0 91 rfl ?_
  refine gIstoreN X144 H at_91 (Ls' := #[vI p0, vR b120, vI 4, .unset, .unset]) rfl 92 rfl ?_
  refine gAloadN X144 H at_92 rfl rfl 93 rfl ?_
  refine gIloadN X144 H at_93 rfl 94 rfl ?_
  refine gAaload X144 H hZ e144 rfl V144 ⟨by decide, by decide⟩ (v := (.ref w_Result_SLICE)) rfl at_94 95 rfl ?_
  refine gAstoreN X144 H at_95 rfl (Ls' := #[vI p0, vR b120, vI 4, vR w_Result_SLICE, .unset]) rfl 96 rfl ?_
  refine gIloadN X144 H at_96 rfl 97 rfl ?_
  refine gIconst X144 H at_97 (z := 1) rfl 98 rfl ?_
  refine gCmpN X144 H at_98 (by decide) 101 rfl ?_
  refine gIloadN X144 H at_101 rfl 102 rfl ?_
  refine gIconst X144 H at_102 (z := 2) rfl 103 rfl ?_
  refine gCmpY X144 H at_103 (by decide) (by decide) 110 rfl ?_
  refine gIconst X144 H at_110 (z := 0) rfl 111 rfl ?_
  refine gIstore X144 H at_111 (Ls' := #[vI p0, vR b120, vI 4, vR w_Result_SLICE, vI 0]) rfl 113 rfl ?_
  refine gAloadN X144 H at_113 rfl rfl 114 rfl ?_
  refine gVirt X144 H hZ hown (hw _ wd29) (hw _ wd30) (hw _ wd32) (hw _ wd31) (by decide) (E_w_Result_SLICE.ext O144) (hw _ wd33) (hw _ wd3) (rm148_1 B _ O144) e144 hml rfl pd0 rfl (W := 0) (argsL := []) (rest := []) rfl rfl at_114 117 rfl ?_
  intro v149 T149 L149 hq149 X149
  obtain ⟨rfl, e149, rfl⟩ := hq149
  have N149 := Fr.app N144 (Fr.nil _)
  show Go _ _ _ _ (State.setTop _ (mkF _ 117 _ [(.int 0)]))
  refine gIload X149 H at_117 rfl 119 rfl ?_
  refine gCmpN X149 H at_119 (by decide) 122 rfl ?_
  refine gIconst X149 H at_122 (z := 1) rfl 123 rfl ?_
  refine gGoto X149 H at_123 (by decide) 127 rfl ?_
  exact gRetN X149 H hlk hret (t := .boolean) (by simp) at_127 e149 ⟨rfl, N149⟩
theorem rm178_1 (B : Bg Z a0 w_Result_ROWS w_Result_ONE w_Result_OPTIONAL w_Result_PAGE w_Result_SLICE w_Result_COUNT w_Result_INT_COUNT w_Result_EXISTS w_Result_DELETED_ROWS w_Result_CHANGED_COUNT w_Result_CHANGED_INT_COUNT w_Result_CHANGED) (h : Heap) (O : Ext Z.heap h) :
    Con l Z yM1 prog_55_method_6_code 1 (some .boolean) ({ frames := 0, cells := 0, slots := 0, locals := 0 } : Room) #[(.ref w_Result_COUNT)] h (fun v h' L => v = some (.int 0) ∧ h' = h ∧ L = []) := by
  have hw := B.1
  obtain ⟨S_w_Result_ROWS, E_w_Result_ROWS, S_w_Result_ONE, E_w_Result_ONE, S_w_Result_OPTIONAL, E_w_Result_OPTIONAL, S_w_Result_PAGE, E_w_Result_PAGE, S_w_Result_SLICE, E_w_Result_SLICE, S_w_Result_COUNT, E_w_Result_COUNT, S_w_Result_INT_COUNT, E_w_Result_INT_COUNT, S_w_Result_EXISTS, E_w_Result_EXISTS, S_w_Result_DELETED_ROWS, E_w_Result_DELETED_ROWS, S_w_Result_CHANGED_COUNT, E_w_Result_CHANGED_COUNT, S_w_Result_CHANGED_INT_COUNT, E_w_Result_CHANGED_INT_COUNT, S_w_Result_CHANGED, E_w_Result_CHANGED, F_w_Result_ROWS_ordinal, F_w_Result_ONE_ordinal, F_w_Result_OPTIONAL_ordinal, F_w_Result_PAGE_ordinal, F_w_Result_EXISTS_ordinal, F_w_Result_CHANGED_ordinal, F_w_Result_SLICE_ordinal, F_w_Result_DELETED_ROWS_ordinal, F_w_Result_CHANGED_INT_COUNT_ordinal, F_w_Result_CHANGED_COUNT_ordinal, F_w_Result_INT_COUNT_ordinal, F_w_Result_COUNT_ordinal⟩ := B.2
  refine Con.of (plainFor_of_name pn1) (Ls := #[vR w_Result_COUNT]) (fun m => by first | rfl | (simp [entryFrame, mkF, argsToLocals, Value.category]; done)) ?_
  intro p e s m below meth c T0 X0 H hml hZ hown hnm hret hlk e0
  refine gAloadN X0 H d1_0 rfl rfl 1 rfl ?_
  refine gGetS X0 H hZ hown (hw _ wd34) e0 (S_w_Result_ONE.ext O) d1_1 4 rfl ?_
  intro T176 X176 e176
  refine gAcmp X176 H d1_4 rfl rfl (same := false) (decide_eq_false fun q => (Fld.ne F_w_Result_COUNT_ordinal F_w_Result_ONE_ordinal (by decide)) (Value.ref.inj q)) (by decide) 7 (by decide) ?_
  refine gAloadN X176 H d1_7 rfl rfl 8 rfl ?_
  refine gGetS X176 H hZ hown (hw _ wd35) e176 (S_w_Result_OPTIONAL.ext O) d1_8 11 rfl ?_
  intro T177 X177 e177
  refine gAcmp X177 H d1_11 rfl rfl (same := false) (decide_eq_false fun q => (Fld.ne F_w_Result_COUNT_ordinal F_w_Result_OPTIONAL_ordinal (by decide)) (Value.ref.inj q)) (by decide) 18 (by decide) ?_
  refine gIconst X177 H d1_18 (z := 0) rfl 19 rfl ?_
  exact gRetN X177 H hlk hret (t := .boolean) (by simp) d1_19 e177 ⟨rfl, rfl, rfl⟩
theorem lawAll_5 (B : Bg Z a0 w_Result_ROWS w_Result_ONE w_Result_OPTIONAL w_Result_PAGE w_Result_SLICE w_Result_COUNT w_Result_INT_COUNT w_Result_EXISTS w_Result_DELETED_ROWS w_Result_CHANGED_COUNT w_Result_CHANGED_INT_COUNT w_Result_CHANGED) (p0 : Int32) (ha0 : ((p0 &&& (2147483647 : Int32)) % (12 : Int32)) = (5 : Int32)) :
    Con l Z x code maxLocals ret room_1 #[(.int p0)] Z.heap (fun v h' L => v = some (.int 1) ∧ Fr Z.heap.size L) := by
  have hw := B.1
  obtain ⟨S_w_Result_ROWS, E_w_Result_ROWS, S_w_Result_ONE, E_w_Result_ONE, S_w_Result_OPTIONAL, E_w_Result_OPTIONAL, S_w_Result_PAGE, E_w_Result_PAGE, S_w_Result_SLICE, E_w_Result_SLICE, S_w_Result_COUNT, E_w_Result_COUNT, S_w_Result_INT_COUNT, E_w_Result_INT_COUNT, S_w_Result_EXISTS, E_w_Result_EXISTS, S_w_Result_DELETED_ROWS, E_w_Result_DELETED_ROWS, S_w_Result_CHANGED_COUNT, E_w_Result_CHANGED_COUNT, S_w_Result_CHANGED_INT_COUNT, E_w_Result_CHANGED_INT_COUNT, S_w_Result_CHANGED, E_w_Result_CHANGED, F_w_Result_ROWS_ordinal, F_w_Result_ONE_ordinal, F_w_Result_OPTIONAL_ordinal, F_w_Result_PAGE_ordinal, F_w_Result_EXISTS_ordinal, F_w_Result_CHANGED_ordinal, F_w_Result_SLICE_ordinal, F_w_Result_DELETED_ROWS_ordinal, F_w_Result_CHANGED_INT_COUNT_ordinal, F_w_Result_CHANGED_COUNT_ordinal, F_w_Result_INT_COUNT_ordinal, F_w_Result_COUNT_ordinal⟩ := B.2
  refine Con.of (plainFor_of_name pn0) (Ls := #[vI p0, .unset, .unset, .unset, .unset]) (fun m => by first | rfl | (simp [entryFrame, mkF, argsToLocals, Value.category, maxLocals]; done)) ?_
  intro p e s m below meth c T0 X0 H hml hZ hown hnm hret hlk e0
  have O0 := extR Z.heap
  have M0 := Nat.le_refl Z.heap.size
  have N0 := Fr.nil Z.heap.size
  refine gBipush X0 H at_0 (z := 12) rfl 2 rfl ?_
  refine gNewR X0 H hZ hown (hw _ wd0) (hw _ wd1) e0 (by decide) (cap := 12) (by decide) (by decide) (vs := [.null, .null, .null, .null, .null, .null, .null, .null, .null, .null, .null, .null]) rfl (by decide) (by decide) at_2 5 rfl ?_
  intro T150 h150 b150 k150 X150 e150 z150 E150 V150 Q150
  have G_b150 := Nat.le_trans O0.1 (Nat.le_of_eq z150)
  have sz_b150 := Nat.le_trans M0 (Nat.le_of_eq z150)
  have O150 := extT O0 E150
  refine gDup X150 H at_5 rfl 6 rfl ?_
  refine gIconst X150 H at_6 (z := 0) rfl 7 rfl ?_
  refine gGetS X150 H hZ hown (hw _ wd2) e150 (S_w_Result_ROWS.ext O150) at_7 10 rfl ?_
  intro T151 X151 e151
  refine gAastore X151 H hZ e151 rfl (stoV V150 Q150 (Ins.self (E_w_Result_ROWS.ext O150))) V150 ⟨by decide, by decide⟩ (i := 0) rfl (Nat.le_of_ble_eq_true rfl) (vs' := [(.ref w_Result_ROWS), .null, .null, .null, .null, .null, .null, .null, .null, .null, .null, .null]) rfl at_10 11 rfl ?_
  intro T152 h152 X152 e152 W152 V152
  have O152 := extW O150 W152 G_b150
  have N152 := Fr.snoc X152 N0 G_b150
  refine gDup X152 H at_11 rfl 12 rfl ?_
  refine gIconst X152 H at_12 (z := 1) rfl 13 rfl ?_
  refine gGetS X152 H hZ hown (hw _ wd6) e152 (S_w_Result_ONE.ext O152) at_13 16 rfl ?_
  intro T153 X153 e153
  refine gAastore X153 H hZ e153 rfl (stoV V152 Q150 (Ins.self (E_w_Result_ONE.ext O152))) V152 ⟨by decide, by decide⟩ (i := 1) rfl (Nat.le_of_ble_eq_true rfl) (vs' := [(.ref w_Result_ROWS), (.ref w_Result_ONE), .null, .null, .null, .null, .null, .null, .null, .null, .null, .null]) rfl at_16 17 rfl ?_
  intro T154 h154 X154 e154 W154 V154
  have O154 := extW O152 W154 G_b150
  have N154 := Fr.snoc X154 N152 G_b150
  refine gDup X154 H at_17 rfl 18 rfl ?_
  refine gIconst X154 H at_18 (z := 2) rfl 19 rfl ?_
  refine gGetS X154 H hZ hown (hw _ wd8) e154 (S_w_Result_OPTIONAL.ext O154) at_19 22 rfl ?_
  intro T155 X155 e155
  refine gAastore X155 H hZ e155 rfl (stoV V154 Q150 (Ins.self (E_w_Result_OPTIONAL.ext O154))) V154 ⟨by decide, by decide⟩ (i := 2) rfl (Nat.le_of_ble_eq_true rfl) (vs' := [(.ref w_Result_ROWS), (.ref w_Result_ONE), (.ref w_Result_OPTIONAL), .null, .null, .null, .null, .null, .null, .null, .null, .null]) rfl at_22 23 rfl ?_
  intro T156 h156 X156 e156 W156 V156
  have O156 := extW O154 W156 G_b150
  have N156 := Fr.snoc X156 N154 G_b150
  refine gDup X156 H at_23 rfl 24 rfl ?_
  refine gIconst X156 H at_24 (z := 3) rfl 25 rfl ?_
  refine gGetS X156 H hZ hown (hw _ wd10) e156 (S_w_Result_PAGE.ext O156) at_25 28 rfl ?_
  intro T157 X157 e157
  refine gAastore X157 H hZ e157 rfl (stoV V156 Q150 (Ins.self (E_w_Result_PAGE.ext O156))) V156 ⟨by decide, by decide⟩ (i := 3) rfl (Nat.le_of_ble_eq_true rfl) (vs' := [(.ref w_Result_ROWS), (.ref w_Result_ONE), (.ref w_Result_OPTIONAL), (.ref w_Result_PAGE), .null, .null, .null, .null, .null, .null, .null, .null]) rfl at_28 29 rfl ?_
  intro T158 h158 X158 e158 W158 V158
  have O158 := extW O156 W158 G_b150
  have N158 := Fr.snoc X158 N156 G_b150
  refine gDup X158 H at_29 rfl 30 rfl ?_
  refine gIconst X158 H at_30 (z := 4) rfl 31 rfl ?_
  refine gGetS X158 H hZ hown (hw _ wd12) e158 (S_w_Result_SLICE.ext O158) at_31 34 rfl ?_
  intro T159 X159 e159
  refine gAastore X159 H hZ e159 rfl (stoV V158 Q150 (Ins.self (E_w_Result_SLICE.ext O158))) V158 ⟨by decide, by decide⟩ (i := 4) rfl (Nat.le_of_ble_eq_true rfl) (vs' := [(.ref w_Result_ROWS), (.ref w_Result_ONE), (.ref w_Result_OPTIONAL), (.ref w_Result_PAGE), (.ref w_Result_SLICE), .null, .null, .null, .null, .null, .null, .null]) rfl at_34 35 rfl ?_
  intro T160 h160 X160 e160 W160 V160
  have O160 := extW O158 W160 G_b150
  have N160 := Fr.snoc X160 N158 G_b150
  refine gDup X160 H at_35 rfl 36 rfl ?_
  refine gIconst X160 H at_36 (z := 5) rfl 37 rfl ?_
  refine gGetS X160 H hZ hown (hw _ wd14) e160 (S_w_Result_COUNT.ext O160) at_37 40 rfl ?_
  intro T161 X161 e161
  refine gAastore X161 H hZ e161 rfl (stoV V160 Q150 (Ins.self (E_w_Result_COUNT.ext O160))) V160 ⟨by decide, by decide⟩ (i := 5) rfl (Nat.le_of_ble_eq_true rfl) (vs' := [(.ref w_Result_ROWS), (.ref w_Result_ONE), (.ref w_Result_OPTIONAL), (.ref w_Result_PAGE), (.ref w_Result_SLICE), (.ref w_Result_COUNT), .null, .null, .null, .null, .null, .null]) rfl at_40 41 rfl ?_
  intro T162 h162 X162 e162 W162 V162
  have O162 := extW O160 W162 G_b150
  have N162 := Fr.snoc X162 N160 G_b150
  refine gDup X162 H at_41 rfl 42 rfl ?_
  refine gBipush X162 H at_42 (z := 6) rfl 44 rfl ?_
  refine gGetS X162 H hZ hown (hw _ wd16) e162 (S_w_Result_INT_COUNT.ext O162) at_44 47 rfl ?_
  intro T163 X163 e163
  refine gAastore X163 H hZ e163 rfl (stoV V162 Q150 (Ins.self (E_w_Result_INT_COUNT.ext O162))) V162 ⟨by decide, by decide⟩ (i := 6) rfl (Nat.le_of_ble_eq_true rfl) (vs' := [(.ref w_Result_ROWS), (.ref w_Result_ONE), (.ref w_Result_OPTIONAL), (.ref w_Result_PAGE), (.ref w_Result_SLICE), (.ref w_Result_COUNT), (.ref w_Result_INT_COUNT), .null, .null, .null, .null, .null]) rfl at_47 48 rfl ?_
  intro T164 h164 X164 e164 W164 V164
  have O164 := extW O162 W164 G_b150
  have N164 := Fr.snoc X164 N162 G_b150
  refine gDup X164 H at_48 rfl 49 rfl ?_
  refine gBipush X164 H at_49 (z := 7) rfl 51 rfl ?_
  refine gGetS X164 H hZ hown (hw _ wd18) e164 (S_w_Result_EXISTS.ext O164) at_51 54 rfl ?_
  intro T165 X165 e165
  refine gAastore X165 H hZ e165 rfl (stoV V164 Q150 (Ins.self (E_w_Result_EXISTS.ext O164))) V164 ⟨by decide, by decide⟩ (i := 7) rfl (Nat.le_of_ble_eq_true rfl) (vs' := [(.ref w_Result_ROWS), (.ref w_Result_ONE), (.ref w_Result_OPTIONAL), (.ref w_Result_PAGE), (.ref w_Result_SLICE), (.ref w_Result_COUNT), (.ref w_Result_INT_COUNT), (.ref w_Result_EXISTS), .null, .null, .null, .null]) rfl at_54 55 rfl ?_
  intro T166 h166 X166 e166 W166 V166
  have O166 := extW O164 W166 G_b150
  have N166 := Fr.snoc X166 N164 G_b150
  refine gDup X166 H at_55 rfl 56 rfl ?_
  refine gBipush X166 H at_56 (z := 8) rfl 58 rfl ?_
  refine gGetS X166 H hZ hown (hw _ wd20) e166 (S_w_Result_DELETED_ROWS.ext O166) at_58 61 rfl ?_
  intro T167 X167 e167
  refine gAastore X167 H hZ e167 rfl (stoV V166 Q150 (Ins.self (E_w_Result_DELETED_ROWS.ext O166))) V166 ⟨by decide, by decide⟩ (i := 8) rfl (Nat.le_of_ble_eq_true rfl) (vs' := [(.ref w_Result_ROWS), (.ref w_Result_ONE), (.ref w_Result_OPTIONAL), (.ref w_Result_PAGE), (.ref w_Result_SLICE), (.ref w_Result_COUNT), (.ref w_Result_INT_COUNT), (.ref w_Result_EXISTS), (.ref w_Result_DELETED_ROWS), .null, .null, .null]) rfl at_61 62 rfl ?_
  intro T168 h168 X168 e168 W168 V168
  have O168 := extW O166 W168 G_b150
  have N168 := Fr.snoc X168 N166 G_b150
  refine gDup X168 H at_62 rfl 63 rfl ?_
  refine gBipush X168 H at_63 (z := 9) rfl 65 rfl ?_
  refine gGetS X168 H hZ hown (hw _ wd22) e168 (S_w_Result_CHANGED_COUNT.ext O168) at_65 68 rfl ?_
  intro T169 X169 e169
  refine gAastore X169 H hZ e169 rfl (stoV V168 Q150 (Ins.self (E_w_Result_CHANGED_COUNT.ext O168))) V168 ⟨by decide, by decide⟩ (i := 9) rfl (Nat.le_of_ble_eq_true rfl) (vs' := [(.ref w_Result_ROWS), (.ref w_Result_ONE), (.ref w_Result_OPTIONAL), (.ref w_Result_PAGE), (.ref w_Result_SLICE), (.ref w_Result_COUNT), (.ref w_Result_INT_COUNT), (.ref w_Result_EXISTS), (.ref w_Result_DELETED_ROWS), (.ref w_Result_CHANGED_COUNT), .null, .null]) rfl at_68 69 rfl ?_
  intro T170 h170 X170 e170 W170 V170
  have O170 := extW O168 W170 G_b150
  have N170 := Fr.snoc X170 N168 G_b150
  refine gDup X170 H at_69 rfl 70 rfl ?_
  refine gBipush X170 H at_70 (z := 10) rfl 72 rfl ?_
  refine gGetS X170 H hZ hown (hw _ wd24) e170 (S_w_Result_CHANGED_INT_COUNT.ext O170) at_72 75 rfl ?_
  intro T171 X171 e171
  refine gAastore X171 H hZ e171 rfl (stoV V170 Q150 (Ins.self (E_w_Result_CHANGED_INT_COUNT.ext O170))) V170 ⟨by decide, by decide⟩ (i := 10) rfl (Nat.le_of_ble_eq_true rfl) (vs' := [(.ref w_Result_ROWS), (.ref w_Result_ONE), (.ref w_Result_OPTIONAL), (.ref w_Result_PAGE), (.ref w_Result_SLICE), (.ref w_Result_COUNT), (.ref w_Result_INT_COUNT), (.ref w_Result_EXISTS), (.ref w_Result_DELETED_ROWS), (.ref w_Result_CHANGED_COUNT), (.ref w_Result_CHANGED_INT_COUNT), .null]) rfl at_75 76 rfl ?_
  intro T172 h172 X172 e172 W172 V172
  have O172 := extW O170 W172 G_b150
  have N172 := Fr.snoc X172 N170 G_b150
  refine gDup X172 H at_76 rfl 77 rfl ?_
  refine gBipush X172 H at_77 (z := 11) rfl 79 rfl ?_
  refine gGetS X172 H hZ hown (hw _ wd26) e172 (S_w_Result_CHANGED.ext O172) at_79 82 rfl ?_
  intro T173 X173 e173
  refine gAastore X173 H hZ e173 rfl (stoV V172 Q150 (Ins.self (E_w_Result_CHANGED.ext O172))) V172 ⟨by decide, by decide⟩ (i := 11) rfl (Nat.le_of_ble_eq_true rfl) (vs' := [(.ref w_Result_ROWS), (.ref w_Result_ONE), (.ref w_Result_OPTIONAL), (.ref w_Result_PAGE), (.ref w_Result_SLICE), (.ref w_Result_COUNT), (.ref w_Result_INT_COUNT), (.ref w_Result_EXISTS), (.ref w_Result_DELETED_ROWS), (.ref w_Result_CHANGED_COUNT), (.ref w_Result_CHANGED_INT_COUNT), (.ref w_Result_CHANGED)]) rfl at_82 83 rfl ?_
  intro T174 h174 X174 e174 W174 V174
  have O174 := extW O172 W174 G_b150
  have N174 := Fr.snoc X174 N172 G_b150
  refine gAstoreN X174 H at_83 rfl (Ls' := #[vI p0, vR b150, .unset, .unset, .unset]) rfl 84 rfl ?_
  refine gIloadN X174 H at_84 rfl 85 rfl ?_
  refine gLdc X174 H hZ hown (hw _ wd28) at_85 87 rfl ?_
  refine g_iand X174 H at_87 (z := (p0 &&& (2147483647 : Int32))) rfl 88 rfl ?_
  refine gBipush X174 H at_88 (z := 12) rfl 90 rfl ?_
  refine g_irem X174 H at_90 (by decide) (z := 5) ha0 91 rfl ?_
  refine gIstoreN X174 H at_91 (Ls' := #[vI p0, vR b150, vI 5, .unset, .unset]) rfl 92 rfl ?_
  refine gAloadN X174 H at_92 rfl rfl 93 rfl ?_
  refine gIloadN X174 H at_93 rfl 94 rfl ?_
  refine gAaload X174 H hZ e174 rfl V174 ⟨by decide, by decide⟩ (v := (.ref w_Result_COUNT)) rfl at_94 95 rfl ?_
  refine gAstoreN X174 H at_95 rfl (Ls' := #[vI p0, vR b150, vI 5, vR w_Result_COUNT, .unset]) rfl 96 rfl ?_
  refine gIloadN X174 H at_96 rfl 97 rfl ?_
  refine gIconst X174 H at_97 (z := 1) rfl 98 rfl ?_
  refine gCmpN X174 H at_98 (by decide) 101 rfl ?_
  refine gIloadN X174 H at_101 rfl 102 rfl ?_
  refine gIconst X174 H at_102 (z := 2) rfl 103 rfl ?_
  refine gCmpY X174 H at_103 (by decide) (by decide) 110 rfl ?_
  refine gIconst X174 H at_110 (z := 0) rfl 111 rfl ?_
  refine gIstore X174 H at_111 (Ls' := #[vI p0, vR b150, vI 5, vR w_Result_COUNT, vI 0]) rfl 113 rfl ?_
  refine gAloadN X174 H at_113 rfl rfl 114 rfl ?_
  refine gVirt X174 H hZ hown (hw _ wd29) (hw _ wd30) (hw _ wd32) (hw _ wd31) (by decide) (E_w_Result_COUNT.ext O174) (hw _ wd33) (hw _ wd3) (rm178_1 B _ O174) e174 hml rfl pd0 rfl (W := 0) (argsL := []) (rest := []) rfl rfl at_114 117 rfl ?_
  intro v179 T179 L179 hq179 X179
  obtain ⟨rfl, e179, rfl⟩ := hq179
  have N179 := Fr.app N174 (Fr.nil _)
  show Go _ _ _ _ (State.setTop _ (mkF _ 117 _ [(.int 0)]))
  refine gIload X179 H at_117 rfl 119 rfl ?_
  refine gCmpN X179 H at_119 (by decide) 122 rfl ?_
  refine gIconst X179 H at_122 (z := 1) rfl 123 rfl ?_
  refine gGoto X179 H at_123 (by decide) 127 rfl ?_
  exact gRetN X179 H hlk hret (t := .boolean) (by simp) at_127 e179 ⟨rfl, N179⟩
theorem rm208_1 (B : Bg Z a0 w_Result_ROWS w_Result_ONE w_Result_OPTIONAL w_Result_PAGE w_Result_SLICE w_Result_COUNT w_Result_INT_COUNT w_Result_EXISTS w_Result_DELETED_ROWS w_Result_CHANGED_COUNT w_Result_CHANGED_INT_COUNT w_Result_CHANGED) (h : Heap) (O : Ext Z.heap h) :
    Con l Z yM1 prog_55_method_6_code 1 (some .boolean) ({ frames := 0, cells := 0, slots := 0, locals := 0 } : Room) #[(.ref w_Result_INT_COUNT)] h (fun v h' L => v = some (.int 0) ∧ h' = h ∧ L = []) := by
  have hw := B.1
  obtain ⟨S_w_Result_ROWS, E_w_Result_ROWS, S_w_Result_ONE, E_w_Result_ONE, S_w_Result_OPTIONAL, E_w_Result_OPTIONAL, S_w_Result_PAGE, E_w_Result_PAGE, S_w_Result_SLICE, E_w_Result_SLICE, S_w_Result_COUNT, E_w_Result_COUNT, S_w_Result_INT_COUNT, E_w_Result_INT_COUNT, S_w_Result_EXISTS, E_w_Result_EXISTS, S_w_Result_DELETED_ROWS, E_w_Result_DELETED_ROWS, S_w_Result_CHANGED_COUNT, E_w_Result_CHANGED_COUNT, S_w_Result_CHANGED_INT_COUNT, E_w_Result_CHANGED_INT_COUNT, S_w_Result_CHANGED, E_w_Result_CHANGED, F_w_Result_ROWS_ordinal, F_w_Result_ONE_ordinal, F_w_Result_OPTIONAL_ordinal, F_w_Result_PAGE_ordinal, F_w_Result_EXISTS_ordinal, F_w_Result_CHANGED_ordinal, F_w_Result_SLICE_ordinal, F_w_Result_DELETED_ROWS_ordinal, F_w_Result_CHANGED_INT_COUNT_ordinal, F_w_Result_CHANGED_COUNT_ordinal, F_w_Result_INT_COUNT_ordinal, F_w_Result_COUNT_ordinal⟩ := B.2
  refine Con.of (plainFor_of_name pn1) (Ls := #[vR w_Result_INT_COUNT]) (fun m => by first | rfl | (simp [entryFrame, mkF, argsToLocals, Value.category]; done)) ?_
  intro p e s m below meth c T0 X0 H hml hZ hown hnm hret hlk e0
  refine gAloadN X0 H d1_0 rfl rfl 1 rfl ?_
  refine gGetS X0 H hZ hown (hw _ wd34) e0 (S_w_Result_ONE.ext O) d1_1 4 rfl ?_
  intro T206 X206 e206
  refine gAcmp X206 H d1_4 rfl rfl (same := false) (decide_eq_false fun q => (Fld.ne F_w_Result_INT_COUNT_ordinal F_w_Result_ONE_ordinal (by decide)) (Value.ref.inj q)) (by decide) 7 (by decide) ?_
  refine gAloadN X206 H d1_7 rfl rfl 8 rfl ?_
  refine gGetS X206 H hZ hown (hw _ wd35) e206 (S_w_Result_OPTIONAL.ext O) d1_8 11 rfl ?_
  intro T207 X207 e207
  refine gAcmp X207 H d1_11 rfl rfl (same := false) (decide_eq_false fun q => (Fld.ne F_w_Result_INT_COUNT_ordinal F_w_Result_OPTIONAL_ordinal (by decide)) (Value.ref.inj q)) (by decide) 18 (by decide) ?_
  refine gIconst X207 H d1_18 (z := 0) rfl 19 rfl ?_
  exact gRetN X207 H hlk hret (t := .boolean) (by simp) d1_19 e207 ⟨rfl, rfl, rfl⟩
theorem lawAll_6 (B : Bg Z a0 w_Result_ROWS w_Result_ONE w_Result_OPTIONAL w_Result_PAGE w_Result_SLICE w_Result_COUNT w_Result_INT_COUNT w_Result_EXISTS w_Result_DELETED_ROWS w_Result_CHANGED_COUNT w_Result_CHANGED_INT_COUNT w_Result_CHANGED) (p0 : Int32) (ha0 : ((p0 &&& (2147483647 : Int32)) % (12 : Int32)) = (6 : Int32)) :
    Con l Z x code maxLocals ret room_1 #[(.int p0)] Z.heap (fun v h' L => v = some (.int 1) ∧ Fr Z.heap.size L) := by
  have hw := B.1
  obtain ⟨S_w_Result_ROWS, E_w_Result_ROWS, S_w_Result_ONE, E_w_Result_ONE, S_w_Result_OPTIONAL, E_w_Result_OPTIONAL, S_w_Result_PAGE, E_w_Result_PAGE, S_w_Result_SLICE, E_w_Result_SLICE, S_w_Result_COUNT, E_w_Result_COUNT, S_w_Result_INT_COUNT, E_w_Result_INT_COUNT, S_w_Result_EXISTS, E_w_Result_EXISTS, S_w_Result_DELETED_ROWS, E_w_Result_DELETED_ROWS, S_w_Result_CHANGED_COUNT, E_w_Result_CHANGED_COUNT, S_w_Result_CHANGED_INT_COUNT, E_w_Result_CHANGED_INT_COUNT, S_w_Result_CHANGED, E_w_Result_CHANGED, F_w_Result_ROWS_ordinal, F_w_Result_ONE_ordinal, F_w_Result_OPTIONAL_ordinal, F_w_Result_PAGE_ordinal, F_w_Result_EXISTS_ordinal, F_w_Result_CHANGED_ordinal, F_w_Result_SLICE_ordinal, F_w_Result_DELETED_ROWS_ordinal, F_w_Result_CHANGED_INT_COUNT_ordinal, F_w_Result_CHANGED_COUNT_ordinal, F_w_Result_INT_COUNT_ordinal, F_w_Result_COUNT_ordinal⟩ := B.2
  refine Con.of (plainFor_of_name pn0) (Ls := #[vI p0, .unset, .unset, .unset, .unset]) (fun m => by first | rfl | (simp [entryFrame, mkF, argsToLocals, Value.category, maxLocals]; done)) ?_
  intro p e s m below meth c T0 X0 H hml hZ hown hnm hret hlk e0
  have O0 := extR Z.heap
  have M0 := Nat.le_refl Z.heap.size
  have N0 := Fr.nil Z.heap.size
  refine gBipush X0 H at_0 (z := 12) rfl 2 rfl ?_
  refine gNewR X0 H hZ hown (hw _ wd0) (hw _ wd1) e0 (by decide) (cap := 12) (by decide) (by decide) (vs := [.null, .null, .null, .null, .null, .null, .null, .null, .null, .null, .null, .null]) rfl (by decide) (by decide) at_2 5 rfl ?_
  intro T180 h180 b180 k180 X180 e180 z180 E180 V180 Q180
  have G_b180 := Nat.le_trans O0.1 (Nat.le_of_eq z180)
  have sz_b180 := Nat.le_trans M0 (Nat.le_of_eq z180)
  have O180 := extT O0 E180
  refine gDup X180 H at_5 rfl 6 rfl ?_
  refine gIconst X180 H at_6 (z := 0) rfl 7 rfl ?_
  refine gGetS X180 H hZ hown (hw _ wd2) e180 (S_w_Result_ROWS.ext O180) at_7 10 rfl ?_
  intro T181 X181 e181
  refine gAastore X181 H hZ e181 rfl (stoV V180 Q180 (Ins.self (E_w_Result_ROWS.ext O180))) V180 ⟨by decide, by decide⟩ (i := 0) rfl (Nat.le_of_ble_eq_true rfl) (vs' := [(.ref w_Result_ROWS), .null, .null, .null, .null, .null, .null, .null, .null, .null, .null, .null]) rfl at_10 11 rfl ?_
  intro T182 h182 X182 e182 W182 V182
  have O182 := extW O180 W182 G_b180
  have N182 := Fr.snoc X182 N0 G_b180
  refine gDup X182 H at_11 rfl 12 rfl ?_
  refine gIconst X182 H at_12 (z := 1) rfl 13 rfl ?_
  refine gGetS X182 H hZ hown (hw _ wd6) e182 (S_w_Result_ONE.ext O182) at_13 16 rfl ?_
  intro T183 X183 e183
  refine gAastore X183 H hZ e183 rfl (stoV V182 Q180 (Ins.self (E_w_Result_ONE.ext O182))) V182 ⟨by decide, by decide⟩ (i := 1) rfl (Nat.le_of_ble_eq_true rfl) (vs' := [(.ref w_Result_ROWS), (.ref w_Result_ONE), .null, .null, .null, .null, .null, .null, .null, .null, .null, .null]) rfl at_16 17 rfl ?_
  intro T184 h184 X184 e184 W184 V184
  have O184 := extW O182 W184 G_b180
  have N184 := Fr.snoc X184 N182 G_b180
  refine gDup X184 H at_17 rfl 18 rfl ?_
  refine gIconst X184 H at_18 (z := 2) rfl 19 rfl ?_
  refine gGetS X184 H hZ hown (hw _ wd8) e184 (S_w_Result_OPTIONAL.ext O184) at_19 22 rfl ?_
  intro T185 X185 e185
  refine gAastore X185 H hZ e185 rfl (stoV V184 Q180 (Ins.self (E_w_Result_OPTIONAL.ext O184))) V184 ⟨by decide, by decide⟩ (i := 2) rfl (Nat.le_of_ble_eq_true rfl) (vs' := [(.ref w_Result_ROWS), (.ref w_Result_ONE), (.ref w_Result_OPTIONAL), .null, .null, .null, .null, .null, .null, .null, .null, .null]) rfl at_22 23 rfl ?_
  intro T186 h186 X186 e186 W186 V186
  have O186 := extW O184 W186 G_b180
  have N186 := Fr.snoc X186 N184 G_b180
  refine gDup X186 H at_23 rfl 24 rfl ?_
  refine gIconst X186 H at_24 (z := 3) rfl 25 rfl ?_
  refine gGetS X186 H hZ hown (hw _ wd10) e186 (S_w_Result_PAGE.ext O186) at_25 28 rfl ?_
  intro T187 X187 e187
  refine gAastore X187 H hZ e187 rfl (stoV V186 Q180 (Ins.self (E_w_Result_PAGE.ext O186))) V186 ⟨by decide, by decide⟩ (i := 3) rfl (Nat.le_of_ble_eq_true rfl) (vs' := [(.ref w_Result_ROWS), (.ref w_Result_ONE), (.ref w_Result_OPTIONAL), (.ref w_Result_PAGE), .null, .null, .null, .null, .null, .null, .null, .null]) rfl at_28 29 rfl ?_
  intro T188 h188 X188 e188 W188 V188
  have O188 := extW O186 W188 G_b180
  have N188 := Fr.snoc X188 N186 G_b180
  refine gDup X188 H at_29 rfl 30 rfl ?_
  refine gIconst X188 H at_30 (z := 4) rfl 31 rfl ?_
  refine gGetS X188 H hZ hown (hw _ wd12) e188 (S_w_Result_SLICE.ext O188) at_31 34 rfl ?_
  intro T189 X189 e189
  refine gAastore X189 H hZ e189 rfl (stoV V188 Q180 (Ins.self (E_w_Result_SLICE.ext O188))) V188 ⟨by decide, by decide⟩ (i := 4) rfl (Nat.le_of_ble_eq_true rfl) (vs' := [(.ref w_Result_ROWS), (.ref w_Result_ONE), (.ref w_Result_OPTIONAL), (.ref w_Result_PAGE), (.ref w_Result_SLICE), .null, .null, .null, .null, .null, .null, .null]) rfl at_34 35 rfl ?_
  intro T190 h190 X190 e190 W190 V190
  have O190 := extW O188 W190 G_b180
  have N190 := Fr.snoc X190 N188 G_b180
  refine gDup X190 H at_35 rfl 36 rfl ?_
  refine gIconst X190 H at_36 (z := 5) rfl 37 rfl ?_
  refine gGetS X190 H hZ hown (hw _ wd14) e190 (S_w_Result_COUNT.ext O190) at_37 40 rfl ?_
  intro T191 X191 e191
  refine gAastore X191 H hZ e191 rfl (stoV V190 Q180 (Ins.self (E_w_Result_COUNT.ext O190))) V190 ⟨by decide, by decide⟩ (i := 5) rfl (Nat.le_of_ble_eq_true rfl) (vs' := [(.ref w_Result_ROWS), (.ref w_Result_ONE), (.ref w_Result_OPTIONAL), (.ref w_Result_PAGE), (.ref w_Result_SLICE), (.ref w_Result_COUNT), .null, .null, .null, .null, .null, .null]) rfl at_40 41 rfl ?_
  intro T192 h192 X192 e192 W192 V192
  have O192 := extW O190 W192 G_b180
  have N192 := Fr.snoc X192 N190 G_b180
  refine gDup X192 H at_41 rfl 42 rfl ?_
  refine gBipush X192 H at_42 (z := 6) rfl 44 rfl ?_
  refine gGetS X192 H hZ hown (hw _ wd16) e192 (S_w_Result_INT_COUNT.ext O192) at_44 47 rfl ?_
  intro T193 X193 e193
  refine gAastore X193 H hZ e193 rfl (stoV V192 Q180 (Ins.self (E_w_Result_INT_COUNT.ext O192))) V192 ⟨by decide, by decide⟩ (i := 6) rfl (Nat.le_of_ble_eq_true rfl) (vs' := [(.ref w_Result_ROWS), (.ref w_Result_ONE), (.ref w_Result_OPTIONAL), (.ref w_Result_PAGE), (.ref w_Result_SLICE), (.ref w_Result_COUNT), (.ref w_Result_INT_COUNT), .null, .null, .null, .null, .null]) rfl at_47 48 rfl ?_
  intro T194 h194 X194 e194 W194 V194
  have O194 := extW O192 W194 G_b180
  have N194 := Fr.snoc X194 N192 G_b180
  refine gDup X194 H at_48 rfl 49 rfl ?_
  refine gBipush X194 H at_49 (z := 7) rfl 51 rfl ?_
  refine gGetS X194 H hZ hown (hw _ wd18) e194 (S_w_Result_EXISTS.ext O194) at_51 54 rfl ?_
  intro T195 X195 e195
  refine gAastore X195 H hZ e195 rfl (stoV V194 Q180 (Ins.self (E_w_Result_EXISTS.ext O194))) V194 ⟨by decide, by decide⟩ (i := 7) rfl (Nat.le_of_ble_eq_true rfl) (vs' := [(.ref w_Result_ROWS), (.ref w_Result_ONE), (.ref w_Result_OPTIONAL), (.ref w_Result_PAGE), (.ref w_Result_SLICE), (.ref w_Result_COUNT), (.ref w_Result_INT_COUNT), (.ref w_Result_EXISTS), .null, .null, .null, .null]) rfl at_54 55 rfl ?_
  intro T196 h196 X196 e196 W196 V196
  have O196 := extW O194 W196 G_b180
  have N196 := Fr.snoc X196 N194 G_b180
  refine gDup X196 H at_55 rfl 56 rfl ?_
  refine gBipush X196 H at_56 (z := 8) rfl 58 rfl ?_
  refine gGetS X196 H hZ hown (hw _ wd20) e196 (S_w_Result_DELETED_ROWS.ext O196) at_58 61 rfl ?_
  intro T197 X197 e197
  refine gAastore X197 H hZ e197 rfl (stoV V196 Q180 (Ins.self (E_w_Result_DELETED_ROWS.ext O196))) V196 ⟨by decide, by decide⟩ (i := 8) rfl (Nat.le_of_ble_eq_true rfl) (vs' := [(.ref w_Result_ROWS), (.ref w_Result_ONE), (.ref w_Result_OPTIONAL), (.ref w_Result_PAGE), (.ref w_Result_SLICE), (.ref w_Result_COUNT), (.ref w_Result_INT_COUNT), (.ref w_Result_EXISTS), (.ref w_Result_DELETED_ROWS), .null, .null, .null]) rfl at_61 62 rfl ?_
  intro T198 h198 X198 e198 W198 V198
  have O198 := extW O196 W198 G_b180
  have N198 := Fr.snoc X198 N196 G_b180
  refine gDup X198 H at_62 rfl 63 rfl ?_
  refine gBipush X198 H at_63 (z := 9) rfl 65 rfl ?_
  refine gGetS X198 H hZ hown (hw _ wd22) e198 (S_w_Result_CHANGED_COUNT.ext O198) at_65 68 rfl ?_
  intro T199 X199 e199
  refine gAastore X199 H hZ e199 rfl (stoV V198 Q180 (Ins.self (E_w_Result_CHANGED_COUNT.ext O198))) V198 ⟨by decide, by decide⟩ (i := 9) rfl (Nat.le_of_ble_eq_true rfl) (vs' := [(.ref w_Result_ROWS), (.ref w_Result_ONE), (.ref w_Result_OPTIONAL), (.ref w_Result_PAGE), (.ref w_Result_SLICE), (.ref w_Result_COUNT), (.ref w_Result_INT_COUNT), (.ref w_Result_EXISTS), (.ref w_Result_DELETED_ROWS), (.ref w_Result_CHANGED_COUNT), .null, .null]) rfl at_68 69 rfl ?_
  intro T200 h200 X200 e200 W200 V200
  have O200 := extW O198 W200 G_b180
  have N200 := Fr.snoc X200 N198 G_b180
  refine gDup X200 H at_69 rfl 70 rfl ?_
  refine gBipush X200 H at_70 (z := 10) rfl 72 rfl ?_
  refine gGetS X200 H hZ hown (hw _ wd24) e200 (S_w_Result_CHANGED_INT_COUNT.ext O200) at_72 75 rfl ?_
  intro T201 X201 e201
  refine gAastore X201 H hZ e201 rfl (stoV V200 Q180 (Ins.self (E_w_Result_CHANGED_INT_COUNT.ext O200))) V200 ⟨by decide, by decide⟩ (i := 10) rfl (Nat.le_of_ble_eq_true rfl) (vs' := [(.ref w_Result_ROWS), (.ref w_Result_ONE), (.ref w_Result_OPTIONAL), (.ref w_Result_PAGE), (.ref w_Result_SLICE), (.ref w_Result_COUNT), (.ref w_Result_INT_COUNT), (.ref w_Result_EXISTS), (.ref w_Result_DELETED_ROWS), (.ref w_Result_CHANGED_COUNT), (.ref w_Result_CHANGED_INT_COUNT), .null]) rfl at_75 76 rfl ?_
  intro T202 h202 X202 e202 W202 V202
  have O202 := extW O200 W202 G_b180
  have N202 := Fr.snoc X202 N200 G_b180
  refine gDup X202 H at_76 rfl 77 rfl ?_
  refine gBipush X202 H at_77 (z := 11) rfl 79 rfl ?_
  refine gGetS X202 H hZ hown (hw _ wd26) e202 (S_w_Result_CHANGED.ext O202) at_79 82 rfl ?_
  intro T203 X203 e203
  refine gAastore X203 H hZ e203 rfl (stoV V202 Q180 (Ins.self (E_w_Result_CHANGED.ext O202))) V202 ⟨by decide, by decide⟩ (i := 11) rfl (Nat.le_of_ble_eq_true rfl) (vs' := [(.ref w_Result_ROWS), (.ref w_Result_ONE), (.ref w_Result_OPTIONAL), (.ref w_Result_PAGE), (.ref w_Result_SLICE), (.ref w_Result_COUNT), (.ref w_Result_INT_COUNT), (.ref w_Result_EXISTS), (.ref w_Result_DELETED_ROWS), (.ref w_Result_CHANGED_COUNT), (.ref w_Result_CHANGED_INT_COUNT), (.ref w_Result_CHANGED)]) rfl at_82 83 rfl ?_
  intro T204 h204 X204 e204 W204 V204
  have O204 := extW O202 W204 G_b180
  have N204 := Fr.snoc X204 N202 G_b180
  refine gAstoreN X204 H at_83 rfl (Ls' := #[vI p0, vR b180, .unset, .unset, .unset]) rfl 84 rfl ?_
  refine gIloadN X204 H at_84 rfl 85 rfl ?_
  refine gLdc X204 H hZ hown (hw _ wd28) at_85 87 rfl ?_
  refine g_iand X204 H at_87 (z := (p0 &&& (2147483647 : Int32))) rfl 88 rfl ?_
  refine gBipush X204 H at_88 (z := 12) rfl 90 rfl ?_
  refine g_irem X204 H at_90 (by decide) (z := 6) ha0 91 rfl ?_
  refine gIstoreN X204 H at_91 (Ls' := #[vI p0, vR b180, vI 6, .unset, .unset]) rfl 92 rfl ?_
  refine gAloadN X204 H at_92 rfl rfl 93 rfl ?_
  refine gIloadN X204 H at_93 rfl 94 rfl ?_
  refine gAaload X204 H hZ e204 rfl V204 ⟨by decide, by decide⟩ (v := (.ref w_Result_INT_COUNT)) rfl at_94 95 rfl ?_
  refine gAstoreN X204 H at_95 rfl (Ls' := #[vI p0, vR b180, vI 6, vR w_Result_INT_COUNT, .unset]) rfl 96 rfl ?_
  refine gIloadN X204 H at_96 rfl 97 rfl ?_
  refine gIconst X204 H at_97 (z := 1) rfl 98 rfl ?_
  refine gCmpN X204 H at_98 (by decide) 101 rfl ?_
  refine gIloadN X204 H at_101 rfl 102 rfl ?_
  refine gIconst X204 H at_102 (z := 2) rfl 103 rfl ?_
  refine gCmpY X204 H at_103 (by decide) (by decide) 110 rfl ?_
  refine gIconst X204 H at_110 (z := 0) rfl 111 rfl ?_
  refine gIstore X204 H at_111 (Ls' := #[vI p0, vR b180, vI 6, vR w_Result_INT_COUNT, vI 0]) rfl 113 rfl ?_
  refine gAloadN X204 H at_113 rfl rfl 114 rfl ?_
  refine gVirt X204 H hZ hown (hw _ wd29) (hw _ wd30) (hw _ wd32) (hw _ wd31) (by decide) (E_w_Result_INT_COUNT.ext O204) (hw _ wd33) (hw _ wd3) (rm208_1 B _ O204) e204 hml rfl pd0 rfl (W := 0) (argsL := []) (rest := []) rfl rfl at_114 117 rfl ?_
  intro v209 T209 L209 hq209 X209
  obtain ⟨rfl, e209, rfl⟩ := hq209
  have N209 := Fr.app N204 (Fr.nil _)
  show Go _ _ _ _ (State.setTop _ (mkF _ 117 _ [(.int 0)]))
  refine gIload X209 H at_117 rfl 119 rfl ?_
  refine gCmpN X209 H at_119 (by decide) 122 rfl ?_
  refine gIconst X209 H at_122 (z := 1) rfl 123 rfl ?_
  refine gGoto X209 H at_123 (by decide) 127 rfl ?_
  exact gRetN X209 H hlk hret (t := .boolean) (by simp) at_127 e209 ⟨rfl, N209⟩
theorem rm238_1 (B : Bg Z a0 w_Result_ROWS w_Result_ONE w_Result_OPTIONAL w_Result_PAGE w_Result_SLICE w_Result_COUNT w_Result_INT_COUNT w_Result_EXISTS w_Result_DELETED_ROWS w_Result_CHANGED_COUNT w_Result_CHANGED_INT_COUNT w_Result_CHANGED) (h : Heap) (O : Ext Z.heap h) :
    Con l Z yM1 prog_55_method_6_code 1 (some .boolean) ({ frames := 0, cells := 0, slots := 0, locals := 0 } : Room) #[(.ref w_Result_EXISTS)] h (fun v h' L => v = some (.int 0) ∧ h' = h ∧ L = []) := by
  have hw := B.1
  obtain ⟨S_w_Result_ROWS, E_w_Result_ROWS, S_w_Result_ONE, E_w_Result_ONE, S_w_Result_OPTIONAL, E_w_Result_OPTIONAL, S_w_Result_PAGE, E_w_Result_PAGE, S_w_Result_SLICE, E_w_Result_SLICE, S_w_Result_COUNT, E_w_Result_COUNT, S_w_Result_INT_COUNT, E_w_Result_INT_COUNT, S_w_Result_EXISTS, E_w_Result_EXISTS, S_w_Result_DELETED_ROWS, E_w_Result_DELETED_ROWS, S_w_Result_CHANGED_COUNT, E_w_Result_CHANGED_COUNT, S_w_Result_CHANGED_INT_COUNT, E_w_Result_CHANGED_INT_COUNT, S_w_Result_CHANGED, E_w_Result_CHANGED, F_w_Result_ROWS_ordinal, F_w_Result_ONE_ordinal, F_w_Result_OPTIONAL_ordinal, F_w_Result_PAGE_ordinal, F_w_Result_EXISTS_ordinal, F_w_Result_CHANGED_ordinal, F_w_Result_SLICE_ordinal, F_w_Result_DELETED_ROWS_ordinal, F_w_Result_CHANGED_INT_COUNT_ordinal, F_w_Result_CHANGED_COUNT_ordinal, F_w_Result_INT_COUNT_ordinal, F_w_Result_COUNT_ordinal⟩ := B.2
  refine Con.of (plainFor_of_name pn1) (Ls := #[vR w_Result_EXISTS]) (fun m => by first | rfl | (simp [entryFrame, mkF, argsToLocals, Value.category]; done)) ?_
  intro p e s m below meth c T0 X0 H hml hZ hown hnm hret hlk e0
  refine gAloadN X0 H d1_0 rfl rfl 1 rfl ?_
  refine gGetS X0 H hZ hown (hw _ wd34) e0 (S_w_Result_ONE.ext O) d1_1 4 rfl ?_
  intro T236 X236 e236
  refine gAcmp X236 H d1_4 rfl rfl (same := false) (decide_eq_false fun q => (Fld.ne F_w_Result_EXISTS_ordinal F_w_Result_ONE_ordinal (by decide)) (Value.ref.inj q)) (by decide) 7 (by decide) ?_
  refine gAloadN X236 H d1_7 rfl rfl 8 rfl ?_
  refine gGetS X236 H hZ hown (hw _ wd35) e236 (S_w_Result_OPTIONAL.ext O) d1_8 11 rfl ?_
  intro T237 X237 e237
  refine gAcmp X237 H d1_11 rfl rfl (same := false) (decide_eq_false fun q => (Fld.ne F_w_Result_EXISTS_ordinal F_w_Result_OPTIONAL_ordinal (by decide)) (Value.ref.inj q)) (by decide) 18 (by decide) ?_
  refine gIconst X237 H d1_18 (z := 0) rfl 19 rfl ?_
  exact gRetN X237 H hlk hret (t := .boolean) (by simp) d1_19 e237 ⟨rfl, rfl, rfl⟩
theorem lawAll_7 (B : Bg Z a0 w_Result_ROWS w_Result_ONE w_Result_OPTIONAL w_Result_PAGE w_Result_SLICE w_Result_COUNT w_Result_INT_COUNT w_Result_EXISTS w_Result_DELETED_ROWS w_Result_CHANGED_COUNT w_Result_CHANGED_INT_COUNT w_Result_CHANGED) (p0 : Int32) (ha0 : ((p0 &&& (2147483647 : Int32)) % (12 : Int32)) = (7 : Int32)) :
    Con l Z x code maxLocals ret room_1 #[(.int p0)] Z.heap (fun v h' L => v = some (.int 1) ∧ Fr Z.heap.size L) := by
  have hw := B.1
  obtain ⟨S_w_Result_ROWS, E_w_Result_ROWS, S_w_Result_ONE, E_w_Result_ONE, S_w_Result_OPTIONAL, E_w_Result_OPTIONAL, S_w_Result_PAGE, E_w_Result_PAGE, S_w_Result_SLICE, E_w_Result_SLICE, S_w_Result_COUNT, E_w_Result_COUNT, S_w_Result_INT_COUNT, E_w_Result_INT_COUNT, S_w_Result_EXISTS, E_w_Result_EXISTS, S_w_Result_DELETED_ROWS, E_w_Result_DELETED_ROWS, S_w_Result_CHANGED_COUNT, E_w_Result_CHANGED_COUNT, S_w_Result_CHANGED_INT_COUNT, E_w_Result_CHANGED_INT_COUNT, S_w_Result_CHANGED, E_w_Result_CHANGED, F_w_Result_ROWS_ordinal, F_w_Result_ONE_ordinal, F_w_Result_OPTIONAL_ordinal, F_w_Result_PAGE_ordinal, F_w_Result_EXISTS_ordinal, F_w_Result_CHANGED_ordinal, F_w_Result_SLICE_ordinal, F_w_Result_DELETED_ROWS_ordinal, F_w_Result_CHANGED_INT_COUNT_ordinal, F_w_Result_CHANGED_COUNT_ordinal, F_w_Result_INT_COUNT_ordinal, F_w_Result_COUNT_ordinal⟩ := B.2
  refine Con.of (plainFor_of_name pn0) (Ls := #[vI p0, .unset, .unset, .unset, .unset]) (fun m => by first | rfl | (simp [entryFrame, mkF, argsToLocals, Value.category, maxLocals]; done)) ?_
  intro p e s m below meth c T0 X0 H hml hZ hown hnm hret hlk e0
  have O0 := extR Z.heap
  have M0 := Nat.le_refl Z.heap.size
  have N0 := Fr.nil Z.heap.size
  refine gBipush X0 H at_0 (z := 12) rfl 2 rfl ?_
  refine gNewR X0 H hZ hown (hw _ wd0) (hw _ wd1) e0 (by decide) (cap := 12) (by decide) (by decide) (vs := [.null, .null, .null, .null, .null, .null, .null, .null, .null, .null, .null, .null]) rfl (by decide) (by decide) at_2 5 rfl ?_
  intro T210 h210 b210 k210 X210 e210 z210 E210 V210 Q210
  have G_b210 := Nat.le_trans O0.1 (Nat.le_of_eq z210)
  have sz_b210 := Nat.le_trans M0 (Nat.le_of_eq z210)
  have O210 := extT O0 E210
  refine gDup X210 H at_5 rfl 6 rfl ?_
  refine gIconst X210 H at_6 (z := 0) rfl 7 rfl ?_
  refine gGetS X210 H hZ hown (hw _ wd2) e210 (S_w_Result_ROWS.ext O210) at_7 10 rfl ?_
  intro T211 X211 e211
  refine gAastore X211 H hZ e211 rfl (stoV V210 Q210 (Ins.self (E_w_Result_ROWS.ext O210))) V210 ⟨by decide, by decide⟩ (i := 0) rfl (Nat.le_of_ble_eq_true rfl) (vs' := [(.ref w_Result_ROWS), .null, .null, .null, .null, .null, .null, .null, .null, .null, .null, .null]) rfl at_10 11 rfl ?_
  intro T212 h212 X212 e212 W212 V212
  have O212 := extW O210 W212 G_b210
  have N212 := Fr.snoc X212 N0 G_b210
  refine gDup X212 H at_11 rfl 12 rfl ?_
  refine gIconst X212 H at_12 (z := 1) rfl 13 rfl ?_
  refine gGetS X212 H hZ hown (hw _ wd6) e212 (S_w_Result_ONE.ext O212) at_13 16 rfl ?_
  intro T213 X213 e213
  refine gAastore X213 H hZ e213 rfl (stoV V212 Q210 (Ins.self (E_w_Result_ONE.ext O212))) V212 ⟨by decide, by decide⟩ (i := 1) rfl (Nat.le_of_ble_eq_true rfl) (vs' := [(.ref w_Result_ROWS), (.ref w_Result_ONE), .null, .null, .null, .null, .null, .null, .null, .null, .null, .null]) rfl at_16 17 rfl ?_
  intro T214 h214 X214 e214 W214 V214
  have O214 := extW O212 W214 G_b210
  have N214 := Fr.snoc X214 N212 G_b210
  refine gDup X214 H at_17 rfl 18 rfl ?_
  refine gIconst X214 H at_18 (z := 2) rfl 19 rfl ?_
  refine gGetS X214 H hZ hown (hw _ wd8) e214 (S_w_Result_OPTIONAL.ext O214) at_19 22 rfl ?_
  intro T215 X215 e215
  refine gAastore X215 H hZ e215 rfl (stoV V214 Q210 (Ins.self (E_w_Result_OPTIONAL.ext O214))) V214 ⟨by decide, by decide⟩ (i := 2) rfl (Nat.le_of_ble_eq_true rfl) (vs' := [(.ref w_Result_ROWS), (.ref w_Result_ONE), (.ref w_Result_OPTIONAL), .null, .null, .null, .null, .null, .null, .null, .null, .null]) rfl at_22 23 rfl ?_
  intro T216 h216 X216 e216 W216 V216
  have O216 := extW O214 W216 G_b210
  have N216 := Fr.snoc X216 N214 G_b210
  refine gDup X216 H at_23 rfl 24 rfl ?_
  refine gIconst X216 H at_24 (z := 3) rfl 25 rfl ?_
  refine gGetS X216 H hZ hown (hw _ wd10) e216 (S_w_Result_PAGE.ext O216) at_25 28 rfl ?_
  intro T217 X217 e217
  refine gAastore X217 H hZ e217 rfl (stoV V216 Q210 (Ins.self (E_w_Result_PAGE.ext O216))) V216 ⟨by decide, by decide⟩ (i := 3) rfl (Nat.le_of_ble_eq_true rfl) (vs' := [(.ref w_Result_ROWS), (.ref w_Result_ONE), (.ref w_Result_OPTIONAL), (.ref w_Result_PAGE), .null, .null, .null, .null, .null, .null, .null, .null]) rfl at_28 29 rfl ?_
  intro T218 h218 X218 e218 W218 V218
  have O218 := extW O216 W218 G_b210
  have N218 := Fr.snoc X218 N216 G_b210
  refine gDup X218 H at_29 rfl 30 rfl ?_
  refine gIconst X218 H at_30 (z := 4) rfl 31 rfl ?_
  refine gGetS X218 H hZ hown (hw _ wd12) e218 (S_w_Result_SLICE.ext O218) at_31 34 rfl ?_
  intro T219 X219 e219
  refine gAastore X219 H hZ e219 rfl (stoV V218 Q210 (Ins.self (E_w_Result_SLICE.ext O218))) V218 ⟨by decide, by decide⟩ (i := 4) rfl (Nat.le_of_ble_eq_true rfl) (vs' := [(.ref w_Result_ROWS), (.ref w_Result_ONE), (.ref w_Result_OPTIONAL), (.ref w_Result_PAGE), (.ref w_Result_SLICE), .null, .null, .null, .null, .null, .null, .null]) rfl at_34 35 rfl ?_
  intro T220 h220 X220 e220 W220 V220
  have O220 := extW O218 W220 G_b210
  have N220 := Fr.snoc X220 N218 G_b210
  refine gDup X220 H at_35 rfl 36 rfl ?_
  refine gIconst X220 H at_36 (z := 5) rfl 37 rfl ?_
  refine gGetS X220 H hZ hown (hw _ wd14) e220 (S_w_Result_COUNT.ext O220) at_37 40 rfl ?_
  intro T221 X221 e221
  refine gAastore X221 H hZ e221 rfl (stoV V220 Q210 (Ins.self (E_w_Result_COUNT.ext O220))) V220 ⟨by decide, by decide⟩ (i := 5) rfl (Nat.le_of_ble_eq_true rfl) (vs' := [(.ref w_Result_ROWS), (.ref w_Result_ONE), (.ref w_Result_OPTIONAL), (.ref w_Result_PAGE), (.ref w_Result_SLICE), (.ref w_Result_COUNT), .null, .null, .null, .null, .null, .null]) rfl at_40 41 rfl ?_
  intro T222 h222 X222 e222 W222 V222
  have O222 := extW O220 W222 G_b210
  have N222 := Fr.snoc X222 N220 G_b210
  refine gDup X222 H at_41 rfl 42 rfl ?_
  refine gBipush X222 H at_42 (z := 6) rfl 44 rfl ?_
  refine gGetS X222 H hZ hown (hw _ wd16) e222 (S_w_Result_INT_COUNT.ext O222) at_44 47 rfl ?_
  intro T223 X223 e223
  refine gAastore X223 H hZ e223 rfl (stoV V222 Q210 (Ins.self (E_w_Result_INT_COUNT.ext O222))) V222 ⟨by decide, by decide⟩ (i := 6) rfl (Nat.le_of_ble_eq_true rfl) (vs' := [(.ref w_Result_ROWS), (.ref w_Result_ONE), (.ref w_Result_OPTIONAL), (.ref w_Result_PAGE), (.ref w_Result_SLICE), (.ref w_Result_COUNT), (.ref w_Result_INT_COUNT), .null, .null, .null, .null, .null]) rfl at_47 48 rfl ?_
  intro T224 h224 X224 e224 W224 V224
  have O224 := extW O222 W224 G_b210
  have N224 := Fr.snoc X224 N222 G_b210
  refine gDup X224 H at_48 rfl 49 rfl ?_
  refine gBipush X224 H at_49 (z := 7) rfl 51 rfl ?_
  refine gGetS X224 H hZ hown (hw _ wd18) e224 (S_w_Result_EXISTS.ext O224) at_51 54 rfl ?_
  intro T225 X225 e225
  refine gAastore X225 H hZ e225 rfl (stoV V224 Q210 (Ins.self (E_w_Result_EXISTS.ext O224))) V224 ⟨by decide, by decide⟩ (i := 7) rfl (Nat.le_of_ble_eq_true rfl) (vs' := [(.ref w_Result_ROWS), (.ref w_Result_ONE), (.ref w_Result_OPTIONAL), (.ref w_Result_PAGE), (.ref w_Result_SLICE), (.ref w_Result_COUNT), (.ref w_Result_INT_COUNT), (.ref w_Result_EXISTS), .null, .null, .null, .null]) rfl at_54 55 rfl ?_
  intro T226 h226 X226 e226 W226 V226
  have O226 := extW O224 W226 G_b210
  have N226 := Fr.snoc X226 N224 G_b210
  refine gDup X226 H at_55 rfl 56 rfl ?_
  refine gBipush X226 H at_56 (z := 8) rfl 58 rfl ?_
  refine gGetS X226 H hZ hown (hw _ wd20) e226 (S_w_Result_DELETED_ROWS.ext O226) at_58 61 rfl ?_
  intro T227 X227 e227
  refine gAastore X227 H hZ e227 rfl (stoV V226 Q210 (Ins.self (E_w_Result_DELETED_ROWS.ext O226))) V226 ⟨by decide, by decide⟩ (i := 8) rfl (Nat.le_of_ble_eq_true rfl) (vs' := [(.ref w_Result_ROWS), (.ref w_Result_ONE), (.ref w_Result_OPTIONAL), (.ref w_Result_PAGE), (.ref w_Result_SLICE), (.ref w_Result_COUNT), (.ref w_Result_INT_COUNT), (.ref w_Result_EXISTS), (.ref w_Result_DELETED_ROWS), .null, .null, .null]) rfl at_61 62 rfl ?_
  intro T228 h228 X228 e228 W228 V228
  have O228 := extW O226 W228 G_b210
  have N228 := Fr.snoc X228 N226 G_b210
  refine gDup X228 H at_62 rfl 63 rfl ?_
  refine gBipush X228 H at_63 (z := 9) rfl 65 rfl ?_
  refine gGetS X228 H hZ hown (hw _ wd22) e228 (S_w_Result_CHANGED_COUNT.ext O228) at_65 68 rfl ?_
  intro T229 X229 e229
  refine gAastore X229 H hZ e229 rfl (stoV V228 Q210 (Ins.self (E_w_Result_CHANGED_COUNT.ext O228))) V228 ⟨by decide, by decide⟩ (i := 9) rfl (Nat.le_of_ble_eq_true rfl) (vs' := [(.ref w_Result_ROWS), (.ref w_Result_ONE), (.ref w_Result_OPTIONAL), (.ref w_Result_PAGE), (.ref w_Result_SLICE), (.ref w_Result_COUNT), (.ref w_Result_INT_COUNT), (.ref w_Result_EXISTS), (.ref w_Result_DELETED_ROWS), (.ref w_Result_CHANGED_COUNT), .null, .null]) rfl at_68 69 rfl ?_
  intro T230 h230 X230 e230 W230 V230
  have O230 := extW O228 W230 G_b210
  have N230 := Fr.snoc X230 N228 G_b210
  refine gDup X230 H at_69 rfl 70 rfl ?_
  refine gBipush X230 H at_70 (z := 10) rfl 72 rfl ?_
  refine gGetS X230 H hZ hown (hw _ wd24) e230 (S_w_Result_CHANGED_INT_COUNT.ext O230) at_72 75 rfl ?_
  intro T231 X231 e231
  refine gAastore X231 H hZ e231 rfl (stoV V230 Q210 (Ins.self (E_w_Result_CHANGED_INT_COUNT.ext O230))) V230 ⟨by decide, by decide⟩ (i := 10) rfl (Nat.le_of_ble_eq_true rfl) (vs' := [(.ref w_Result_ROWS), (.ref w_Result_ONE), (.ref w_Result_OPTIONAL), (.ref w_Result_PAGE), (.ref w_Result_SLICE), (.ref w_Result_COUNT), (.ref w_Result_INT_COUNT), (.ref w_Result_EXISTS), (.ref w_Result_DELETED_ROWS), (.ref w_Result_CHANGED_COUNT), (.ref w_Result_CHANGED_INT_COUNT), .null]) rfl at_75 76 rfl ?_
  intro T232 h232 X232 e232 W232 V232
  have O232 := extW O230 W232 G_b210
  have N232 := Fr.snoc X232 N230 G_b210
  refine gDup X232 H at_76 rfl 77 rfl ?_
  refine gBipush X232 H at_77 (z := 11) rfl 79 rfl ?_
  refine gGetS X232 H hZ hown (hw _ wd26) e232 (S_w_Result_CHANGED.ext O232) at_79 82 rfl ?_
  intro T233 X233 e233
  refine gAastore X233 H hZ e233 rfl (stoV V232 Q210 (Ins.self (E_w_Result_CHANGED.ext O232))) V232 ⟨by decide, by decide⟩ (i := 11) rfl (Nat.le_of_ble_eq_true rfl) (vs' := [(.ref w_Result_ROWS), (.ref w_Result_ONE), (.ref w_Result_OPTIONAL), (.ref w_Result_PAGE), (.ref w_Result_SLICE), (.ref w_Result_COUNT), (.ref w_Result_INT_COUNT), (.ref w_Result_EXISTS), (.ref w_Result_DELETED_ROWS), (.ref w_Result_CHANGED_COUNT), (.ref w_Result_CHANGED_INT_COUNT), (.ref w_Result_CHANGED)]) rfl at_82 83 rfl ?_
  intro T234 h234 X234 e234 W234 V234
  have O234 := extW O232 W234 G_b210
  have N234 := Fr.snoc X234 N232 G_b210
  refine gAstoreN X234 H at_83 rfl (Ls' := #[vI p0, vR b210, .unset, .unset, .unset]) rfl 84 rfl ?_
  refine gIloadN X234 H at_84 rfl 85 rfl ?_
  refine gLdc X234 H hZ hown (hw _ wd28) at_85 87 rfl ?_
  refine g_iand X234 H at_87 (z := (p0 &&& (2147483647 : Int32))) rfl 88 rfl ?_
  refine gBipush X234 H at_88 (z := 12) rfl 90 rfl ?_
  refine g_irem X234 H at_90 (by decide) (z := 7) ha0 91 rfl ?_
  refine gIstoreN X234 H at_91 (Ls' := #[vI p0, vR b210, vI 7, .unset, .unset]) rfl 92 rfl ?_
  refine gAloadN X234 H at_92 rfl rfl 93 rfl ?_
  refine gIloadN X234 H at_93 rfl 94 rfl ?_
  refine gAaload X234 H hZ e234 rfl V234 ⟨by decide, by decide⟩ (v := (.ref w_Result_EXISTS)) rfl at_94 95 rfl ?_
  refine gAstoreN X234 H at_95 rfl (Ls' := #[vI p0, vR b210, vI 7, vR w_Result_EXISTS, .unset]) rfl 96 rfl ?_
  refine gIloadN X234 H at_96 rfl 97 rfl ?_
  refine gIconst X234 H at_97 (z := 1) rfl 98 rfl ?_
  refine gCmpN X234 H at_98 (by decide) 101 rfl ?_
  refine gIloadN X234 H at_101 rfl 102 rfl ?_
  refine gIconst X234 H at_102 (z := 2) rfl 103 rfl ?_
  refine gCmpY X234 H at_103 (by decide) (by decide) 110 rfl ?_
  refine gIconst X234 H at_110 (z := 0) rfl 111 rfl ?_
  refine gIstore X234 H at_111 (Ls' := #[vI p0, vR b210, vI 7, vR w_Result_EXISTS, vI 0]) rfl 113 rfl ?_
  refine gAloadN X234 H at_113 rfl rfl 114 rfl ?_
  refine gVirt X234 H hZ hown (hw _ wd29) (hw _ wd30) (hw _ wd32) (hw _ wd31) (by decide) (E_w_Result_EXISTS.ext O234) (hw _ wd33) (hw _ wd3) (rm238_1 B _ O234) e234 hml rfl pd0 rfl (W := 0) (argsL := []) (rest := []) rfl rfl at_114 117 rfl ?_
  intro v239 T239 L239 hq239 X239
  obtain ⟨rfl, e239, rfl⟩ := hq239
  have N239 := Fr.app N234 (Fr.nil _)
  show Go _ _ _ _ (State.setTop _ (mkF _ 117 _ [(.int 0)]))
  refine gIload X239 H at_117 rfl 119 rfl ?_
  refine gCmpN X239 H at_119 (by decide) 122 rfl ?_
  refine gIconst X239 H at_122 (z := 1) rfl 123 rfl ?_
  refine gGoto X239 H at_123 (by decide) 127 rfl ?_
  exact gRetN X239 H hlk hret (t := .boolean) (by simp) at_127 e239 ⟨rfl, N239⟩
theorem rm268_1 (B : Bg Z a0 w_Result_ROWS w_Result_ONE w_Result_OPTIONAL w_Result_PAGE w_Result_SLICE w_Result_COUNT w_Result_INT_COUNT w_Result_EXISTS w_Result_DELETED_ROWS w_Result_CHANGED_COUNT w_Result_CHANGED_INT_COUNT w_Result_CHANGED) (h : Heap) (O : Ext Z.heap h) :
    Con l Z yM1 prog_55_method_6_code 1 (some .boolean) ({ frames := 0, cells := 0, slots := 0, locals := 0 } : Room) #[(.ref w_Result_DELETED_ROWS)] h (fun v h' L => v = some (.int 0) ∧ h' = h ∧ L = []) := by
  have hw := B.1
  obtain ⟨S_w_Result_ROWS, E_w_Result_ROWS, S_w_Result_ONE, E_w_Result_ONE, S_w_Result_OPTIONAL, E_w_Result_OPTIONAL, S_w_Result_PAGE, E_w_Result_PAGE, S_w_Result_SLICE, E_w_Result_SLICE, S_w_Result_COUNT, E_w_Result_COUNT, S_w_Result_INT_COUNT, E_w_Result_INT_COUNT, S_w_Result_EXISTS, E_w_Result_EXISTS, S_w_Result_DELETED_ROWS, E_w_Result_DELETED_ROWS, S_w_Result_CHANGED_COUNT, E_w_Result_CHANGED_COUNT, S_w_Result_CHANGED_INT_COUNT, E_w_Result_CHANGED_INT_COUNT, S_w_Result_CHANGED, E_w_Result_CHANGED, F_w_Result_ROWS_ordinal, F_w_Result_ONE_ordinal, F_w_Result_OPTIONAL_ordinal, F_w_Result_PAGE_ordinal, F_w_Result_EXISTS_ordinal, F_w_Result_CHANGED_ordinal, F_w_Result_SLICE_ordinal, F_w_Result_DELETED_ROWS_ordinal, F_w_Result_CHANGED_INT_COUNT_ordinal, F_w_Result_CHANGED_COUNT_ordinal, F_w_Result_INT_COUNT_ordinal, F_w_Result_COUNT_ordinal⟩ := B.2
  refine Con.of (plainFor_of_name pn1) (Ls := #[vR w_Result_DELETED_ROWS]) (fun m => by first | rfl | (simp [entryFrame, mkF, argsToLocals, Value.category]; done)) ?_
  intro p e s m below meth c T0 X0 H hml hZ hown hnm hret hlk e0
  refine gAloadN X0 H d1_0 rfl rfl 1 rfl ?_
  refine gGetS X0 H hZ hown (hw _ wd34) e0 (S_w_Result_ONE.ext O) d1_1 4 rfl ?_
  intro T266 X266 e266
  refine gAcmp X266 H d1_4 rfl rfl (same := false) (decide_eq_false fun q => (Fld.ne F_w_Result_DELETED_ROWS_ordinal F_w_Result_ONE_ordinal (by decide)) (Value.ref.inj q)) (by decide) 7 (by decide) ?_
  refine gAloadN X266 H d1_7 rfl rfl 8 rfl ?_
  refine gGetS X266 H hZ hown (hw _ wd35) e266 (S_w_Result_OPTIONAL.ext O) d1_8 11 rfl ?_
  intro T267 X267 e267
  refine gAcmp X267 H d1_11 rfl rfl (same := false) (decide_eq_false fun q => (Fld.ne F_w_Result_DELETED_ROWS_ordinal F_w_Result_OPTIONAL_ordinal (by decide)) (Value.ref.inj q)) (by decide) 18 (by decide) ?_
  refine gIconst X267 H d1_18 (z := 0) rfl 19 rfl ?_
  exact gRetN X267 H hlk hret (t := .boolean) (by simp) d1_19 e267 ⟨rfl, rfl, rfl⟩
theorem lawAll_8 (B : Bg Z a0 w_Result_ROWS w_Result_ONE w_Result_OPTIONAL w_Result_PAGE w_Result_SLICE w_Result_COUNT w_Result_INT_COUNT w_Result_EXISTS w_Result_DELETED_ROWS w_Result_CHANGED_COUNT w_Result_CHANGED_INT_COUNT w_Result_CHANGED) (p0 : Int32) (ha0 : ((p0 &&& (2147483647 : Int32)) % (12 : Int32)) = (8 : Int32)) :
    Con l Z x code maxLocals ret room_1 #[(.int p0)] Z.heap (fun v h' L => v = some (.int 1) ∧ Fr Z.heap.size L) := by
  have hw := B.1
  obtain ⟨S_w_Result_ROWS, E_w_Result_ROWS, S_w_Result_ONE, E_w_Result_ONE, S_w_Result_OPTIONAL, E_w_Result_OPTIONAL, S_w_Result_PAGE, E_w_Result_PAGE, S_w_Result_SLICE, E_w_Result_SLICE, S_w_Result_COUNT, E_w_Result_COUNT, S_w_Result_INT_COUNT, E_w_Result_INT_COUNT, S_w_Result_EXISTS, E_w_Result_EXISTS, S_w_Result_DELETED_ROWS, E_w_Result_DELETED_ROWS, S_w_Result_CHANGED_COUNT, E_w_Result_CHANGED_COUNT, S_w_Result_CHANGED_INT_COUNT, E_w_Result_CHANGED_INT_COUNT, S_w_Result_CHANGED, E_w_Result_CHANGED, F_w_Result_ROWS_ordinal, F_w_Result_ONE_ordinal, F_w_Result_OPTIONAL_ordinal, F_w_Result_PAGE_ordinal, F_w_Result_EXISTS_ordinal, F_w_Result_CHANGED_ordinal, F_w_Result_SLICE_ordinal, F_w_Result_DELETED_ROWS_ordinal, F_w_Result_CHANGED_INT_COUNT_ordinal, F_w_Result_CHANGED_COUNT_ordinal, F_w_Result_INT_COUNT_ordinal, F_w_Result_COUNT_ordinal⟩ := B.2
  refine Con.of (plainFor_of_name pn0) (Ls := #[vI p0, .unset, .unset, .unset, .unset]) (fun m => by first | rfl | (simp [entryFrame, mkF, argsToLocals, Value.category, maxLocals]; done)) ?_
  intro p e s m below meth c T0 X0 H hml hZ hown hnm hret hlk e0
  have O0 := extR Z.heap
  have M0 := Nat.le_refl Z.heap.size
  have N0 := Fr.nil Z.heap.size
  refine gBipush X0 H at_0 (z := 12) rfl 2 rfl ?_
  refine gNewR X0 H hZ hown (hw _ wd0) (hw _ wd1) e0 (by decide) (cap := 12) (by decide) (by decide) (vs := [.null, .null, .null, .null, .null, .null, .null, .null, .null, .null, .null, .null]) rfl (by decide) (by decide) at_2 5 rfl ?_
  intro T240 h240 b240 k240 X240 e240 z240 E240 V240 Q240
  have G_b240 := Nat.le_trans O0.1 (Nat.le_of_eq z240)
  have sz_b240 := Nat.le_trans M0 (Nat.le_of_eq z240)
  have O240 := extT O0 E240
  refine gDup X240 H at_5 rfl 6 rfl ?_
  refine gIconst X240 H at_6 (z := 0) rfl 7 rfl ?_
  refine gGetS X240 H hZ hown (hw _ wd2) e240 (S_w_Result_ROWS.ext O240) at_7 10 rfl ?_
  intro T241 X241 e241
  refine gAastore X241 H hZ e241 rfl (stoV V240 Q240 (Ins.self (E_w_Result_ROWS.ext O240))) V240 ⟨by decide, by decide⟩ (i := 0) rfl (Nat.le_of_ble_eq_true rfl) (vs' := [(.ref w_Result_ROWS), .null, .null, .null, .null, .null, .null, .null, .null, .null, .null, .null]) rfl at_10 11 rfl ?_
  intro T242 h242 X242 e242 W242 V242
  have O242 := extW O240 W242 G_b240
  have N242 := Fr.snoc X242 N0 G_b240
  refine gDup X242 H at_11 rfl 12 rfl ?_
  refine gIconst X242 H at_12 (z := 1) rfl 13 rfl ?_
  refine gGetS X242 H hZ hown (hw _ wd6) e242 (S_w_Result_ONE.ext O242) at_13 16 rfl ?_
  intro T243 X243 e243
  refine gAastore X243 H hZ e243 rfl (stoV V242 Q240 (Ins.self (E_w_Result_ONE.ext O242))) V242 ⟨by decide, by decide⟩ (i := 1) rfl (Nat.le_of_ble_eq_true rfl) (vs' := [(.ref w_Result_ROWS), (.ref w_Result_ONE), .null, .null, .null, .null, .null, .null, .null, .null, .null, .null]) rfl at_16 17 rfl ?_
  intro T244 h244 X244 e244 W244 V244
  have O244 := extW O242 W244 G_b240
  have N244 := Fr.snoc X244 N242 G_b240
  refine gDup X244 H at_17 rfl 18 rfl ?_
  refine gIconst X244 H at_18 (z := 2) rfl 19 rfl ?_
  refine gGetS X244 H hZ hown (hw _ wd8) e244 (S_w_Result_OPTIONAL.ext O244) at_19 22 rfl ?_
  intro T245 X245 e245
  refine gAastore X245 H hZ e245 rfl (stoV V244 Q240 (Ins.self (E_w_Result_OPTIONAL.ext O244))) V244 ⟨by decide, by decide⟩ (i := 2) rfl (Nat.le_of_ble_eq_true rfl) (vs' := [(.ref w_Result_ROWS), (.ref w_Result_ONE), (.ref w_Result_OPTIONAL), .null, .null, .null, .null, .null, .null, .null, .null, .null]) rfl at_22 23 rfl ?_
  intro T246 h246 X246 e246 W246 V246
  have O246 := extW O244 W246 G_b240
  have N246 := Fr.snoc X246 N244 G_b240
  refine gDup X246 H at_23 rfl 24 rfl ?_
  refine gIconst X246 H at_24 (z := 3) rfl 25 rfl ?_
  refine gGetS X246 H hZ hown (hw _ wd10) e246 (S_w_Result_PAGE.ext O246) at_25 28 rfl ?_
  intro T247 X247 e247
  refine gAastore X247 H hZ e247 rfl (stoV V246 Q240 (Ins.self (E_w_Result_PAGE.ext O246))) V246 ⟨by decide, by decide⟩ (i := 3) rfl (Nat.le_of_ble_eq_true rfl) (vs' := [(.ref w_Result_ROWS), (.ref w_Result_ONE), (.ref w_Result_OPTIONAL), (.ref w_Result_PAGE), .null, .null, .null, .null, .null, .null, .null, .null]) rfl at_28 29 rfl ?_
  intro T248 h248 X248 e248 W248 V248
  have O248 := extW O246 W248 G_b240
  have N248 := Fr.snoc X248 N246 G_b240
  refine gDup X248 H at_29 rfl 30 rfl ?_
  refine gIconst X248 H at_30 (z := 4) rfl 31 rfl ?_
  refine gGetS X248 H hZ hown (hw _ wd12) e248 (S_w_Result_SLICE.ext O248) at_31 34 rfl ?_
  intro T249 X249 e249
  refine gAastore X249 H hZ e249 rfl (stoV V248 Q240 (Ins.self (E_w_Result_SLICE.ext O248))) V248 ⟨by decide, by decide⟩ (i := 4) rfl (Nat.le_of_ble_eq_true rfl) (vs' := [(.ref w_Result_ROWS), (.ref w_Result_ONE), (.ref w_Result_OPTIONAL), (.ref w_Result_PAGE), (.ref w_Result_SLICE), .null, .null, .null, .null, .null, .null, .null]) rfl at_34 35 rfl ?_
  intro T250 h250 X250 e250 W250 V250
  have O250 := extW O248 W250 G_b240
  have N250 := Fr.snoc X250 N248 G_b240
  refine gDup X250 H at_35 rfl 36 rfl ?_
  refine gIconst X250 H at_36 (z := 5) rfl 37 rfl ?_
  refine gGetS X250 H hZ hown (hw _ wd14) e250 (S_w_Result_COUNT.ext O250) at_37 40 rfl ?_
  intro T251 X251 e251
  refine gAastore X251 H hZ e251 rfl (stoV V250 Q240 (Ins.self (E_w_Result_COUNT.ext O250))) V250 ⟨by decide, by decide⟩ (i := 5) rfl (Nat.le_of_ble_eq_true rfl) (vs' := [(.ref w_Result_ROWS), (.ref w_Result_ONE), (.ref w_Result_OPTIONAL), (.ref w_Result_PAGE), (.ref w_Result_SLICE), (.ref w_Result_COUNT), .null, .null, .null, .null, .null, .null]) rfl at_40 41 rfl ?_
  intro T252 h252 X252 e252 W252 V252
  have O252 := extW O250 W252 G_b240
  have N252 := Fr.snoc X252 N250 G_b240
  refine gDup X252 H at_41 rfl 42 rfl ?_
  refine gBipush X252 H at_42 (z := 6) rfl 44 rfl ?_
  refine gGetS X252 H hZ hown (hw _ wd16) e252 (S_w_Result_INT_COUNT.ext O252) at_44 47 rfl ?_
  intro T253 X253 e253
  refine gAastore X253 H hZ e253 rfl (stoV V252 Q240 (Ins.self (E_w_Result_INT_COUNT.ext O252))) V252 ⟨by decide, by decide⟩ (i := 6) rfl (Nat.le_of_ble_eq_true rfl) (vs' := [(.ref w_Result_ROWS), (.ref w_Result_ONE), (.ref w_Result_OPTIONAL), (.ref w_Result_PAGE), (.ref w_Result_SLICE), (.ref w_Result_COUNT), (.ref w_Result_INT_COUNT), .null, .null, .null, .null, .null]) rfl at_47 48 rfl ?_
  intro T254 h254 X254 e254 W254 V254
  have O254 := extW O252 W254 G_b240
  have N254 := Fr.snoc X254 N252 G_b240
  refine gDup X254 H at_48 rfl 49 rfl ?_
  refine gBipush X254 H at_49 (z := 7) rfl 51 rfl ?_
  refine gGetS X254 H hZ hown (hw _ wd18) e254 (S_w_Result_EXISTS.ext O254) at_51 54 rfl ?_
  intro T255 X255 e255
  refine gAastore X255 H hZ e255 rfl (stoV V254 Q240 (Ins.self (E_w_Result_EXISTS.ext O254))) V254 ⟨by decide, by decide⟩ (i := 7) rfl (Nat.le_of_ble_eq_true rfl) (vs' := [(.ref w_Result_ROWS), (.ref w_Result_ONE), (.ref w_Result_OPTIONAL), (.ref w_Result_PAGE), (.ref w_Result_SLICE), (.ref w_Result_COUNT), (.ref w_Result_INT_COUNT), (.ref w_Result_EXISTS), .null, .null, .null, .null]) rfl at_54 55 rfl ?_
  intro T256 h256 X256 e256 W256 V256
  have O256 := extW O254 W256 G_b240
  have N256 := Fr.snoc X256 N254 G_b240
  refine gDup X256 H at_55 rfl 56 rfl ?_
  refine gBipush X256 H at_56 (z := 8) rfl 58 rfl ?_
  refine gGetS X256 H hZ hown (hw _ wd20) e256 (S_w_Result_DELETED_ROWS.ext O256) at_58 61 rfl ?_
  intro T257 X257 e257
  refine gAastore X257 H hZ e257 rfl (stoV V256 Q240 (Ins.self (E_w_Result_DELETED_ROWS.ext O256))) V256 ⟨by decide, by decide⟩ (i := 8) rfl (Nat.le_of_ble_eq_true rfl) (vs' := [(.ref w_Result_ROWS), (.ref w_Result_ONE), (.ref w_Result_OPTIONAL), (.ref w_Result_PAGE), (.ref w_Result_SLICE), (.ref w_Result_COUNT), (.ref w_Result_INT_COUNT), (.ref w_Result_EXISTS), (.ref w_Result_DELETED_ROWS), .null, .null, .null]) rfl at_61 62 rfl ?_
  intro T258 h258 X258 e258 W258 V258
  have O258 := extW O256 W258 G_b240
  have N258 := Fr.snoc X258 N256 G_b240
  refine gDup X258 H at_62 rfl 63 rfl ?_
  refine gBipush X258 H at_63 (z := 9) rfl 65 rfl ?_
  refine gGetS X258 H hZ hown (hw _ wd22) e258 (S_w_Result_CHANGED_COUNT.ext O258) at_65 68 rfl ?_
  intro T259 X259 e259
  refine gAastore X259 H hZ e259 rfl (stoV V258 Q240 (Ins.self (E_w_Result_CHANGED_COUNT.ext O258))) V258 ⟨by decide, by decide⟩ (i := 9) rfl (Nat.le_of_ble_eq_true rfl) (vs' := [(.ref w_Result_ROWS), (.ref w_Result_ONE), (.ref w_Result_OPTIONAL), (.ref w_Result_PAGE), (.ref w_Result_SLICE), (.ref w_Result_COUNT), (.ref w_Result_INT_COUNT), (.ref w_Result_EXISTS), (.ref w_Result_DELETED_ROWS), (.ref w_Result_CHANGED_COUNT), .null, .null]) rfl at_68 69 rfl ?_
  intro T260 h260 X260 e260 W260 V260
  have O260 := extW O258 W260 G_b240
  have N260 := Fr.snoc X260 N258 G_b240
  refine gDup X260 H at_69 rfl 70 rfl ?_
  refine gBipush X260 H at_70 (z := 10) rfl 72 rfl ?_
  refine gGetS X260 H hZ hown (hw _ wd24) e260 (S_w_Result_CHANGED_INT_COUNT.ext O260) at_72 75 rfl ?_
  intro T261 X261 e261
  refine gAastore X261 H hZ e261 rfl (stoV V260 Q240 (Ins.self (E_w_Result_CHANGED_INT_COUNT.ext O260))) V260 ⟨by decide, by decide⟩ (i := 10) rfl (Nat.le_of_ble_eq_true rfl) (vs' := [(.ref w_Result_ROWS), (.ref w_Result_ONE), (.ref w_Result_OPTIONAL), (.ref w_Result_PAGE), (.ref w_Result_SLICE), (.ref w_Result_COUNT), (.ref w_Result_INT_COUNT), (.ref w_Result_EXISTS), (.ref w_Result_DELETED_ROWS), (.ref w_Result_CHANGED_COUNT), (.ref w_Result_CHANGED_INT_COUNT), .null]) rfl at_75 76 rfl ?_
  intro T262 h262 X262 e262 W262 V262
  have O262 := extW O260 W262 G_b240
  have N262 := Fr.snoc X262 N260 G_b240
  refine gDup X262 H at_76 rfl 77 rfl ?_
  refine gBipush X262 H at_77 (z := 11) rfl 79 rfl ?_
  refine gGetS X262 H hZ hown (hw _ wd26) e262 (S_w_Result_CHANGED.ext O262) at_79 82 rfl ?_
  intro T263 X263 e263
  refine gAastore X263 H hZ e263 rfl (stoV V262 Q240 (Ins.self (E_w_Result_CHANGED.ext O262))) V262 ⟨by decide, by decide⟩ (i := 11) rfl (Nat.le_of_ble_eq_true rfl) (vs' := [(.ref w_Result_ROWS), (.ref w_Result_ONE), (.ref w_Result_OPTIONAL), (.ref w_Result_PAGE), (.ref w_Result_SLICE), (.ref w_Result_COUNT), (.ref w_Result_INT_COUNT), (.ref w_Result_EXISTS), (.ref w_Result_DELETED_ROWS), (.ref w_Result_CHANGED_COUNT), (.ref w_Result_CHANGED_INT_COUNT), (.ref w_Result_CHANGED)]) rfl at_82 83 rfl ?_
  intro T264 h264 X264 e264 W264 V264
  have O264 := extW O262 W264 G_b240
  have N264 := Fr.snoc X264 N262 G_b240
  refine gAstoreN X264 H at_83 rfl (Ls' := #[vI p0, vR b240, .unset, .unset, .unset]) rfl 84 rfl ?_
  refine gIloadN X264 H at_84 rfl 85 rfl ?_
  refine gLdc X264 H hZ hown (hw _ wd28) at_85 87 rfl ?_
  refine g_iand X264 H at_87 (z := (p0 &&& (2147483647 : Int32))) rfl 88 rfl ?_
  refine gBipush X264 H at_88 (z := 12) rfl 90 rfl ?_
  refine g_irem X264 H at_90 (by decide) (z := 8) ha0 91 rfl ?_
  refine gIstoreN X264 H at_91 (Ls' := #[vI p0, vR b240, vI 8, .unset, .unset]) rfl 92 rfl ?_
  refine gAloadN X264 H at_92 rfl rfl 93 rfl ?_
  refine gIloadN X264 H at_93 rfl 94 rfl ?_
  refine gAaload X264 H hZ e264 rfl V264 ⟨by decide, by decide⟩ (v := (.ref w_Result_DELETED_ROWS)) rfl at_94 95 rfl ?_
  refine gAstoreN X264 H at_95 rfl (Ls' := #[vI p0, vR b240, vI 8, vR w_Result_DELETED_ROWS, .unset]) rfl 96 rfl ?_
  refine gIloadN X264 H at_96 rfl 97 rfl ?_
  refine gIconst X264 H at_97 (z := 1) rfl 98 rfl ?_
  refine gCmpN X264 H at_98 (by decide) 101 rfl ?_
  refine gIloadN X264 H at_101 rfl 102 rfl ?_
  refine gIconst X264 H at_102 (z := 2) rfl 103 rfl ?_
  refine gCmpY X264 H at_103 (by decide) (by decide) 110 rfl ?_
  refine gIconst X264 H at_110 (z := 0) rfl 111 rfl ?_
  refine gIstore X264 H at_111 (Ls' := #[vI p0, vR b240, vI 8, vR w_Result_DELETED_ROWS, vI 0]) rfl 113 rfl ?_
  refine gAloadN X264 H at_113 rfl rfl 114 rfl ?_
  refine gVirt X264 H hZ hown (hw _ wd29) (hw _ wd30) (hw _ wd32) (hw _ wd31) (by decide) (E_w_Result_DELETED_ROWS.ext O264) (hw _ wd33) (hw _ wd3) (rm268_1 B _ O264) e264 hml rfl pd0 rfl (W := 0) (argsL := []) (rest := []) rfl rfl at_114 117 rfl ?_
  intro v269 T269 L269 hq269 X269
  obtain ⟨rfl, e269, rfl⟩ := hq269
  have N269 := Fr.app N264 (Fr.nil _)
  show Go _ _ _ _ (State.setTop _ (mkF _ 117 _ [(.int 0)]))
  refine gIload X269 H at_117 rfl 119 rfl ?_
  refine gCmpN X269 H at_119 (by decide) 122 rfl ?_
  refine gIconst X269 H at_122 (z := 1) rfl 123 rfl ?_
  refine gGoto X269 H at_123 (by decide) 127 rfl ?_
  exact gRetN X269 H hlk hret (t := .boolean) (by simp) at_127 e269 ⟨rfl, N269⟩
theorem rm298_1 (B : Bg Z a0 w_Result_ROWS w_Result_ONE w_Result_OPTIONAL w_Result_PAGE w_Result_SLICE w_Result_COUNT w_Result_INT_COUNT w_Result_EXISTS w_Result_DELETED_ROWS w_Result_CHANGED_COUNT w_Result_CHANGED_INT_COUNT w_Result_CHANGED) (h : Heap) (O : Ext Z.heap h) :
    Con l Z yM1 prog_55_method_6_code 1 (some .boolean) ({ frames := 0, cells := 0, slots := 0, locals := 0 } : Room) #[(.ref w_Result_CHANGED_COUNT)] h (fun v h' L => v = some (.int 0) ∧ h' = h ∧ L = []) := by
  have hw := B.1
  obtain ⟨S_w_Result_ROWS, E_w_Result_ROWS, S_w_Result_ONE, E_w_Result_ONE, S_w_Result_OPTIONAL, E_w_Result_OPTIONAL, S_w_Result_PAGE, E_w_Result_PAGE, S_w_Result_SLICE, E_w_Result_SLICE, S_w_Result_COUNT, E_w_Result_COUNT, S_w_Result_INT_COUNT, E_w_Result_INT_COUNT, S_w_Result_EXISTS, E_w_Result_EXISTS, S_w_Result_DELETED_ROWS, E_w_Result_DELETED_ROWS, S_w_Result_CHANGED_COUNT, E_w_Result_CHANGED_COUNT, S_w_Result_CHANGED_INT_COUNT, E_w_Result_CHANGED_INT_COUNT, S_w_Result_CHANGED, E_w_Result_CHANGED, F_w_Result_ROWS_ordinal, F_w_Result_ONE_ordinal, F_w_Result_OPTIONAL_ordinal, F_w_Result_PAGE_ordinal, F_w_Result_EXISTS_ordinal, F_w_Result_CHANGED_ordinal, F_w_Result_SLICE_ordinal, F_w_Result_DELETED_ROWS_ordinal, F_w_Result_CHANGED_INT_COUNT_ordinal, F_w_Result_CHANGED_COUNT_ordinal, F_w_Result_INT_COUNT_ordinal, F_w_Result_COUNT_ordinal⟩ := B.2
  refine Con.of (plainFor_of_name pn1) (Ls := #[vR w_Result_CHANGED_COUNT]) (fun m => by first | rfl | (simp [entryFrame, mkF, argsToLocals, Value.category]; done)) ?_
  intro p e s m below meth c T0 X0 H hml hZ hown hnm hret hlk e0
  refine gAloadN X0 H d1_0 rfl rfl 1 rfl ?_
  refine gGetS X0 H hZ hown (hw _ wd34) e0 (S_w_Result_ONE.ext O) d1_1 4 rfl ?_
  intro T296 X296 e296
  refine gAcmp X296 H d1_4 rfl rfl (same := false) (decide_eq_false fun q => (Fld.ne F_w_Result_CHANGED_COUNT_ordinal F_w_Result_ONE_ordinal (by decide)) (Value.ref.inj q)) (by decide) 7 (by decide) ?_
  refine gAloadN X296 H d1_7 rfl rfl 8 rfl ?_
  refine gGetS X296 H hZ hown (hw _ wd35) e296 (S_w_Result_OPTIONAL.ext O) d1_8 11 rfl ?_
  intro T297 X297 e297
  refine gAcmp X297 H d1_11 rfl rfl (same := false) (decide_eq_false fun q => (Fld.ne F_w_Result_CHANGED_COUNT_ordinal F_w_Result_OPTIONAL_ordinal (by decide)) (Value.ref.inj q)) (by decide) 18 (by decide) ?_
  refine gIconst X297 H d1_18 (z := 0) rfl 19 rfl ?_
  exact gRetN X297 H hlk hret (t := .boolean) (by simp) d1_19 e297 ⟨rfl, rfl, rfl⟩
theorem lawAll_9 (B : Bg Z a0 w_Result_ROWS w_Result_ONE w_Result_OPTIONAL w_Result_PAGE w_Result_SLICE w_Result_COUNT w_Result_INT_COUNT w_Result_EXISTS w_Result_DELETED_ROWS w_Result_CHANGED_COUNT w_Result_CHANGED_INT_COUNT w_Result_CHANGED) (p0 : Int32) (ha0 : ((p0 &&& (2147483647 : Int32)) % (12 : Int32)) = (9 : Int32)) :
    Con l Z x code maxLocals ret room_1 #[(.int p0)] Z.heap (fun v h' L => v = some (.int 1) ∧ Fr Z.heap.size L) := by
  have hw := B.1
  obtain ⟨S_w_Result_ROWS, E_w_Result_ROWS, S_w_Result_ONE, E_w_Result_ONE, S_w_Result_OPTIONAL, E_w_Result_OPTIONAL, S_w_Result_PAGE, E_w_Result_PAGE, S_w_Result_SLICE, E_w_Result_SLICE, S_w_Result_COUNT, E_w_Result_COUNT, S_w_Result_INT_COUNT, E_w_Result_INT_COUNT, S_w_Result_EXISTS, E_w_Result_EXISTS, S_w_Result_DELETED_ROWS, E_w_Result_DELETED_ROWS, S_w_Result_CHANGED_COUNT, E_w_Result_CHANGED_COUNT, S_w_Result_CHANGED_INT_COUNT, E_w_Result_CHANGED_INT_COUNT, S_w_Result_CHANGED, E_w_Result_CHANGED, F_w_Result_ROWS_ordinal, F_w_Result_ONE_ordinal, F_w_Result_OPTIONAL_ordinal, F_w_Result_PAGE_ordinal, F_w_Result_EXISTS_ordinal, F_w_Result_CHANGED_ordinal, F_w_Result_SLICE_ordinal, F_w_Result_DELETED_ROWS_ordinal, F_w_Result_CHANGED_INT_COUNT_ordinal, F_w_Result_CHANGED_COUNT_ordinal, F_w_Result_INT_COUNT_ordinal, F_w_Result_COUNT_ordinal⟩ := B.2
  refine Con.of (plainFor_of_name pn0) (Ls := #[vI p0, .unset, .unset, .unset, .unset]) (fun m => by first | rfl | (simp [entryFrame, mkF, argsToLocals, Value.category, maxLocals]; done)) ?_
  intro p e s m below meth c T0 X0 H hml hZ hown hnm hret hlk e0
  have O0 := extR Z.heap
  have M0 := Nat.le_refl Z.heap.size
  have N0 := Fr.nil Z.heap.size
  refine gBipush X0 H at_0 (z := 12) rfl 2 rfl ?_
  refine gNewR X0 H hZ hown (hw _ wd0) (hw _ wd1) e0 (by decide) (cap := 12) (by decide) (by decide) (vs := [.null, .null, .null, .null, .null, .null, .null, .null, .null, .null, .null, .null]) rfl (by decide) (by decide) at_2 5 rfl ?_
  intro T270 h270 b270 k270 X270 e270 z270 E270 V270 Q270
  have G_b270 := Nat.le_trans O0.1 (Nat.le_of_eq z270)
  have sz_b270 := Nat.le_trans M0 (Nat.le_of_eq z270)
  have O270 := extT O0 E270
  refine gDup X270 H at_5 rfl 6 rfl ?_
  refine gIconst X270 H at_6 (z := 0) rfl 7 rfl ?_
  refine gGetS X270 H hZ hown (hw _ wd2) e270 (S_w_Result_ROWS.ext O270) at_7 10 rfl ?_
  intro T271 X271 e271
  refine gAastore X271 H hZ e271 rfl (stoV V270 Q270 (Ins.self (E_w_Result_ROWS.ext O270))) V270 ⟨by decide, by decide⟩ (i := 0) rfl (Nat.le_of_ble_eq_true rfl) (vs' := [(.ref w_Result_ROWS), .null, .null, .null, .null, .null, .null, .null, .null, .null, .null, .null]) rfl at_10 11 rfl ?_
  intro T272 h272 X272 e272 W272 V272
  have O272 := extW O270 W272 G_b270
  have N272 := Fr.snoc X272 N0 G_b270
  refine gDup X272 H at_11 rfl 12 rfl ?_
  refine gIconst X272 H at_12 (z := 1) rfl 13 rfl ?_
  refine gGetS X272 H hZ hown (hw _ wd6) e272 (S_w_Result_ONE.ext O272) at_13 16 rfl ?_
  intro T273 X273 e273
  refine gAastore X273 H hZ e273 rfl (stoV V272 Q270 (Ins.self (E_w_Result_ONE.ext O272))) V272 ⟨by decide, by decide⟩ (i := 1) rfl (Nat.le_of_ble_eq_true rfl) (vs' := [(.ref w_Result_ROWS), (.ref w_Result_ONE), .null, .null, .null, .null, .null, .null, .null, .null, .null, .null]) rfl at_16 17 rfl ?_
  intro T274 h274 X274 e274 W274 V274
  have O274 := extW O272 W274 G_b270
  have N274 := Fr.snoc X274 N272 G_b270
  refine gDup X274 H at_17 rfl 18 rfl ?_
  refine gIconst X274 H at_18 (z := 2) rfl 19 rfl ?_
  refine gGetS X274 H hZ hown (hw _ wd8) e274 (S_w_Result_OPTIONAL.ext O274) at_19 22 rfl ?_
  intro T275 X275 e275
  refine gAastore X275 H hZ e275 rfl (stoV V274 Q270 (Ins.self (E_w_Result_OPTIONAL.ext O274))) V274 ⟨by decide, by decide⟩ (i := 2) rfl (Nat.le_of_ble_eq_true rfl) (vs' := [(.ref w_Result_ROWS), (.ref w_Result_ONE), (.ref w_Result_OPTIONAL), .null, .null, .null, .null, .null, .null, .null, .null, .null]) rfl at_22 23 rfl ?_
  intro T276 h276 X276 e276 W276 V276
  have O276 := extW O274 W276 G_b270
  have N276 := Fr.snoc X276 N274 G_b270
  refine gDup X276 H at_23 rfl 24 rfl ?_
  refine gIconst X276 H at_24 (z := 3) rfl 25 rfl ?_
  refine gGetS X276 H hZ hown (hw _ wd10) e276 (S_w_Result_PAGE.ext O276) at_25 28 rfl ?_
  intro T277 X277 e277
  refine gAastore X277 H hZ e277 rfl (stoV V276 Q270 (Ins.self (E_w_Result_PAGE.ext O276))) V276 ⟨by decide, by decide⟩ (i := 3) rfl (Nat.le_of_ble_eq_true rfl) (vs' := [(.ref w_Result_ROWS), (.ref w_Result_ONE), (.ref w_Result_OPTIONAL), (.ref w_Result_PAGE), .null, .null, .null, .null, .null, .null, .null, .null]) rfl at_28 29 rfl ?_
  intro T278 h278 X278 e278 W278 V278
  have O278 := extW O276 W278 G_b270
  have N278 := Fr.snoc X278 N276 G_b270
  refine gDup X278 H at_29 rfl 30 rfl ?_
  refine gIconst X278 H at_30 (z := 4) rfl 31 rfl ?_
  refine gGetS X278 H hZ hown (hw _ wd12) e278 (S_w_Result_SLICE.ext O278) at_31 34 rfl ?_
  intro T279 X279 e279
  refine gAastore X279 H hZ e279 rfl (stoV V278 Q270 (Ins.self (E_w_Result_SLICE.ext O278))) V278 ⟨by decide, by decide⟩ (i := 4) rfl (Nat.le_of_ble_eq_true rfl) (vs' := [(.ref w_Result_ROWS), (.ref w_Result_ONE), (.ref w_Result_OPTIONAL), (.ref w_Result_PAGE), (.ref w_Result_SLICE), .null, .null, .null, .null, .null, .null, .null]) rfl at_34 35 rfl ?_
  intro T280 h280 X280 e280 W280 V280
  have O280 := extW O278 W280 G_b270
  have N280 := Fr.snoc X280 N278 G_b270
  refine gDup X280 H at_35 rfl 36 rfl ?_
  refine gIconst X280 H at_36 (z := 5) rfl 37 rfl ?_
  refine gGetS X280 H hZ hown (hw _ wd14) e280 (S_w_Result_COUNT.ext O280) at_37 40 rfl ?_
  intro T281 X281 e281
  refine gAastore X281 H hZ e281 rfl (stoV V280 Q270 (Ins.self (E_w_Result_COUNT.ext O280))) V280 ⟨by decide, by decide⟩ (i := 5) rfl (Nat.le_of_ble_eq_true rfl) (vs' := [(.ref w_Result_ROWS), (.ref w_Result_ONE), (.ref w_Result_OPTIONAL), (.ref w_Result_PAGE), (.ref w_Result_SLICE), (.ref w_Result_COUNT), .null, .null, .null, .null, .null, .null]) rfl at_40 41 rfl ?_
  intro T282 h282 X282 e282 W282 V282
  have O282 := extW O280 W282 G_b270
  have N282 := Fr.snoc X282 N280 G_b270
  refine gDup X282 H at_41 rfl 42 rfl ?_
  refine gBipush X282 H at_42 (z := 6) rfl 44 rfl ?_
  refine gGetS X282 H hZ hown (hw _ wd16) e282 (S_w_Result_INT_COUNT.ext O282) at_44 47 rfl ?_
  intro T283 X283 e283
  refine gAastore X283 H hZ e283 rfl (stoV V282 Q270 (Ins.self (E_w_Result_INT_COUNT.ext O282))) V282 ⟨by decide, by decide⟩ (i := 6) rfl (Nat.le_of_ble_eq_true rfl) (vs' := [(.ref w_Result_ROWS), (.ref w_Result_ONE), (.ref w_Result_OPTIONAL), (.ref w_Result_PAGE), (.ref w_Result_SLICE), (.ref w_Result_COUNT), (.ref w_Result_INT_COUNT), .null, .null, .null, .null, .null]) rfl at_47 48 rfl ?_
  intro T284 h284 X284 e284 W284 V284
  have O284 := extW O282 W284 G_b270
  have N284 := Fr.snoc X284 N282 G_b270
  refine gDup X284 H at_48 rfl 49 rfl ?_
  refine gBipush X284 H at_49 (z := 7) rfl 51 rfl ?_
  refine gGetS X284 H hZ hown (hw _ wd18) e284 (S_w_Result_EXISTS.ext O284) at_51 54 rfl ?_
  intro T285 X285 e285
  refine gAastore X285 H hZ e285 rfl (stoV V284 Q270 (Ins.self (E_w_Result_EXISTS.ext O284))) V284 ⟨by decide, by decide⟩ (i := 7) rfl (Nat.le_of_ble_eq_true rfl) (vs' := [(.ref w_Result_ROWS), (.ref w_Result_ONE), (.ref w_Result_OPTIONAL), (.ref w_Result_PAGE), (.ref w_Result_SLICE), (.ref w_Result_COUNT), (.ref w_Result_INT_COUNT), (.ref w_Result_EXISTS), .null, .null, .null, .null]) rfl at_54 55 rfl ?_
  intro T286 h286 X286 e286 W286 V286
  have O286 := extW O284 W286 G_b270
  have N286 := Fr.snoc X286 N284 G_b270
  refine gDup X286 H at_55 rfl 56 rfl ?_
  refine gBipush X286 H at_56 (z := 8) rfl 58 rfl ?_
  refine gGetS X286 H hZ hown (hw _ wd20) e286 (S_w_Result_DELETED_ROWS.ext O286) at_58 61 rfl ?_
  intro T287 X287 e287
  refine gAastore X287 H hZ e287 rfl (stoV V286 Q270 (Ins.self (E_w_Result_DELETED_ROWS.ext O286))) V286 ⟨by decide, by decide⟩ (i := 8) rfl (Nat.le_of_ble_eq_true rfl) (vs' := [(.ref w_Result_ROWS), (.ref w_Result_ONE), (.ref w_Result_OPTIONAL), (.ref w_Result_PAGE), (.ref w_Result_SLICE), (.ref w_Result_COUNT), (.ref w_Result_INT_COUNT), (.ref w_Result_EXISTS), (.ref w_Result_DELETED_ROWS), .null, .null, .null]) rfl at_61 62 rfl ?_
  intro T288 h288 X288 e288 W288 V288
  have O288 := extW O286 W288 G_b270
  have N288 := Fr.snoc X288 N286 G_b270
  refine gDup X288 H at_62 rfl 63 rfl ?_
  refine gBipush X288 H at_63 (z := 9) rfl 65 rfl ?_
  refine gGetS X288 H hZ hown (hw _ wd22) e288 (S_w_Result_CHANGED_COUNT.ext O288) at_65 68 rfl ?_
  intro T289 X289 e289
  refine gAastore X289 H hZ e289 rfl (stoV V288 Q270 (Ins.self (E_w_Result_CHANGED_COUNT.ext O288))) V288 ⟨by decide, by decide⟩ (i := 9) rfl (Nat.le_of_ble_eq_true rfl) (vs' := [(.ref w_Result_ROWS), (.ref w_Result_ONE), (.ref w_Result_OPTIONAL), (.ref w_Result_PAGE), (.ref w_Result_SLICE), (.ref w_Result_COUNT), (.ref w_Result_INT_COUNT), (.ref w_Result_EXISTS), (.ref w_Result_DELETED_ROWS), (.ref w_Result_CHANGED_COUNT), .null, .null]) rfl at_68 69 rfl ?_
  intro T290 h290 X290 e290 W290 V290
  have O290 := extW O288 W290 G_b270
  have N290 := Fr.snoc X290 N288 G_b270
  refine gDup X290 H at_69 rfl 70 rfl ?_
  refine gBipush X290 H at_70 (z := 10) rfl 72 rfl ?_
  refine gGetS X290 H hZ hown (hw _ wd24) e290 (S_w_Result_CHANGED_INT_COUNT.ext O290) at_72 75 rfl ?_
  intro T291 X291 e291
  refine gAastore X291 H hZ e291 rfl (stoV V290 Q270 (Ins.self (E_w_Result_CHANGED_INT_COUNT.ext O290))) V290 ⟨by decide, by decide⟩ (i := 10) rfl (Nat.le_of_ble_eq_true rfl) (vs' := [(.ref w_Result_ROWS), (.ref w_Result_ONE), (.ref w_Result_OPTIONAL), (.ref w_Result_PAGE), (.ref w_Result_SLICE), (.ref w_Result_COUNT), (.ref w_Result_INT_COUNT), (.ref w_Result_EXISTS), (.ref w_Result_DELETED_ROWS), (.ref w_Result_CHANGED_COUNT), (.ref w_Result_CHANGED_INT_COUNT), .null]) rfl at_75 76 rfl ?_
  intro T292 h292 X292 e292 W292 V292
  have O292 := extW O290 W292 G_b270
  have N292 := Fr.snoc X292 N290 G_b270
  refine gDup X292 H at_76 rfl 77 rfl ?_
  refine gBipush X292 H at_77 (z := 11) rfl 79 rfl ?_
  refine gGetS X292 H hZ hown (hw _ wd26) e292 (S_w_Result_CHANGED.ext O292) at_79 82 rfl ?_
  intro T293 X293 e293
  refine gAastore X293 H hZ e293 rfl (stoV V292 Q270 (Ins.self (E_w_Result_CHANGED.ext O292))) V292 ⟨by decide, by decide⟩ (i := 11) rfl (Nat.le_of_ble_eq_true rfl) (vs' := [(.ref w_Result_ROWS), (.ref w_Result_ONE), (.ref w_Result_OPTIONAL), (.ref w_Result_PAGE), (.ref w_Result_SLICE), (.ref w_Result_COUNT), (.ref w_Result_INT_COUNT), (.ref w_Result_EXISTS), (.ref w_Result_DELETED_ROWS), (.ref w_Result_CHANGED_COUNT), (.ref w_Result_CHANGED_INT_COUNT), (.ref w_Result_CHANGED)]) rfl at_82 83 rfl ?_
  intro T294 h294 X294 e294 W294 V294
  have O294 := extW O292 W294 G_b270
  have N294 := Fr.snoc X294 N292 G_b270
  refine gAstoreN X294 H at_83 rfl (Ls' := #[vI p0, vR b270, .unset, .unset, .unset]) rfl 84 rfl ?_
  refine gIloadN X294 H at_84 rfl 85 rfl ?_
  refine gLdc X294 H hZ hown (hw _ wd28) at_85 87 rfl ?_
  refine g_iand X294 H at_87 (z := (p0 &&& (2147483647 : Int32))) rfl 88 rfl ?_
  refine gBipush X294 H at_88 (z := 12) rfl 90 rfl ?_
  refine g_irem X294 H at_90 (by decide) (z := 9) ha0 91 rfl ?_
  refine gIstoreN X294 H at_91 (Ls' := #[vI p0, vR b270, vI 9, .unset, .unset]) rfl 92 rfl ?_
  refine gAloadN X294 H at_92 rfl rfl 93 rfl ?_
  refine gIloadN X294 H at_93 rfl 94 rfl ?_
  refine gAaload X294 H hZ e294 rfl V294 ⟨by decide, by decide⟩ (v := (.ref w_Result_CHANGED_COUNT)) rfl at_94 95 rfl ?_
  refine gAstoreN X294 H at_95 rfl (Ls' := #[vI p0, vR b270, vI 9, vR w_Result_CHANGED_COUNT, .unset]) rfl 96 rfl ?_
  refine gIloadN X294 H at_96 rfl 97 rfl ?_
  refine gIconst X294 H at_97 (z := 1) rfl 98 rfl ?_
  refine gCmpN X294 H at_98 (by decide) 101 rfl ?_
  refine gIloadN X294 H at_101 rfl 102 rfl ?_
  refine gIconst X294 H at_102 (z := 2) rfl 103 rfl ?_
  refine gCmpY X294 H at_103 (by decide) (by decide) 110 rfl ?_
  refine gIconst X294 H at_110 (z := 0) rfl 111 rfl ?_
  refine gIstore X294 H at_111 (Ls' := #[vI p0, vR b270, vI 9, vR w_Result_CHANGED_COUNT, vI 0]) rfl 113 rfl ?_
  refine gAloadN X294 H at_113 rfl rfl 114 rfl ?_
  refine gVirt X294 H hZ hown (hw _ wd29) (hw _ wd30) (hw _ wd32) (hw _ wd31) (by decide) (E_w_Result_CHANGED_COUNT.ext O294) (hw _ wd33) (hw _ wd3) (rm298_1 B _ O294) e294 hml rfl pd0 rfl (W := 0) (argsL := []) (rest := []) rfl rfl at_114 117 rfl ?_
  intro v299 T299 L299 hq299 X299
  obtain ⟨rfl, e299, rfl⟩ := hq299
  have N299 := Fr.app N294 (Fr.nil _)
  show Go _ _ _ _ (State.setTop _ (mkF _ 117 _ [(.int 0)]))
  refine gIload X299 H at_117 rfl 119 rfl ?_
  refine gCmpN X299 H at_119 (by decide) 122 rfl ?_
  refine gIconst X299 H at_122 (z := 1) rfl 123 rfl ?_
  refine gGoto X299 H at_123 (by decide) 127 rfl ?_
  exact gRetN X299 H hlk hret (t := .boolean) (by simp) at_127 e299 ⟨rfl, N299⟩
theorem rm328_1 (B : Bg Z a0 w_Result_ROWS w_Result_ONE w_Result_OPTIONAL w_Result_PAGE w_Result_SLICE w_Result_COUNT w_Result_INT_COUNT w_Result_EXISTS w_Result_DELETED_ROWS w_Result_CHANGED_COUNT w_Result_CHANGED_INT_COUNT w_Result_CHANGED) (h : Heap) (O : Ext Z.heap h) :
    Con l Z yM1 prog_55_method_6_code 1 (some .boolean) ({ frames := 0, cells := 0, slots := 0, locals := 0 } : Room) #[(.ref w_Result_CHANGED_INT_COUNT)] h (fun v h' L => v = some (.int 0) ∧ h' = h ∧ L = []) := by
  have hw := B.1
  obtain ⟨S_w_Result_ROWS, E_w_Result_ROWS, S_w_Result_ONE, E_w_Result_ONE, S_w_Result_OPTIONAL, E_w_Result_OPTIONAL, S_w_Result_PAGE, E_w_Result_PAGE, S_w_Result_SLICE, E_w_Result_SLICE, S_w_Result_COUNT, E_w_Result_COUNT, S_w_Result_INT_COUNT, E_w_Result_INT_COUNT, S_w_Result_EXISTS, E_w_Result_EXISTS, S_w_Result_DELETED_ROWS, E_w_Result_DELETED_ROWS, S_w_Result_CHANGED_COUNT, E_w_Result_CHANGED_COUNT, S_w_Result_CHANGED_INT_COUNT, E_w_Result_CHANGED_INT_COUNT, S_w_Result_CHANGED, E_w_Result_CHANGED, F_w_Result_ROWS_ordinal, F_w_Result_ONE_ordinal, F_w_Result_OPTIONAL_ordinal, F_w_Result_PAGE_ordinal, F_w_Result_EXISTS_ordinal, F_w_Result_CHANGED_ordinal, F_w_Result_SLICE_ordinal, F_w_Result_DELETED_ROWS_ordinal, F_w_Result_CHANGED_INT_COUNT_ordinal, F_w_Result_CHANGED_COUNT_ordinal, F_w_Result_INT_COUNT_ordinal, F_w_Result_COUNT_ordinal⟩ := B.2
  refine Con.of (plainFor_of_name pn1) (Ls := #[vR w_Result_CHANGED_INT_COUNT]) (fun m => by first | rfl | (simp [entryFrame, mkF, argsToLocals, Value.category]; done)) ?_
  intro p e s m below meth c T0 X0 H hml hZ hown hnm hret hlk e0
  refine gAloadN X0 H d1_0 rfl rfl 1 rfl ?_
  refine gGetS X0 H hZ hown (hw _ wd34) e0 (S_w_Result_ONE.ext O) d1_1 4 rfl ?_
  intro T326 X326 e326
  refine gAcmp X326 H d1_4 rfl rfl (same := false) (decide_eq_false fun q => (Fld.ne F_w_Result_CHANGED_INT_COUNT_ordinal F_w_Result_ONE_ordinal (by decide)) (Value.ref.inj q)) (by decide) 7 (by decide) ?_
  refine gAloadN X326 H d1_7 rfl rfl 8 rfl ?_
  refine gGetS X326 H hZ hown (hw _ wd35) e326 (S_w_Result_OPTIONAL.ext O) d1_8 11 rfl ?_
  intro T327 X327 e327
  refine gAcmp X327 H d1_11 rfl rfl (same := false) (decide_eq_false fun q => (Fld.ne F_w_Result_CHANGED_INT_COUNT_ordinal F_w_Result_OPTIONAL_ordinal (by decide)) (Value.ref.inj q)) (by decide) 18 (by decide) ?_
  refine gIconst X327 H d1_18 (z := 0) rfl 19 rfl ?_
  exact gRetN X327 H hlk hret (t := .boolean) (by simp) d1_19 e327 ⟨rfl, rfl, rfl⟩
theorem lawAll_10 (B : Bg Z a0 w_Result_ROWS w_Result_ONE w_Result_OPTIONAL w_Result_PAGE w_Result_SLICE w_Result_COUNT w_Result_INT_COUNT w_Result_EXISTS w_Result_DELETED_ROWS w_Result_CHANGED_COUNT w_Result_CHANGED_INT_COUNT w_Result_CHANGED) (p0 : Int32) (ha0 : ((p0 &&& (2147483647 : Int32)) % (12 : Int32)) = (10 : Int32)) :
    Con l Z x code maxLocals ret room_1 #[(.int p0)] Z.heap (fun v h' L => v = some (.int 1) ∧ Fr Z.heap.size L) := by
  have hw := B.1
  obtain ⟨S_w_Result_ROWS, E_w_Result_ROWS, S_w_Result_ONE, E_w_Result_ONE, S_w_Result_OPTIONAL, E_w_Result_OPTIONAL, S_w_Result_PAGE, E_w_Result_PAGE, S_w_Result_SLICE, E_w_Result_SLICE, S_w_Result_COUNT, E_w_Result_COUNT, S_w_Result_INT_COUNT, E_w_Result_INT_COUNT, S_w_Result_EXISTS, E_w_Result_EXISTS, S_w_Result_DELETED_ROWS, E_w_Result_DELETED_ROWS, S_w_Result_CHANGED_COUNT, E_w_Result_CHANGED_COUNT, S_w_Result_CHANGED_INT_COUNT, E_w_Result_CHANGED_INT_COUNT, S_w_Result_CHANGED, E_w_Result_CHANGED, F_w_Result_ROWS_ordinal, F_w_Result_ONE_ordinal, F_w_Result_OPTIONAL_ordinal, F_w_Result_PAGE_ordinal, F_w_Result_EXISTS_ordinal, F_w_Result_CHANGED_ordinal, F_w_Result_SLICE_ordinal, F_w_Result_DELETED_ROWS_ordinal, F_w_Result_CHANGED_INT_COUNT_ordinal, F_w_Result_CHANGED_COUNT_ordinal, F_w_Result_INT_COUNT_ordinal, F_w_Result_COUNT_ordinal⟩ := B.2
  refine Con.of (plainFor_of_name pn0) (Ls := #[vI p0, .unset, .unset, .unset, .unset]) (fun m => by first | rfl | (simp [entryFrame, mkF, argsToLocals, Value.category, maxLocals]; done)) ?_
  intro p e s m below meth c T0 X0 H hml hZ hown hnm hret hlk e0
  have O0 := extR Z.heap
  have M0 := Nat.le_refl Z.heap.size
  have N0 := Fr.nil Z.heap.size
  refine gBipush X0 H at_0 (z := 12) rfl 2 rfl ?_
  refine gNewR X0 H hZ hown (hw _ wd0) (hw _ wd1) e0 (by decide) (cap := 12) (by decide) (by decide) (vs := [.null, .null, .null, .null, .null, .null, .null, .null, .null, .null, .null, .null]) rfl (by decide) (by decide) at_2 5 rfl ?_
  intro T300 h300 b300 k300 X300 e300 z300 E300 V300 Q300
  have G_b300 := Nat.le_trans O0.1 (Nat.le_of_eq z300)
  have sz_b300 := Nat.le_trans M0 (Nat.le_of_eq z300)
  have O300 := extT O0 E300
  refine gDup X300 H at_5 rfl 6 rfl ?_
  refine gIconst X300 H at_6 (z := 0) rfl 7 rfl ?_
  refine gGetS X300 H hZ hown (hw _ wd2) e300 (S_w_Result_ROWS.ext O300) at_7 10 rfl ?_
  intro T301 X301 e301
  refine gAastore X301 H hZ e301 rfl (stoV V300 Q300 (Ins.self (E_w_Result_ROWS.ext O300))) V300 ⟨by decide, by decide⟩ (i := 0) rfl (Nat.le_of_ble_eq_true rfl) (vs' := [(.ref w_Result_ROWS), .null, .null, .null, .null, .null, .null, .null, .null, .null, .null, .null]) rfl at_10 11 rfl ?_
  intro T302 h302 X302 e302 W302 V302
  have O302 := extW O300 W302 G_b300
  have N302 := Fr.snoc X302 N0 G_b300
  refine gDup X302 H at_11 rfl 12 rfl ?_
  refine gIconst X302 H at_12 (z := 1) rfl 13 rfl ?_
  refine gGetS X302 H hZ hown (hw _ wd6) e302 (S_w_Result_ONE.ext O302) at_13 16 rfl ?_
  intro T303 X303 e303
  refine gAastore X303 H hZ e303 rfl (stoV V302 Q300 (Ins.self (E_w_Result_ONE.ext O302))) V302 ⟨by decide, by decide⟩ (i := 1) rfl (Nat.le_of_ble_eq_true rfl) (vs' := [(.ref w_Result_ROWS), (.ref w_Result_ONE), .null, .null, .null, .null, .null, .null, .null, .null, .null, .null]) rfl at_16 17 rfl ?_
  intro T304 h304 X304 e304 W304 V304
  have O304 := extW O302 W304 G_b300
  have N304 := Fr.snoc X304 N302 G_b300
  refine gDup X304 H at_17 rfl 18 rfl ?_
  refine gIconst X304 H at_18 (z := 2) rfl 19 rfl ?_
  refine gGetS X304 H hZ hown (hw _ wd8) e304 (S_w_Result_OPTIONAL.ext O304) at_19 22 rfl ?_
  intro T305 X305 e305
  refine gAastore X305 H hZ e305 rfl (stoV V304 Q300 (Ins.self (E_w_Result_OPTIONAL.ext O304))) V304 ⟨by decide, by decide⟩ (i := 2) rfl (Nat.le_of_ble_eq_true rfl) (vs' := [(.ref w_Result_ROWS), (.ref w_Result_ONE), (.ref w_Result_OPTIONAL), .null, .null, .null, .null, .null, .null, .null, .null, .null]) rfl at_22 23 rfl ?_
  intro T306 h306 X306 e306 W306 V306
  have O306 := extW O304 W306 G_b300
  have N306 := Fr.snoc X306 N304 G_b300
  refine gDup X306 H at_23 rfl 24 rfl ?_
  refine gIconst X306 H at_24 (z := 3) rfl 25 rfl ?_
  refine gGetS X306 H hZ hown (hw _ wd10) e306 (S_w_Result_PAGE.ext O306) at_25 28 rfl ?_
  intro T307 X307 e307
  refine gAastore X307 H hZ e307 rfl (stoV V306 Q300 (Ins.self (E_w_Result_PAGE.ext O306))) V306 ⟨by decide, by decide⟩ (i := 3) rfl (Nat.le_of_ble_eq_true rfl) (vs' := [(.ref w_Result_ROWS), (.ref w_Result_ONE), (.ref w_Result_OPTIONAL), (.ref w_Result_PAGE), .null, .null, .null, .null, .null, .null, .null, .null]) rfl at_28 29 rfl ?_
  intro T308 h308 X308 e308 W308 V308
  have O308 := extW O306 W308 G_b300
  have N308 := Fr.snoc X308 N306 G_b300
  refine gDup X308 H at_29 rfl 30 rfl ?_
  refine gIconst X308 H at_30 (z := 4) rfl 31 rfl ?_
  refine gGetS X308 H hZ hown (hw _ wd12) e308 (S_w_Result_SLICE.ext O308) at_31 34 rfl ?_
  intro T309 X309 e309
  refine gAastore X309 H hZ e309 rfl (stoV V308 Q300 (Ins.self (E_w_Result_SLICE.ext O308))) V308 ⟨by decide, by decide⟩ (i := 4) rfl (Nat.le_of_ble_eq_true rfl) (vs' := [(.ref w_Result_ROWS), (.ref w_Result_ONE), (.ref w_Result_OPTIONAL), (.ref w_Result_PAGE), (.ref w_Result_SLICE), .null, .null, .null, .null, .null, .null, .null]) rfl at_34 35 rfl ?_
  intro T310 h310 X310 e310 W310 V310
  have O310 := extW O308 W310 G_b300
  have N310 := Fr.snoc X310 N308 G_b300
  refine gDup X310 H at_35 rfl 36 rfl ?_
  refine gIconst X310 H at_36 (z := 5) rfl 37 rfl ?_
  refine gGetS X310 H hZ hown (hw _ wd14) e310 (S_w_Result_COUNT.ext O310) at_37 40 rfl ?_
  intro T311 X311 e311
  refine gAastore X311 H hZ e311 rfl (stoV V310 Q300 (Ins.self (E_w_Result_COUNT.ext O310))) V310 ⟨by decide, by decide⟩ (i := 5) rfl (Nat.le_of_ble_eq_true rfl) (vs' := [(.ref w_Result_ROWS), (.ref w_Result_ONE), (.ref w_Result_OPTIONAL), (.ref w_Result_PAGE), (.ref w_Result_SLICE), (.ref w_Result_COUNT), .null, .null, .null, .null, .null, .null]) rfl at_40 41 rfl ?_
  intro T312 h312 X312 e312 W312 V312
  have O312 := extW O310 W312 G_b300
  have N312 := Fr.snoc X312 N310 G_b300
  refine gDup X312 H at_41 rfl 42 rfl ?_
  refine gBipush X312 H at_42 (z := 6) rfl 44 rfl ?_
  refine gGetS X312 H hZ hown (hw _ wd16) e312 (S_w_Result_INT_COUNT.ext O312) at_44 47 rfl ?_
  intro T313 X313 e313
  refine gAastore X313 H hZ e313 rfl (stoV V312 Q300 (Ins.self (E_w_Result_INT_COUNT.ext O312))) V312 ⟨by decide, by decide⟩ (i := 6) rfl (Nat.le_of_ble_eq_true rfl) (vs' := [(.ref w_Result_ROWS), (.ref w_Result_ONE), (.ref w_Result_OPTIONAL), (.ref w_Result_PAGE), (.ref w_Result_SLICE), (.ref w_Result_COUNT), (.ref w_Result_INT_COUNT), .null, .null, .null, .null, .null]) rfl at_47 48 rfl ?_
  intro T314 h314 X314 e314 W314 V314
  have O314 := extW O312 W314 G_b300
  have N314 := Fr.snoc X314 N312 G_b300
  refine gDup X314 H at_48 rfl 49 rfl ?_
  refine gBipush X314 H at_49 (z := 7) rfl 51 rfl ?_
  refine gGetS X314 H hZ hown (hw _ wd18) e314 (S_w_Result_EXISTS.ext O314) at_51 54 rfl ?_
  intro T315 X315 e315
  refine gAastore X315 H hZ e315 rfl (stoV V314 Q300 (Ins.self (E_w_Result_EXISTS.ext O314))) V314 ⟨by decide, by decide⟩ (i := 7) rfl (Nat.le_of_ble_eq_true rfl) (vs' := [(.ref w_Result_ROWS), (.ref w_Result_ONE), (.ref w_Result_OPTIONAL), (.ref w_Result_PAGE), (.ref w_Result_SLICE), (.ref w_Result_COUNT), (.ref w_Result_INT_COUNT), (.ref w_Result_EXISTS), .null, .null, .null, .null]) rfl at_54 55 rfl ?_
  intro T316 h316 X316 e316 W316 V316
  have O316 := extW O314 W316 G_b300
  have N316 := Fr.snoc X316 N314 G_b300
  refine gDup X316 H at_55 rfl 56 rfl ?_
  refine gBipush X316 H at_56 (z := 8) rfl 58 rfl ?_
  refine gGetS X316 H hZ hown (hw _ wd20) e316 (S_w_Result_DELETED_ROWS.ext O316) at_58 61 rfl ?_
  intro T317 X317 e317
  refine gAastore X317 H hZ e317 rfl (stoV V316 Q300 (Ins.self (E_w_Result_DELETED_ROWS.ext O316))) V316 ⟨by decide, by decide⟩ (i := 8) rfl (Nat.le_of_ble_eq_true rfl) (vs' := [(.ref w_Result_ROWS), (.ref w_Result_ONE), (.ref w_Result_OPTIONAL), (.ref w_Result_PAGE), (.ref w_Result_SLICE), (.ref w_Result_COUNT), (.ref w_Result_INT_COUNT), (.ref w_Result_EXISTS), (.ref w_Result_DELETED_ROWS), .null, .null, .null]) rfl at_61 62 rfl ?_
  intro T318 h318 X318 e318 W318 V318
  have O318 := extW O316 W318 G_b300
  have N318 := Fr.snoc X318 N316 G_b300
  refine gDup X318 H at_62 rfl 63 rfl ?_
  refine gBipush X318 H at_63 (z := 9) rfl 65 rfl ?_
  refine gGetS X318 H hZ hown (hw _ wd22) e318 (S_w_Result_CHANGED_COUNT.ext O318) at_65 68 rfl ?_
  intro T319 X319 e319
  refine gAastore X319 H hZ e319 rfl (stoV V318 Q300 (Ins.self (E_w_Result_CHANGED_COUNT.ext O318))) V318 ⟨by decide, by decide⟩ (i := 9) rfl (Nat.le_of_ble_eq_true rfl) (vs' := [(.ref w_Result_ROWS), (.ref w_Result_ONE), (.ref w_Result_OPTIONAL), (.ref w_Result_PAGE), (.ref w_Result_SLICE), (.ref w_Result_COUNT), (.ref w_Result_INT_COUNT), (.ref w_Result_EXISTS), (.ref w_Result_DELETED_ROWS), (.ref w_Result_CHANGED_COUNT), .null, .null]) rfl at_68 69 rfl ?_
  intro T320 h320 X320 e320 W320 V320
  have O320 := extW O318 W320 G_b300
  have N320 := Fr.snoc X320 N318 G_b300
  refine gDup X320 H at_69 rfl 70 rfl ?_
  refine gBipush X320 H at_70 (z := 10) rfl 72 rfl ?_
  refine gGetS X320 H hZ hown (hw _ wd24) e320 (S_w_Result_CHANGED_INT_COUNT.ext O320) at_72 75 rfl ?_
  intro T321 X321 e321
  refine gAastore X321 H hZ e321 rfl (stoV V320 Q300 (Ins.self (E_w_Result_CHANGED_INT_COUNT.ext O320))) V320 ⟨by decide, by decide⟩ (i := 10) rfl (Nat.le_of_ble_eq_true rfl) (vs' := [(.ref w_Result_ROWS), (.ref w_Result_ONE), (.ref w_Result_OPTIONAL), (.ref w_Result_PAGE), (.ref w_Result_SLICE), (.ref w_Result_COUNT), (.ref w_Result_INT_COUNT), (.ref w_Result_EXISTS), (.ref w_Result_DELETED_ROWS), (.ref w_Result_CHANGED_COUNT), (.ref w_Result_CHANGED_INT_COUNT), .null]) rfl at_75 76 rfl ?_
  intro T322 h322 X322 e322 W322 V322
  have O322 := extW O320 W322 G_b300
  have N322 := Fr.snoc X322 N320 G_b300
  refine gDup X322 H at_76 rfl 77 rfl ?_
  refine gBipush X322 H at_77 (z := 11) rfl 79 rfl ?_
  refine gGetS X322 H hZ hown (hw _ wd26) e322 (S_w_Result_CHANGED.ext O322) at_79 82 rfl ?_
  intro T323 X323 e323
  refine gAastore X323 H hZ e323 rfl (stoV V322 Q300 (Ins.self (E_w_Result_CHANGED.ext O322))) V322 ⟨by decide, by decide⟩ (i := 11) rfl (Nat.le_of_ble_eq_true rfl) (vs' := [(.ref w_Result_ROWS), (.ref w_Result_ONE), (.ref w_Result_OPTIONAL), (.ref w_Result_PAGE), (.ref w_Result_SLICE), (.ref w_Result_COUNT), (.ref w_Result_INT_COUNT), (.ref w_Result_EXISTS), (.ref w_Result_DELETED_ROWS), (.ref w_Result_CHANGED_COUNT), (.ref w_Result_CHANGED_INT_COUNT), (.ref w_Result_CHANGED)]) rfl at_82 83 rfl ?_
  intro T324 h324 X324 e324 W324 V324
  have O324 := extW O322 W324 G_b300
  have N324 := Fr.snoc X324 N322 G_b300
  refine gAstoreN X324 H at_83 rfl (Ls' := #[vI p0, vR b300, .unset, .unset, .unset]) rfl 84 rfl ?_
  refine gIloadN X324 H at_84 rfl 85 rfl ?_
  refine gLdc X324 H hZ hown (hw _ wd28) at_85 87 rfl ?_
  refine g_iand X324 H at_87 (z := (p0 &&& (2147483647 : Int32))) rfl 88 rfl ?_
  refine gBipush X324 H at_88 (z := 12) rfl 90 rfl ?_
  refine g_irem X324 H at_90 (by decide) (z := 10) ha0 91 rfl ?_
  refine gIstoreN X324 H at_91 (Ls' := #[vI p0, vR b300, vI 10, .unset, .unset]) rfl 92 rfl ?_
  refine gAloadN X324 H at_92 rfl rfl 93 rfl ?_
  refine gIloadN X324 H at_93 rfl 94 rfl ?_
  refine gAaload X324 H hZ e324 rfl V324 ⟨by decide, by decide⟩ (v := (.ref w_Result_CHANGED_INT_COUNT)) rfl at_94 95 rfl ?_
  refine gAstoreN X324 H at_95 rfl (Ls' := #[vI p0, vR b300, vI 10, vR w_Result_CHANGED_INT_COUNT, .unset]) rfl 96 rfl ?_
  refine gIloadN X324 H at_96 rfl 97 rfl ?_
  refine gIconst X324 H at_97 (z := 1) rfl 98 rfl ?_
  refine gCmpN X324 H at_98 (by decide) 101 rfl ?_
  refine gIloadN X324 H at_101 rfl 102 rfl ?_
  refine gIconst X324 H at_102 (z := 2) rfl 103 rfl ?_
  refine gCmpY X324 H at_103 (by decide) (by decide) 110 rfl ?_
  refine gIconst X324 H at_110 (z := 0) rfl 111 rfl ?_
  refine gIstore X324 H at_111 (Ls' := #[vI p0, vR b300, vI 10, vR w_Result_CHANGED_INT_COUNT, vI 0]) rfl 113 rfl ?_
  refine gAloadN X324 H at_113 rfl rfl 114 rfl ?_
  refine gVirt X324 H hZ hown (hw _ wd29) (hw _ wd30) (hw _ wd32) (hw _ wd31) (by decide) (E_w_Result_CHANGED_INT_COUNT.ext O324) (hw _ wd33) (hw _ wd3) (rm328_1 B _ O324) e324 hml rfl pd0 rfl (W := 0) (argsL := []) (rest := []) rfl rfl at_114 117 rfl ?_
  intro v329 T329 L329 hq329 X329
  obtain ⟨rfl, e329, rfl⟩ := hq329
  have N329 := Fr.app N324 (Fr.nil _)
  show Go _ _ _ _ (State.setTop _ (mkF _ 117 _ [(.int 0)]))
  refine gIload X329 H at_117 rfl 119 rfl ?_
  refine gCmpN X329 H at_119 (by decide) 122 rfl ?_
  refine gIconst X329 H at_122 (z := 1) rfl 123 rfl ?_
  refine gGoto X329 H at_123 (by decide) 127 rfl ?_
  exact gRetN X329 H hlk hret (t := .boolean) (by simp) at_127 e329 ⟨rfl, N329⟩
theorem rm358_1 (B : Bg Z a0 w_Result_ROWS w_Result_ONE w_Result_OPTIONAL w_Result_PAGE w_Result_SLICE w_Result_COUNT w_Result_INT_COUNT w_Result_EXISTS w_Result_DELETED_ROWS w_Result_CHANGED_COUNT w_Result_CHANGED_INT_COUNT w_Result_CHANGED) (h : Heap) (O : Ext Z.heap h) :
    Con l Z yM1 prog_55_method_6_code 1 (some .boolean) ({ frames := 0, cells := 0, slots := 0, locals := 0 } : Room) #[(.ref w_Result_CHANGED)] h (fun v h' L => v = some (.int 0) ∧ h' = h ∧ L = []) := by
  have hw := B.1
  obtain ⟨S_w_Result_ROWS, E_w_Result_ROWS, S_w_Result_ONE, E_w_Result_ONE, S_w_Result_OPTIONAL, E_w_Result_OPTIONAL, S_w_Result_PAGE, E_w_Result_PAGE, S_w_Result_SLICE, E_w_Result_SLICE, S_w_Result_COUNT, E_w_Result_COUNT, S_w_Result_INT_COUNT, E_w_Result_INT_COUNT, S_w_Result_EXISTS, E_w_Result_EXISTS, S_w_Result_DELETED_ROWS, E_w_Result_DELETED_ROWS, S_w_Result_CHANGED_COUNT, E_w_Result_CHANGED_COUNT, S_w_Result_CHANGED_INT_COUNT, E_w_Result_CHANGED_INT_COUNT, S_w_Result_CHANGED, E_w_Result_CHANGED, F_w_Result_ROWS_ordinal, F_w_Result_ONE_ordinal, F_w_Result_OPTIONAL_ordinal, F_w_Result_PAGE_ordinal, F_w_Result_EXISTS_ordinal, F_w_Result_CHANGED_ordinal, F_w_Result_SLICE_ordinal, F_w_Result_DELETED_ROWS_ordinal, F_w_Result_CHANGED_INT_COUNT_ordinal, F_w_Result_CHANGED_COUNT_ordinal, F_w_Result_INT_COUNT_ordinal, F_w_Result_COUNT_ordinal⟩ := B.2
  refine Con.of (plainFor_of_name pn1) (Ls := #[vR w_Result_CHANGED]) (fun m => by first | rfl | (simp [entryFrame, mkF, argsToLocals, Value.category]; done)) ?_
  intro p e s m below meth c T0 X0 H hml hZ hown hnm hret hlk e0
  refine gAloadN X0 H d1_0 rfl rfl 1 rfl ?_
  refine gGetS X0 H hZ hown (hw _ wd34) e0 (S_w_Result_ONE.ext O) d1_1 4 rfl ?_
  intro T356 X356 e356
  refine gAcmp X356 H d1_4 rfl rfl (same := false) (decide_eq_false fun q => (Fld.ne F_w_Result_CHANGED_ordinal F_w_Result_ONE_ordinal (by decide)) (Value.ref.inj q)) (by decide) 7 (by decide) ?_
  refine gAloadN X356 H d1_7 rfl rfl 8 rfl ?_
  refine gGetS X356 H hZ hown (hw _ wd35) e356 (S_w_Result_OPTIONAL.ext O) d1_8 11 rfl ?_
  intro T357 X357 e357
  refine gAcmp X357 H d1_11 rfl rfl (same := false) (decide_eq_false fun q => (Fld.ne F_w_Result_CHANGED_ordinal F_w_Result_OPTIONAL_ordinal (by decide)) (Value.ref.inj q)) (by decide) 18 (by decide) ?_
  refine gIconst X357 H d1_18 (z := 0) rfl 19 rfl ?_
  exact gRetN X357 H hlk hret (t := .boolean) (by simp) d1_19 e357 ⟨rfl, rfl, rfl⟩
theorem lawAll_11 (B : Bg Z a0 w_Result_ROWS w_Result_ONE w_Result_OPTIONAL w_Result_PAGE w_Result_SLICE w_Result_COUNT w_Result_INT_COUNT w_Result_EXISTS w_Result_DELETED_ROWS w_Result_CHANGED_COUNT w_Result_CHANGED_INT_COUNT w_Result_CHANGED) (p0 : Int32) (ha0 : ((p0 &&& (2147483647 : Int32)) % (12 : Int32)) = (11 : Int32)) :
    Con l Z x code maxLocals ret room_1 #[(.int p0)] Z.heap (fun v h' L => v = some (.int 1) ∧ Fr Z.heap.size L) := by
  have hw := B.1
  obtain ⟨S_w_Result_ROWS, E_w_Result_ROWS, S_w_Result_ONE, E_w_Result_ONE, S_w_Result_OPTIONAL, E_w_Result_OPTIONAL, S_w_Result_PAGE, E_w_Result_PAGE, S_w_Result_SLICE, E_w_Result_SLICE, S_w_Result_COUNT, E_w_Result_COUNT, S_w_Result_INT_COUNT, E_w_Result_INT_COUNT, S_w_Result_EXISTS, E_w_Result_EXISTS, S_w_Result_DELETED_ROWS, E_w_Result_DELETED_ROWS, S_w_Result_CHANGED_COUNT, E_w_Result_CHANGED_COUNT, S_w_Result_CHANGED_INT_COUNT, E_w_Result_CHANGED_INT_COUNT, S_w_Result_CHANGED, E_w_Result_CHANGED, F_w_Result_ROWS_ordinal, F_w_Result_ONE_ordinal, F_w_Result_OPTIONAL_ordinal, F_w_Result_PAGE_ordinal, F_w_Result_EXISTS_ordinal, F_w_Result_CHANGED_ordinal, F_w_Result_SLICE_ordinal, F_w_Result_DELETED_ROWS_ordinal, F_w_Result_CHANGED_INT_COUNT_ordinal, F_w_Result_CHANGED_COUNT_ordinal, F_w_Result_INT_COUNT_ordinal, F_w_Result_COUNT_ordinal⟩ := B.2
  refine Con.of (plainFor_of_name pn0) (Ls := #[vI p0, .unset, .unset, .unset, .unset]) (fun m => by first | rfl | (simp [entryFrame, mkF, argsToLocals, Value.category, maxLocals]; done)) ?_
  intro p e s m below meth c T0 X0 H hml hZ hown hnm hret hlk e0
  have O0 := extR Z.heap
  have M0 := Nat.le_refl Z.heap.size
  have N0 := Fr.nil Z.heap.size
  refine gBipush X0 H at_0 (z := 12) rfl 2 rfl ?_
  refine gNewR X0 H hZ hown (hw _ wd0) (hw _ wd1) e0 (by decide) (cap := 12) (by decide) (by decide) (vs := [.null, .null, .null, .null, .null, .null, .null, .null, .null, .null, .null, .null]) rfl (by decide) (by decide) at_2 5 rfl ?_
  intro T330 h330 b330 k330 X330 e330 z330 E330 V330 Q330
  have G_b330 := Nat.le_trans O0.1 (Nat.le_of_eq z330)
  have sz_b330 := Nat.le_trans M0 (Nat.le_of_eq z330)
  have O330 := extT O0 E330
  refine gDup X330 H at_5 rfl 6 rfl ?_
  refine gIconst X330 H at_6 (z := 0) rfl 7 rfl ?_
  refine gGetS X330 H hZ hown (hw _ wd2) e330 (S_w_Result_ROWS.ext O330) at_7 10 rfl ?_
  intro T331 X331 e331
  refine gAastore X331 H hZ e331 rfl (stoV V330 Q330 (Ins.self (E_w_Result_ROWS.ext O330))) V330 ⟨by decide, by decide⟩ (i := 0) rfl (Nat.le_of_ble_eq_true rfl) (vs' := [(.ref w_Result_ROWS), .null, .null, .null, .null, .null, .null, .null, .null, .null, .null, .null]) rfl at_10 11 rfl ?_
  intro T332 h332 X332 e332 W332 V332
  have O332 := extW O330 W332 G_b330
  have N332 := Fr.snoc X332 N0 G_b330
  refine gDup X332 H at_11 rfl 12 rfl ?_
  refine gIconst X332 H at_12 (z := 1) rfl 13 rfl ?_
  refine gGetS X332 H hZ hown (hw _ wd6) e332 (S_w_Result_ONE.ext O332) at_13 16 rfl ?_
  intro T333 X333 e333
  refine gAastore X333 H hZ e333 rfl (stoV V332 Q330 (Ins.self (E_w_Result_ONE.ext O332))) V332 ⟨by decide, by decide⟩ (i := 1) rfl (Nat.le_of_ble_eq_true rfl) (vs' := [(.ref w_Result_ROWS), (.ref w_Result_ONE), .null, .null, .null, .null, .null, .null, .null, .null, .null, .null]) rfl at_16 17 rfl ?_
  intro T334 h334 X334 e334 W334 V334
  have O334 := extW O332 W334 G_b330
  have N334 := Fr.snoc X334 N332 G_b330
  refine gDup X334 H at_17 rfl 18 rfl ?_
  refine gIconst X334 H at_18 (z := 2) rfl 19 rfl ?_
  refine gGetS X334 H hZ hown (hw _ wd8) e334 (S_w_Result_OPTIONAL.ext O334) at_19 22 rfl ?_
  intro T335 X335 e335
  refine gAastore X335 H hZ e335 rfl (stoV V334 Q330 (Ins.self (E_w_Result_OPTIONAL.ext O334))) V334 ⟨by decide, by decide⟩ (i := 2) rfl (Nat.le_of_ble_eq_true rfl) (vs' := [(.ref w_Result_ROWS), (.ref w_Result_ONE), (.ref w_Result_OPTIONAL), .null, .null, .null, .null, .null, .null, .null, .null, .null]) rfl at_22 23 rfl ?_
  intro T336 h336 X336 e336 W336 V336
  have O336 := extW O334 W336 G_b330
  have N336 := Fr.snoc X336 N334 G_b330
  refine gDup X336 H at_23 rfl 24 rfl ?_
  refine gIconst X336 H at_24 (z := 3) rfl 25 rfl ?_
  refine gGetS X336 H hZ hown (hw _ wd10) e336 (S_w_Result_PAGE.ext O336) at_25 28 rfl ?_
  intro T337 X337 e337
  refine gAastore X337 H hZ e337 rfl (stoV V336 Q330 (Ins.self (E_w_Result_PAGE.ext O336))) V336 ⟨by decide, by decide⟩ (i := 3) rfl (Nat.le_of_ble_eq_true rfl) (vs' := [(.ref w_Result_ROWS), (.ref w_Result_ONE), (.ref w_Result_OPTIONAL), (.ref w_Result_PAGE), .null, .null, .null, .null, .null, .null, .null, .null]) rfl at_28 29 rfl ?_
  intro T338 h338 X338 e338 W338 V338
  have O338 := extW O336 W338 G_b330
  have N338 := Fr.snoc X338 N336 G_b330
  refine gDup X338 H at_29 rfl 30 rfl ?_
  refine gIconst X338 H at_30 (z := 4) rfl 31 rfl ?_
  refine gGetS X338 H hZ hown (hw _ wd12) e338 (S_w_Result_SLICE.ext O338) at_31 34 rfl ?_
  intro T339 X339 e339
  refine gAastore X339 H hZ e339 rfl (stoV V338 Q330 (Ins.self (E_w_Result_SLICE.ext O338))) V338 ⟨by decide, by decide⟩ (i := 4) rfl (Nat.le_of_ble_eq_true rfl) (vs' := [(.ref w_Result_ROWS), (.ref w_Result_ONE), (.ref w_Result_OPTIONAL), (.ref w_Result_PAGE), (.ref w_Result_SLICE), .null, .null, .null, .null, .null, .null, .null]) rfl at_34 35 rfl ?_
  intro T340 h340 X340 e340 W340 V340
  have O340 := extW O338 W340 G_b330
  have N340 := Fr.snoc X340 N338 G_b330
  refine gDup X340 H at_35 rfl 36 rfl ?_
  refine gIconst X340 H at_36 (z := 5) rfl 37 rfl ?_
  refine gGetS X340 H hZ hown (hw _ wd14) e340 (S_w_Result_COUNT.ext O340) at_37 40 rfl ?_
  intro T341 X341 e341
  refine gAastore X341 H hZ e341 rfl (stoV V340 Q330 (Ins.self (E_w_Result_COUNT.ext O340))) V340 ⟨by decide, by decide⟩ (i := 5) rfl (Nat.le_of_ble_eq_true rfl) (vs' := [(.ref w_Result_ROWS), (.ref w_Result_ONE), (.ref w_Result_OPTIONAL), (.ref w_Result_PAGE), (.ref w_Result_SLICE), (.ref w_Result_COUNT), .null, .null, .null, .null, .null, .null]) rfl at_40 41 rfl ?_
  intro T342 h342 X342 e342 W342 V342
  have O342 := extW O340 W342 G_b330
  have N342 := Fr.snoc X342 N340 G_b330
  refine gDup X342 H at_41 rfl 42 rfl ?_
  refine gBipush X342 H at_42 (z := 6) rfl 44 rfl ?_
  refine gGetS X342 H hZ hown (hw _ wd16) e342 (S_w_Result_INT_COUNT.ext O342) at_44 47 rfl ?_
  intro T343 X343 e343
  refine gAastore X343 H hZ e343 rfl (stoV V342 Q330 (Ins.self (E_w_Result_INT_COUNT.ext O342))) V342 ⟨by decide, by decide⟩ (i := 6) rfl (Nat.le_of_ble_eq_true rfl) (vs' := [(.ref w_Result_ROWS), (.ref w_Result_ONE), (.ref w_Result_OPTIONAL), (.ref w_Result_PAGE), (.ref w_Result_SLICE), (.ref w_Result_COUNT), (.ref w_Result_INT_COUNT), .null, .null, .null, .null, .null]) rfl at_47 48 rfl ?_
  intro T344 h344 X344 e344 W344 V344
  have O344 := extW O342 W344 G_b330
  have N344 := Fr.snoc X344 N342 G_b330
  refine gDup X344 H at_48 rfl 49 rfl ?_
  refine gBipush X344 H at_49 (z := 7) rfl 51 rfl ?_
  refine gGetS X344 H hZ hown (hw _ wd18) e344 (S_w_Result_EXISTS.ext O344) at_51 54 rfl ?_
  intro T345 X345 e345
  refine gAastore X345 H hZ e345 rfl (stoV V344 Q330 (Ins.self (E_w_Result_EXISTS.ext O344))) V344 ⟨by decide, by decide⟩ (i := 7) rfl (Nat.le_of_ble_eq_true rfl) (vs' := [(.ref w_Result_ROWS), (.ref w_Result_ONE), (.ref w_Result_OPTIONAL), (.ref w_Result_PAGE), (.ref w_Result_SLICE), (.ref w_Result_COUNT), (.ref w_Result_INT_COUNT), (.ref w_Result_EXISTS), .null, .null, .null, .null]) rfl at_54 55 rfl ?_
  intro T346 h346 X346 e346 W346 V346
  have O346 := extW O344 W346 G_b330
  have N346 := Fr.snoc X346 N344 G_b330
  refine gDup X346 H at_55 rfl 56 rfl ?_
  refine gBipush X346 H at_56 (z := 8) rfl 58 rfl ?_
  refine gGetS X346 H hZ hown (hw _ wd20) e346 (S_w_Result_DELETED_ROWS.ext O346) at_58 61 rfl ?_
  intro T347 X347 e347
  refine gAastore X347 H hZ e347 rfl (stoV V346 Q330 (Ins.self (E_w_Result_DELETED_ROWS.ext O346))) V346 ⟨by decide, by decide⟩ (i := 8) rfl (Nat.le_of_ble_eq_true rfl) (vs' := [(.ref w_Result_ROWS), (.ref w_Result_ONE), (.ref w_Result_OPTIONAL), (.ref w_Result_PAGE), (.ref w_Result_SLICE), (.ref w_Result_COUNT), (.ref w_Result_INT_COUNT), (.ref w_Result_EXISTS), (.ref w_Result_DELETED_ROWS), .null, .null, .null]) rfl at_61 62 rfl ?_
  intro T348 h348 X348 e348 W348 V348
  have O348 := extW O346 W348 G_b330
  have N348 := Fr.snoc X348 N346 G_b330
  refine gDup X348 H at_62 rfl 63 rfl ?_
  refine gBipush X348 H at_63 (z := 9) rfl 65 rfl ?_
  refine gGetS X348 H hZ hown (hw _ wd22) e348 (S_w_Result_CHANGED_COUNT.ext O348) at_65 68 rfl ?_
  intro T349 X349 e349
  refine gAastore X349 H hZ e349 rfl (stoV V348 Q330 (Ins.self (E_w_Result_CHANGED_COUNT.ext O348))) V348 ⟨by decide, by decide⟩ (i := 9) rfl (Nat.le_of_ble_eq_true rfl) (vs' := [(.ref w_Result_ROWS), (.ref w_Result_ONE), (.ref w_Result_OPTIONAL), (.ref w_Result_PAGE), (.ref w_Result_SLICE), (.ref w_Result_COUNT), (.ref w_Result_INT_COUNT), (.ref w_Result_EXISTS), (.ref w_Result_DELETED_ROWS), (.ref w_Result_CHANGED_COUNT), .null, .null]) rfl at_68 69 rfl ?_
  intro T350 h350 X350 e350 W350 V350
  have O350 := extW O348 W350 G_b330
  have N350 := Fr.snoc X350 N348 G_b330
  refine gDup X350 H at_69 rfl 70 rfl ?_
  refine gBipush X350 H at_70 (z := 10) rfl 72 rfl ?_
  refine gGetS X350 H hZ hown (hw _ wd24) e350 (S_w_Result_CHANGED_INT_COUNT.ext O350) at_72 75 rfl ?_
  intro T351 X351 e351
  refine gAastore X351 H hZ e351 rfl (stoV V350 Q330 (Ins.self (E_w_Result_CHANGED_INT_COUNT.ext O350))) V350 ⟨by decide, by decide⟩ (i := 10) rfl (Nat.le_of_ble_eq_true rfl) (vs' := [(.ref w_Result_ROWS), (.ref w_Result_ONE), (.ref w_Result_OPTIONAL), (.ref w_Result_PAGE), (.ref w_Result_SLICE), (.ref w_Result_COUNT), (.ref w_Result_INT_COUNT), (.ref w_Result_EXISTS), (.ref w_Result_DELETED_ROWS), (.ref w_Result_CHANGED_COUNT), (.ref w_Result_CHANGED_INT_COUNT), .null]) rfl at_75 76 rfl ?_
  intro T352 h352 X352 e352 W352 V352
  have O352 := extW O350 W352 G_b330
  have N352 := Fr.snoc X352 N350 G_b330
  refine gDup X352 H at_76 rfl 77 rfl ?_
  refine gBipush X352 H at_77 (z := 11) rfl 79 rfl ?_
  refine gGetS X352 H hZ hown (hw _ wd26) e352 (S_w_Result_CHANGED.ext O352) at_79 82 rfl ?_
  intro T353 X353 e353
  refine gAastore X353 H hZ e353 rfl (stoV V352 Q330 (Ins.self (E_w_Result_CHANGED.ext O352))) V352 ⟨by decide, by decide⟩ (i := 11) rfl (Nat.le_of_ble_eq_true rfl) (vs' := [(.ref w_Result_ROWS), (.ref w_Result_ONE), (.ref w_Result_OPTIONAL), (.ref w_Result_PAGE), (.ref w_Result_SLICE), (.ref w_Result_COUNT), (.ref w_Result_INT_COUNT), (.ref w_Result_EXISTS), (.ref w_Result_DELETED_ROWS), (.ref w_Result_CHANGED_COUNT), (.ref w_Result_CHANGED_INT_COUNT), (.ref w_Result_CHANGED)]) rfl at_82 83 rfl ?_
  intro T354 h354 X354 e354 W354 V354
  have O354 := extW O352 W354 G_b330
  have N354 := Fr.snoc X354 N352 G_b330
  refine gAstoreN X354 H at_83 rfl (Ls' := #[vI p0, vR b330, .unset, .unset, .unset]) rfl 84 rfl ?_
  refine gIloadN X354 H at_84 rfl 85 rfl ?_
  refine gLdc X354 H hZ hown (hw _ wd28) at_85 87 rfl ?_
  refine g_iand X354 H at_87 (z := (p0 &&& (2147483647 : Int32))) rfl 88 rfl ?_
  refine gBipush X354 H at_88 (z := 12) rfl 90 rfl ?_
  refine g_irem X354 H at_90 (by decide) (z := 11) ha0 91 rfl ?_
  refine gIstoreN X354 H at_91 (Ls' := #[vI p0, vR b330, vI 11, .unset, .unset]) rfl 92 rfl ?_
  refine gAloadN X354 H at_92 rfl rfl 93 rfl ?_
  refine gIloadN X354 H at_93 rfl 94 rfl ?_
  refine gAaload X354 H hZ e354 rfl V354 ⟨by decide, by decide⟩ (v := (.ref w_Result_CHANGED)) rfl at_94 95 rfl ?_
  refine gAstoreN X354 H at_95 rfl (Ls' := #[vI p0, vR b330, vI 11, vR w_Result_CHANGED, .unset]) rfl 96 rfl ?_
  refine gIloadN X354 H at_96 rfl 97 rfl ?_
  refine gIconst X354 H at_97 (z := 1) rfl 98 rfl ?_
  refine gCmpN X354 H at_98 (by decide) 101 rfl ?_
  refine gIloadN X354 H at_101 rfl 102 rfl ?_
  refine gIconst X354 H at_102 (z := 2) rfl 103 rfl ?_
  refine gCmpY X354 H at_103 (by decide) (by decide) 110 rfl ?_
  refine gIconst X354 H at_110 (z := 0) rfl 111 rfl ?_
  refine gIstore X354 H at_111 (Ls' := #[vI p0, vR b330, vI 11, vR w_Result_CHANGED, vI 0]) rfl 113 rfl ?_
  refine gAloadN X354 H at_113 rfl rfl 114 rfl ?_
  refine gVirt X354 H hZ hown (hw _ wd29) (hw _ wd30) (hw _ wd32) (hw _ wd31) (by decide) (E_w_Result_CHANGED.ext O354) (hw _ wd33) (hw _ wd3) (rm358_1 B _ O354) e354 hml rfl pd0 rfl (W := 0) (argsL := []) (rest := []) rfl rfl at_114 117 rfl ?_
  intro v359 T359 L359 hq359 X359
  obtain ⟨rfl, e359, rfl⟩ := hq359
  have N359 := Fr.app N354 (Fr.nil _)
  show Go _ _ _ _ (State.setTop _ (mkF _ 117 _ [(.int 0)]))
  refine gIload X359 H at_117 rfl 119 rfl ?_
  refine gCmpN X359 H at_119 (by decide) 122 rfl ?_
  refine gIconst X359 H at_122 (z := 1) rfl 123 rfl ?_
  refine gGoto X359 H at_123 (by decide) 127 rfl ?_
  exact gRetN X359 H hlk hret (t := .boolean) (by simp) at_127 e359 ⟨rfl, N359⟩
theorem lawAll (B : Bg Z a0 w_Result_ROWS w_Result_ONE w_Result_OPTIONAL w_Result_PAGE w_Result_SLICE w_Result_COUNT w_Result_INT_COUNT w_Result_EXISTS w_Result_DELETED_ROWS w_Result_CHANGED_COUNT w_Result_CHANGED_INT_COUNT w_Result_CHANGED) (p0 : Int32) :
    Con l Z x code maxLocals ret room_1 #[(.int p0)] Z.heap (fun v h' L => v = some (.int 1) ∧ Fr Z.heap.size L) := by
  rcases mod_cases p0 with ha0 | ha0 | ha0 | ha0 | ha0 | ha0 | ha0 | ha0 | ha0 | ha0 | ha0 | ha0
  · exact lawAll_0 B p0 ha0
  · exact lawAll_1 B p0 ha0
  · exact lawAll_2 B p0 ha0
  · exact lawAll_3 B p0 ha0
  · exact lawAll_4 B p0 ha0
  · exact lawAll_5 B p0 ha0
  · exact lawAll_6 B p0 ha0
  · exact lawAll_7 B p0 ha0
  · exact lawAll_8 B p0 ha0
  · exact lawAll_9 B p0 ha0
  · exact lawAll_10 B p0 ha0
  · exact lawAll_11 B p0 ha0
end Walk
set_option maxHeartbeats 4000000 in
theorem comes_1 {Post : Tables → Env → Array Value → State → Outcome → State → Prop} (hpost : ∀ tb e args s v u, (limb_1_1.after args s (.returned v) u = true ∧ limb_1_2.after args s (.returned v) u = true ∧ True) → FrameEnd s (.returned v) u (Jvm.fieldLocs frame_1_writes args s ++ Jvm.arrayLocs frame_1_arrays args s ++ Jvm.staticLocs frame_1_statics s) 16 128 → Post tb e args s (.returned v) u) :
    ArmFor flags0 classFile x code maxLocals ret World_1 tables_1 room_1 Calls_1 rest_1 Pre_1 Post := by
  intro l hfl _ _ p e ha hc hk s m args below hf hA hF happ hP
  obtain ⟨hcalls, hrest, hpre⟩ := hP
  obtain ⟨-, -, -, hnamed, -, -, -, hat⟩ := (Spec.applies_iff hf).mp happ
  obtain ⟨hg, hn⟩ := and_e (Cond.before_iff.mp (show (Jvm.Cond.and given_1 narrow_1).before args s = true from hpre))
  obtain ⟨n1, n2⟩ := and_e hg
  obtain ⟨w0, rfl⟩ : ∃ w0 : Value, args = #[w0] := by
    have hs : args.size = 1 := by simpa [Cond.value, given_1] using n1
    obtain ⟨L⟩ := args
    match L, hs with
    | [w0], _ => exact ⟨w0, rfl⟩
  have hfit : Fit s := fun {y c} hc i hi => by
    obtain ⟨ha, rfl⟩ := Array.getElem?_eq_some_iff.mp hc
    have q := List.all_eq_true.mp ((Array.all_eq_true_iff_forall_mem.mp hF) _ (Array.getElem_mem ha)) i (List.mem_range.mpr hi)
    simpa [Array.getElem?_eq_getElem hi] using q
  have hw := fun d (hd : d ∈ tables_1) => atoms_spec (ws := Jvm.Cond.code x code maxLocals ret :: tables_1) hat d (List.mem_cons_of_mem _ hd)
  obtain ⟨i0, ei0⟩ := is_v n2
  obtain rfl : w0 = (.int i0) := Option.some.inj ei0
  obtain ⟨n3, n4⟩ := and_e hn
  obtain ⟨n5, n6⟩ := and_e n4
  obtain ⟨n7, n8⟩ := and_e n6
  obtain ⟨n9, n10⟩ := and_e n8
  obtain ⟨n11, n12⟩ := and_e n10
  obtain ⟨n13, n14⟩ := and_e n12
  obtain ⟨n15, n16⟩ := and_e n14
  obtain ⟨n17, n18⟩ := and_e n16
  obtain ⟨n19, n20⟩ := and_e n18
  obtain ⟨n21, n22⟩ := and_e n20
  obtain ⟨n23, n24⟩ := and_e n22
  obtain ⟨n25, n26⟩ := and_e n24
  obtain ⟨n27, n28⟩ := and_e n26
  obtain ⟨n29, n30⟩ := and_e n28
  obtain ⟨n31, n32⟩ := and_e n30
  obtain ⟨n33, n34⟩ := and_e n32
  obtain ⟨n35, n36⟩ := and_e n34
  obtain ⟨n37, n38⟩ := and_e n36
  obtain ⟨n39, n40⟩ := and_e n38
  obtain ⟨n41, n42⟩ := and_e n40
  obtain ⟨n43, n44⟩ := and_e n42
  obtain ⟨n45, n46⟩ := and_e n44
  obtain ⟨n47, n48⟩ := and_e n46
  obtain ⟨w_Result_ROWS, ev_w_Result_ROWS⟩ := exa_v n3
  obtain ⟨w_Result_ONE, ev_w_Result_ONE⟩ := exa_v n5
  obtain ⟨w_Result_OPTIONAL, ev_w_Result_OPTIONAL⟩ := exa_v n7
  obtain ⟨w_Result_PAGE, ev_w_Result_PAGE⟩ := exa_v n9
  obtain ⟨w_Result_SLICE, ev_w_Result_SLICE⟩ := exa_v n11
  obtain ⟨w_Result_COUNT, ev_w_Result_COUNT⟩ := exa_v n13
  obtain ⟨w_Result_INT_COUNT, ev_w_Result_INT_COUNT⟩ := exa_v n15
  obtain ⟨w_Result_EXISTS, ev_w_Result_EXISTS⟩ := exa_v n17
  obtain ⟨w_Result_DELETED_ROWS, ev_w_Result_DELETED_ROWS⟩ := exa_v n19
  obtain ⟨w_Result_CHANGED_COUNT, ev_w_Result_CHANGED_COUNT⟩ := exa_v n21
  obtain ⟨w_Result_CHANGED_INT_COUNT, ev_w_Result_CHANGED_INT_COUNT⟩ := exa_v n23
  obtain ⟨w_Result_CHANGED, ev_w_Result_CHANGED⟩ := exa_v n25
  have W : World s w_Result_ROWS w_Result_ONE w_Result_OPTIONAL w_Result_PAGE w_Result_SLICE w_Result_COUNT w_Result_INT_COUNT w_Result_EXISTS w_Result_DELETED_ROWS w_Result_CHANGED_COUNT w_Result_CHANGED_INT_COUNT w_Result_CHANGED := ⟨Sta.start ev_w_Result_ROWS (Or.inr ⟨(hw _ wd3), (hw _ wd4)⟩), Exa.start ev_w_Result_ROWS n3, Sta.start ev_w_Result_ONE (Or.inr ⟨(hw _ wd3), (hw _ wd7)⟩), Exa.start ev_w_Result_ONE n5, Sta.start ev_w_Result_OPTIONAL (Or.inr ⟨(hw _ wd3), (hw _ wd9)⟩), Exa.start ev_w_Result_OPTIONAL n7, Sta.start ev_w_Result_PAGE (Or.inr ⟨(hw _ wd3), (hw _ wd11)⟩), Exa.start ev_w_Result_PAGE n9, Sta.start ev_w_Result_SLICE (Or.inr ⟨(hw _ wd3), (hw _ wd13)⟩), Exa.start ev_w_Result_SLICE n11, Sta.start ev_w_Result_COUNT (Or.inr ⟨(hw _ wd3), (hw _ wd15)⟩), Exa.start ev_w_Result_COUNT n13, Sta.start ev_w_Result_INT_COUNT (Or.inr ⟨(hw _ wd3), (hw _ wd17)⟩), Exa.start ev_w_Result_INT_COUNT n15, Sta.start ev_w_Result_EXISTS (Or.inr ⟨(hw _ wd3), (hw _ wd19)⟩), Exa.start ev_w_Result_EXISTS n17, Sta.start ev_w_Result_DELETED_ROWS (Or.inr ⟨(hw _ wd3), (hw _ wd21)⟩), Exa.start ev_w_Result_DELETED_ROWS n19, Sta.start ev_w_Result_CHANGED_COUNT (Or.inr ⟨(hw _ wd3), (hw _ wd23)⟩), Exa.start ev_w_Result_CHANGED_COUNT n21, Sta.start ev_w_Result_CHANGED_INT_COUNT (Or.inr ⟨(hw _ wd3), (hw _ wd25)⟩), Exa.start ev_w_Result_CHANGED_INT_COUNT n23, Sta.start ev_w_Result_CHANGED (Or.inr ⟨(hw _ wd3), (hw _ wd27)⟩), Exa.start ev_w_Result_CHANGED n25, eqI ev_w_Result_ROWS n27, eqI ev_w_Result_ONE n29, eqI ev_w_Result_OPTIONAL n31, eqI ev_w_Result_PAGE n33, eqI ev_w_Result_EXISTS n35, eqI ev_w_Result_CHANGED n37, eqI ev_w_Result_SLICE n39, eqI ev_w_Result_DELETED_ROWS n41, eqI ev_w_Result_CHANGED_INT_COUNT n43, eqI ev_w_Result_CHANGED_COUNT n45, eqI ev_w_Result_INT_COUNT n47, eqI ev_w_Result_COUNT n48⟩
  have B : Bg s _ w_Result_ROWS w_Result_ONE w_Result_OPTIONAL w_Result_PAGE w_Result_SLICE w_Result_COUNT w_Result_INT_COUNT w_Result_EXISTS w_Result_DELETED_ROWS w_Result_CHANGED_COUNT w_Result_CHANGED_INT_COUNT w_Result_CHANGED := ⟨hw, W⟩
  obtain ⟨n, o, h1, h2, h3, _, L, rfl, ⟨rfl, N⟩, hq⟩ := (lawAll (l := l) B i0) tables_1 p e ha hc hk s m _ below hf ((Spec.applies_iff_loose hf).mp happ).1 ⟨rfl, State.Warmed39.refl s, rfl⟩ trivial
  refine ⟨n, _, h1, h2, h3, hpost _ _ _ _ _ _ ⟨Cond.after_iff.mpr rfl, Cond.after_iff.mpr (eq_i res_at (Term.int_eval (1)) rfl), trivial⟩ ⟨hq.1, hq.2.1, (hq.2.2.sift fun y hy => Or.inr (N y hy)).mono (by decide) (by decide)⟩⟩
theorem main_1_1 : Claimed_1_1 := comes_1 fun _ _ _ _ _ _ h hF => ⟨h.1, hF⟩
theorem main_1_2 : Claimed_1_2 := comes_1 fun _ _ _ _ _ _ h hF => ⟨h.2.1, hF⟩
end Jvm.Pilot.@@N@@
namespace Jvm.Pilot.@@N@@
open Jvm Jvm.ClassFile Sem Op Lib Jvm.Free Jvm.Stand Jvm.Pilot.@@N@@.Jvm.D
/-! MADE BY PROGRAM (witnessworld.py) out of the Statement's table words and the real class files: 13 classes; the members and pool entries that the words name. The judged class is class 1, her method 1. -/
namespace start1
open Jvm.ClassFile
def u (s : String) : CpInfo := .utf8 (stringToUtf16 s)
/-- a pool by its gaps: so many unusable entries, then the entry; so many at the end -/
def gap : Nat → List CpInfo → List CpInfo
  | 0, r => r
  | n + 1, r => .unusable :: gap n r
def poolList (es : List (Nat × CpInfo)) (last : Nat) : List CpInfo := es.foldr (fun e r => gap e.1 (e.2 :: r)) (gap last [])
def pool (es : List (Nat × CpInfo)) (last : Nat) : Array CpInfo := ⟨poolList es last⟩
def fileOf (pool : Array CpInfo) (this : Nat) (attrs : Array Attribute := #[]) (ms : Array MethodInfo := #[]) (fl : Nat := 33) (sup : Nat := 0) (ifs : Array Nat := #[]) (fds : Array FieldInfo := #[]) : ClassFile where
  minorVersion := 0
  majorVersion := 65
  constantPool := pool
  accessFlags := fl
  thisClass := this
  superClass := sup
  interfaces := ifs
  fields := fds
  methods := ms
  attributes := attrs
def plain (name : String) (sup : Option ClassId) : Class where
  name := name
  kind := .ordinary
  loader := none
  accessFlags := 33
  super := sup
  interfaces := #[]
  cf := none
  fields := #[]
  methods := #[]
  instanceTypes := #[]
  staticTypes := #[]
  resolved := #[]
  callSites := []
  init := .initialized
  statics := none
  mirror := none

def pool0 : Array CpInfo := pool [(5, u "<init>"), (0, u "()V"), (1, .class_ 10), (1, u "java/lang/Object")] 113

def k0m0 : Method := { name := "<init>", desc := "()V", sig := { parameters := [], returnType := none }, accessFlags := 1, code := none }
/-- java/lang/Object -/
def k0 : Class := { plain "java/lang/Object" none with
  accessFlags := 33
  interfaces := #[]
  cf := some (fileOf pool0 8 #[] #[{ accessFlags := 1, nameIndex := 5, descriptorIndex := 6, attributes := #[] }] 33 0 #[] #[])
  fields := #[]
  methods := #[k0m0]
  instanceTypes := #[]
  staticTypes := #[]
  resolved := Array.replicate 124 none
  statics := none }

def pool1 : Array CpInfo := pool [(2, .class_ 4), (1, u "java/lang/Object"), (0, u "<init>"), (0, u "()V"), (0, .class_ 8), (0, u "com/example/unfussy_repo/unfussyrepo/query/Result"), (0, .fieldref 7 10), (0, .nameAndType 11 12), (0, u "ROWS"), (0, u "Lcom/example/unfussy_repo/unfussyrepo/query/Result;"), (0, .fieldref 7 14), (0, .nameAndType 15 12), (0, u "ONE"), (0, .fieldref 7 17), (0, .nameAndType 18 12), (0, u "OPTIONAL"), (0, .fieldref 7 20), (0, .nameAndType 21 12), (0, u "PAGE"), (0, .fieldref 7 23), (0, .nameAndType 24 12), (0, u "SLICE"), (0, .fieldref 7 26), (0, .nameAndType 27 12), (0, u "COUNT"), (0, .fieldref 7 29), (0, .nameAndType 30 12), (0, u "INT_COUNT"), (0, .fieldref 7 32), (0, .nameAndType 33 12), (0, u "EXISTS"), (0, .fieldref 7 35), (0, .nameAndType 36 12), (0, u "DELETED_ROWS"), (0, .fieldref 7 38), (0, .nameAndType 39 12), (0, u "CHANGED_COUNT"), (0, .fieldref 7 41), (0, .nameAndType 42 12), (0, u "CHANGED_INT_COUNT"), (0, .fieldref 7 44), (0, .nameAndType 45 12), (0, u "CHANGED"), (0, .integer 2147483647), (0, .methodref 7 48), (0, .nameAndType 49 50), (0, u "ofOne"), (0, u "()Z"), (0, .class_ 52), (0, u "com/example/unfussy_repo/unfussyrepo/query/ResultOfOnePinLaw"), (2, u "law"), (0, u "(I)Z")] 5

def k1m0 : Method := { name := "<init>", desc := "()V", sig := { parameters := [], returnType := none }, accessFlags := 1, code := none }
def k1c1 : Code := { maxStack := 4, maxLocals := 5, code := code, exceptionTable := #[], attributes := #[] }
def k1m1 : Method := { name := "law", desc := "(I)Z", sig := { parameters := [.int], returnType := some .boolean }, accessFlags := 9, code := some k1c1 }
/-- com/example/unfussy_repo/unfussyrepo/query/ResultOfOnePinLaw -/
def k1 : Class := { plain "com/example/unfussy_repo/unfussyrepo/query/ResultOfOnePinLaw" (some 0) with
  accessFlags := 49
  interfaces := #[]
  cf := some (fileOf pool1 51 #[] #[{ accessFlags := 1, nameIndex := 5, descriptorIndex := 6, attributes := #[] }, { accessFlags := 9, nameIndex := 55, descriptorIndex := 56, attributes := #[] }] 49 2 #[] #[])
  fields := #[]
  methods := #[k1m0, k1m1]
  instanceTypes := #[]
  staticTypes := #[]
  resolved := Array.replicate 62 none
  statics := none }

def pool2 : Array CpInfo := pool [(1, .class_ 2), (0, u "java/lang/constant/Constable"), (0, .class_ 4), (0, u "java/lang/Object")] 6

/-- java/lang/constant/Constable -/
def k2 : Class := { plain "java/lang/constant/Constable" (some 0) with
  accessFlags := 1537
  interfaces := #[]
  cf := some (fileOf pool2 1 #[] #[] 1537 3 #[] #[])
  fields := #[]
  methods := #[]
  instanceTypes := #[]
  staticTypes := #[]
  resolved := Array.replicate 11 none
  statics := none }

def pool3 : Array CpInfo := pool [(1, .class_ 2), (0, u "java/lang/Comparable"), (0, .class_ 4), (0, u "java/lang/Object")] 7

/-- java/lang/Comparable -/
def k3 : Class := { plain "java/lang/Comparable" (some 0) with
  accessFlags := 1537
  interfaces := #[]
  cf := some (fileOf pool3 1 #[] #[] 1537 3 #[] #[])
  fields := #[]
  methods := #[]
  instanceTypes := #[]
  staticTypes := #[]
  resolved := Array.replicate 12 none
  statics := none }

def pool4 : Array CpInfo := pool [(1, .class_ 2), (0, u "java/io/Serializable"), (0, .class_ 4), (0, u "java/lang/Object")] 2

/-- java/io/Serializable -/
def k4 : Class := { plain "java/io/Serializable" (some 0) with
  accessFlags := 1537
  interfaces := #[]
  cf := some (fileOf pool4 1 #[] #[] 1537 3 #[] #[])
  fields := #[]
  methods := #[]
  instanceTypes := #[]
  staticTypes := #[]
  resolved := Array.replicate 7 none
  statics := none }

def pool5 : Array CpInfo := pool [(2, .class_ 4), (1, u "java/lang/Enum"), (0, u "name"), (0, u "Ljava/lang/String;"), (2, u "ordinal"), (0, u "I"), (1, .class_ 14), (1, u "java/lang/Object"), (4, u "hash"), (86, .class_ 108), (1, u "java/lang/Enum$EnumDesc"), (2, .class_ 112), (0, u "java/lang/constant/Constable"), (0, .class_ 114), (0, u "java/lang/Comparable"), (0, .class_ 116), (0, u "java/io/Serializable")] 87

/-- java/lang/Enum -/
def k5 : Class := { plain "java/lang/Enum" (some 0) with
  accessFlags := 1057
  interfaces := #[2, 3, 4]
  cf := some (fileOf pool5 2 #[.nestMembers #[106]] #[] 1057 12 #[111, 113, 115] #[{ accessFlags := 18, nameIndex := 5, descriptorIndex := 6, attributes := #[] }, { accessFlags := 18, nameIndex := 9, descriptorIndex := 10, attributes := #[] }, { accessFlags := 2, nameIndex := 19, descriptorIndex := 10, attributes := #[] }])
  fields := #[{ name := "name", type := (.object "java/lang/String"), accessFlags := 18, slot := 0, constantValue := 0 }, { name := "ordinal", type := .int, accessFlags := 18, slot := 1, constantValue := 0 }, { name := "hash", type := .int, accessFlags := 2, slot := 2, constantValue := 0 }]
  methods := #[]
  instanceTypes := #[(.object "java/lang/String"), .int, .int]
  staticTypes := #[]
  resolved := Array.replicate 204 none
  statics := none }

def pool6 : Array CpInfo := pool [(1, .class_ 2), (0, u "com/example/unfussy_repo/unfussyrepo/query/Result"), (2, u "ROWS"), (0, u "Lcom/example/unfussy_repo/unfussyrepo/query/Result;"), (0, .fieldref 1 8), (0, .nameAndType 9 6), (0, u "ONE"), (0, .fieldref 1 11), (0, .nameAndType 12 6), (0, u "OPTIONAL"), (2, u "PAGE"), (2, u "SLICE"), (2, u "COUNT"), (2, u "INT_COUNT"), (2, u "EXISTS"), (2, u "DELETED_ROWS"), (2, u "CHANGED_COUNT"), (2, u "CHANGED_INT_COUNT"), (2, u "CHANGED"), (2, u "$VALUES"), (0, u "[Lcom/example/unfussy_repo/unfussyrepo/query/Result;"), (6, .class_ 52), (1, u "java/lang/Enum"), (8, u "prefix"), (0, u "Lcom/example/unfussy_repo/unfussyrepo/query/Result$Prefix;"), (8, u "types"), (0, u "Ljava/util/List;"), (1, .class_ 76), (1, u "com/example/unfussy_repo/unfussyrepo/query/Result$Prefix"), (19, u "()Z"), (84, u "ofOne")] 31

def k6c0 : Code := { maxStack := 2, maxLocals := 1, code := prog_55_method_6_code, exceptionTable := #[], attributes := #[] }
def k6m0 : Method := { name := "ofOne", desc := "()Z", sig := { parameters := [], returnType := some .boolean }, accessFlags := 1, code := some k6c0 }
/-- com/example/unfussy_repo/unfussyrepo/query/Result -/
def k6 : Class := { plain "com/example/unfussy_repo/unfussyrepo/query/Result" (some 5) with
  accessFlags := 16433
  interfaces := #[]
  cf := some (fileOf pool6 1 #[.nestMembers #[74]] #[{ accessFlags := 1, nameIndex := 181, descriptorIndex := 96, attributes := #[] }] 16433 50 #[] #[{ accessFlags := 16409, nameIndex := 5, descriptorIndex := 6, attributes := #[] }, { accessFlags := 16409, nameIndex := 9, descriptorIndex := 6, attributes := #[] }, { accessFlags := 16409, nameIndex := 12, descriptorIndex := 6, attributes := #[] }, { accessFlags := 16409, nameIndex := 15, descriptorIndex := 6, attributes := #[] }, { accessFlags := 16409, nameIndex := 18, descriptorIndex := 6, attributes := #[] }, { accessFlags := 16409, nameIndex := 21, descriptorIndex := 6, attributes := #[] }, { accessFlags := 16409, nameIndex := 24, descriptorIndex := 6, attributes := #[] }, { accessFlags := 16409, nameIndex := 27, descriptorIndex := 6, attributes := #[] }, { accessFlags := 16409, nameIndex := 30, descriptorIndex := 6, attributes := #[] }, { accessFlags := 16409, nameIndex := 33, descriptorIndex := 6, attributes := #[] }, { accessFlags := 16409, nameIndex := 36, descriptorIndex := 6, attributes := #[] }, { accessFlags := 16409, nameIndex := 39, descriptorIndex := 6, attributes := #[] }, { accessFlags := 18, nameIndex := 61, descriptorIndex := 62, attributes := #[] }, { accessFlags := 18, nameIndex := 71, descriptorIndex := 72, attributes := #[] }, { accessFlags := 4122, nameIndex := 42, descriptorIndex := 43, attributes := #[] }])
  fields := #[{ name := "ROWS", type := (.object "com/example/unfussy_repo/unfussyrepo/query/Result"), accessFlags := 16409, slot := 0, constantValue := 0 }, { name := "ONE", type := (.object "com/example/unfussy_repo/unfussyrepo/query/Result"), accessFlags := 16409, slot := 1, constantValue := 0 }, { name := "OPTIONAL", type := (.object "com/example/unfussy_repo/unfussyrepo/query/Result"), accessFlags := 16409, slot := 2, constantValue := 0 }, { name := "PAGE", type := (.object "com/example/unfussy_repo/unfussyrepo/query/Result"), accessFlags := 16409, slot := 3, constantValue := 0 }, { name := "SLICE", type := (.object "com/example/unfussy_repo/unfussyrepo/query/Result"), accessFlags := 16409, slot := 4, constantValue := 0 }, { name := "COUNT", type := (.object "com/example/unfussy_repo/unfussyrepo/query/Result"), accessFlags := 16409, slot := 5, constantValue := 0 }, { name := "INT_COUNT", type := (.object "com/example/unfussy_repo/unfussyrepo/query/Result"), accessFlags := 16409, slot := 6, constantValue := 0 }, { name := "EXISTS", type := (.object "com/example/unfussy_repo/unfussyrepo/query/Result"), accessFlags := 16409, slot := 7, constantValue := 0 }, { name := "DELETED_ROWS", type := (.object "com/example/unfussy_repo/unfussyrepo/query/Result"), accessFlags := 16409, slot := 8, constantValue := 0 }, { name := "CHANGED_COUNT", type := (.object "com/example/unfussy_repo/unfussyrepo/query/Result"), accessFlags := 16409, slot := 9, constantValue := 0 }, { name := "CHANGED_INT_COUNT", type := (.object "com/example/unfussy_repo/unfussyrepo/query/Result"), accessFlags := 16409, slot := 10, constantValue := 0 }, { name := "CHANGED", type := (.object "com/example/unfussy_repo/unfussyrepo/query/Result"), accessFlags := 16409, slot := 11, constantValue := 0 }, { name := "prefix", type := (.object "com/example/unfussy_repo/unfussyrepo/query/Result$Prefix"), accessFlags := 18, slot := 3, constantValue := 0 }, { name := "types", type := (.object "java/util/List"), accessFlags := 18, slot := 4, constantValue := 0 }, { name := "$VALUES", type := (.array (.object "com/example/unfussy_repo/unfussyrepo/query/Result")), accessFlags := 4122, slot := 12, constantValue := 0 }]
  methods := #[k6m0]
  instanceTypes := #[(.object "java/lang/String"), .int, .int, (.object "com/example/unfussy_repo/unfussyrepo/query/Result$Prefix"), (.object "java/util/List")]
  staticTypes := #[(.object "com/example/unfussy_repo/unfussyrepo/query/Result"), (.object "com/example/unfussy_repo/unfussyrepo/query/Result"), (.object "com/example/unfussy_repo/unfussyrepo/query/Result"), (.object "com/example/unfussy_repo/unfussyrepo/query/Result"), (.object "com/example/unfussy_repo/unfussyrepo/query/Result"), (.object "com/example/unfussy_repo/unfussyrepo/query/Result"), (.object "com/example/unfussy_repo/unfussyrepo/query/Result"), (.object "com/example/unfussy_repo/unfussyrepo/query/Result"), (.object "com/example/unfussy_repo/unfussyrepo/query/Result"), (.object "com/example/unfussy_repo/unfussyrepo/query/Result"), (.object "com/example/unfussy_repo/unfussyrepo/query/Result"), (.object "com/example/unfussy_repo/unfussyrepo/query/Result"), (.array (.object "com/example/unfussy_repo/unfussyrepo/query/Result"))]
  resolved := Array.replicate 213 none
  statics := some 0 }

def pool7 : Array CpInfo := pool [(1, u "java/lang/Cloneable"), (0, .class_ 1), (0, u "java/lang/Object"), (0, .class_ 3)] 3

/-- java/lang/Cloneable -/
def k7 : Class := { plain "java/lang/Cloneable" (some 0) with
  accessFlags := 1537
  interfaces := #[]
  cf := some (fileOf pool7 2 #[] #[] 1537 4 #[] #[])
  fields := #[]
  methods := #[]
  instanceTypes := #[]
  staticTypes := #[]
  resolved := Array.replicate 8 none
  statics := none }

/-- the primitive byte -/
def k8 : Class := { plain "byte" none with kind := .primitive 'B', accessFlags := 0x411 }
/-- [B -/
def k9 : Class := { plain "[B" (some 0) with kind := .array 8 .byte, interfaces := #[7, 4], accessFlags := 1041 }

/-- the primitive int -/
def k10 : Class := { plain "int" none with kind := .primitive 'I', accessFlags := 0x411 }
/-- [I -/
def k11 : Class := { plain "[I" (some 0) with kind := .array 10 .int, interfaces := #[7, 4], accessFlags := 1041 }

/-- [Lcom/example/unfussy_repo/unfussyrepo/query/Result; -/
def k12 : Class := { plain "[Lcom/example/unfussy_repo/unfussyrepo/query/Result;" (some 0) with kind := .array 6 (.object "com/example/unfussy_repo/unfussyrepo/query/Result"), interfaces := #[7, 4], accessFlags := 1041 }

def heap : Heap := #[{ cls := 6, slots := #[.ref 1, .ref 2, .ref 3, .ref 4, .ref 5, .ref 6, .ref 7, .ref 8, .ref 9, .ref 10, .ref 11, .ref 12, .null], vm := .statics 6 },
  { cls := 6, slots := #[.null, .int 0, .int 0, .null, .null], vm := .none },
  { cls := 6, slots := #[.null, .int 1, .int 0, .null, .null], vm := .none },
  { cls := 6, slots := #[.null, .int 2, .int 0, .null, .null], vm := .none },
  { cls := 6, slots := #[.null, .int 3, .int 0, .null, .null], vm := .none },
  { cls := 6, slots := #[.null, .int 4, .int 0, .null, .null], vm := .none },
  { cls := 6, slots := #[.null, .int 5, .int 0, .null, .null], vm := .none },
  { cls := 6, slots := #[.null, .int 6, .int 0, .null, .null], vm := .none },
  { cls := 6, slots := #[.null, .int 7, .int 0, .null, .null], vm := .none },
  { cls := 6, slots := #[.null, .int 8, .int 0, .null, .null], vm := .none },
  { cls := 6, slots := #[.null, .int 9, .int 0, .null, .null], vm := .none },
  { cls := 6, slots := #[.null, .int 10, .int 0, .null, .null], vm := .none },
  { cls := 6, slots := #[.null, .int 11, .int 0, .null, .null], vm := .none }]
def classes : Array Class := #[k0, k1, k2, k3, k4, k5, k6, k7, k8, k9, k10, k11, k12]
def interned : List (Array UInt16 × Addr) := []
def slotsUsed : Nat := 73
def theMethod : MethodId := ⟨1, 1⟩
def args0 : Array Value := #[.int 5]
def aboutOver (below : List Frame) : State where
  vm := { classes := classes, interned := interned.toArray }
  heap := heap
  slotsUsed := slotsUsed
  threads := #[{ frames := .invoking theMethod args0 :: below }]
def below0 : List Frame := [.native { method := ⟨0, 0⟩, args := #[] }]
def about1 : State := aboutOver below0
def p0 : Program := .bare "" "" ""
def e0 : Env := launch0.env 0 0 0
theorem w_frames : about1.frames = Frame.invoking theMethod args0 :: below0 := rfl
set_option maxRecDepth 65536 in
theorem w_args : argsFit about1.vm theMethod args0 = true := by decide +kernel
set_option maxRecDepth 65536 in
theorem w_heap : heapFits about1 = true := by decide +kernel
set_option maxRecDepth 65536 in
theorem w_runnable : about1.curStatus? = some .runnable := by decide +kernel
set_option maxRecDepth 65536 in
theorem w_alone : about1.alone = true := by decide +kernel
set_option maxRecDepth 65536 in
theorem w_named : about1.methodNamed? x = some theMethod := by decide +kernel
set_option maxRecDepth 65536 in
theorem w_hears : about1.hears theMethod below0 = true := by decide +kernel
set_option maxRecDepth 65536 in
theorem w_ripe : about1.ripe theMethod args0 below0 = true := by decide +kernel
theorem w_running : about1.status = .running := rfl
set_option maxRecDepth 65536 in
theorem w_room : about1.hasRoom e0.platform room_1 = true :=
  launch0.hasRoom_least _ room_1 (by decide +kernel) (by decide +kernel) (by decide +kernel) (by decide +kernel) (by decide +kernel) (by decide +kernel)
theorem allAtoms_all (ts : List Jvm.Cond) (a : Array Jvm.Value) (st : Jvm.State) : (allAtoms ts).before a st = ts.all (fun c => c.before a st) := by
  induction ts with
  | nil => rfl
  | cons c t ih =>
    show (Jvm.Cond.and c (allAtoms t)).before a st = _
    rw [Jvm.Cond.before_and, ih, List.all_cons]
def words1 : List Jvm.Cond := Jvm.Cond.code x code maxLocals ret :: tables_1
/-- a 'code' word, met by the world's own term for the bytes: nothing is compared byte by byte -/
theorem code_word {y : MethodName} {bytes : ByteArray} {mx : Nat} {rt : Option FieldType} {a : Array Value} {s : State} {m : MethodId} {meth : Method} {c : Code} (h1 : s.methodNamed? y = some m) (h2 : s.vm.method? m = some meth) (h3 : meth.code = some c) (h4 : c.code = bytes)
    (h5 : (c.maxLocals == mx && c.exceptionTable.isEmpty && decide (c.maxStack ≤ mostOperands) && decide (meth.sig.returnType = rt) && !meth.locks && decide (parseMethodDescriptor y.desc = some meth.sig)) = true) : (Jvm.Cond.code y bytes mx rt).before a s = true := by
  simp only [Bool.and_eq_true, beq_iff_eq, Bool.not_eq_true', decide_eq_true_eq] at h5
  obtain ⟨⟨⟨⟨⟨g1, g2⟩, g3⟩, g4⟩, g5⟩, g6⟩ := h5
  simp [Cond.before, Cond.holds, Cond.value, h1, h2, h3, h4, g1, g2, g3, g4, g5, g6]
def isCode : Jvm.Cond → Bool
  | .code _ _ _ _ => true
  | _ => false
theorem all_split {L : List Jvm.Cond} {P : Jvm.Cond → Bool} (h1 : L.all (fun c => isCode c || P c) = true) (h2 : ∀ c ∈ L.filter isCode, P c = true) : L.all P = true := by
  refine List.all_eq_true.mpr fun c hc => ?_
  have h := List.all_eq_true.mp h1 c hc
  rcases Bool.eq_false_or_eq_true (isCode c) with hi | hi
  · exact h2 c (List.mem_filter.mpr ⟨hc, hi⟩)
  · simpa [hi] using h
set_option maxRecDepth 65536 in
theorem w_c0 : (Jvm.Cond.code x code maxLocals ret).before args0 about1 = true := code_word (m := ⟨1, 1⟩) (meth := k1m1) (c := k1c1) (by decide +kernel) rfl rfl rfl (by decide +kernel)
set_option maxRecDepth 65536 in
theorem w_c1 : (Jvm.Cond.code ({ cls := "com/example/unfussy_repo/unfussyrepo/query/Result", name := "ofOne", desc := "()Z" } : Jvm.MethodName) prog_55_method_6_code (1 : Nat) (Option.some Jvm.ClassFile.FieldType.boolean)).before args0 about1 = true := code_word (m := ⟨6, 0⟩) (meth := k6m0) (c := k6c0) (by decide +kernel) rfl rfl rfl (by decide +kernel)
def codes1 : List Jvm.Cond := [Jvm.Cond.code x code maxLocals ret, Jvm.Cond.code ({ cls := "com/example/unfussy_repo/unfussyrepo/query/Result", name := "ofOne", desc := "()Z" } : Jvm.MethodName) prog_55_method_6_code (1 : Nat) (Option.some Jvm.ClassFile.FieldType.boolean)]
set_option maxRecDepth 65536 in
theorem codes_eq : words1.filter isCode = codes1 := rfl
theorem w_codes : ∀ c ∈ words1.filter isCode, c.before args0 about1 = true := by
  rw [codes_eq]
  intro c hc
  simp only [codes1, List.mem_cons, List.not_mem_nil, or_false] at hc
  rcases hc with rfl | rfl
  · exact w_c0
  · exact w_c1
set_option maxRecDepth 65536 in
theorem w_t1 : (words1.take 24).all (fun c => isCode c || c.before args0 about1) = true := by decide +kernel
set_option maxRecDepth 65536 in
theorem w_t2 : (words1.drop 24).all (fun c => isCode c || c.before args0 about1) = true := by decide +kernel
theorem w_tables : (allAtoms (Jvm.Cond.code x code maxLocals ret :: tables_1)).before args0 about1 = true := by
  rw [allAtoms_all]
  show words1.all (fun c => c.before args0 about1) = true
  refine all_split ?_ w_codes
  rw [← List.take_append_drop 24 words1, List.all_append, w_t1, w_t2]
  rfl
set_option maxRecDepth 65536 in
theorem w_case : (Jvm.Cond.and given_1 narrow_1).before args0 about1 = true := by decide +kernel
theorem w_applies : (headSpec (Jvm.Cond.code x code maxLocals ret :: tables_1) room_1).applies x e0.platform about1 = true :=
  (Spec.applies_iff w_frames).mpr ⟨w_running, w_runnable, w_alone, w_named, w_hears, w_ripe, w_room, w_tables⟩
theorem atStart : AtStart classFile x code maxLocals ret World_1 tables_1 room_1 Calls_1 rest_1 Pre_1 launch0 p0 e0 about1 theMethod args0 below0 :=
  ⟨lists_1, trivial, launch0.admits_env _ _ _, launch0.least_env, fairChoices_fair.cas, fairChoices_fair.clock, w_frames, w_args, w_heap, w_applies, trivial, trivial, w_case⟩
end start1
theorem witness_1 : WitnessClaimed_1 := ⟨start1.p0, start1.e0, start1.about1, start1.theMethod, start1.args0, start1.below0, start1.atStart⟩
end Jvm.Pilot.@@N@@
