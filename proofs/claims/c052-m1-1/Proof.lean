
import JvmDerived
import JvmDerived.Pilot.@@N@@Statement
import JvmDerived.Pilot.@@N@@Code
set_option linter.unusedVariables false
set_option linter.unusedSimpArgs false
namespace Jvm.RoadKit
open Sem ClassFile Op Lib Jvm.Stand Jvm.Free Jvm.LawKit
section OwnGo
variable {p : Program} {l : Launch} {e : Env} {R : Room} {s : State} {m : MethodId} {args : Array Value} {below : List Frame} {meth : Method} {c : Code} {T : State} {locs : List Loc} {cells slots kc ks : Nat} {Z : State} {a0 : Array Value} {h : Heap} {Q : Option Value → Heap → List Loc → Prop} {F0 : State → Outcome → Prop}
/-- what is left of a run from T: it ends, and F0 holds of its end -/
def Go (p : Program) (e : Env) (below : List Frame) (F0 : State → Outcome → Prop) (T : State) : Prop :=
  ∃ (U : State) (o : Outcome), Steps p.tables e below T U ∧ U.status = .running ∧ Ended U below o ∧ F0 U o
def EndN (s : State) (Q : Option Value → Heap → List Loc → Prop) (kc ks : Nat) (U : State) (o : Outcome) : Prop := ∃ v L, o = .returned v ∧ Q v U.heap L ∧ FrameEnd s o U L kc ks
theorem Go.step {T' : State} (g : ∀ t, Steps p.tables e below T' t → Steps p.tables e below T t) (k : Go p e below F0 T') : Go p e below F0 T := by
  obtain ⟨U, o, h1, r⟩ := k
  exact ⟨U, o, g _ h1, r⟩
theorem Go.cast {g g' : JFrame} (q : g = g') (k : Go p e below F0 (T.setTop g')) : Go p e below F0 (T.setTop g) := by rw [q]; exact k
/-- a body's contract: from these arguments and this heap it returns, and Q holds -/
def Ctr (l : Launch) (Z : State) (y : MethodName) (bytes : ByteArray) (maxL : Nat) (ret : Option FieldType) (rm : Room) (as : Array Value) (h : Heap) (Q : Option Value → Heap → List Loc → Prop) : Prop :=
  ∀ ws : List Jvm.Cond, MetFree l y (head1 (Jvm.Cond.code y bytes maxL ret :: ws) rm) (fun a U => a = as ∧ Z.Warmed39 U.vm ∧ U.heap = h) (fun _ _ _ _ _ => True) (fun _ U o U' => ∃ v L, o = .returned v ∧ Q v U'.heap L ∧ FrameEnd U o U' L rm.cells rm.slots)
theorem Ctr.of {y : MethodName} {bytes : ByteArray} {maxL : Nat} {ret : Option FieldType} {rm : Room} {as : Array Value} (hp : plainFor y = true)
    (body : ∀ (p : Program) (e : Env) (s : State) (m : MethodId) (below : List Frame) (meth : Method) (c : Code) (T : State), p.tables.exec = Jvm.exec → Z.Warmed39 s.vm → c.code = bytes → c.maxLocals = maxL → s.vm.findClass y.cls = some m.cls → meth.name = y.name → meth.sig.returnType = ret → meth.locks = false → T.heap = h → s.heap = h → Stand p l e rm s m as below meth c T [] 0 0 →
      Go p e below (EndN s Q rm.cells rm.slots) (T.setTop (entryFrame m as maxL))) : Ctr l Z y bytes maxL ret rm as h Q := by
  intro ws
  refine MetFree.of_bodySF hp hisR ?_
  intro p e s m args below meth c s₁ Bd hml0 hP hK
  obtain ⟨rfl, hZ, hh⟩ := hP
  exact body p e s m below meth c s₁ Bd.exec hZ Bd.bytes hml0 (findClass_of_methodNamed Bd.named) (name_of_methodNamed Bd.named Bd.method).1 Bd.returns Bd.notSynchronized (by rw [← hh, Bd.state]; rfl) hh (Stand.of_body Bd)
theorem Go.ret0 (X : Stand p l e R s m args below meth c T locs cells slots) (hx : p.tables.exec = Jvm.exec) (hlk : meth.locks = false) (hret : meth.sig.returnType = none) {pc : Nat} {Ls : Array Slot} (hd : decode c.code pc = .ok (.return_, 1)) (hc : cells ≤ kc) (hs : slots ≤ ks) (q : Q none T.heap locs) : Go p e below (EndN s Q kc ks) (T.setTop (mkF m pc Ls [])) := by
  obtain ⟨fs, hr, hrun, hended, hW, hsame⟩ := X.leave (v := none) (fun _ => rfl) hlk
  exact ⟨_, _, X.returnOut hx hret hd hr, hrun, hended, _, _, rfl, q, ⟨_, rfl⟩, hW, hsame.mono hc hs⟩
theorem Go.retV (X : Stand p l e R s m args below meth c T locs cells slots) (hx : p.tables.exec = Jvm.exec) (hlk : meth.locks = false) {t : FieldType} (hret : meth.sig.returnType = some t) {pc : Nat} {Ls : Array Slot} {v : Value} {i : Instr} {rest : List Value} (hn : narrow t v = v)
    (hi : (i = .ireturn ∧ (t = .int ∨ t = .boolean ∨ t = .byte ∨ t = .char ∨ t = .short) ∧ ∃ z, v = .int z) ∨ (i = .lreturn ∧ t = .long ∧ ∃ z, v = .long z) ∨ (i = .dreturn ∧ t = .double ∧ ∃ z, v = .double z) ∨ (i = .freturn ∧ t = .float ∧ ∃ z, v = .float z) ∨ (i = .areturn ∧ t.isReference = true ∧ v.isRef = true))
    (hd : decode c.code pc = .ok (i, 1)) (hc : cells ≤ kc) (hs : slots ≤ ks) (q : Q (some v) T.heap locs) : Go p e below (EndN s Q kc ks) (T.setTop (mkF m pc Ls (v :: rest))) := by
  obtain ⟨fs, hr, hrun, hended, hW, hsame⟩ := X.leave (v := some v) (fun h => by rw [hret] at h; cases h) hlk
  exact ⟨_, _, retOut X hx hret hn hi hd hr, hrun, hended, _, _, rfl, q, ⟨_, rfl⟩, hW, hsame.mono hc hs⟩
theorem Go.retR (X : Stand p l e R s m args below meth c T locs cells slots) (hx : p.tables.exec = Jvm.exec) (hlk : meth.locks = false) {t : FieldType} (hret : meth.sig.returnType = some t) (ht : t.isReference = true) {pc : Nat} {Ls : Array Slot} {v : Value} (hv : v.isRef = true) {rest : List Value} (hd : decode c.code pc = .ok (.areturn, 1)) (hc : cells ≤ kc) (hs : slots ≤ ks) (q : Q (some v) T.heap locs) : Go p e below (EndN s Q kc ks) (T.setTop (mkF m pc Ls (v :: rest))) :=
  Go.retV X hx hlk hret (by rcases ref_cases hv with rfl | ⟨z, rfl⟩ <;> cases t <;> simp [FieldType.isReference] at ht <;> rfl) (Or.inr (Or.inr (Or.inr (Or.inr ⟨rfl, ht, hv⟩)))) hd hc hs q
theorem Go.retN (X : Stand p l e R s m args below meth c T locs cells slots) (hx : p.tables.exec = Jvm.exec) (hlk : meth.locks = false) {t : FieldType} (hret : meth.sig.returnType = some t) (ht : t = .boolean ∨ t = .byte ∨ t = .char ∨ t = .short) {pc : Nat} {Ls : Array Slot} {z : Int32} {rest : List Value} (hd : decode c.code pc = .ok (.ireturn, 1)) (hc : cells ≤ kc) (hs : slots ≤ ks) (q : Q (some (.int (nar t z))) T.heap locs) : Go p e below (EndN s Q kc ks) (T.setTop (mkF m pc Ls (.int z :: rest))) := by
  obtain ⟨fs, hr, hrun, hended, hW, hsame⟩ := X.leave (v := some (.int (nar t z))) (fun h => by rw [hret] at h; cases h) hlk
  exact ⟨_, _, Jvm.RoadKit.retN X hx hret ht hd hr, hrun, hended, _, _, rfl, q, ⟨_, rfl⟩, hW, hsame.mono hc hs⟩
theorem Go.iloadN (X : Stand p l e R s m args below meth c T locs cells slots) (hx : p.tables.exec = Jvm.exec) {pc : Nat} (pc' : Nat) {Ls : Array Slot} {st : List Value} {k : Fin 4} {v : Int32} (hp : pc' = pc + 1) (hd : decode c.code pc = .ok (.iload_n k, 1)) (hl : Ls[k.val]? = some (.val (.int v))) (k : Go p e below F0 (T.setTop (mkF m pc' Ls (.int v :: st)))) : Go p e below F0 (T.setTop (mkF m pc Ls st)) := by
  subst hp
  exact Go.step (fun t kt => XS.iloadN X.here hx (g := mkF m pc Ls _) rfl hd hl kt) k
theorem Go.iload (X : Stand p l e R s m args below meth c T locs cells slots) (hx : p.tables.exec = Jvm.exec) {pc : Nat} (pc' : Nat) {Ls : Array Slot} {st : List Value} {k : Nat} {v : Int32} (hp : pc' = pc + 2) (hd : decode c.code pc = .ok (.iload k, 2)) (hl : Ls[k]? = some (.val (.int v))) (k : Go p e below F0 (T.setTop (mkF m pc' Ls (.int v :: st)))) : Go p e below F0 (T.setTop (mkF m pc Ls st)) := by
  subst hp
  exact Go.step (fun t kt => XS.iload X.here hx (g := mkF m pc Ls _) rfl hd hl kt) k
theorem Go.aloadN (X : Stand p l e R s m args below meth c T locs cells slots) (hx : p.tables.exec = Jvm.exec) {pc : Nat} (pc' : Nat) {Ls : Array Slot} {st : List Value} {k : Fin 4} {v : Value} (hp : pc' = pc + 1) (hd : decode c.code pc = .ok (.aload_n k, 1)) (hl : Ls[k.val]? = some (.val v)) (hv : v.isRef = true) (k : Go p e below F0 (T.setTop (mkF m pc' Ls (v :: st)))) : Go p e below F0 (T.setTop (mkF m pc Ls st)) := by
  subst hp
  exact Go.step (fun t kt => XS.aloadN X.here hx (g := mkF m pc Ls _) rfl hd hl hv kt) k
theorem Go.aload (X : Stand p l e R s m args below meth c T locs cells slots) (hx : p.tables.exec = Jvm.exec) {pc : Nat} (pc' : Nat) {Ls : Array Slot} {st : List Value} {k : Nat} {v : Value} (hp : pc' = pc + 2) (hd : decode c.code pc = .ok (.aload k, 2)) (hl : Ls[k]? = some (.val v)) (hv : v.isRef = true) (k : Go p e below F0 (T.setTop (mkF m pc' Ls (v :: st)))) : Go p e below F0 (T.setTop (mkF m pc Ls st)) := by
  subst hp
  exact Go.step (fun t kt => XS.aload X.here hx (g := mkF m pc Ls _) rfl hd hl hv kt) k
theorem Go.iconst (X : Stand p l e R s m args below meth c T locs cells slots) (hx : p.tables.exec = Jvm.exec) {pc : Nat} (pc' : Nat) {Ls : Array Slot} {st : List Value} {i : Int} {v : Int32} (hp : pc' = pc + 1) (hd : decode c.code pc = .ok (.iconst i, 1)) (hv : Int32.ofInt i = v) (k : Go p e below F0 (T.setTop (mkF m pc' Ls (.int v :: st)))) : Go p e below F0 (T.setTop (mkF m pc Ls st)) := by
  subst hp
  exact Go.step (fun t kt => XS.iconst X.here hx (g := mkF m pc Ls _) rfl hd (by rw [hv]; exact kt)) k
theorem Go.bipush (X : Stand p l e R s m args below meth c T locs cells slots) (hx : p.tables.exec = Jvm.exec) {pc : Nat} (pc' : Nat) {Ls : Array Slot} {st : List Value} {i : Int} {v : Int32} (hp : pc' = pc + 2) (hd : decode c.code pc = .ok (.bipush i, 2)) (hv : (Int8.ofInt i).toInt32 = v) (k : Go p e below F0 (T.setTop (mkF m pc' Ls (.int v :: st)))) : Go p e below F0 (T.setTop (mkF m pc Ls st)) := by
  subst hp
  exact Go.step (fun t kt => XS.bipush X.here hx (g := mkF m pc Ls _) rfl hd (by rw [hv]; exact kt)) k
theorem Go.anull (X : Stand p l e R s m args below meth c T locs cells slots) (hx : p.tables.exec = Jvm.exec) {pc : Nat} (pc' : Nat) {Ls : Array Slot} {st : List Value} (hp : pc' = pc + 1) (hd : decode c.code pc = .ok (.aconst_null, 1))  (k : Go p e below F0 (T.setTop (mkF m pc' Ls (.null :: st)))) : Go p e below F0 (T.setTop (mkF m pc Ls st)) := by
  subst hp
  exact Go.step (fun t kt => XS.aconstNull X.here hx (g := mkF m pc Ls _) rfl hd kt) k
theorem Go.iand (X : Stand p l e R s m args below meth c T locs cells slots) (hx : p.tables.exec = Jvm.exec) {pc : Nat} (pc' : Nat) {Ls : Array Slot} {x y : Int32} {rest : List Value} (hp : pc' = pc + 1) (hd : decode c.code pc = .ok (.iand, 1))  (k : Go p e below F0 (T.setTop (mkF m pc' Ls (.int (x &&& y) :: rest)))) : Go p e below F0 (T.setTop (mkF m pc Ls (.int y :: .int x :: rest))) := by
  subst hp
  exact Go.step (fun t kt => XS.iand X.here hx (g := mkF m pc Ls _) rfl hd rfl kt) k
theorem Go.irem (X : Stand p l e R s m args below meth c T locs cells slots) (hx : p.tables.exec = Jvm.exec) {pc : Nat} (pc' : Nat) {Ls : Array Slot} {x y : Int32} {rest : List Value} (hp : pc' = pc + 1) (hd : decode c.code pc = .ok (.irem, 1)) (hy : y ≠ 0) (k : Go p e below F0 (T.setTop (mkF m pc' Ls (.int (x % y) :: rest)))) : Go p e below F0 (T.setTop (mkF m pc Ls (.int y :: .int x :: rest))) := by
  subst hp
  exact Go.step (fun t kt => iremM X hx (g := mkF m pc Ls _) rfl hd rfl hy kt) k
theorem Go.dup (X : Stand p l e R s m args below meth c T locs cells slots) (hx : p.tables.exec = Jvm.exec) {pc : Nat} (pc' : Nat) {Ls : Array Slot} {x : Value} {rest : List Value} (hp : pc' = pc + 1) (hd : decode c.code pc = .ok (.dup, 1)) (hc : x.category = 1) (k : Go p e below F0 (T.setTop (mkF m pc' Ls (x :: x :: rest)))) : Go p e below F0 (T.setTop (mkF m pc Ls (x :: rest))) := by
  subst hp
  exact Go.step (fun t kt => XS.dup X.here hx (g := mkF m pc Ls _) rfl hd rfl hc kt) k
theorem Go.istoreN (X : Stand p l e R s m args below meth c T locs cells slots) (hx : p.tables.exec = Jvm.exec) {pc : Nat} (pc' : Nat) {Ls : Array Slot} {k : Fin 4} {x : Int32} {rest : List Value} {Ls' : Array Slot} (hp : pc' = pc + 1) (hd : decode c.code pc = .ok (.istore_n k, 1)) (hl : storeLocals Ls k.val (.int x) = some Ls') (k : Go p e below F0 (T.setTop (mkF m pc' Ls' rest))) : Go p e below F0 (T.setTop (mkF m pc Ls (.int x :: rest))) := by
  subst hp
  exact Go.step (fun t kt => XS.istoreN X.here hx (g := mkF m pc Ls _) rfl hd rfl hl kt) k
theorem Go.istore (X : Stand p l e R s m args below meth c T locs cells slots) (hx : p.tables.exec = Jvm.exec) {pc : Nat} (pc' : Nat) {Ls : Array Slot} {k : Nat} {x : Int32} {rest : List Value} {Ls' : Array Slot} (hp : pc' = pc + 2) (hd : decode c.code pc = .ok (.istore k, 2)) (hl : storeLocals Ls k (.int x) = some Ls') (k : Go p e below F0 (T.setTop (mkF m pc' Ls' rest))) : Go p e below F0 (T.setTop (mkF m pc Ls (.int x :: rest))) := by
  subst hp
  exact Go.step (fun t kt => XS.istore X.here hx (g := mkF m pc Ls _) rfl hd rfl hl kt) k
theorem Go.astoreN (X : Stand p l e R s m args below meth c T locs cells slots) (hx : p.tables.exec = Jvm.exec) {pc : Nat} (pc' : Nat) {Ls : Array Slot} {k : Fin 4} {x : Value} {rest : List Value} {Ls' : Array Slot} (hp : pc' = pc + 1) (hd : decode c.code pc = .ok (.astore_n k, 1)) (hv : x.isRef = true) (hl : storeLocals Ls k.val x = some Ls') (k : Go p e below F0 (T.setTop (mkF m pc' Ls' rest))) : Go p e below F0 (T.setTop (mkF m pc Ls (x :: rest))) := by
  subst hp
  exact Go.step (fun t kt => XS.astoreN X.here hx (g := mkF m pc Ls _) rfl hd rfl hv hl kt) k
theorem Go.goto (X : Stand p l e R s m args below meth c T locs cells slots) (hx : p.tables.exec = Jvm.exec) {pc : Nat} (pc' : Nat) {Ls : Array Slot} {o : Int} {st : List Value} (hd : decode c.code pc = .ok (.goto o, 3))  (ho : 0 ≤ (pc : Int) + o) (hp : ((pc : Int) + o).toNat = pc') (k : Go p e below F0 (T.setTop (mkF m pc' Ls st))) : Go p e below F0 (T.setTop (mkF m pc Ls st)) :=
  Go.step (fun t kt => XS.goto X.here hx (g := mkF m pc Ls _) rfl rfl hd ho hp kt) k
theorem Go.ifnonnullYes (X : Stand p l e R s m args below meth c T locs cells slots) (hx : p.tables.exec = Jvm.exec) {pc : Nat} (pc' : Nat) {Ls : Array Slot} {o : Int} {b : Addr} {rest : List Value} (hd : decode c.code pc = .ok (.ifnonnull o, 3))  (ho : 0 ≤ (pc : Int) + o) (hp : ((pc : Int) + o).toNat = pc') (k : Go p e below F0 (T.setTop (mkF m pc' Ls rest))) : Go p e below F0 (T.setTop (mkF m pc Ls (.ref b :: rest))) :=
  Go.step (fun t kt => XT.ifnonnullYes X.here hx (g := mkF m pc Ls _) rfl rfl hd rfl ho hp kt) k
theorem Go.ifNo (X : Stand p l e R s m args below meth c T locs cells slots) (hx : p.tables.exec = Jvm.exec) {pc : Nat} (pc' : Nat) {Ls : Array Slot} {o : Int} {cd : ClassFile.Cond} {x : Int32} {rest : List Value} (hp : pc' = pc + 3) (hd : decode c.code pc = .ok (.ifCond cd o, 3)) (hc : if_icmp.holds cd x 0 = false) (k : Go p e below F0 (T.setTop (mkF m pc' Ls rest))) : Go p e below F0 (T.setTop (mkF m pc Ls (.int x :: rest))) := by
  subst hp
  exact Go.step (fun t kt => XS.ifNo X.here hx (g := mkF m pc Ls _) rfl hd rfl ((if0 _ _).trans hc) kt) k
theorem Go.ifnonnullNo (X : Stand p l e R s m args below meth c T locs cells slots) (hx : p.tables.exec = Jvm.exec) {pc : Nat} (pc' : Nat) {Ls : Array Slot} {o : Int} {rest : List Value} (hp : pc' = pc + 3) (hd : decode c.code pc = .ok (.ifnonnull o, 3))  (k : Go p e below F0 (T.setTop (mkF m pc' Ls rest))) : Go p e below F0 (T.setTop (mkF m pc Ls (.null :: rest))) := by
  subst hp
  exact Go.step (fun t kt => XT.ifnonnullNo X.here hx (g := mkF m pc Ls _) rfl hd rfl kt) k
theorem Go.acmp (X : Stand p l e R s m args below meth c T locs cells slots) (hx : p.tables.exec = Jvm.exec) {pc : Nat} (pc' : Nat) {Ls : Array Slot} {cd : ACond} {x y : Value} {rest : List Value} {o : Int} {same : Bool} (hd : decode c.code pc = .ok (.if_acmp cd o, 3)) (h1 : x.isRef = true) (h2 : y.isRef = true) (hq : decide (x = y) = same) (ho : 0 ≤ (pc : Int) + o) (hp : pc' = if acV cd same = true then ((pc : Int) + o).toNat else pc + 3) (k : Go p e below F0 (T.setTop (mkF m pc' Ls rest))) : Go p e below F0 (T.setTop (mkF m pc Ls (y :: x :: rest))) :=
  Go.step (fun t kt => Jvm.RoadKit.acmp (g := mkF m pc Ls _) X hx rfl h1 h2 rfl hd rfl hq ho hp kt) k
theorem Go.getF (X : Stand p l e R s m args below meth c T locs cells slots) (hx : p.tables.exec = Jvm.exec) (hZ : Z.Warmed39 s.vm) {own : String} {index : Nat} (hown : s.vm.findClass own = some m.cls) {R0 O n d host : String} (wl : (Jvm.Cond.fieldLink own index R0 n d).before a0 Z = true ∨ (Jvm.Cond.fieldLinkNest own index R0 n d host).before a0 Z = true) (via : Via Z R0 O n d) (eT : T.heap = h) {a : Addr} {v : Value} (F : Fld Z h a O n d v) {pc : Nat} (pc' : Nat) {Ls : Array Slot} {rest : List Value} (hp : pc' = pc + 3) (hd : decode c.code pc = .ok (.getfield index, 3))
    (k : ∀ T', T'.heap = h → Stand p l e R s m args below meth c T' locs cells slots → Go p e below F0 (T'.setTop (mkF m pc' Ls (v :: rest)))) : Go p e below F0 (T.setTop (mkF m pc Ls (.ref a :: rest))) := by
  subst hp
  obtain ⟨T', X', e', st⟩ := Jvm.RoadKit.getF X hx hZ hown wl via eT F (g := mkF m pc Ls (.ref a :: rest)) rfl rfl hd
  exact Go.step st (k T' e' X')
theorem Go.getS (X : Stand p l e R s m args below meth c T locs cells slots) (hx : p.tables.exec = Jvm.exec) (hZ : Z.Warmed39 s.vm) {own : String} {index : Nat} (hown : s.vm.findClass own = some m.cls) {R0 O n d host : String} (wl : (Jvm.Cond.fieldLink own index R0 n d).before a0 Z = true ∨ (Jvm.Cond.fieldLinkNest own index R0 n d host).before a0 Z = true) (via : Via Z R0 O n d) (eT : T.heap = h) {v : Value} (F : Sta Z h O n d v) {pc : Nat} (pc' : Nat) {Ls : Array Slot} {rest : List Value} (hp : pc' = pc + 3) (hd : decode c.code pc = .ok (.getstatic index, 3))
    (k : ∀ T', T'.heap = h → Stand p l e R s m args below meth c T' locs cells slots → Go p e below F0 (T'.setTop (mkF m pc' Ls (v :: rest)))) : Go p e below F0 (T.setTop (mkF m pc Ls rest)) := by
  subst hp
  obtain ⟨T', X', e', st⟩ := Jvm.RoadKit.getS2 X hx hZ hown wl via eT F (g := mkF m pc Ls rest) rfl hd
  exact Go.step st (k T' e' X')
theorem Go.putF (X : Stand p l e R s m args below meth c T locs cells slots) (hx : p.tables.exec = Jvm.exec) (hZ : Z.Warmed39 s.vm) {own : String} {index : Nat} (hown : s.vm.findClass own = some m.cls) {R0 O n d host C : String} {kk : Nat} {ty : FieldType} (wl : (Jvm.Cond.fieldLink own index R0 n d).before a0 Z = true ∨ (Jvm.Cond.fieldLinkNest own index R0 n d host).before a0 Z = true) (via : Via Z R0 O n d) (eT : T.heap = h) {a : Addr} {v old : Value} (F : Fld Z h a O n d old) (E : Exa Z h a C) (L : (Jvm.Cond.lays C O n d).before a0 Z = true ∨ ((Jvm.Cond.laysFinal C O n d).before a0 Z = true ∧ own = O ∧ meth.name = "<init>")) (wi : (Jvm.Cond.instantiable C kk).before a0 Z = true) (hty : parseFieldDescriptor d = some ty) (hn : narrow ty v = v) (hf : fits ty v = true) {pc : Nat} (pc' : Nat) {Ls : Array Slot} {rest : List Value} (hp : pc' = pc + 3) (hd : decode c.code pc = .ok (.putfield index, 3))
    (k : ∀ T' h', T'.heap = h' → Wr h h' a (slotOf Z O n d) v → Fld Z h' a O n d v → Stand p l e R s m args below meth c T' (locs ++ [⟨a, slotOf Z O n d⟩]) cells slots → Go p e below F0 (T'.setTop (mkF m pc' Ls rest))) : Go p e below F0 (T.setTop (mkF m pc Ls (v :: .ref a :: rest))) := by
  subst hp
  obtain ⟨T', h', X', e', W, st⟩ := Jvm.RoadKit.putF X hx hZ hown wl via eT F E L wi hty hn hf (g := mkF m pc Ls (v :: .ref a :: rest)) rfl rfl hd
  exact Go.step st (k T' h' e' W (F.same W) X')
theorem Go.new (X : Stand p l e R s m args below meth c T locs cells slots) (hx : p.tables.exec = Jvm.exec) (hZ : Z.Warmed39 s.vm) {own : String} {index : Nat} (hown : s.vm.findClass own = some m.cls) {C : String} {n : Nat} (wl : (Jvm.Cond.classLink own index C).before a0 Z = true) (wi : (Jvm.Cond.instantiable C n).before a0 Z = true) (wz : (Jvm.Cond.initialized C).before a0 Z = true) (eT : T.heap = h) (hc : cells + 1 ≤ R.cells) (hl : slots + n ≤ R.slots) {pc : Nat} (pc' : Nat) {Ls : Array Slot} {rest : List Value} (hp : pc' = pc + 3) (hd : decode c.code pc = .ok (.new index, 3))
    (k : ∀ T' h' a, T'.heap = h' → Ext h h' → a = h.size → Exa Z h' a C → (∀ {O nm d : String} {ty : FieldType}, Laid Z a0 C O nm d → parseFieldDescriptor d = some ty → Fld Z h' a O nm d (defaultValue ty)) → Stand p l e R s m args below meth c T' locs (cells + 1) (slots + n) → Go p e below F0 (T'.setTop (mkF m pc' Ls (.ref a :: rest)))) : Go p e below F0 (T.setTop (mkF m pc Ls rest)) := by
  subst hp
  obtain ⟨T', h', X', e', E, A, D, -, st⟩ := newO X hx hZ hown wl wi wz eT (g := mkF m pc Ls rest) rfl hd hc hl
  exact Go.step st (k T' h' h.size e' E rfl A D X')
theorem Go.anewarray (X : Stand p l e R s m args below meth c T locs cells slots) (hx : p.tables.exec = Jvm.exec) (hZ : Z.Warmed39 s.vm) {own : String} {index : Nat} (hown : s.vm.findClass own = some m.cls) {C : String} (wl : (Jvm.Cond.classLink own index C).before a0 Z = true) (wa : (Jvm.Cond.arrayOver (.object C)).before a0 Z = true) (eT : T.heap = h) {n : Int32} (hn : ¬ n < 0) {cap : Nat} (hcap : n.toNatClampNeg ≤ cap) (hb : cap * 8 ≤ 536870912) (hc : cells + 1 ≤ R.cells) (hl : slots + cap ≤ R.slots) {ad : String} (had : "[" ++ (FieldType.object C).toString = ad) (N : Nat) {pc : Nat} (pc' : Nat) {Ls : Array Slot} {rest : List Value} (hp : pc' = pc + 3) (hd : decode c.code pc = .ok (.anewarray index, 3))
    (k : ∀ T' h' a kk, T'.heap = h' → Ext h h' → a = h.size → Arv Z h' a kk (.object C) n (List.replicate N .null) .null → Exa Z h' a ad → Ovr Z kk C → Stand p l e R s m args below meth c T' locs (cells + 1) (slots + cap) → Go p e below F0 (T'.setTop (mkF m pc' Ls (.ref a :: rest)))) : Go p e below F0 (T.setTop (mkF m pc Ls (.int n :: rest))) := by
  subst hp
  obtain ⟨T', h', cA, X', e', E, A, Ex, O, st⟩ := newRE X hx hZ hown wl wa eT (g := mkF m pc Ls (.int n :: rest)) rfl hd rfl hn hcap hb hc hl had
  exact Go.step st (k T' h' h.size cA e' E rfl ((Arv.new A hn).pad (pad_rep [] _ N)) Ex O X')
theorem Go.aastore (X : Stand p l e R s m args below meth c T locs cells slots) (hx : p.tables.exec = Jvm.exec) (hZ : Z.Warmed39 s.vm) (eT : T.heap = h) {a : Addr} {kk : ClassId} {ty : FieldType} {z : Int32} {vs : List Value} {dv : Value} (V : Arv Z h a kk ty z vs dv) (hty : ty.isReference = true) {j : Int32} {v : Value} (F : Sto Z h a v) (hv : fits ty v = true) (hj : ¬ j < 0 ∧ j < z) (i : Nat) (hi : j.toNatClampNeg = i) (hl : i < vs.length) {pc : Nat} (pc' : Nat) {Ls : Array Slot} {rest : List Value} (hp : pc' = pc + 1) (hd : decode c.code pc = .ok (.aastore, 1))
    (k : ∀ T' h', T'.heap = h' → Wr h h' a j.toNatClampNeg v → Arv Z h' a kk ty z (vs.set i v) dv → Stand p l e R s m args below meth c T' (locs ++ [⟨a, j.toNatClampNeg⟩]) cells slots → Go p e below F0 (T'.setTop (mkF m pc' Ls rest))) : Go p e below F0 (T.setTop (mkF m pc Ls (v :: .int j :: .ref a :: rest))) := by
  subst hp
  obtain ⟨cl, A, q1, S, q3, H, G⟩ := V
  obtain ⟨T', h', X', e', W, st⟩ := stR X hx hZ eT A (j := j) (v := v) (inb_of S hj) hty F (g := mkF m pc Ls (v :: .int j :: .ref a :: rest)) rfl rfl hd
  exact Go.step st (k T' h' e' W (Arv.set A q1 S q3 H G hv W i hi hl) X')
theorem Sto.ofArv {a y : Addr} {kk : ClassId} {ty : FieldType} {z : Int32} {vs : List Value} {dv : Value} {C : String} (V : Arv Z h a kk ty z vs dv) (O : Ovr Z kk C) (I : Ins Z h y C true) : Sto Z h a (.ref y) := by
  obtain ⟨cl, A, q1, -⟩ := V
  exact Sto.ofV A q1 O I
theorem Go.aaload (X : Stand p l e R s m args below meth c T locs cells slots) (hx : p.tables.exec = Jvm.exec) (hZ : Z.Warmed39 s.vm) (eT : T.heap = h) {a : Addr} {kk : ClassId} {z : Int32} {vs : List Value} {dv : Value} {ty : FieldType} (hty : ty.isReference = true) (V : Arv Z h a kk ty z vs dv) {j : Int32} {v : Value} (hj : ¬ j < 0 ∧ j < z) (hv : vs.getD j.toNatClampNeg dv = v) {pc : Nat} (pc' : Nat) {Ls : Array Slot} {rest : List Value} (hp : pc' = pc + 1) (hd : decode c.code pc = .ok (.aaload, 1)) (k : Go p e below F0 (T.setTop (mkF m pc' Ls (v :: rest)))) : Go p e below F0 (T.setTop (mkF m pc Ls (.int j :: .ref a :: rest))) := by
  subst hp
  obtain ⟨cl, A, q1, S, q3, H, G⟩ := V
  exact Go.step (fun t kt => X.aaload hx (j := j) (v := v) (by rw [eT]; exact A.1) (State.isArrayOf_alike hZ.alike A.2.1) hty A.2.2 (inb_of S hj) (H.at (inb_of S hj) hv) (g := mkF m pc Ls (.int j :: .ref a :: rest)) rfl rfl hd t kt) k
theorem Go.initO (X : Stand p l e R s m args below meth c T locs cells slots) (hx : p.tables.exec = Jvm.exec) (hZ : Z.Warmed39 s.vm) {own : String} {index : Nat} (hown : s.vm.findClass own = some m.cls) (w1 : (Jvm.Cond.methodLink own index Lib.objectInit).before a0 Z = true) (w2 : (Jvm.Cond.instanceMethod Lib.objectInit).before a0 Z = true) (w3 : (Jvm.Cond.code Lib.objectInit ⟨#[0xb1]⟩ 1 none).before a0 Z = true) (eT : T.heap = h) {a : Addr} (hf : 1 ≤ R.frames) {W : Nat} {pc : Nat} (pc' : Nat) {Ls : Array Slot} {rest : List Value} (hsz : Ls.size = c.maxLocals) (hW : (rest.map fun v => v.category).sum ≤ W) (hl : W + 12 ≤ R.locals) (hp : pc' = pc + 3) (hd : decode c.code pc = .ok (.invokespecial index, 3))
    (k : ∀ T', T'.heap = h → Stand p l e R s m args below meth c T' locs cells slots → Go p e below F0 (T'.setTop (mkF m pc' Ls rest))) : Go p e below F0 (T.setTop (mkF m pc Ls (.ref a :: rest))) := by
  subst hp
  obtain ⟨T', X', e', st⟩ := Jvm.RoadKit.initO X hx hZ hown w1 w2 w3 eT (g := mkF m pc Ls (.ref a :: rest)) rfl hsz rfl hd hf (W := W) (by show 2 * 0 + _ ≤ _; rw [Nat.mul_zero, Nat.zero_add]; exact hW) hl
  exact Go.step st (k T' e' X')
theorem Go.ldcI (X : Stand p l e R s m args below meth c T locs cells slots) (hx : p.tables.exec = Jvm.exec) (hZ : Z.Warmed39 s.vm) {own : String} {index : Nat} (hown : s.vm.findClass own = some m.cls) {v : Int32} (wl : (Jvm.Cond.constant own index v).before a0 Z = true) {pc : Nat} (pc' : Nat) {Ls : Array Slot} {rest : List Value} (hp : pc' = pc + 2) (hd : decode c.code pc = .ok (.ldc index, 2)) (k : Go p e below F0 (T.setTop (mkF m pc' Ls (.int v :: rest)))) : Go p e below F0 (T.setTop (mkF m pc Ls rest)) := by
  subst hp
  exact Go.step (fun t kt => X.ldcInt hx hown (mvT hZ wl) (g := mkF m pc Ls rest) rfl hd t kt) k
theorem Go.callSB (X : Stand p l e R s m args below meth c T locs cells slots) (hx : p.tables.exec = Jvm.exec) (hZ : Z.Warmed39 s.vm) {own : String} {index : Nat} (hown : s.vm.findClass own = some m.cls) {y : MethodName} {bytes : ByteArray} {maxL : Nat} {ret : Option FieldType} (w1 : (Jvm.Cond.methodLink own index y).before a0 Z = true) (w2 : (Jvm.Cond.static y).before a0 Z = true) (w3 : (Jvm.Cond.initialized y.cls).before a0 Z = true) (w4 : (Jvm.Cond.code y bytes maxL ret).before a0 Z = true) (hy : y.cls ≠ "java/lang/invoke/MethodHandle" ∧ y.cls ≠ "java/lang/invoke/VarHandle") {W : Nat} {Pre : Pt → Array Value → Prop} {Post : Pt → Array Value → Option Value → Pt → Prop} (hK : Back l R p e below s args y 3 W Pre Post) (eT : T.heap = h)  {pc : Nat} (pc' : Nat) {Ls : Array Slot} {stk argsL rest : List Value} (hp : pc' = pc + 3) (hsz : Ls.size = c.maxLocals) (hlen : ∀ sig, parseMethodDescriptor y.desc = some sig → argsL.length = sig.parameters.length) (hst : stk = argsL.reverse ++ rest) (hW : (rest.map fun v => v.category).sum ≤ W) (hd : decode c.code pc = .ok (.invokestatic index, 3)) (hpre : ∀ vm₁, s.WarmedH vm₁ → Pre ⟨T.setVm vm₁, locs, cells, slots⟩ argsL.toArray)
    (k : ∀ (v : Option Value) (vm₁ : Vm) (T' : State) (locs' : List Loc) (cells' slots' : Nat), Stand p l e R s m args below meth c T' locs' cells' slots' → Post ⟨T.setVm vm₁, locs, cells, slots⟩ argsL.toArray v ⟨T', locs', cells', slots'⟩ → Go p e below F0 (T'.setTop (mkF m pc' Ls (v.toList ++ rest)))) : Go p e below F0 (T.setTop (mkF m pc Ls stk)) := by
  subst hp
  obtain ⟨v, vm₁, ⟨T', L', c', n'⟩, -, X', hP, st⟩ := Jvm.LawKit.callS X hx hown (mvT hZ w1) (mvT hZ w2) (mvT hZ w3) (mvT hZ w4) hy hK (g := mkF m pc Ls stk) rfl hsz hlen hst (by show 2 * 0 + _ ≤ _; rw [Nat.mul_zero, Nat.zero_add]; exact hW) hd hpre
  exact Go.step st (k v vm₁ T' L' c' n' X' hP)
theorem Go.callS (X : Stand p l e R s m args below meth c T locs cells slots) (hx : p.tables.exec = Jvm.exec) (hZ : Z.Warmed39 s.vm) {own : String} {index : Nat} (hown : s.vm.findClass own = some m.cls) {y : MethodName} {bytes : ByteArray} {maxL : Nat} {ret : Option FieldType} (w1 : (Jvm.Cond.methodLink own index y).before a0 Z = true) (w2 : (Jvm.Cond.static y).before a0 Z = true) (w3 : (Jvm.Cond.initialized y.cls).before a0 Z = true) (w4 : (Jvm.Cond.code y bytes maxL ret).before a0 Z = true) (hy : y.cls ≠ "java/lang/invoke/MethodHandle" ∧ y.cls ≠ "java/lang/invoke/VarHandle") {rm : Room} {Qc : Option Value → Heap → List Loc → Prop}  (wc : (Jvm.Cond.code y bytes maxL ret).before a0 Z = true) (wz : (Jvm.Cond.initialized y.cls).before a0 Z = true) {as : Array Value} (hC : Ctr l Z y bytes maxL ret rm as h Qc) (eT : T.heap = h)  {pc : Nat} (pc' : Nat) {Ls : Array Slot} {stk argsL rest : List Value} (hp : pc' = pc + 3) (hsz : Ls.size = c.maxLocals) (hlen : ∀ sig, parseMethodDescriptor y.desc = some sig → argsL.length = sig.parameters.length) (hst : stk = argsL.reverse ++ rest) (has : argsL.toArray = as) {W : Nat} (hW : (rest.map fun v => v.category).sum ≤ W) (hf : rm.frames + 1 ≤ R.frames) (hl : W + (maxL + 11) + rm.locals ≤ R.locals) (hc : cells + rm.cells ≤ R.cells) (hs : slots + rm.slots ≤ R.slots) (hd : decode c.code pc = .ok (.invokestatic index, 3))
    (k : ∀ (v : Option Value) (T' : State) (L : List Loc), Qc v T'.heap L → Stand p l e R s m args below meth c T' (locs ++ L) (cells + rm.cells) (slots + rm.slots) → Go p e below F0 (T'.setTop (mkF m pc' Ls (v.toList ++ rest)))) : Go p e below F0 (T.setTop (mkF m pc Ls stk)) :=
  Go.callSB X hx hZ hown w1 w2 w3 w4 hy (backOf (W := W) (hC []) hZ wc wz hf hl) eT  pc' hp hsz hlen hst hW hd (fun _ _ => ⟨has, eT, hc, hs⟩) (fun v vm₁ T' locs' cells' slots' X' ⟨L, hq, h1, h2, h3⟩ => by
    try dsimp only at h1 h2 h3
    subst h1 h2 h3
    exact k v T' L hq X')
theorem Go.callVB (X : Stand p l e R s m args below meth c T locs cells slots) (hx : p.tables.exec = Jvm.exec) (hZ : Z.Warmed39 s.vm) {own : String} {index : Nat} (hown : s.vm.findClass own = some m.cls) {x y : MethodName} {C : String} (w1 : (Jvm.Cond.methodLink own index x).before a0 Z = true) (w2 : (Jvm.Cond.declares x).before a0 Z = true) (nf : NotFace s x) (w3 : (Jvm.Cond.selects C x y).before a0 Z = true) (w4 : (Jvm.Cond.instanceMethod y).before a0 Z = true) (hy : x.cls ≠ "java/lang/invoke/MethodHandle" ∧ x.cls ≠ "java/lang/invoke/VarHandle") {W : Nat} {Pre : Pt → Array Value → Prop} {Post : Pt → Array Value → Option Value → Pt → Prop} (hK : Back l R p e below s args y 3 W Pre Post) (eT : T.heap = h) {a : Addr} (F : Exa Z h a C) {pc : Nat} (pc' : Nat) {Ls : Array Slot} {stk argsL rest : List Value} (hp : pc' = pc + 3) (hsz : Ls.size = c.maxLocals) (hlen : ∀ sig, parseMethodDescriptor x.desc = some sig → argsL.length = sig.parameters.length) (hst : stk = argsL.reverse ++ .ref a :: rest) (hW : (rest.map fun v => v.category).sum ≤ W) (hd : decode c.code pc = .ok (.invokevirtual index, 3)) (hpre : ∀ vm₁, s.WarmedH vm₁ → Pre ⟨T.setVm vm₁, locs, cells, slots⟩ (.ref a :: argsL).toArray)
    (k : ∀ (v : Option Value) (vm₁ : Vm) (T' : State) (locs' : List Loc) (cells' slots' : Nat), Stand p l e R s m args below meth c T' locs' cells' slots' → Post ⟨T.setVm vm₁, locs, cells, slots⟩ (.ref a :: argsL).toArray v ⟨T', locs', cells', slots'⟩ → Go p e below F0 (T'.setTop (mkF m pc' Ls (v.toList ++ rest)))) : Go p e below F0 (T.setTop (mkF m pc Ls stk)) := by
  subst hp
  obtain ⟨cB, kB, q1, q2, q3⟩ := isOf hZ eT F
  obtain ⟨v, vm₁, ⟨T', L', c', n'⟩, -, X', hP, st⟩ := X.virtualBack hx (y := x) (z := y) hown (mvT hZ w1) (mvT hZ w2) nf (mvT hZ w3) (mvT hZ w4) hy hK q1 q3 (g := mkF m pc Ls stk) rfl hsz (Steps.refl _) hlen hst (by show 2 * 0 + _ ≤ _; rw [Nat.mul_zero, Nat.zero_add]; exact hW) hd hpre
  exact Go.step (fun t kt => st.trans kt) (k v vm₁ T' L' c' n' X' hP)
theorem Go.callV (X : Stand p l e R s m args below meth c T locs cells slots) (hx : p.tables.exec = Jvm.exec) (hZ : Z.Warmed39 s.vm) {own : String} {index : Nat} (hown : s.vm.findClass own = some m.cls) {x y : MethodName} {C : String} (w1 : (Jvm.Cond.methodLink own index x).before a0 Z = true) (w2 : (Jvm.Cond.declares x).before a0 Z = true) (nf : NotFace s x) (w3 : (Jvm.Cond.selects C x y).before a0 Z = true) (w4 : (Jvm.Cond.instanceMethod y).before a0 Z = true) (hy : x.cls ≠ "java/lang/invoke/MethodHandle" ∧ x.cls ≠ "java/lang/invoke/VarHandle") {bytes : ByteArray} {maxL : Nat} {ret : Option FieldType} {rm : Room} {Qc : Option Value → Heap → List Loc → Prop}  (wc : (Jvm.Cond.code y bytes maxL ret).before a0 Z = true) (wz : (Jvm.Cond.initialized y.cls).before a0 Z = true) {as : Array Value} (hC : Ctr l Z y bytes maxL ret rm as h Qc) (eT : T.heap = h) {a : Addr} (F : Exa Z h a C) {pc : Nat} (pc' : Nat) {Ls : Array Slot} {stk argsL rest : List Value} (hp : pc' = pc + 3) (hsz : Ls.size = c.maxLocals) (hlen : ∀ sig, parseMethodDescriptor x.desc = some sig → argsL.length = sig.parameters.length) (hst : stk = argsL.reverse ++ .ref a :: rest) (has : (.ref a :: argsL).toArray = as) {W : Nat} (hW : (rest.map fun v => v.category).sum ≤ W) (hf : rm.frames + 1 ≤ R.frames) (hl : W + (maxL + 11) + rm.locals ≤ R.locals) (hc : cells + rm.cells ≤ R.cells) (hs : slots + rm.slots ≤ R.slots) (hd : decode c.code pc = .ok (.invokevirtual index, 3))
    (k : ∀ (v : Option Value) (T' : State) (L : List Loc), Qc v T'.heap L → Stand p l e R s m args below meth c T' (locs ++ L) (cells + rm.cells) (slots + rm.slots) → Go p e below F0 (T'.setTop (mkF m pc' Ls (v.toList ++ rest)))) : Go p e below F0 (T.setTop (mkF m pc Ls stk)) :=
  Go.callVB X hx hZ hown w1 w2 nf w3 w4 hy (backOf (W := W) (hC []) hZ wc wz hf hl) eT F pc' hp hsz hlen hst hW hd (fun _ _ => ⟨has, eT, hc, hs⟩) (fun v vm₁ T' locs' cells' slots' X' ⟨L, hq, h1, h2, h3⟩ => by
    try dsimp only at h1 h2 h3
    subst h1 h2 h3
    exact k v T' L hq X')
theorem Go.callNB (X : Stand p l e R s m args below meth c T locs cells slots) (hx : p.tables.exec = Jvm.exec) (hZ : Z.Warmed39 s.vm) {own : String} {index : Nat} (hown : s.vm.findClass own = some m.cls) {y : MethodName} {bytes : ByteArray} {maxL : Nat} (hn : y.name = "<init>") (w1 : (Jvm.Cond.methodLink own index y).before a0 Z = true) (w2 : (Jvm.Cond.instanceMethod y).before a0 Z = true) (w4 : (Jvm.Cond.code y bytes maxL none).before a0 Z = true) (hy : y.cls ≠ "java/lang/invoke/MethodHandle" ∧ y.cls ≠ "java/lang/invoke/VarHandle") {W : Nat} {Pre : Pt → Array Value → Prop} {Post : Pt → Array Value → Option Value → Pt → Prop} (hK : Back l R p e below s args y 3 W Pre Post) (eT : T.heap = h) {a : Addr} {pc : Nat} (pc' : Nat) {Ls : Array Slot} {stk argsL rest : List Value} (hp : pc' = pc + 3) (hsz : Ls.size = c.maxLocals) (hlen : ∀ sig, parseMethodDescriptor y.desc = some sig → argsL.length = sig.parameters.length) (hst : stk = argsL.reverse ++ .ref a :: rest) (hW : (rest.map fun v => v.category).sum ≤ W) (hd : decode c.code pc = .ok (.invokespecial index, 3)) (hpre : ∀ vm₁, s.WarmedH vm₁ → Pre ⟨T.setVm vm₁, locs, cells, slots⟩ (.ref a :: argsL).toArray)
    (k : ∀ (v : Option Value) (vm₁ : Vm) (T' : State) (locs' : List Loc) (cells' slots' : Nat), Stand p l e R s m args below meth c T' locs' cells' slots' → Post ⟨T.setVm vm₁, locs, cells, slots⟩ (.ref a :: argsL).toArray v ⟨T', locs', cells', slots'⟩ → Go p e below F0 (T'.setTop (mkF m pc' Ls (v.toList ++ rest)))) : Go p e below F0 (T.setTop (mkF m pc Ls stk)) := by
  subst hp
  obtain ⟨v, vm₁, ⟨T', L', c', n'⟩, -, X', hP, st⟩ := X.specialBack hx (y := y) hn hown (mvT hZ w1) (mvT hZ w2) (mvT hZ w4) hy hK (g := mkF m pc Ls stk) rfl hsz (Steps.refl _) (a := a) hlen hst (by show 2 * 0 + _ ≤ _; rw [Nat.mul_zero, Nat.zero_add]; exact hW) hd hpre
  exact Go.step (fun t kt => st.trans kt) (k v vm₁ T' L' c' n' X' hP)
theorem Go.callN (X : Stand p l e R s m args below meth c T locs cells slots) (hx : p.tables.exec = Jvm.exec) (hZ : Z.Warmed39 s.vm) {own : String} {index : Nat} (hown : s.vm.findClass own = some m.cls) {y : MethodName} {bytes : ByteArray} {maxL : Nat} (hn : y.name = "<init>") (w1 : (Jvm.Cond.methodLink own index y).before a0 Z = true) (w2 : (Jvm.Cond.instanceMethod y).before a0 Z = true) (w4 : (Jvm.Cond.code y bytes maxL none).before a0 Z = true) (hy : y.cls ≠ "java/lang/invoke/MethodHandle" ∧ y.cls ≠ "java/lang/invoke/VarHandle") {rm : Room} {Qc : Option Value → Heap → List Loc → Prop}  (wc : (Jvm.Cond.code y bytes maxL none).before a0 Z = true) (wz : (Jvm.Cond.initialized y.cls).before a0 Z = true) {as : Array Value} (hC : Ctr l Z y bytes maxL none rm as h Qc) (eT : T.heap = h) {a : Addr} {pc : Nat} (pc' : Nat) {Ls : Array Slot} {stk argsL rest : List Value} (hp : pc' = pc + 3) (hsz : Ls.size = c.maxLocals) (hlen : ∀ sig, parseMethodDescriptor y.desc = some sig → argsL.length = sig.parameters.length) (hst : stk = argsL.reverse ++ .ref a :: rest) (has : (.ref a :: argsL).toArray = as) {W : Nat} (hW : (rest.map fun v => v.category).sum ≤ W) (hf : rm.frames + 1 ≤ R.frames) (hl : W + (maxL + 11) + rm.locals ≤ R.locals) (hc : cells + rm.cells ≤ R.cells) (hs : slots + rm.slots ≤ R.slots) (hd : decode c.code pc = .ok (.invokespecial index, 3))
    (k : ∀ (v : Option Value) (T' : State) (L : List Loc), Qc v T'.heap L → Stand p l e R s m args below meth c T' (locs ++ L) (cells + rm.cells) (slots + rm.slots) → Go p e below F0 (T'.setTop (mkF m pc' Ls (v.toList ++ rest)))) : Go p e below F0 (T.setTop (mkF m pc Ls stk)) :=
  Go.callNB X hx hZ hown hn w1 w2 w4 hy (backOf (W := W) (hC []) hZ wc wz hf hl) eT  pc' hp hsz hlen hst hW hd (fun _ _ => ⟨has, eT, hc, hs⟩) (fun v vm₁ T' locs' cells' slots' X' ⟨L, hq, h1, h2, h3⟩ => by
    try dsimp only at h1 h2 h3
    subst h1 h2 h3
    exact k v T' L hq X')
end OwnGo
end Jvm.RoadKit
namespace Jvm.Pilot.@@N@@
open Jvm Jvm.ClassFile Sem Op Lib Jvm.Free Jvm.Stand Jvm.LawKit Jvm.RoadKit Bundle Jvm.Pilot.@@N@@.Jvm.D
theorem tw_0 {Z : State} {a0 : Array Value} (hw : ∀ d ∈ tables_1, d.before a0 Z = true) : (Jvm.Cond.methodLink "com/example/roles_over_datacenter/rolesoverdatacenter/RequirementOnSystemPinLaw" (77 : Nat) ({ cls := "com/example/roles_over_datacenter/rolesoverdatacenter/RequirementOnSystemPinLaw", name := "pick", desc := "(I)Lcom/example/roles_over_datacenter/rolesoverdatacenter/ActionGroup;" } : Jvm.MethodName)).before a0 Z = true := hw _ (List.mem_of_getElem? (i := 0) rfl)
theorem tw_1 {Z : State} {a0 : Array Value} (hw : ∀ d ∈ tables_1, d.before a0 Z = true) : (Jvm.Cond.static ({ cls := "com/example/roles_over_datacenter/rolesoverdatacenter/RequirementOnSystemPinLaw", name := "pick", desc := "(I)Lcom/example/roles_over_datacenter/rolesoverdatacenter/ActionGroup;" } : Jvm.MethodName)).before a0 Z = true := hw _ (List.mem_of_getElem? (i := 1) rfl)
theorem tw_2 {Z : State} {a0 : Array Value} (hw : ∀ d ∈ tables_1, d.before a0 Z = true) : (Jvm.Cond.initialized "com/example/roles_over_datacenter/rolesoverdatacenter/RequirementOnSystemPinLaw").before a0 Z = true := hw _ (List.mem_of_getElem? (i := 2) rfl)
theorem tw_3 {Z : State} {a0 : Array Value} (hw : ∀ d ∈ tables_1, d.before a0 Z = true) : (Jvm.Cond.code ({ cls := "com/example/roles_over_datacenter/rolesoverdatacenter/RequirementOnSystemPinLaw", name := "pick", desc := "(I)Lcom/example/roles_over_datacenter/rolesoverdatacenter/ActionGroup;" } : Jvm.MethodName) method_2_code (2 : Nat) (Option.some (Jvm.ClassFile.FieldType.object "com/example/roles_over_datacenter/rolesoverdatacenter/ActionGroup"))).before a0 Z = true := hw _ (List.mem_of_getElem? (i := 3) rfl)
theorem tw_4 {Z : State} {a0 : Array Value} (hw : ∀ d ∈ tables_1, d.before a0 Z = true) : (Jvm.Cond.classLink "com/example/roles_over_datacenter/rolesoverdatacenter/RequirementOnSystemPinLaw" (7 : Nat) "com/example/roles_over_datacenter/rolesoverdatacenter/ActionGroup").before a0 Z = true := hw _ (List.mem_of_getElem? (i := 4) rfl)
theorem tw_5 {Z : State} {a0 : Array Value} (hw : ∀ d ∈ tables_1, d.before a0 Z = true) : (Jvm.Cond.arrayOver (Jvm.ClassFile.FieldType.object "com/example/roles_over_datacenter/rolesoverdatacenter/ActionGroup")).before a0 Z = true := hw _ (List.mem_of_getElem? (i := 5) rfl)
theorem tw_6 {Z : State} {a0 : Array Value} (hw : ∀ d ∈ tables_1, d.before a0 Z = true) : (Jvm.Cond.fieldLink "com/example/roles_over_datacenter/rolesoverdatacenter/RequirementOnSystemPinLaw" (9 : Nat) "com/example/roles_over_datacenter/rolesoverdatacenter/ActionGroup" "CREATE_VM" "Lcom/example/roles_over_datacenter/rolesoverdatacenter/ActionGroup;").before a0 Z = true := hw _ (List.mem_of_getElem? (i := 6) rfl)
theorem tw_7 {Z : State} {a0 : Array Value} (hw : ∀ d ∈ tables_1, d.before a0 Z = true) : (Jvm.Cond.initialized "com/example/roles_over_datacenter/rolesoverdatacenter/ActionGroup").before a0 Z = true := hw _ (List.mem_of_getElem? (i := 7) rfl)
theorem tw_8 {Z : State} {a0 : Array Value} (hw : ∀ d ∈ tables_1, d.before a0 Z = true) : (Jvm.Cond.laysStatic "com/example/roles_over_datacenter/rolesoverdatacenter/ActionGroup" "CREATE_VM" "Lcom/example/roles_over_datacenter/rolesoverdatacenter/ActionGroup;").before a0 Z = true := hw _ (List.mem_of_getElem? (i := 8) rfl)
theorem tw_10 {Z : State} {a0 : Array Value} (hw : ∀ d ∈ tables_1, d.before a0 Z = true) : (Jvm.Cond.fieldLink "com/example/roles_over_datacenter/rolesoverdatacenter/RequirementOnSystemPinLaw" (13 : Nat) "com/example/roles_over_datacenter/rolesoverdatacenter/ActionGroup" "DELETE_VM" "Lcom/example/roles_over_datacenter/rolesoverdatacenter/ActionGroup;").before a0 Z = true := hw _ (List.mem_of_getElem? (i := 10) rfl)
theorem tw_11 {Z : State} {a0 : Array Value} (hw : ∀ d ∈ tables_1, d.before a0 Z = true) : (Jvm.Cond.laysStatic "com/example/roles_over_datacenter/rolesoverdatacenter/ActionGroup" "DELETE_VM" "Lcom/example/roles_over_datacenter/rolesoverdatacenter/ActionGroup;").before a0 Z = true := hw _ (List.mem_of_getElem? (i := 11) rfl)
theorem tw_12 {Z : State} {a0 : Array Value} (hw : ∀ d ∈ tables_1, d.before a0 Z = true) : (Jvm.Cond.fieldLink "com/example/roles_over_datacenter/rolesoverdatacenter/RequirementOnSystemPinLaw" (16 : Nat) "com/example/roles_over_datacenter/rolesoverdatacenter/ActionGroup" "EDIT_VM_PROPERTIES" "Lcom/example/roles_over_datacenter/rolesoverdatacenter/ActionGroup;").before a0 Z = true := hw _ (List.mem_of_getElem? (i := 12) rfl)
theorem tw_13 {Z : State} {a0 : Array Value} (hw : ∀ d ∈ tables_1, d.before a0 Z = true) : (Jvm.Cond.laysStatic "com/example/roles_over_datacenter/rolesoverdatacenter/ActionGroup" "EDIT_VM_PROPERTIES" "Lcom/example/roles_over_datacenter/rolesoverdatacenter/ActionGroup;").before a0 Z = true := hw _ (List.mem_of_getElem? (i := 13) rfl)
theorem tw_14 {Z : State} {a0 : Array Value} (hw : ∀ d ∈ tables_1, d.before a0 Z = true) : (Jvm.Cond.fieldLink "com/example/roles_over_datacenter/rolesoverdatacenter/RequirementOnSystemPinLaw" (19 : Nat) "com/example/roles_over_datacenter/rolesoverdatacenter/ActionGroup" "RUN_VM" "Lcom/example/roles_over_datacenter/rolesoverdatacenter/ActionGroup;").before a0 Z = true := hw _ (List.mem_of_getElem? (i := 14) rfl)
theorem tw_15 {Z : State} {a0 : Array Value} (hw : ∀ d ∈ tables_1, d.before a0 Z = true) : (Jvm.Cond.laysStatic "com/example/roles_over_datacenter/rolesoverdatacenter/ActionGroup" "RUN_VM" "Lcom/example/roles_over_datacenter/rolesoverdatacenter/ActionGroup;").before a0 Z = true := hw _ (List.mem_of_getElem? (i := 15) rfl)
theorem tw_16 {Z : State} {a0 : Array Value} (hw : ∀ d ∈ tables_1, d.before a0 Z = true) : (Jvm.Cond.fieldLink "com/example/roles_over_datacenter/rolesoverdatacenter/RequirementOnSystemPinLaw" (22 : Nat) "com/example/roles_over_datacenter/rolesoverdatacenter/ActionGroup" "CREATE_DISK" "Lcom/example/roles_over_datacenter/rolesoverdatacenter/ActionGroup;").before a0 Z = true := hw _ (List.mem_of_getElem? (i := 16) rfl)
theorem tw_17 {Z : State} {a0 : Array Value} (hw : ∀ d ∈ tables_1, d.before a0 Z = true) : (Jvm.Cond.laysStatic "com/example/roles_over_datacenter/rolesoverdatacenter/ActionGroup" "CREATE_DISK" "Lcom/example/roles_over_datacenter/rolesoverdatacenter/ActionGroup;").before a0 Z = true := hw _ (List.mem_of_getElem? (i := 17) rfl)
theorem tw_18 {Z : State} {a0 : Array Value} (hw : ∀ d ∈ tables_1, d.before a0 Z = true) : (Jvm.Cond.fieldLink "com/example/roles_over_datacenter/rolesoverdatacenter/RequirementOnSystemPinLaw" (25 : Nat) "com/example/roles_over_datacenter/rolesoverdatacenter/ActionGroup" "EDIT_DISK_PROPERTIES" "Lcom/example/roles_over_datacenter/rolesoverdatacenter/ActionGroup;").before a0 Z = true := hw _ (List.mem_of_getElem? (i := 18) rfl)
theorem tw_19 {Z : State} {a0 : Array Value} (hw : ∀ d ∈ tables_1, d.before a0 Z = true) : (Jvm.Cond.laysStatic "com/example/roles_over_datacenter/rolesoverdatacenter/ActionGroup" "EDIT_DISK_PROPERTIES" "Lcom/example/roles_over_datacenter/rolesoverdatacenter/ActionGroup;").before a0 Z = true := hw _ (List.mem_of_getElem? (i := 19) rfl)
theorem tw_20 {Z : State} {a0 : Array Value} (hw : ∀ d ∈ tables_1, d.before a0 Z = true) : (Jvm.Cond.fieldLink "com/example/roles_over_datacenter/rolesoverdatacenter/RequirementOnSystemPinLaw" (28 : Nat) "com/example/roles_over_datacenter/rolesoverdatacenter/ActionGroup" "ATTACH_DISK" "Lcom/example/roles_over_datacenter/rolesoverdatacenter/ActionGroup;").before a0 Z = true := hw _ (List.mem_of_getElem? (i := 20) rfl)
theorem tw_21 {Z : State} {a0 : Array Value} (hw : ∀ d ∈ tables_1, d.before a0 Z = true) : (Jvm.Cond.laysStatic "com/example/roles_over_datacenter/rolesoverdatacenter/ActionGroup" "ATTACH_DISK" "Lcom/example/roles_over_datacenter/rolesoverdatacenter/ActionGroup;").before a0 Z = true := hw _ (List.mem_of_getElem? (i := 21) rfl)
theorem tw_22 {Z : State} {a0 : Array Value} (hw : ∀ d ∈ tables_1, d.before a0 Z = true) : (Jvm.Cond.fieldLink "com/example/roles_over_datacenter/rolesoverdatacenter/RequirementOnSystemPinLaw" (31 : Nat) "com/example/roles_over_datacenter/rolesoverdatacenter/ActionGroup" "CONFIGURE_DISK_STORAGE" "Lcom/example/roles_over_datacenter/rolesoverdatacenter/ActionGroup;").before a0 Z = true := hw _ (List.mem_of_getElem? (i := 22) rfl)
theorem tw_23 {Z : State} {a0 : Array Value} (hw : ∀ d ∈ tables_1, d.before a0 Z = true) : (Jvm.Cond.laysStatic "com/example/roles_over_datacenter/rolesoverdatacenter/ActionGroup" "CONFIGURE_DISK_STORAGE" "Lcom/example/roles_over_datacenter/rolesoverdatacenter/ActionGroup;").before a0 Z = true := hw _ (List.mem_of_getElem? (i := 23) rfl)
theorem tw_24 {Z : State} {a0 : Array Value} (hw : ∀ d ∈ tables_1, d.before a0 Z = true) : (Jvm.Cond.fieldLink "com/example/roles_over_datacenter/rolesoverdatacenter/RequirementOnSystemPinLaw" (34 : Nat) "com/example/roles_over_datacenter/rolesoverdatacenter/ActionGroup" "DELETE_DISK" "Lcom/example/roles_over_datacenter/rolesoverdatacenter/ActionGroup;").before a0 Z = true := hw _ (List.mem_of_getElem? (i := 24) rfl)
theorem tw_25 {Z : State} {a0 : Array Value} (hw : ∀ d ∈ tables_1, d.before a0 Z = true) : (Jvm.Cond.laysStatic "com/example/roles_over_datacenter/rolesoverdatacenter/ActionGroup" "DELETE_DISK" "Lcom/example/roles_over_datacenter/rolesoverdatacenter/ActionGroup;").before a0 Z = true := hw _ (List.mem_of_getElem? (i := 25) rfl)
theorem tw_26 {Z : State} {a0 : Array Value} (hw : ∀ d ∈ tables_1, d.before a0 Z = true) : (Jvm.Cond.fieldLink "com/example/roles_over_datacenter/rolesoverdatacenter/RequirementOnSystemPinLaw" (37 : Nat) "com/example/roles_over_datacenter/rolesoverdatacenter/ActionGroup" "CREATE_TEMPLATE" "Lcom/example/roles_over_datacenter/rolesoverdatacenter/ActionGroup;").before a0 Z = true := hw _ (List.mem_of_getElem? (i := 26) rfl)
theorem tw_27 {Z : State} {a0 : Array Value} (hw : ∀ d ∈ tables_1, d.before a0 Z = true) : (Jvm.Cond.laysStatic "com/example/roles_over_datacenter/rolesoverdatacenter/ActionGroup" "CREATE_TEMPLATE" "Lcom/example/roles_over_datacenter/rolesoverdatacenter/ActionGroup;").before a0 Z = true := hw _ (List.mem_of_getElem? (i := 27) rfl)
theorem tw_28 {Z : State} {a0 : Array Value} (hw : ∀ d ∈ tables_1, d.before a0 Z = true) : (Jvm.Cond.fieldLink "com/example/roles_over_datacenter/rolesoverdatacenter/RequirementOnSystemPinLaw" (40 : Nat) "com/example/roles_over_datacenter/rolesoverdatacenter/ActionGroup" "EDIT_TEMPLATE_PROPERTIES" "Lcom/example/roles_over_datacenter/rolesoverdatacenter/ActionGroup;").before a0 Z = true := hw _ (List.mem_of_getElem? (i := 28) rfl)
theorem tw_29 {Z : State} {a0 : Array Value} (hw : ∀ d ∈ tables_1, d.before a0 Z = true) : (Jvm.Cond.laysStatic "com/example/roles_over_datacenter/rolesoverdatacenter/ActionGroup" "EDIT_TEMPLATE_PROPERTIES" "Lcom/example/roles_over_datacenter/rolesoverdatacenter/ActionGroup;").before a0 Z = true := hw _ (List.mem_of_getElem? (i := 29) rfl)
theorem tw_30 {Z : State} {a0 : Array Value} (hw : ∀ d ∈ tables_1, d.before a0 Z = true) : (Jvm.Cond.fieldLink "com/example/roles_over_datacenter/rolesoverdatacenter/RequirementOnSystemPinLaw" (43 : Nat) "com/example/roles_over_datacenter/rolesoverdatacenter/ActionGroup" "DELETE_TEMPLATE" "Lcom/example/roles_over_datacenter/rolesoverdatacenter/ActionGroup;").before a0 Z = true := hw _ (List.mem_of_getElem? (i := 30) rfl)
theorem tw_31 {Z : State} {a0 : Array Value} (hw : ∀ d ∈ tables_1, d.before a0 Z = true) : (Jvm.Cond.laysStatic "com/example/roles_over_datacenter/rolesoverdatacenter/ActionGroup" "DELETE_TEMPLATE" "Lcom/example/roles_over_datacenter/rolesoverdatacenter/ActionGroup;").before a0 Z = true := hw _ (List.mem_of_getElem? (i := 31) rfl)
theorem tw_32 {Z : State} {a0 : Array Value} (hw : ∀ d ∈ tables_1, d.before a0 Z = true) : (Jvm.Cond.fieldLink "com/example/roles_over_datacenter/rolesoverdatacenter/RequirementOnSystemPinLaw" (46 : Nat) "com/example/roles_over_datacenter/rolesoverdatacenter/ActionGroup" "CONFIGURE_STORAGE_POOL_NETWORK" "Lcom/example/roles_over_datacenter/rolesoverdatacenter/ActionGroup;").before a0 Z = true := hw _ (List.mem_of_getElem? (i := 32) rfl)
theorem tw_33 {Z : State} {a0 : Array Value} (hw : ∀ d ∈ tables_1, d.before a0 Z = true) : (Jvm.Cond.laysStatic "com/example/roles_over_datacenter/rolesoverdatacenter/ActionGroup" "CONFIGURE_STORAGE_POOL_NETWORK" "Lcom/example/roles_over_datacenter/rolesoverdatacenter/ActionGroup;").before a0 Z = true := hw _ (List.mem_of_getElem? (i := 33) rfl)
theorem tw_34 {Z : State} {a0 : Array Value} (hw : ∀ d ∈ tables_1, d.before a0 Z = true) : (Jvm.Cond.fieldLink "com/example/roles_over_datacenter/rolesoverdatacenter/RequirementOnSystemPinLaw" (49 : Nat) "com/example/roles_over_datacenter/rolesoverdatacenter/ActionGroup" "CONFIGURE_CLUSTER_NETWORK" "Lcom/example/roles_over_datacenter/rolesoverdatacenter/ActionGroup;").before a0 Z = true := hw _ (List.mem_of_getElem? (i := 34) rfl)
theorem tw_35 {Z : State} {a0 : Array Value} (hw : ∀ d ∈ tables_1, d.before a0 Z = true) : (Jvm.Cond.laysStatic "com/example/roles_over_datacenter/rolesoverdatacenter/ActionGroup" "CONFIGURE_CLUSTER_NETWORK" "Lcom/example/roles_over_datacenter/rolesoverdatacenter/ActionGroup;").before a0 Z = true := hw _ (List.mem_of_getElem? (i := 35) rfl)
theorem tw_36 {Z : State} {a0 : Array Value} (hw : ∀ d ∈ tables_1, d.before a0 Z = true) : (Jvm.Cond.fieldLink "com/example/roles_over_datacenter/rolesoverdatacenter/RequirementOnSystemPinLaw" (52 : Nat) "com/example/roles_over_datacenter/rolesoverdatacenter/ActionGroup" "MANAGE_CLUSTER_NETWORK" "Lcom/example/roles_over_datacenter/rolesoverdatacenter/ActionGroup;").before a0 Z = true := hw _ (List.mem_of_getElem? (i := 36) rfl)
theorem tw_37 {Z : State} {a0 : Array Value} (hw : ∀ d ∈ tables_1, d.before a0 Z = true) : (Jvm.Cond.laysStatic "com/example/roles_over_datacenter/rolesoverdatacenter/ActionGroup" "MANAGE_CLUSTER_NETWORK" "Lcom/example/roles_over_datacenter/rolesoverdatacenter/ActionGroup;").before a0 Z = true := hw _ (List.mem_of_getElem? (i := 37) rfl)
theorem tw_38 {Z : State} {a0 : Array Value} (hw : ∀ d ∈ tables_1, d.before a0 Z = true) : (Jvm.Cond.fieldLink "com/example/roles_over_datacenter/rolesoverdatacenter/RequirementOnSystemPinLaw" (55 : Nat) "com/example/roles_over_datacenter/rolesoverdatacenter/ActionGroup" "CONFIGURE_HOST_NETWORK" "Lcom/example/roles_over_datacenter/rolesoverdatacenter/ActionGroup;").before a0 Z = true := hw _ (List.mem_of_getElem? (i := 38) rfl)
theorem tw_39 {Z : State} {a0 : Array Value} (hw : ∀ d ∈ tables_1, d.before a0 Z = true) : (Jvm.Cond.laysStatic "com/example/roles_over_datacenter/rolesoverdatacenter/ActionGroup" "CONFIGURE_HOST_NETWORK" "Lcom/example/roles_over_datacenter/rolesoverdatacenter/ActionGroup;").before a0 Z = true := hw _ (List.mem_of_getElem? (i := 39) rfl)
theorem tw_40 {Z : State} {a0 : Array Value} (hw : ∀ d ∈ tables_1, d.before a0 Z = true) : (Jvm.Cond.fieldLink "com/example/roles_over_datacenter/rolesoverdatacenter/RequirementOnSystemPinLaw" (58 : Nat) "com/example/roles_over_datacenter/rolesoverdatacenter/ActionGroup" "MANIPULATE_HOST" "Lcom/example/roles_over_datacenter/rolesoverdatacenter/ActionGroup;").before a0 Z = true := hw _ (List.mem_of_getElem? (i := 40) rfl)
theorem tw_41 {Z : State} {a0 : Array Value} (hw : ∀ d ∈ tables_1, d.before a0 Z = true) : (Jvm.Cond.laysStatic "com/example/roles_over_datacenter/rolesoverdatacenter/ActionGroup" "MANIPULATE_HOST" "Lcom/example/roles_over_datacenter/rolesoverdatacenter/ActionGroup;").before a0 Z = true := hw _ (List.mem_of_getElem? (i := 41) rfl)
theorem tw_42 {Z : State} {a0 : Array Value} (hw : ∀ d ∈ tables_1, d.before a0 Z = true) : (Jvm.Cond.fieldLink "com/example/roles_over_datacenter/rolesoverdatacenter/RequirementOnSystemPinLaw" (61 : Nat) "com/example/roles_over_datacenter/rolesoverdatacenter/ActionGroup" "CONFIGURE_VM_NETWORK" "Lcom/example/roles_over_datacenter/rolesoverdatacenter/ActionGroup;").before a0 Z = true := hw _ (List.mem_of_getElem? (i := 42) rfl)
theorem tw_43 {Z : State} {a0 : Array Value} (hw : ∀ d ∈ tables_1, d.before a0 Z = true) : (Jvm.Cond.laysStatic "com/example/roles_over_datacenter/rolesoverdatacenter/ActionGroup" "CONFIGURE_VM_NETWORK" "Lcom/example/roles_over_datacenter/rolesoverdatacenter/ActionGroup;").before a0 Z = true := hw _ (List.mem_of_getElem? (i := 43) rfl)
theorem tw_44 {Z : State} {a0 : Array Value} (hw : ∀ d ∈ tables_1, d.before a0 Z = true) : (Jvm.Cond.fieldLink "com/example/roles_over_datacenter/rolesoverdatacenter/RequirementOnSystemPinLaw" (64 : Nat) "com/example/roles_over_datacenter/rolesoverdatacenter/ActionGroup" "CONFIGURE_TEMPLATE_NETWORK" "Lcom/example/roles_over_datacenter/rolesoverdatacenter/ActionGroup;").before a0 Z = true := hw _ (List.mem_of_getElem? (i := 44) rfl)
theorem tw_45 {Z : State} {a0 : Array Value} (hw : ∀ d ∈ tables_1, d.before a0 Z = true) : (Jvm.Cond.laysStatic "com/example/roles_over_datacenter/rolesoverdatacenter/ActionGroup" "CONFIGURE_TEMPLATE_NETWORK" "Lcom/example/roles_over_datacenter/rolesoverdatacenter/ActionGroup;").before a0 Z = true := hw _ (List.mem_of_getElem? (i := 45) rfl)
theorem tw_46 {Z : State} {a0 : Array Value} (hw : ∀ d ∈ tables_1, d.before a0 Z = true) : (Jvm.Cond.fieldLink "com/example/roles_over_datacenter/rolesoverdatacenter/RequirementOnSystemPinLaw" (67 : Nat) "com/example/roles_over_datacenter/rolesoverdatacenter/ActionGroup" "PORT_MIRRORING" "Lcom/example/roles_over_datacenter/rolesoverdatacenter/ActionGroup;").before a0 Z = true := hw _ (List.mem_of_getElem? (i := 46) rfl)
theorem tw_47 {Z : State} {a0 : Array Value} (hw : ∀ d ∈ tables_1, d.before a0 Z = true) : (Jvm.Cond.laysStatic "com/example/roles_over_datacenter/rolesoverdatacenter/ActionGroup" "PORT_MIRRORING" "Lcom/example/roles_over_datacenter/rolesoverdatacenter/ActionGroup;").before a0 Z = true := hw _ (List.mem_of_getElem? (i := 47) rfl)
theorem tw_48 {Z : State} {a0 : Array Value} (hw : ∀ d ∈ tables_1, d.before a0 Z = true) : (Jvm.Cond.fieldLink "com/example/roles_over_datacenter/rolesoverdatacenter/RequirementOnSystemPinLaw" (70 : Nat) "com/example/roles_over_datacenter/rolesoverdatacenter/ActionGroup" "MANIPULATE_PERMISSIONS" "Lcom/example/roles_over_datacenter/rolesoverdatacenter/ActionGroup;").before a0 Z = true := hw _ (List.mem_of_getElem? (i := 48) rfl)
theorem tw_49 {Z : State} {a0 : Array Value} (hw : ∀ d ∈ tables_1, d.before a0 Z = true) : (Jvm.Cond.laysStatic "com/example/roles_over_datacenter/rolesoverdatacenter/ActionGroup" "MANIPULATE_PERMISSIONS" "Lcom/example/roles_over_datacenter/rolesoverdatacenter/ActionGroup;").before a0 Z = true := hw _ (List.mem_of_getElem? (i := 49) rfl)
theorem tw_50 {Z : State} {a0 : Array Value} (hw : ∀ d ∈ tables_1, d.before a0 Z = true) : (Jvm.Cond.fieldLink "com/example/roles_over_datacenter/rolesoverdatacenter/RequirementOnSystemPinLaw" (73 : Nat) "com/example/roles_over_datacenter/rolesoverdatacenter/ActionGroup" "MANIPULATE_ROLES" "Lcom/example/roles_over_datacenter/rolesoverdatacenter/ActionGroup;").before a0 Z = true := hw _ (List.mem_of_getElem? (i := 50) rfl)
theorem tw_51 {Z : State} {a0 : Array Value} (hw : ∀ d ∈ tables_1, d.before a0 Z = true) : (Jvm.Cond.laysStatic "com/example/roles_over_datacenter/rolesoverdatacenter/ActionGroup" "MANIPULATE_ROLES" "Lcom/example/roles_over_datacenter/rolesoverdatacenter/ActionGroup;").before a0 Z = true := hw _ (List.mem_of_getElem? (i := 51) rfl)
theorem tw_52 {Z : State} {a0 : Array Value} (hw : ∀ d ∈ tables_1, d.before a0 Z = true) : (Jvm.Cond.constant "com/example/roles_over_datacenter/rolesoverdatacenter/RequirementOnSystemPinLaw" (76 : Nat) (2147483647 : Int32)).before a0 Z = true := hw _ (List.mem_of_getElem? (i := 52) rfl)
theorem tw_53 {Z : State} {a0 : Array Value} (hw : ∀ d ∈ tables_1, d.before a0 Z = true) : (Jvm.Cond.methodLink "com/example/roles_over_datacenter/rolesoverdatacenter/RequirementOnSystemPinLaw" (83 : Nat) ({ cls := "com/example/roles_over_datacenter/rolesoverdatacenter/Action$Requirement", name := "onSystem", desc := "(Lcom/example/roles_over_datacenter/rolesoverdatacenter/ActionGroup;)Lcom/example/roles_over_datacenter/rolesoverdatacenter/Action$Requirement;" } : Jvm.MethodName)).before a0 Z = true := hw _ (List.mem_of_getElem? (i := 53) rfl)
theorem tw_54 {Z : State} {a0 : Array Value} (hw : ∀ d ∈ tables_1, d.before a0 Z = true) : (Jvm.Cond.static ({ cls := "com/example/roles_over_datacenter/rolesoverdatacenter/Action$Requirement", name := "onSystem", desc := "(Lcom/example/roles_over_datacenter/rolesoverdatacenter/ActionGroup;)Lcom/example/roles_over_datacenter/rolesoverdatacenter/Action$Requirement;" } : Jvm.MethodName)).before a0 Z = true := hw _ (List.mem_of_getElem? (i := 54) rfl)
theorem tw_55 {Z : State} {a0 : Array Value} (hw : ∀ d ∈ tables_1, d.before a0 Z = true) : (Jvm.Cond.initialized "com/example/roles_over_datacenter/rolesoverdatacenter/Action$Requirement").before a0 Z = true := hw _ (List.mem_of_getElem? (i := 55) rfl)
theorem tw_56 {Z : State} {a0 : Array Value} (hw : ∀ d ∈ tables_1, d.before a0 Z = true) : (Jvm.Cond.code ({ cls := "com/example/roles_over_datacenter/rolesoverdatacenter/Action$Requirement", name := "onSystem", desc := "(Lcom/example/roles_over_datacenter/rolesoverdatacenter/ActionGroup;)Lcom/example/roles_over_datacenter/rolesoverdatacenter/Action$Requirement;" } : Jvm.MethodName) prog_5_method_3_code (1 : Nat) (Option.some (Jvm.ClassFile.FieldType.object "com/example/roles_over_datacenter/rolesoverdatacenter/Action$Requirement"))).before a0 Z = true := hw _ (List.mem_of_getElem? (i := 56) rfl)
theorem tw_57 {Z : State} {a0 : Array Value} (hw : ∀ d ∈ tables_1, d.before a0 Z = true) : (Jvm.Cond.classLink "com/example/roles_over_datacenter/rolesoverdatacenter/Action$Requirement" (8 : Nat) "com/example/roles_over_datacenter/rolesoverdatacenter/Action$Requirement").before a0 Z = true := hw _ (List.mem_of_getElem? (i := 57) rfl)
theorem tw_58 {Z : State} {a0 : Array Value} (hw : ∀ d ∈ tables_1, d.before a0 Z = true) : (Jvm.Cond.instantiable "com/example/roles_over_datacenter/rolesoverdatacenter/Action$Requirement" (4 : Nat)).before a0 Z = true := hw _ (List.mem_of_getElem? (i := 58) rfl)
theorem tw_59 {Z : State} {a0 : Array Value} (hw : ∀ d ∈ tables_1, d.before a0 Z = true) : (Jvm.Cond.fieldLink "com/example/roles_over_datacenter/rolesoverdatacenter/Action$Requirement" (32 : Nat) "com/example/roles_over_datacenter/rolesoverdatacenter/Action$Reach" "SYSTEM" "Lcom/example/roles_over_datacenter/rolesoverdatacenter/Action$Reach;").before a0 Z = true := hw _ (List.mem_of_getElem? (i := 59) rfl)
theorem tw_60 {Z : State} {a0 : Array Value} (hw : ∀ d ∈ tables_1, d.before a0 Z = true) : (Jvm.Cond.initialized "com/example/roles_over_datacenter/rolesoverdatacenter/Action$Reach").before a0 Z = true := hw _ (List.mem_of_getElem? (i := 60) rfl)
theorem tw_61 {Z : State} {a0 : Array Value} (hw : ∀ d ∈ tables_1, d.before a0 Z = true) : (Jvm.Cond.laysStatic "com/example/roles_over_datacenter/rolesoverdatacenter/Action$Reach" "SYSTEM" "Lcom/example/roles_over_datacenter/rolesoverdatacenter/Action$Reach;").before a0 Z = true := hw _ (List.mem_of_getElem? (i := 61) rfl)
theorem tw_62 {Z : State} {a0 : Array Value} (hw : ∀ d ∈ tables_1, d.before a0 Z = true) : (Jvm.Cond.methodLink "com/example/roles_over_datacenter/rolesoverdatacenter/Action$Requirement" (29 : Nat) ({ cls := "com/example/roles_over_datacenter/rolesoverdatacenter/Action$Requirement", name := "<init>", desc := "(Lcom/example/roles_over_datacenter/rolesoverdatacenter/Action$Parameter;Lcom/example/roles_over_datacenter/rolesoverdatacenter/Action$Reach;Lcom/example/roles_over_datacenter/rolesoverdatacenter/ActionGroup;Lcom/example/roles_over_datacenter/rolesoverdatacenter/Action$Parameter;)V" } : Jvm.MethodName)).before a0 Z = true := hw _ (List.mem_of_getElem? (i := 62) rfl)
theorem tw_63 {Z : State} {a0 : Array Value} (hw : ∀ d ∈ tables_1, d.before a0 Z = true) : (Jvm.Cond.instanceMethod ({ cls := "com/example/roles_over_datacenter/rolesoverdatacenter/Action$Requirement", name := "<init>", desc := "(Lcom/example/roles_over_datacenter/rolesoverdatacenter/Action$Parameter;Lcom/example/roles_over_datacenter/rolesoverdatacenter/Action$Reach;Lcom/example/roles_over_datacenter/rolesoverdatacenter/ActionGroup;Lcom/example/roles_over_datacenter/rolesoverdatacenter/Action$Parameter;)V" } : Jvm.MethodName)).before a0 Z = true := hw _ (List.mem_of_getElem? (i := 63) rfl)
theorem tw_64 {Z : State} {a0 : Array Value} (hw : ∀ d ∈ tables_1, d.before a0 Z = true) : (Jvm.Cond.code ({ cls := "com/example/roles_over_datacenter/rolesoverdatacenter/Action$Requirement", name := "<init>", desc := "(Lcom/example/roles_over_datacenter/rolesoverdatacenter/Action$Parameter;Lcom/example/roles_over_datacenter/rolesoverdatacenter/Action$Reach;Lcom/example/roles_over_datacenter/rolesoverdatacenter/ActionGroup;Lcom/example/roles_over_datacenter/rolesoverdatacenter/Action$Parameter;)V" } : Jvm.MethodName) prog_5_method_1_code (5 : Nat) (Option.none : Option Jvm.ClassFile.FieldType)).before a0 Z = true := hw _ (List.mem_of_getElem? (i := 64) rfl)
theorem tw_65 {Z : State} {a0 : Array Value} (hw : ∀ d ∈ tables_1, d.before a0 Z = true) : (Jvm.Cond.methodLink "com/example/roles_over_datacenter/rolesoverdatacenter/Action$Requirement" (1 : Nat) ({ cls := "java/lang/Record", name := "<init>", desc := "()V" } : Jvm.MethodName)).before a0 Z = true := hw _ (List.mem_of_getElem? (i := 65) rfl)
theorem tw_66 {Z : State} {a0 : Array Value} (hw : ∀ d ∈ tables_1, d.before a0 Z = true) : (Jvm.Cond.instanceMethod ({ cls := "java/lang/Record", name := "<init>", desc := "()V" } : Jvm.MethodName)).before a0 Z = true := hw _ (List.mem_of_getElem? (i := 66) rfl)
theorem tw_68 {Z : State} {a0 : Array Value} (hw : ∀ d ∈ tables_1, d.before a0 Z = true) : (Jvm.Cond.initialized "java/lang/Record").before a0 Z = true := hw _ (List.mem_of_getElem? (i := 68) rfl)
theorem tw_69 {Z : State} {a0 : Array Value} (hw : ∀ d ∈ tables_1, d.before a0 Z = true) : (Jvm.Cond.code ({ cls := "java/lang/Record", name := "<init>", desc := "()V" } : Jvm.MethodName) jdk_30_method_1_code (1 : Nat) (Option.none : Option Jvm.ClassFile.FieldType)).before a0 Z = true := hw _ (List.mem_of_getElem? (i := 69) rfl)
theorem tw_70 {Z : State} {a0 : Array Value} (hw : ∀ d ∈ tables_1, d.before a0 Z = true) : (Jvm.Cond.methodLink "java/lang/Record" (1 : Nat) ({ cls := "java/lang/Object", name := "<init>", desc := "()V" } : Jvm.MethodName)).before a0 Z = true := hw _ (List.mem_of_getElem? (i := 70) rfl)
theorem tw_71 {Z : State} {a0 : Array Value} (hw : ∀ d ∈ tables_1, d.before a0 Z = true) : (Jvm.Cond.instanceMethod ({ cls := "java/lang/Object", name := "<init>", desc := "()V" } : Jvm.MethodName)).before a0 Z = true := hw _ (List.mem_of_getElem? (i := 71) rfl)
theorem tw_72 {Z : State} {a0 : Array Value} (hw : ∀ d ∈ tables_1, d.before a0 Z = true) : (Jvm.Cond.code ({ cls := "java/lang/Object", name := "<init>", desc := "()V" } : Jvm.MethodName) object_method_1_code (1 : Nat) (Option.none : Option Jvm.ClassFile.FieldType)).before a0 Z = true := hw _ (List.mem_of_getElem? (i := 72) rfl)
theorem tw_73 {Z : State} {a0 : Array Value} (hw : ∀ d ∈ tables_1, d.before a0 Z = true) : (Jvm.Cond.fieldLink "com/example/roles_over_datacenter/rolesoverdatacenter/Action$Requirement" (7 : Nat) "com/example/roles_over_datacenter/rolesoverdatacenter/Action$Requirement" "parameter" "Lcom/example/roles_over_datacenter/rolesoverdatacenter/Action$Parameter;").before a0 Z = true := hw _ (List.mem_of_getElem? (i := 73) rfl)
theorem tw_74 {Z : State} {a0 : Array Value} (hw : ∀ d ∈ tables_1, d.before a0 Z = true) : (Jvm.Cond.laysFinal "com/example/roles_over_datacenter/rolesoverdatacenter/Action$Requirement" "com/example/roles_over_datacenter/rolesoverdatacenter/Action$Requirement" "parameter" "Lcom/example/roles_over_datacenter/rolesoverdatacenter/Action$Parameter;").before a0 Z = true := hw _ (List.mem_of_getElem? (i := 74) rfl)
theorem tw_75 {Z : State} {a0 : Array Value} (hw : ∀ d ∈ tables_1, d.before a0 Z = true) : (Jvm.Cond.fieldLink "com/example/roles_over_datacenter/rolesoverdatacenter/Action$Requirement" (13 : Nat) "com/example/roles_over_datacenter/rolesoverdatacenter/Action$Requirement" "reach" "Lcom/example/roles_over_datacenter/rolesoverdatacenter/Action$Reach;").before a0 Z = true := hw _ (List.mem_of_getElem? (i := 75) rfl)
theorem tw_76 {Z : State} {a0 : Array Value} (hw : ∀ d ∈ tables_1, d.before a0 Z = true) : (Jvm.Cond.laysFinal "com/example/roles_over_datacenter/rolesoverdatacenter/Action$Requirement" "com/example/roles_over_datacenter/rolesoverdatacenter/Action$Requirement" "reach" "Lcom/example/roles_over_datacenter/rolesoverdatacenter/Action$Reach;").before a0 Z = true := hw _ (List.mem_of_getElem? (i := 76) rfl)
theorem tw_77 {Z : State} {a0 : Array Value} (hw : ∀ d ∈ tables_1, d.before a0 Z = true) : (Jvm.Cond.fieldLink "com/example/roles_over_datacenter/rolesoverdatacenter/Action$Requirement" (17 : Nat) "com/example/roles_over_datacenter/rolesoverdatacenter/Action$Requirement" "actionGroup" "Lcom/example/roles_over_datacenter/rolesoverdatacenter/ActionGroup;").before a0 Z = true := hw _ (List.mem_of_getElem? (i := 77) rfl)
theorem tw_78 {Z : State} {a0 : Array Value} (hw : ∀ d ∈ tables_1, d.before a0 Z = true) : (Jvm.Cond.laysFinal "com/example/roles_over_datacenter/rolesoverdatacenter/Action$Requirement" "com/example/roles_over_datacenter/rolesoverdatacenter/Action$Requirement" "actionGroup" "Lcom/example/roles_over_datacenter/rolesoverdatacenter/ActionGroup;").before a0 Z = true := hw _ (List.mem_of_getElem? (i := 78) rfl)
theorem tw_79 {Z : State} {a0 : Array Value} (hw : ∀ d ∈ tables_1, d.before a0 Z = true) : (Jvm.Cond.fieldLink "com/example/roles_over_datacenter/rolesoverdatacenter/Action$Requirement" (21 : Nat) "com/example/roles_over_datacenter/rolesoverdatacenter/Action$Requirement" "flag" "Lcom/example/roles_over_datacenter/rolesoverdatacenter/Action$Parameter;").before a0 Z = true := hw _ (List.mem_of_getElem? (i := 79) rfl)
theorem tw_80 {Z : State} {a0 : Array Value} (hw : ∀ d ∈ tables_1, d.before a0 Z = true) : (Jvm.Cond.laysFinal "com/example/roles_over_datacenter/rolesoverdatacenter/Action$Requirement" "com/example/roles_over_datacenter/rolesoverdatacenter/Action$Requirement" "flag" "Lcom/example/roles_over_datacenter/rolesoverdatacenter/Action$Parameter;").before a0 Z = true := hw _ (List.mem_of_getElem? (i := 80) rfl)
theorem tw_81 {Z : State} {a0 : Array Value} (hw : ∀ d ∈ tables_1, d.before a0 Z = true) : (Jvm.Cond.methodLink "com/example/roles_over_datacenter/rolesoverdatacenter/RequirementOnSystemPinLaw" (89 : Nat) ({ cls := "com/example/roles_over_datacenter/rolesoverdatacenter/Action$Requirement", name := "parameter", desc := "()Lcom/example/roles_over_datacenter/rolesoverdatacenter/Action$Parameter;" } : Jvm.MethodName)).before a0 Z = true := hw _ (List.mem_of_getElem? (i := 81) rfl)
theorem tw_82 {Z : State} {a0 : Array Value} (hw : ∀ d ∈ tables_1, d.before a0 Z = true) : (Jvm.Cond.declares ({ cls := "com/example/roles_over_datacenter/rolesoverdatacenter/Action$Requirement", name := "parameter", desc := "()Lcom/example/roles_over_datacenter/rolesoverdatacenter/Action$Parameter;" } : Jvm.MethodName)).before a0 Z = true := hw _ (List.mem_of_getElem? (i := 82) rfl)
theorem tw_83 {Z : State} {a0 : Array Value} (hw : ∀ d ∈ tables_1, d.before a0 Z = true) : (Jvm.Cond.instanceMethod ({ cls := "com/example/roles_over_datacenter/rolesoverdatacenter/Action$Requirement", name := "parameter", desc := "()Lcom/example/roles_over_datacenter/rolesoverdatacenter/Action$Parameter;" } : Jvm.MethodName)).before a0 Z = true := hw _ (List.mem_of_getElem? (i := 83) rfl)
theorem tw_84 {Z : State} {a0 : Array Value} (hw : ∀ d ∈ tables_1, d.before a0 Z = true) : (Jvm.Cond.selects "com/example/roles_over_datacenter/rolesoverdatacenter/Action$Requirement" ({ cls := "com/example/roles_over_datacenter/rolesoverdatacenter/Action$Requirement", name := "parameter", desc := "()Lcom/example/roles_over_datacenter/rolesoverdatacenter/Action$Parameter;" } : Jvm.MethodName) ({ cls := "com/example/roles_over_datacenter/rolesoverdatacenter/Action$Requirement", name := "parameter", desc := "()Lcom/example/roles_over_datacenter/rolesoverdatacenter/Action$Parameter;" } : Jvm.MethodName)).before a0 Z = true := hw _ (List.mem_of_getElem? (i := 84) rfl)
theorem tw_85 {Z : State} {a0 : Array Value} (hw : ∀ d ∈ tables_1, d.before a0 Z = true) : (Jvm.Cond.code ({ cls := "com/example/roles_over_datacenter/rolesoverdatacenter/Action$Requirement", name := "parameter", desc := "()Lcom/example/roles_over_datacenter/rolesoverdatacenter/Action$Parameter;" } : Jvm.MethodName) prog_5_method_10_code (1 : Nat) (Option.some (Jvm.ClassFile.FieldType.object "com/example/roles_over_datacenter/rolesoverdatacenter/Action$Parameter"))).before a0 Z = true := hw _ (List.mem_of_getElem? (i := 85) rfl)
theorem tw_86 {Z : State} {a0 : Array Value} (hw : ∀ d ∈ tables_1, d.before a0 Z = true) : (Jvm.Cond.methodLink "com/example/roles_over_datacenter/rolesoverdatacenter/RequirementOnSystemPinLaw" (93 : Nat) ({ cls := "com/example/roles_over_datacenter/rolesoverdatacenter/Action$Requirement", name := "reach", desc := "()Lcom/example/roles_over_datacenter/rolesoverdatacenter/Action$Reach;" } : Jvm.MethodName)).before a0 Z = true := hw _ (List.mem_of_getElem? (i := 86) rfl)
theorem tw_87 {Z : State} {a0 : Array Value} (hw : ∀ d ∈ tables_1, d.before a0 Z = true) : (Jvm.Cond.declares ({ cls := "com/example/roles_over_datacenter/rolesoverdatacenter/Action$Requirement", name := "reach", desc := "()Lcom/example/roles_over_datacenter/rolesoverdatacenter/Action$Reach;" } : Jvm.MethodName)).before a0 Z = true := hw _ (List.mem_of_getElem? (i := 87) rfl)
theorem tw_88 {Z : State} {a0 : Array Value} (hw : ∀ d ∈ tables_1, d.before a0 Z = true) : (Jvm.Cond.instanceMethod ({ cls := "com/example/roles_over_datacenter/rolesoverdatacenter/Action$Requirement", name := "reach", desc := "()Lcom/example/roles_over_datacenter/rolesoverdatacenter/Action$Reach;" } : Jvm.MethodName)).before a0 Z = true := hw _ (List.mem_of_getElem? (i := 88) rfl)
theorem tw_89 {Z : State} {a0 : Array Value} (hw : ∀ d ∈ tables_1, d.before a0 Z = true) : (Jvm.Cond.selects "com/example/roles_over_datacenter/rolesoverdatacenter/Action$Requirement" ({ cls := "com/example/roles_over_datacenter/rolesoverdatacenter/Action$Requirement", name := "reach", desc := "()Lcom/example/roles_over_datacenter/rolesoverdatacenter/Action$Reach;" } : Jvm.MethodName) ({ cls := "com/example/roles_over_datacenter/rolesoverdatacenter/Action$Requirement", name := "reach", desc := "()Lcom/example/roles_over_datacenter/rolesoverdatacenter/Action$Reach;" } : Jvm.MethodName)).before a0 Z = true := hw _ (List.mem_of_getElem? (i := 89) rfl)
theorem tw_90 {Z : State} {a0 : Array Value} (hw : ∀ d ∈ tables_1, d.before a0 Z = true) : (Jvm.Cond.code ({ cls := "com/example/roles_over_datacenter/rolesoverdatacenter/Action$Requirement", name := "reach", desc := "()Lcom/example/roles_over_datacenter/rolesoverdatacenter/Action$Reach;" } : Jvm.MethodName) prog_5_method_11_code (1 : Nat) (Option.some (Jvm.ClassFile.FieldType.object "com/example/roles_over_datacenter/rolesoverdatacenter/Action$Reach"))).before a0 Z = true := hw _ (List.mem_of_getElem? (i := 90) rfl)
theorem tw_91 {Z : State} {a0 : Array Value} (hw : ∀ d ∈ tables_1, d.before a0 Z = true) : (Jvm.Cond.fieldLink "com/example/roles_over_datacenter/rolesoverdatacenter/RequirementOnSystemPinLaw" (97 : Nat) "com/example/roles_over_datacenter/rolesoverdatacenter/Action$Reach" "SYSTEM" "Lcom/example/roles_over_datacenter/rolesoverdatacenter/Action$Reach;").before a0 Z = true := hw _ (List.mem_of_getElem? (i := 91) rfl)
theorem tw_92 {Z : State} {a0 : Array Value} (hw : ∀ d ∈ tables_1, d.before a0 Z = true) : (Jvm.Cond.methodLink "com/example/roles_over_datacenter/rolesoverdatacenter/RequirementOnSystemPinLaw" (103 : Nat) ({ cls := "com/example/roles_over_datacenter/rolesoverdatacenter/Action$Requirement", name := "actionGroup", desc := "()Lcom/example/roles_over_datacenter/rolesoverdatacenter/ActionGroup;" } : Jvm.MethodName)).before a0 Z = true := hw _ (List.mem_of_getElem? (i := 92) rfl)
theorem tw_93 {Z : State} {a0 : Array Value} (hw : ∀ d ∈ tables_1, d.before a0 Z = true) : (Jvm.Cond.declares ({ cls := "com/example/roles_over_datacenter/rolesoverdatacenter/Action$Requirement", name := "actionGroup", desc := "()Lcom/example/roles_over_datacenter/rolesoverdatacenter/ActionGroup;" } : Jvm.MethodName)).before a0 Z = true := hw _ (List.mem_of_getElem? (i := 93) rfl)
theorem tw_94 {Z : State} {a0 : Array Value} (hw : ∀ d ∈ tables_1, d.before a0 Z = true) : (Jvm.Cond.instanceMethod ({ cls := "com/example/roles_over_datacenter/rolesoverdatacenter/Action$Requirement", name := "actionGroup", desc := "()Lcom/example/roles_over_datacenter/rolesoverdatacenter/ActionGroup;" } : Jvm.MethodName)).before a0 Z = true := hw _ (List.mem_of_getElem? (i := 94) rfl)
theorem tw_95 {Z : State} {a0 : Array Value} (hw : ∀ d ∈ tables_1, d.before a0 Z = true) : (Jvm.Cond.selects "com/example/roles_over_datacenter/rolesoverdatacenter/Action$Requirement" ({ cls := "com/example/roles_over_datacenter/rolesoverdatacenter/Action$Requirement", name := "actionGroup", desc := "()Lcom/example/roles_over_datacenter/rolesoverdatacenter/ActionGroup;" } : Jvm.MethodName) ({ cls := "com/example/roles_over_datacenter/rolesoverdatacenter/Action$Requirement", name := "actionGroup", desc := "()Lcom/example/roles_over_datacenter/rolesoverdatacenter/ActionGroup;" } : Jvm.MethodName)).before a0 Z = true := hw _ (List.mem_of_getElem? (i := 95) rfl)
theorem tw_96 {Z : State} {a0 : Array Value} (hw : ∀ d ∈ tables_1, d.before a0 Z = true) : (Jvm.Cond.code ({ cls := "com/example/roles_over_datacenter/rolesoverdatacenter/Action$Requirement", name := "actionGroup", desc := "()Lcom/example/roles_over_datacenter/rolesoverdatacenter/ActionGroup;" } : Jvm.MethodName) prog_5_method_12_code (1 : Nat) (Option.some (Jvm.ClassFile.FieldType.object "com/example/roles_over_datacenter/rolesoverdatacenter/ActionGroup"))).before a0 Z = true := hw _ (List.mem_of_getElem? (i := 96) rfl)
theorem tw_97 {Z : State} {a0 : Array Value} (hw : ∀ d ∈ tables_1, d.before a0 Z = true) : (Jvm.Cond.methodLink "com/example/roles_over_datacenter/rolesoverdatacenter/RequirementOnSystemPinLaw" (107 : Nat) ({ cls := "com/example/roles_over_datacenter/rolesoverdatacenter/Action$Requirement", name := "flag", desc := "()Lcom/example/roles_over_datacenter/rolesoverdatacenter/Action$Parameter;" } : Jvm.MethodName)).before a0 Z = true := hw _ (List.mem_of_getElem? (i := 97) rfl)
theorem tw_98 {Z : State} {a0 : Array Value} (hw : ∀ d ∈ tables_1, d.before a0 Z = true) : (Jvm.Cond.declares ({ cls := "com/example/roles_over_datacenter/rolesoverdatacenter/Action$Requirement", name := "flag", desc := "()Lcom/example/roles_over_datacenter/rolesoverdatacenter/Action$Parameter;" } : Jvm.MethodName)).before a0 Z = true := hw _ (List.mem_of_getElem? (i := 98) rfl)
theorem tw_99 {Z : State} {a0 : Array Value} (hw : ∀ d ∈ tables_1, d.before a0 Z = true) : (Jvm.Cond.instanceMethod ({ cls := "com/example/roles_over_datacenter/rolesoverdatacenter/Action$Requirement", name := "flag", desc := "()Lcom/example/roles_over_datacenter/rolesoverdatacenter/Action$Parameter;" } : Jvm.MethodName)).before a0 Z = true := hw _ (List.mem_of_getElem? (i := 99) rfl)
theorem tw_100 {Z : State} {a0 : Array Value} (hw : ∀ d ∈ tables_1, d.before a0 Z = true) : (Jvm.Cond.selects "com/example/roles_over_datacenter/rolesoverdatacenter/Action$Requirement" ({ cls := "com/example/roles_over_datacenter/rolesoverdatacenter/Action$Requirement", name := "flag", desc := "()Lcom/example/roles_over_datacenter/rolesoverdatacenter/Action$Parameter;" } : Jvm.MethodName) ({ cls := "com/example/roles_over_datacenter/rolesoverdatacenter/Action$Requirement", name := "flag", desc := "()Lcom/example/roles_over_datacenter/rolesoverdatacenter/Action$Parameter;" } : Jvm.MethodName)).before a0 Z = true := hw _ (List.mem_of_getElem? (i := 100) rfl)
theorem tw_101 {Z : State} {a0 : Array Value} (hw : ∀ d ∈ tables_1, d.before a0 Z = true) : (Jvm.Cond.code ({ cls := "com/example/roles_over_datacenter/rolesoverdatacenter/Action$Requirement", name := "flag", desc := "()Lcom/example/roles_over_datacenter/rolesoverdatacenter/Action$Parameter;" } : Jvm.MethodName) prog_5_method_13_code (1 : Nat) (Option.some (Jvm.ClassFile.FieldType.object "com/example/roles_over_datacenter/rolesoverdatacenter/Action$Parameter"))).before a0 Z = true := hw _ (List.mem_of_getElem? (i := 101) rfl)
section OwnStart
variable {args : Array Value} {first s : State} {o : Option Outcome} {idx : List Nat} {t : Term}
end OwnStart

section OwnAuto
theorem own_rand {x m z : Int32} {k : Int} (h : (x &&& m) = z) (hm : 0 ≤ m.toInt ∧ m.toInt = k) : 0 ≤ z.toInt ∧ z.toInt ≤ k := by subst h; have := c_and x m hm.1; omega
theorem own_rrem {x y z : Int32} {d a b B : Int} (h : (x % y) = z) (hy : y.toInt = d) (hd : 0 < d) (hr : a ≤ x.toInt ∧ x.toInt ≤ b) (ha : 0 ≤ a) (hB : d = B + 1) : 0 ≤ z.toInt ∧ z.toInt ≤ B := by
  subst h
  have e := (c_irem x y d hy).1 (by omega)
  rw [e]
  have h1 := Int.emod_nonneg x.toInt (by omega : d ≠ 0)
  have h2 := Int.emod_lt_of_pos x.toInt hd
  omega
end OwnAuto

def Glob (Z : State) (u0 : Addr) (u1 : Addr) (u2 : Addr) (u3 : Addr) (u4 : Addr) (u5 : Addr) (u6 : Addr) (u7 : Addr) (u8 : Addr) (u9 : Addr) (u10 : Addr) (u11 : Addr) (u12 : Addr) (u13 : Addr) (u14 : Addr) (u15 : Addr) (u16 : Addr) (u17 : Addr) (u18 : Addr) (u19 : Addr) (u20 : Addr) (u21 : Addr) (ury : Addr) : Prop := Sta Z Z.heap "com/example/roles_over_datacenter/rolesoverdatacenter/ActionGroup" "CREATE_VM" "Lcom/example/roles_over_datacenter/rolesoverdatacenter/ActionGroup;" (.ref u0) ∧ Exa Z Z.heap u0 "com/example/roles_over_datacenter/rolesoverdatacenter/ActionGroup" ∧ Sta Z Z.heap "com/example/roles_over_datacenter/rolesoverdatacenter/ActionGroup" "DELETE_VM" "Lcom/example/roles_over_datacenter/rolesoverdatacenter/ActionGroup;" (.ref u1) ∧ Exa Z Z.heap u1 "com/example/roles_over_datacenter/rolesoverdatacenter/ActionGroup" ∧ Sta Z Z.heap "com/example/roles_over_datacenter/rolesoverdatacenter/ActionGroup" "EDIT_VM_PROPERTIES" "Lcom/example/roles_over_datacenter/rolesoverdatacenter/ActionGroup;" (.ref u2) ∧ Exa Z Z.heap u2 "com/example/roles_over_datacenter/rolesoverdatacenter/ActionGroup" ∧ Sta Z Z.heap "com/example/roles_over_datacenter/rolesoverdatacenter/ActionGroup" "RUN_VM" "Lcom/example/roles_over_datacenter/rolesoverdatacenter/ActionGroup;" (.ref u3) ∧ Exa Z Z.heap u3 "com/example/roles_over_datacenter/rolesoverdatacenter/ActionGroup" ∧ Sta Z Z.heap "com/example/roles_over_datacenter/rolesoverdatacenter/ActionGroup" "CREATE_DISK" "Lcom/example/roles_over_datacenter/rolesoverdatacenter/ActionGroup;" (.ref u4) ∧ Exa Z Z.heap u4 "com/example/roles_over_datacenter/rolesoverdatacenter/ActionGroup" ∧ Sta Z Z.heap "com/example/roles_over_datacenter/rolesoverdatacenter/ActionGroup" "EDIT_DISK_PROPERTIES" "Lcom/example/roles_over_datacenter/rolesoverdatacenter/ActionGroup;" (.ref u5) ∧ Exa Z Z.heap u5 "com/example/roles_over_datacenter/rolesoverdatacenter/ActionGroup" ∧ Sta Z Z.heap "com/example/roles_over_datacenter/rolesoverdatacenter/ActionGroup" "ATTACH_DISK" "Lcom/example/roles_over_datacenter/rolesoverdatacenter/ActionGroup;" (.ref u6) ∧ Exa Z Z.heap u6 "com/example/roles_over_datacenter/rolesoverdatacenter/ActionGroup" ∧ Sta Z Z.heap "com/example/roles_over_datacenter/rolesoverdatacenter/ActionGroup" "CONFIGURE_DISK_STORAGE" "Lcom/example/roles_over_datacenter/rolesoverdatacenter/ActionGroup;" (.ref u7) ∧ Exa Z Z.heap u7 "com/example/roles_over_datacenter/rolesoverdatacenter/ActionGroup" ∧ Sta Z Z.heap "com/example/roles_over_datacenter/rolesoverdatacenter/ActionGroup" "DELETE_DISK" "Lcom/example/roles_over_datacenter/rolesoverdatacenter/ActionGroup;" (.ref u8) ∧ Exa Z Z.heap u8 "com/example/roles_over_datacenter/rolesoverdatacenter/ActionGroup" ∧ Sta Z Z.heap "com/example/roles_over_datacenter/rolesoverdatacenter/ActionGroup" "CREATE_TEMPLATE" "Lcom/example/roles_over_datacenter/rolesoverdatacenter/ActionGroup;" (.ref u9) ∧ Exa Z Z.heap u9 "com/example/roles_over_datacenter/rolesoverdatacenter/ActionGroup" ∧ Sta Z Z.heap "com/example/roles_over_datacenter/rolesoverdatacenter/ActionGroup" "EDIT_TEMPLATE_PROPERTIES" "Lcom/example/roles_over_datacenter/rolesoverdatacenter/ActionGroup;" (.ref u10) ∧ Exa Z Z.heap u10 "com/example/roles_over_datacenter/rolesoverdatacenter/ActionGroup" ∧ Sta Z Z.heap "com/example/roles_over_datacenter/rolesoverdatacenter/ActionGroup" "DELETE_TEMPLATE" "Lcom/example/roles_over_datacenter/rolesoverdatacenter/ActionGroup;" (.ref u11) ∧ Exa Z Z.heap u11 "com/example/roles_over_datacenter/rolesoverdatacenter/ActionGroup" ∧ Sta Z Z.heap "com/example/roles_over_datacenter/rolesoverdatacenter/ActionGroup" "CONFIGURE_STORAGE_POOL_NETWORK" "Lcom/example/roles_over_datacenter/rolesoverdatacenter/ActionGroup;" (.ref u12) ∧ Exa Z Z.heap u12 "com/example/roles_over_datacenter/rolesoverdatacenter/ActionGroup" ∧ Sta Z Z.heap "com/example/roles_over_datacenter/rolesoverdatacenter/ActionGroup" "CONFIGURE_CLUSTER_NETWORK" "Lcom/example/roles_over_datacenter/rolesoverdatacenter/ActionGroup;" (.ref u13) ∧ Exa Z Z.heap u13 "com/example/roles_over_datacenter/rolesoverdatacenter/ActionGroup" ∧ Sta Z Z.heap "com/example/roles_over_datacenter/rolesoverdatacenter/ActionGroup" "MANAGE_CLUSTER_NETWORK" "Lcom/example/roles_over_datacenter/rolesoverdatacenter/ActionGroup;" (.ref u14) ∧ Exa Z Z.heap u14 "com/example/roles_over_datacenter/rolesoverdatacenter/ActionGroup" ∧ Sta Z Z.heap "com/example/roles_over_datacenter/rolesoverdatacenter/ActionGroup" "CONFIGURE_HOST_NETWORK" "Lcom/example/roles_over_datacenter/rolesoverdatacenter/ActionGroup;" (.ref u15) ∧ Exa Z Z.heap u15 "com/example/roles_over_datacenter/rolesoverdatacenter/ActionGroup" ∧ Sta Z Z.heap "com/example/roles_over_datacenter/rolesoverdatacenter/ActionGroup" "MANIPULATE_HOST" "Lcom/example/roles_over_datacenter/rolesoverdatacenter/ActionGroup;" (.ref u16) ∧ Exa Z Z.heap u16 "com/example/roles_over_datacenter/rolesoverdatacenter/ActionGroup" ∧ Sta Z Z.heap "com/example/roles_over_datacenter/rolesoverdatacenter/ActionGroup" "CONFIGURE_VM_NETWORK" "Lcom/example/roles_over_datacenter/rolesoverdatacenter/ActionGroup;" (.ref u17) ∧ Exa Z Z.heap u17 "com/example/roles_over_datacenter/rolesoverdatacenter/ActionGroup" ∧ Sta Z Z.heap "com/example/roles_over_datacenter/rolesoverdatacenter/ActionGroup" "CONFIGURE_TEMPLATE_NETWORK" "Lcom/example/roles_over_datacenter/rolesoverdatacenter/ActionGroup;" (.ref u18) ∧ Exa Z Z.heap u18 "com/example/roles_over_datacenter/rolesoverdatacenter/ActionGroup" ∧ Sta Z Z.heap "com/example/roles_over_datacenter/rolesoverdatacenter/ActionGroup" "PORT_MIRRORING" "Lcom/example/roles_over_datacenter/rolesoverdatacenter/ActionGroup;" (.ref u19) ∧ Exa Z Z.heap u19 "com/example/roles_over_datacenter/rolesoverdatacenter/ActionGroup" ∧ Sta Z Z.heap "com/example/roles_over_datacenter/rolesoverdatacenter/ActionGroup" "MANIPULATE_PERMISSIONS" "Lcom/example/roles_over_datacenter/rolesoverdatacenter/ActionGroup;" (.ref u20) ∧ Exa Z Z.heap u20 "com/example/roles_over_datacenter/rolesoverdatacenter/ActionGroup" ∧ Sta Z Z.heap "com/example/roles_over_datacenter/rolesoverdatacenter/ActionGroup" "MANIPULATE_ROLES" "Lcom/example/roles_over_datacenter/rolesoverdatacenter/ActionGroup;" (.ref u21) ∧ Exa Z Z.heap u21 "com/example/roles_over_datacenter/rolesoverdatacenter/ActionGroup" ∧ Sta Z Z.heap "com/example/roles_over_datacenter/rolesoverdatacenter/Action$Reach" "SYSTEM" "Lcom/example/roles_over_datacenter/rolesoverdatacenter/Action$Reach;" (.ref ury)
theorem own_getDR (l : List Addr) (n : Nat) (h : n < l.length) : ∃ a, (l.map Value.ref).getD n .null = .ref a := by
  induction l generalizing n with
  | nil => exact absurd h (Nat.not_lt_zero _)
  | cons a r ih => cases n with
    | zero => exact ⟨a, rfl⟩
    | succ k => exact ih k (Nat.lt_of_succ_lt_succ h)
theorem own_in {j z : Int32} {n : Int} (h1 : 0 ≤ j.toInt) (h2 : j.toInt < n) (hz : z.toInt = n) : ¬ j < 0 ∧ j < z := by
  constructor
  · rw [Int32.lt_iff_toInt_lt]; show ¬ j.toInt < 0; omega
  · rw [Int32.lt_iff_toInt_lt, hz]; exact h2
theorem own_nat {j : Int32} {n : Nat} (h1 : 0 ≤ j.toInt) (h2 : j.toInt < (n : Int)) : j.toNatClampNeg < n := by
  have := nat_of (j := j) (by rw [Int32.lt_iff_toInt_lt]; show ¬ j.toInt < 0; omega)
  omega

theorem d1_0 : decode method_2_code 0 = .ok (.bipush 22, 2) := by decide +kernel
theorem d1_2 : decode method_2_code 2 = .ok (.anewarray 7, 3) := by decide +kernel
theorem d1_5 : decode method_2_code 5 = .ok (.dup, 1) := by decide +kernel
theorem d1_6 : decode method_2_code 6 = .ok (.iconst 0, 1) := by decide +kernel
theorem d1_7 : decode method_2_code 7 = .ok (.getstatic 9, 3) := by decide +kernel
theorem d1_10 : decode method_2_code 10 = .ok (.aastore, 1) := by decide +kernel
theorem d1_11 : decode method_2_code 11 = .ok (.dup, 1) := by decide +kernel
theorem d1_12 : decode method_2_code 12 = .ok (.iconst 1, 1) := by decide +kernel
theorem d1_13 : decode method_2_code 13 = .ok (.getstatic 13, 3) := by decide +kernel
theorem d1_16 : decode method_2_code 16 = .ok (.aastore, 1) := by decide +kernel
theorem d1_17 : decode method_2_code 17 = .ok (.dup, 1) := by decide +kernel
theorem d1_18 : decode method_2_code 18 = .ok (.iconst 2, 1) := by decide +kernel
theorem d1_19 : decode method_2_code 19 = .ok (.getstatic 16, 3) := by decide +kernel
theorem d1_22 : decode method_2_code 22 = .ok (.aastore, 1) := by decide +kernel
theorem d1_23 : decode method_2_code 23 = .ok (.dup, 1) := by decide +kernel
theorem d1_24 : decode method_2_code 24 = .ok (.iconst 3, 1) := by decide +kernel
theorem d1_25 : decode method_2_code 25 = .ok (.getstatic 19, 3) := by decide +kernel
theorem d1_28 : decode method_2_code 28 = .ok (.aastore, 1) := by decide +kernel
theorem d1_29 : decode method_2_code 29 = .ok (.dup, 1) := by decide +kernel
theorem d1_30 : decode method_2_code 30 = .ok (.iconst 4, 1) := by decide +kernel
theorem d1_31 : decode method_2_code 31 = .ok (.getstatic 22, 3) := by decide +kernel
theorem d1_34 : decode method_2_code 34 = .ok (.aastore, 1) := by decide +kernel
theorem d1_35 : decode method_2_code 35 = .ok (.dup, 1) := by decide +kernel
theorem d1_36 : decode method_2_code 36 = .ok (.iconst 5, 1) := by decide +kernel
theorem d1_37 : decode method_2_code 37 = .ok (.getstatic 25, 3) := by decide +kernel
theorem d1_40 : decode method_2_code 40 = .ok (.aastore, 1) := by decide +kernel
theorem d1_41 : decode method_2_code 41 = .ok (.dup, 1) := by decide +kernel
theorem d1_42 : decode method_2_code 42 = .ok (.bipush 6, 2) := by decide +kernel
theorem d1_44 : decode method_2_code 44 = .ok (.getstatic 28, 3) := by decide +kernel
theorem d1_47 : decode method_2_code 47 = .ok (.aastore, 1) := by decide +kernel
theorem d1_48 : decode method_2_code 48 = .ok (.dup, 1) := by decide +kernel
theorem d1_49 : decode method_2_code 49 = .ok (.bipush 7, 2) := by decide +kernel
theorem d1_51 : decode method_2_code 51 = .ok (.getstatic 31, 3) := by decide +kernel
theorem d1_54 : decode method_2_code 54 = .ok (.aastore, 1) := by decide +kernel
theorem d1_55 : decode method_2_code 55 = .ok (.dup, 1) := by decide +kernel
theorem d1_56 : decode method_2_code 56 = .ok (.bipush 8, 2) := by decide +kernel
theorem d1_58 : decode method_2_code 58 = .ok (.getstatic 34, 3) := by decide +kernel
theorem d1_61 : decode method_2_code 61 = .ok (.aastore, 1) := by decide +kernel
theorem d1_62 : decode method_2_code 62 = .ok (.dup, 1) := by decide +kernel
theorem d1_63 : decode method_2_code 63 = .ok (.bipush 9, 2) := by decide +kernel
theorem d1_65 : decode method_2_code 65 = .ok (.getstatic 37, 3) := by decide +kernel
theorem d1_68 : decode method_2_code 68 = .ok (.aastore, 1) := by decide +kernel
theorem d1_69 : decode method_2_code 69 = .ok (.dup, 1) := by decide +kernel
theorem d1_70 : decode method_2_code 70 = .ok (.bipush 10, 2) := by decide +kernel
theorem d1_72 : decode method_2_code 72 = .ok (.getstatic 40, 3) := by decide +kernel
theorem d1_75 : decode method_2_code 75 = .ok (.aastore, 1) := by decide +kernel
theorem d1_76 : decode method_2_code 76 = .ok (.dup, 1) := by decide +kernel
theorem d1_77 : decode method_2_code 77 = .ok (.bipush 11, 2) := by decide +kernel
theorem d1_79 : decode method_2_code 79 = .ok (.getstatic 43, 3) := by decide +kernel
theorem d1_82 : decode method_2_code 82 = .ok (.aastore, 1) := by decide +kernel
theorem d1_83 : decode method_2_code 83 = .ok (.dup, 1) := by decide +kernel
theorem d1_84 : decode method_2_code 84 = .ok (.bipush 12, 2) := by decide +kernel
theorem d1_86 : decode method_2_code 86 = .ok (.getstatic 46, 3) := by decide +kernel
theorem d1_89 : decode method_2_code 89 = .ok (.aastore, 1) := by decide +kernel
theorem d1_90 : decode method_2_code 90 = .ok (.dup, 1) := by decide +kernel
theorem d1_91 : decode method_2_code 91 = .ok (.bipush 13, 2) := by decide +kernel
theorem d1_93 : decode method_2_code 93 = .ok (.getstatic 49, 3) := by decide +kernel
theorem d1_96 : decode method_2_code 96 = .ok (.aastore, 1) := by decide +kernel
theorem d1_97 : decode method_2_code 97 = .ok (.dup, 1) := by decide +kernel
theorem d1_98 : decode method_2_code 98 = .ok (.bipush 14, 2) := by decide +kernel
theorem d1_100 : decode method_2_code 100 = .ok (.getstatic 52, 3) := by decide +kernel
theorem d1_103 : decode method_2_code 103 = .ok (.aastore, 1) := by decide +kernel
theorem d1_104 : decode method_2_code 104 = .ok (.dup, 1) := by decide +kernel
theorem d1_105 : decode method_2_code 105 = .ok (.bipush 15, 2) := by decide +kernel
theorem d1_107 : decode method_2_code 107 = .ok (.getstatic 55, 3) := by decide +kernel
theorem d1_110 : decode method_2_code 110 = .ok (.aastore, 1) := by decide +kernel
theorem d1_111 : decode method_2_code 111 = .ok (.dup, 1) := by decide +kernel
theorem d1_112 : decode method_2_code 112 = .ok (.bipush 16, 2) := by decide +kernel
theorem d1_114 : decode method_2_code 114 = .ok (.getstatic 58, 3) := by decide +kernel
theorem d1_117 : decode method_2_code 117 = .ok (.aastore, 1) := by decide +kernel
theorem d1_118 : decode method_2_code 118 = .ok (.dup, 1) := by decide +kernel
theorem d1_119 : decode method_2_code 119 = .ok (.bipush 17, 2) := by decide +kernel
theorem d1_121 : decode method_2_code 121 = .ok (.getstatic 61, 3) := by decide +kernel
theorem d1_124 : decode method_2_code 124 = .ok (.aastore, 1) := by decide +kernel
theorem d1_125 : decode method_2_code 125 = .ok (.dup, 1) := by decide +kernel
theorem d1_126 : decode method_2_code 126 = .ok (.bipush 18, 2) := by decide +kernel
theorem d1_128 : decode method_2_code 128 = .ok (.getstatic 64, 3) := by decide +kernel
theorem d1_131 : decode method_2_code 131 = .ok (.aastore, 1) := by decide +kernel
theorem d1_132 : decode method_2_code 132 = .ok (.dup, 1) := by decide +kernel
theorem d1_133 : decode method_2_code 133 = .ok (.bipush 19, 2) := by decide +kernel
theorem d1_135 : decode method_2_code 135 = .ok (.getstatic 67, 3) := by decide +kernel
theorem d1_138 : decode method_2_code 138 = .ok (.aastore, 1) := by decide +kernel
theorem d1_139 : decode method_2_code 139 = .ok (.dup, 1) := by decide +kernel
theorem d1_140 : decode method_2_code 140 = .ok (.bipush 20, 2) := by decide +kernel
theorem d1_142 : decode method_2_code 142 = .ok (.getstatic 70, 3) := by decide +kernel
theorem d1_145 : decode method_2_code 145 = .ok (.aastore, 1) := by decide +kernel
theorem d1_146 : decode method_2_code 146 = .ok (.dup, 1) := by decide +kernel
theorem d1_147 : decode method_2_code 147 = .ok (.bipush 21, 2) := by decide +kernel
theorem d1_149 : decode method_2_code 149 = .ok (.getstatic 73, 3) := by decide +kernel
theorem d1_152 : decode method_2_code 152 = .ok (.aastore, 1) := by decide +kernel
theorem d1_153 : decode method_2_code 153 = .ok (.astore_n 1, 1) := by decide +kernel
theorem d1_154 : decode method_2_code 154 = .ok (.aload_n 1, 1) := by decide +kernel
theorem d1_155 : decode method_2_code 155 = .ok (.iload_n 0, 1) := by decide +kernel
theorem d1_156 : decode method_2_code 156 = .ok (.ldc 76, 2) := by decide +kernel
theorem d1_158 : decode method_2_code 158 = .ok (.iand, 1) := by decide +kernel
theorem d1_159 : decode method_2_code 159 = .ok (.bipush 22, 2) := by decide +kernel
theorem d1_161 : decode method_2_code 161 = .ok (.irem, 1) := by decide +kernel
theorem d1_162 : decode method_2_code 162 = .ok (.aaload, 1) := by decide +kernel
theorem d1_163 : decode method_2_code 163 = .ok (.areturn, 1) := by decide +kernel
theorem ef_1_I (m : MethodId) (x0 : Int32) : entryFrame m #[(.int x0)] 2 = mkF m 0 #[.val (.int x0), .unset] [] := by first | (simp [entryFrame, mkF, argsToLocals, Value.category]; done) | rfl
theorem pn_c0 : plainName "com/example/roles_over_datacenter/rolesoverdatacenter/RequirementOnSystemPinLaw" = true := by first | (simp [plainName, overriddenIn]; done) | decide +kernel
-- com/example/roles_over_datacenter/rolesoverdatacenter/RequirementOnSystemPinLaw.pick
set_option maxRecDepth 65536 in
set_option maxHeartbeats 4000000 in
theorem au_1 (l : Launch) (Z : State) (a0 : Array Value) (hw : ∀ d ∈ tables_1, d.before a0 Z = true) (p0 : Int32) (u0 : Addr) (u1 : Addr) (u2 : Addr) (u3 : Addr) (u4 : Addr) (u5 : Addr) (u6 : Addr) (u7 : Addr) (u8 : Addr) (u9 : Addr) (u10 : Addr) (u11 : Addr) (u12 : Addr) (u13 : Addr) (u14 : Addr) (u15 : Addr) (u16 : Addr) (u17 : Addr) (u18 : Addr) (u19 : Addr) (u20 : Addr) (u21 : Addr) (ury : Addr) (h0 : Heap) (n0 : Nat) (Z0 : n0 ≤ h0.size) (O0 : Old Z n0 h0) (G : Glob Z u0 u1 u2 u3 u4 u5 u6 u7 u8 u9 u10 u11 u12 u13 u14 u15 u16 u17 u18 u19 u20 u21 ury) :
    Ctr l Z (⟨"com/example/roles_over_datacenter/rolesoverdatacenter/RequirementOnSystemPinLaw", "pick", "(I)Lcom/example/roles_over_datacenter/rolesoverdatacenter/ActionGroup;"⟩ : MethodName) method_2_code 2 (some (.object "com/example/roles_over_datacenter/rolesoverdatacenter/ActionGroup")) ({ frames := 0, cells := 1, slots := 22, locals := 0 } : Room) #[(.int p0)] h0 (fun v h L => ∃ (y0 : Addr), v = some (.ref y0) ∧ Fr n0 L ∧ Keep h0 h []) := by
  refine Ctr.of (plainFor_of_name pn_c0) ?_
  intro p e s m below meth c T0 hx hZ hby hml hown hnm hret hlk e0 es X0
  have G' := G
  obtain ⟨G0, G1, G2, G3, G4, G5, G6, G7, G8, G9, G10, G11, G12, G13, G14, G15, G16, G17, G18, G19, G20, G21, G22, G23, G24, G25, G26, G27, G28, G29, G30, G31, G32, G33, G34, G35, G36, G37, G38, G39, G40, G41, G42, G43, -⟩ := G'
  refine Go.cast (ef_1_I m p0) ?_
  generalize hFF : EndN s _ _ _ = FF
  refine Go.bipush X0 hx (pc' := 2) rfl (hb hby d1_0) (v := (22 : Int32)) (by decide) ?_
  refine Go.anewarray X0 hx hZ hown (tw_4 hw) (tw_5 hw) e0 (by decide) (cap := 22) (by decide) (by decide) (by decide) (by decide) (ad := "[Lcom/example/roles_over_datacenter/rolesoverdatacenter/ActionGroup;") (by decide) 22 (pc' := 5) rfl (hb hby d1_2) ?_
  intro T1 h1 b1 k1 e1 E1 g1 V1 A1 O1 X1
  have V1' : Arv Z h1 b1 k1 (.object "com/example/roles_over_datacenter/rolesoverdatacenter/ActionGroup") (22 : Int32) [.null, .null, .null, .null, .null, .null, .null, .null, .null, .null, .null, .null, .null, .null, .null, .null, .null, .null, .null, .null, .null, .null] .null := V1
  refine Go.dup X1 hx (pc' := 6) rfl (hb hby d1_5) rfl ?_
  refine Go.iconst X1 hx (pc' := 7) rfl (hb hby d1_6) (v := (0 : Int32)) rfl ?_
  have O3 := (O0.ext E1)
  have fk2 : Sta Z h1 "com/example/roles_over_datacenter/rolesoverdatacenter/ActionGroup" "CREATE_VM" "Lcom/example/roles_over_datacenter/rolesoverdatacenter/ActionGroup;" (.ref u0) := G0.ext O3.2
  refine Go.getS X1 hx hZ hown (host := "") (Or.inl (tw_6 hw)) Via.refl e1 fk2 (pc' := 10) rfl (hb hby d1_7) ?_
  intro T4 e4 X4
  have sz6 : h0.size ≤ b1 := Nat.le_trans (Keep.refl h0 []).1 (Nat.le_of_eq g1.symm)
  have ge5 : n0 ≤ b1 := Nat.le_trans Z0 sz6
  have fk7 : Exa Z h1 u0 "com/example/roles_over_datacenter/rolesoverdatacenter/ActionGroup" := G1.ext O3.2
  refine Go.aastore X4 hx hZ e4 V1' rfl (Sto.ofArv V1' O1 (Ins.self fk7)) rfl ⟨by decide, by decide⟩ 0 rfl (Nat.le_of_ble_eq_true rfl) (pc' := 11) rfl (hb hby d1_10) ?_
  intro T8 h8 e8 W8 V8 X8
  have N8 := Fr.snoc X8 (Fr.nil n0) ge5
  refine Go.dup X8 hx (pc' := 12) rfl (hb hby d1_11) rfl ?_
  refine Go.iconst X8 hx (pc' := 13) rfl (hb hby d1_12) (v := (1 : Int32)) rfl ?_
  have O10 := (O3.wr W8 ge5)
  have fk9 : Sta Z h8 "com/example/roles_over_datacenter/rolesoverdatacenter/ActionGroup" "DELETE_VM" "Lcom/example/roles_over_datacenter/rolesoverdatacenter/ActionGroup;" (.ref u1) := G2.ext O10.2
  refine Go.getS X8 hx hZ hown (host := "") (Or.inl (tw_10 hw)) Via.refl e8 fk9 (pc' := 16) rfl (hb hby d1_13) ?_
  intro T11 e11 X11
  have fk12 : Exa Z h8 u1 "com/example/roles_over_datacenter/rolesoverdatacenter/ActionGroup" := G3.ext O10.2
  refine Go.aastore X11 hx hZ e11 V8 rfl (Sto.ofArv V8 O1 (Ins.self fk12)) rfl ⟨by decide, by decide⟩ 1 rfl (Nat.le_of_ble_eq_true rfl) (pc' := 17) rfl (hb hby d1_16) ?_
  intro T13 h13 e13 W13 V13 X13
  have N13 := Fr.snoc X13 N8 ge5
  refine Go.dup X13 hx (pc' := 18) rfl (hb hby d1_17) rfl ?_
  refine Go.iconst X13 hx (pc' := 19) rfl (hb hby d1_18) (v := (2 : Int32)) rfl ?_
  have O15 := (O10.wr W13 ge5)
  have fk14 : Sta Z h13 "com/example/roles_over_datacenter/rolesoverdatacenter/ActionGroup" "EDIT_VM_PROPERTIES" "Lcom/example/roles_over_datacenter/rolesoverdatacenter/ActionGroup;" (.ref u2) := G4.ext O15.2
  refine Go.getS X13 hx hZ hown (host := "") (Or.inl (tw_12 hw)) Via.refl e13 fk14 (pc' := 22) rfl (hb hby d1_19) ?_
  intro T16 e16 X16
  have fk17 : Exa Z h13 u2 "com/example/roles_over_datacenter/rolesoverdatacenter/ActionGroup" := G5.ext O15.2
  refine Go.aastore X16 hx hZ e16 V13 rfl (Sto.ofArv V13 O1 (Ins.self fk17)) rfl ⟨by decide, by decide⟩ 2 rfl (Nat.le_of_ble_eq_true rfl) (pc' := 23) rfl (hb hby d1_22) ?_
  intro T18 h18 e18 W18 V18 X18
  have N18 := Fr.snoc X18 N13 ge5
  refine Go.dup X18 hx (pc' := 24) rfl (hb hby d1_23) rfl ?_
  refine Go.iconst X18 hx (pc' := 25) rfl (hb hby d1_24) (v := (3 : Int32)) rfl ?_
  have O20 := (O15.wr W18 ge5)
  have fk19 : Sta Z h18 "com/example/roles_over_datacenter/rolesoverdatacenter/ActionGroup" "RUN_VM" "Lcom/example/roles_over_datacenter/rolesoverdatacenter/ActionGroup;" (.ref u3) := G6.ext O20.2
  refine Go.getS X18 hx hZ hown (host := "") (Or.inl (tw_14 hw)) Via.refl e18 fk19 (pc' := 28) rfl (hb hby d1_25) ?_
  intro T21 e21 X21
  have V22 : Arv Z h18 b1 k1 (.object "com/example/roles_over_datacenter/rolesoverdatacenter/ActionGroup") (22 : Int32) [(.ref u0), (.ref u1), (.ref u2), .null, .null, .null, .null, .null, .null, .null, .null, .null, .null, .null, .null, .null, .null, .null, .null, .null, .null, .null] .null := V18
  have fk23 : Exa Z h18 u3 "com/example/roles_over_datacenter/rolesoverdatacenter/ActionGroup" := G7.ext O20.2
  refine Go.aastore X21 hx hZ e21 V22 rfl (Sto.ofArv V22 O1 (Ins.self fk23)) rfl ⟨by decide, by decide⟩ 3 rfl (Nat.le_of_ble_eq_true rfl) (pc' := 29) rfl (hb hby d1_28) ?_
  intro T24 h24 e24 W24 V24 X24
  have N24 := Fr.snoc X24 N18 ge5
  refine Go.dup X24 hx (pc' := 30) rfl (hb hby d1_29) rfl ?_
  refine Go.iconst X24 hx (pc' := 31) rfl (hb hby d1_30) (v := (4 : Int32)) rfl ?_
  have O26 := (O20.wr W24 ge5)
  have fk25 : Sta Z h24 "com/example/roles_over_datacenter/rolesoverdatacenter/ActionGroup" "CREATE_DISK" "Lcom/example/roles_over_datacenter/rolesoverdatacenter/ActionGroup;" (.ref u4) := G8.ext O26.2
  refine Go.getS X24 hx hZ hown (host := "") (Or.inl (tw_16 hw)) Via.refl e24 fk25 (pc' := 34) rfl (hb hby d1_31) ?_
  intro T27 e27 X27
  have fk28 : Exa Z h24 u4 "com/example/roles_over_datacenter/rolesoverdatacenter/ActionGroup" := G9.ext O26.2
  refine Go.aastore X27 hx hZ e27 V24 rfl (Sto.ofArv V24 O1 (Ins.self fk28)) rfl ⟨by decide, by decide⟩ 4 rfl (Nat.le_of_ble_eq_true rfl) (pc' := 35) rfl (hb hby d1_34) ?_
  intro T29 h29 e29 W29 V29 X29
  have N29 := Fr.snoc X29 N24 ge5
  refine Go.dup X29 hx (pc' := 36) rfl (hb hby d1_35) rfl ?_
  refine Go.iconst X29 hx (pc' := 37) rfl (hb hby d1_36) (v := (5 : Int32)) rfl ?_
  have O31 := (O26.wr W29 ge5)
  have fk30 : Sta Z h29 "com/example/roles_over_datacenter/rolesoverdatacenter/ActionGroup" "EDIT_DISK_PROPERTIES" "Lcom/example/roles_over_datacenter/rolesoverdatacenter/ActionGroup;" (.ref u5) := G10.ext O31.2
  refine Go.getS X29 hx hZ hown (host := "") (Or.inl (tw_18 hw)) Via.refl e29 fk30 (pc' := 40) rfl (hb hby d1_37) ?_
  intro T32 e32 X32
  have fk33 : Exa Z h29 u5 "com/example/roles_over_datacenter/rolesoverdatacenter/ActionGroup" := G11.ext O31.2
  refine Go.aastore X32 hx hZ e32 V29 rfl (Sto.ofArv V29 O1 (Ins.self fk33)) rfl ⟨by decide, by decide⟩ 5 rfl (Nat.le_of_ble_eq_true rfl) (pc' := 41) rfl (hb hby d1_40) ?_
  intro T34 h34 e34 W34 V34 X34
  have N34 := Fr.snoc X34 N29 ge5
  refine Go.dup X34 hx (pc' := 42) rfl (hb hby d1_41) rfl ?_
  refine Go.bipush X34 hx (pc' := 44) rfl (hb hby d1_42) (v := (6 : Int32)) (by decide) ?_
  have O36 := (O31.wr W34 ge5)
  have fk35 : Sta Z h34 "com/example/roles_over_datacenter/rolesoverdatacenter/ActionGroup" "ATTACH_DISK" "Lcom/example/roles_over_datacenter/rolesoverdatacenter/ActionGroup;" (.ref u6) := G12.ext O36.2
  refine Go.getS X34 hx hZ hown (host := "") (Or.inl (tw_20 hw)) Via.refl e34 fk35 (pc' := 47) rfl (hb hby d1_44) ?_
  intro T37 e37 X37
  have fk38 : Exa Z h34 u6 "com/example/roles_over_datacenter/rolesoverdatacenter/ActionGroup" := G13.ext O36.2
  refine Go.aastore X37 hx hZ e37 V34 rfl (Sto.ofArv V34 O1 (Ins.self fk38)) rfl ⟨by decide, by decide⟩ 6 rfl (Nat.le_of_ble_eq_true rfl) (pc' := 48) rfl (hb hby d1_47) ?_
  intro T39 h39 e39 W39 V39 X39
  have N39 := Fr.snoc X39 N34 ge5
  refine Go.dup X39 hx (pc' := 49) rfl (hb hby d1_48) rfl ?_
  refine Go.bipush X39 hx (pc' := 51) rfl (hb hby d1_49) (v := (7 : Int32)) (by decide) ?_
  have O41 := (O36.wr W39 ge5)
  have fk40 : Sta Z h39 "com/example/roles_over_datacenter/rolesoverdatacenter/ActionGroup" "CONFIGURE_DISK_STORAGE" "Lcom/example/roles_over_datacenter/rolesoverdatacenter/ActionGroup;" (.ref u7) := G14.ext O41.2
  refine Go.getS X39 hx hZ hown (host := "") (Or.inl (tw_22 hw)) Via.refl e39 fk40 (pc' := 54) rfl (hb hby d1_51) ?_
  intro T42 e42 X42
  have V43 : Arv Z h39 b1 k1 (.object "com/example/roles_over_datacenter/rolesoverdatacenter/ActionGroup") (22 : Int32) [(.ref u0), (.ref u1), (.ref u2), (.ref u3), (.ref u4), (.ref u5), (.ref u6), .null, .null, .null, .null, .null, .null, .null, .null, .null, .null, .null, .null, .null, .null, .null] .null := V39
  have fk44 : Exa Z h39 u7 "com/example/roles_over_datacenter/rolesoverdatacenter/ActionGroup" := G15.ext O41.2
  refine Go.aastore X42 hx hZ e42 V43 rfl (Sto.ofArv V43 O1 (Ins.self fk44)) rfl ⟨by decide, by decide⟩ 7 rfl (Nat.le_of_ble_eq_true rfl) (pc' := 55) rfl (hb hby d1_54) ?_
  intro T45 h45 e45 W45 V45 X45
  have N45 := Fr.snoc X45 N39 ge5
  refine Go.dup X45 hx (pc' := 56) rfl (hb hby d1_55) rfl ?_
  refine Go.bipush X45 hx (pc' := 58) rfl (hb hby d1_56) (v := (8 : Int32)) (by decide) ?_
  have O47 := (O41.wr W45 ge5)
  have fk46 : Sta Z h45 "com/example/roles_over_datacenter/rolesoverdatacenter/ActionGroup" "DELETE_DISK" "Lcom/example/roles_over_datacenter/rolesoverdatacenter/ActionGroup;" (.ref u8) := G16.ext O47.2
  refine Go.getS X45 hx hZ hown (host := "") (Or.inl (tw_24 hw)) Via.refl e45 fk46 (pc' := 61) rfl (hb hby d1_58) ?_
  intro T48 e48 X48
  have fk49 : Exa Z h45 u8 "com/example/roles_over_datacenter/rolesoverdatacenter/ActionGroup" := G17.ext O47.2
  refine Go.aastore X48 hx hZ e48 V45 rfl (Sto.ofArv V45 O1 (Ins.self fk49)) rfl ⟨by decide, by decide⟩ 8 rfl (Nat.le_of_ble_eq_true rfl) (pc' := 62) rfl (hb hby d1_61) ?_
  intro T50 h50 e50 W50 V50 X50
  have N50 := Fr.snoc X50 N45 ge5
  refine Go.dup X50 hx (pc' := 63) rfl (hb hby d1_62) rfl ?_
  refine Go.bipush X50 hx (pc' := 65) rfl (hb hby d1_63) (v := (9 : Int32)) (by decide) ?_
  have O52 := (O47.wr W50 ge5)
  have fk51 : Sta Z h50 "com/example/roles_over_datacenter/rolesoverdatacenter/ActionGroup" "CREATE_TEMPLATE" "Lcom/example/roles_over_datacenter/rolesoverdatacenter/ActionGroup;" (.ref u9) := G18.ext O52.2
  refine Go.getS X50 hx hZ hown (host := "") (Or.inl (tw_26 hw)) Via.refl e50 fk51 (pc' := 68) rfl (hb hby d1_65) ?_
  intro T53 e53 X53
  have fk54 : Exa Z h50 u9 "com/example/roles_over_datacenter/rolesoverdatacenter/ActionGroup" := G19.ext O52.2
  refine Go.aastore X53 hx hZ e53 V50 rfl (Sto.ofArv V50 O1 (Ins.self fk54)) rfl ⟨by decide, by decide⟩ 9 rfl (Nat.le_of_ble_eq_true rfl) (pc' := 69) rfl (hb hby d1_68) ?_
  intro T55 h55 e55 W55 V55 X55
  have N55 := Fr.snoc X55 N50 ge5
  refine Go.dup X55 hx (pc' := 70) rfl (hb hby d1_69) rfl ?_
  refine Go.bipush X55 hx (pc' := 72) rfl (hb hby d1_70) (v := (10 : Int32)) (by decide) ?_
  have O57 := (O52.wr W55 ge5)
  have fk56 : Sta Z h55 "com/example/roles_over_datacenter/rolesoverdatacenter/ActionGroup" "EDIT_TEMPLATE_PROPERTIES" "Lcom/example/roles_over_datacenter/rolesoverdatacenter/ActionGroup;" (.ref u10) := G20.ext O57.2
  refine Go.getS X55 hx hZ hown (host := "") (Or.inl (tw_28 hw)) Via.refl e55 fk56 (pc' := 75) rfl (hb hby d1_72) ?_
  intro T58 e58 X58
  have fk59 : Exa Z h55 u10 "com/example/roles_over_datacenter/rolesoverdatacenter/ActionGroup" := G21.ext O57.2
  refine Go.aastore X58 hx hZ e58 V55 rfl (Sto.ofArv V55 O1 (Ins.self fk59)) rfl ⟨by decide, by decide⟩ 10 rfl (Nat.le_of_ble_eq_true rfl) (pc' := 76) rfl (hb hby d1_75) ?_
  intro T60 h60 e60 W60 V60 X60
  have N60 := Fr.snoc X60 N55 ge5
  refine Go.dup X60 hx (pc' := 77) rfl (hb hby d1_76) rfl ?_
  refine Go.bipush X60 hx (pc' := 79) rfl (hb hby d1_77) (v := (11 : Int32)) (by decide) ?_
  have O62 := (O57.wr W60 ge5)
  have fk61 : Sta Z h60 "com/example/roles_over_datacenter/rolesoverdatacenter/ActionGroup" "DELETE_TEMPLATE" "Lcom/example/roles_over_datacenter/rolesoverdatacenter/ActionGroup;" (.ref u11) := G22.ext O62.2
  refine Go.getS X60 hx hZ hown (host := "") (Or.inl (tw_30 hw)) Via.refl e60 fk61 (pc' := 82) rfl (hb hby d1_79) ?_
  intro T63 e63 X63
  have V64 : Arv Z h60 b1 k1 (.object "com/example/roles_over_datacenter/rolesoverdatacenter/ActionGroup") (22 : Int32) [(.ref u0), (.ref u1), (.ref u2), (.ref u3), (.ref u4), (.ref u5), (.ref u6), (.ref u7), (.ref u8), (.ref u9), (.ref u10), .null, .null, .null, .null, .null, .null, .null, .null, .null, .null, .null] .null := V60
  have fk65 : Exa Z h60 u11 "com/example/roles_over_datacenter/rolesoverdatacenter/ActionGroup" := G23.ext O62.2
  refine Go.aastore X63 hx hZ e63 V64 rfl (Sto.ofArv V64 O1 (Ins.self fk65)) rfl ⟨by decide, by decide⟩ 11 rfl (Nat.le_of_ble_eq_true rfl) (pc' := 83) rfl (hb hby d1_82) ?_
  intro T66 h66 e66 W66 V66 X66
  have N66 := Fr.snoc X66 N60 ge5
  refine Go.dup X66 hx (pc' := 84) rfl (hb hby d1_83) rfl ?_
  refine Go.bipush X66 hx (pc' := 86) rfl (hb hby d1_84) (v := (12 : Int32)) (by decide) ?_
  have O68 := (O62.wr W66 ge5)
  have fk67 : Sta Z h66 "com/example/roles_over_datacenter/rolesoverdatacenter/ActionGroup" "CONFIGURE_STORAGE_POOL_NETWORK" "Lcom/example/roles_over_datacenter/rolesoverdatacenter/ActionGroup;" (.ref u12) := G24.ext O68.2
  refine Go.getS X66 hx hZ hown (host := "") (Or.inl (tw_32 hw)) Via.refl e66 fk67 (pc' := 89) rfl (hb hby d1_86) ?_
  intro T69 e69 X69
  have fk70 : Exa Z h66 u12 "com/example/roles_over_datacenter/rolesoverdatacenter/ActionGroup" := G25.ext O68.2
  refine Go.aastore X69 hx hZ e69 V66 rfl (Sto.ofArv V66 O1 (Ins.self fk70)) rfl ⟨by decide, by decide⟩ 12 rfl (Nat.le_of_ble_eq_true rfl) (pc' := 90) rfl (hb hby d1_89) ?_
  intro T71 h71 e71 W71 V71 X71
  have N71 := Fr.snoc X71 N66 ge5
  refine Go.dup X71 hx (pc' := 91) rfl (hb hby d1_90) rfl ?_
  refine Go.bipush X71 hx (pc' := 93) rfl (hb hby d1_91) (v := (13 : Int32)) (by decide) ?_
  have O73 := (O68.wr W71 ge5)
  have fk72 : Sta Z h71 "com/example/roles_over_datacenter/rolesoverdatacenter/ActionGroup" "CONFIGURE_CLUSTER_NETWORK" "Lcom/example/roles_over_datacenter/rolesoverdatacenter/ActionGroup;" (.ref u13) := G26.ext O73.2
  refine Go.getS X71 hx hZ hown (host := "") (Or.inl (tw_34 hw)) Via.refl e71 fk72 (pc' := 96) rfl (hb hby d1_93) ?_
  intro T74 e74 X74
  have fk75 : Exa Z h71 u13 "com/example/roles_over_datacenter/rolesoverdatacenter/ActionGroup" := G27.ext O73.2
  refine Go.aastore X74 hx hZ e74 V71 rfl (Sto.ofArv V71 O1 (Ins.self fk75)) rfl ⟨by decide, by decide⟩ 13 rfl (Nat.le_of_ble_eq_true rfl) (pc' := 97) rfl (hb hby d1_96) ?_
  intro T76 h76 e76 W76 V76 X76
  have N76 := Fr.snoc X76 N71 ge5
  refine Go.dup X76 hx (pc' := 98) rfl (hb hby d1_97) rfl ?_
  refine Go.bipush X76 hx (pc' := 100) rfl (hb hby d1_98) (v := (14 : Int32)) (by decide) ?_
  have O78 := (O73.wr W76 ge5)
  have fk77 : Sta Z h76 "com/example/roles_over_datacenter/rolesoverdatacenter/ActionGroup" "MANAGE_CLUSTER_NETWORK" "Lcom/example/roles_over_datacenter/rolesoverdatacenter/ActionGroup;" (.ref u14) := G28.ext O78.2
  refine Go.getS X76 hx hZ hown (host := "") (Or.inl (tw_36 hw)) Via.refl e76 fk77 (pc' := 103) rfl (hb hby d1_100) ?_
  intro T79 e79 X79
  have fk80 : Exa Z h76 u14 "com/example/roles_over_datacenter/rolesoverdatacenter/ActionGroup" := G29.ext O78.2
  refine Go.aastore X79 hx hZ e79 V76 rfl (Sto.ofArv V76 O1 (Ins.self fk80)) rfl ⟨by decide, by decide⟩ 14 rfl (Nat.le_of_ble_eq_true rfl) (pc' := 104) rfl (hb hby d1_103) ?_
  intro T81 h81 e81 W81 V81 X81
  have N81 := Fr.snoc X81 N76 ge5
  refine Go.dup X81 hx (pc' := 105) rfl (hb hby d1_104) rfl ?_
  refine Go.bipush X81 hx (pc' := 107) rfl (hb hby d1_105) (v := (15 : Int32)) (by decide) ?_
  have O83 := (O78.wr W81 ge5)
  have fk82 : Sta Z h81 "com/example/roles_over_datacenter/rolesoverdatacenter/ActionGroup" "CONFIGURE_HOST_NETWORK" "Lcom/example/roles_over_datacenter/rolesoverdatacenter/ActionGroup;" (.ref u15) := G30.ext O83.2
  refine Go.getS X81 hx hZ hown (host := "") (Or.inl (tw_38 hw)) Via.refl e81 fk82 (pc' := 110) rfl (hb hby d1_107) ?_
  intro T84 e84 X84
  have V85 : Arv Z h81 b1 k1 (.object "com/example/roles_over_datacenter/rolesoverdatacenter/ActionGroup") (22 : Int32) [(.ref u0), (.ref u1), (.ref u2), (.ref u3), (.ref u4), (.ref u5), (.ref u6), (.ref u7), (.ref u8), (.ref u9), (.ref u10), (.ref u11), (.ref u12), (.ref u13), (.ref u14), .null, .null, .null, .null, .null, .null, .null] .null := V81
  have fk86 : Exa Z h81 u15 "com/example/roles_over_datacenter/rolesoverdatacenter/ActionGroup" := G31.ext O83.2
  refine Go.aastore X84 hx hZ e84 V85 rfl (Sto.ofArv V85 O1 (Ins.self fk86)) rfl ⟨by decide, by decide⟩ 15 rfl (Nat.le_of_ble_eq_true rfl) (pc' := 111) rfl (hb hby d1_110) ?_
  intro T87 h87 e87 W87 V87 X87
  have N87 := Fr.snoc X87 N81 ge5
  refine Go.dup X87 hx (pc' := 112) rfl (hb hby d1_111) rfl ?_
  refine Go.bipush X87 hx (pc' := 114) rfl (hb hby d1_112) (v := (16 : Int32)) (by decide) ?_
  have O89 := (O83.wr W87 ge5)
  have fk88 : Sta Z h87 "com/example/roles_over_datacenter/rolesoverdatacenter/ActionGroup" "MANIPULATE_HOST" "Lcom/example/roles_over_datacenter/rolesoverdatacenter/ActionGroup;" (.ref u16) := G32.ext O89.2
  refine Go.getS X87 hx hZ hown (host := "") (Or.inl (tw_40 hw)) Via.refl e87 fk88 (pc' := 117) rfl (hb hby d1_114) ?_
  intro T90 e90 X90
  have fk91 : Exa Z h87 u16 "com/example/roles_over_datacenter/rolesoverdatacenter/ActionGroup" := G33.ext O89.2
  refine Go.aastore X90 hx hZ e90 V87 rfl (Sto.ofArv V87 O1 (Ins.self fk91)) rfl ⟨by decide, by decide⟩ 16 rfl (Nat.le_of_ble_eq_true rfl) (pc' := 118) rfl (hb hby d1_117) ?_
  intro T92 h92 e92 W92 V92 X92
  have N92 := Fr.snoc X92 N87 ge5
  refine Go.dup X92 hx (pc' := 119) rfl (hb hby d1_118) rfl ?_
  refine Go.bipush X92 hx (pc' := 121) rfl (hb hby d1_119) (v := (17 : Int32)) (by decide) ?_
  have O94 := (O89.wr W92 ge5)
  have fk93 : Sta Z h92 "com/example/roles_over_datacenter/rolesoverdatacenter/ActionGroup" "CONFIGURE_VM_NETWORK" "Lcom/example/roles_over_datacenter/rolesoverdatacenter/ActionGroup;" (.ref u17) := G34.ext O94.2
  refine Go.getS X92 hx hZ hown (host := "") (Or.inl (tw_42 hw)) Via.refl e92 fk93 (pc' := 124) rfl (hb hby d1_121) ?_
  intro T95 e95 X95
  have fk96 : Exa Z h92 u17 "com/example/roles_over_datacenter/rolesoverdatacenter/ActionGroup" := G35.ext O94.2
  refine Go.aastore X95 hx hZ e95 V92 rfl (Sto.ofArv V92 O1 (Ins.self fk96)) rfl ⟨by decide, by decide⟩ 17 rfl (Nat.le_of_ble_eq_true rfl) (pc' := 125) rfl (hb hby d1_124) ?_
  intro T97 h97 e97 W97 V97 X97
  have N97 := Fr.snoc X97 N92 ge5
  refine Go.dup X97 hx (pc' := 126) rfl (hb hby d1_125) rfl ?_
  refine Go.bipush X97 hx (pc' := 128) rfl (hb hby d1_126) (v := (18 : Int32)) (by decide) ?_
  have O99 := (O94.wr W97 ge5)
  have fk98 : Sta Z h97 "com/example/roles_over_datacenter/rolesoverdatacenter/ActionGroup" "CONFIGURE_TEMPLATE_NETWORK" "Lcom/example/roles_over_datacenter/rolesoverdatacenter/ActionGroup;" (.ref u18) := G36.ext O99.2
  refine Go.getS X97 hx hZ hown (host := "") (Or.inl (tw_44 hw)) Via.refl e97 fk98 (pc' := 131) rfl (hb hby d1_128) ?_
  intro T100 e100 X100
  have fk101 : Exa Z h97 u18 "com/example/roles_over_datacenter/rolesoverdatacenter/ActionGroup" := G37.ext O99.2
  refine Go.aastore X100 hx hZ e100 V97 rfl (Sto.ofArv V97 O1 (Ins.self fk101)) rfl ⟨by decide, by decide⟩ 18 rfl (Nat.le_of_ble_eq_true rfl) (pc' := 132) rfl (hb hby d1_131) ?_
  intro T102 h102 e102 W102 V102 X102
  have N102 := Fr.snoc X102 N97 ge5
  refine Go.dup X102 hx (pc' := 133) rfl (hb hby d1_132) rfl ?_
  refine Go.bipush X102 hx (pc' := 135) rfl (hb hby d1_133) (v := (19 : Int32)) (by decide) ?_
  have O104 := (O99.wr W102 ge5)
  have fk103 : Sta Z h102 "com/example/roles_over_datacenter/rolesoverdatacenter/ActionGroup" "PORT_MIRRORING" "Lcom/example/roles_over_datacenter/rolesoverdatacenter/ActionGroup;" (.ref u19) := G38.ext O104.2
  refine Go.getS X102 hx hZ hown (host := "") (Or.inl (tw_46 hw)) Via.refl e102 fk103 (pc' := 138) rfl (hb hby d1_135) ?_
  intro T105 e105 X105
  have V106 : Arv Z h102 b1 k1 (.object "com/example/roles_over_datacenter/rolesoverdatacenter/ActionGroup") (22 : Int32) [(.ref u0), (.ref u1), (.ref u2), (.ref u3), (.ref u4), (.ref u5), (.ref u6), (.ref u7), (.ref u8), (.ref u9), (.ref u10), (.ref u11), (.ref u12), (.ref u13), (.ref u14), (.ref u15), (.ref u16), (.ref u17), (.ref u18), .null, .null, .null] .null := V102
  have fk107 : Exa Z h102 u19 "com/example/roles_over_datacenter/rolesoverdatacenter/ActionGroup" := G39.ext O104.2
  refine Go.aastore X105 hx hZ e105 V106 rfl (Sto.ofArv V106 O1 (Ins.self fk107)) rfl ⟨by decide, by decide⟩ 19 rfl (Nat.le_of_ble_eq_true rfl) (pc' := 139) rfl (hb hby d1_138) ?_
  intro T108 h108 e108 W108 V108 X108
  have N108 := Fr.snoc X108 N102 ge5
  refine Go.dup X108 hx (pc' := 140) rfl (hb hby d1_139) rfl ?_
  refine Go.bipush X108 hx (pc' := 142) rfl (hb hby d1_140) (v := (20 : Int32)) (by decide) ?_
  have O110 := (O104.wr W108 ge5)
  have fk109 : Sta Z h108 "com/example/roles_over_datacenter/rolesoverdatacenter/ActionGroup" "MANIPULATE_PERMISSIONS" "Lcom/example/roles_over_datacenter/rolesoverdatacenter/ActionGroup;" (.ref u20) := G40.ext O110.2
  refine Go.getS X108 hx hZ hown (host := "") (Or.inl (tw_48 hw)) Via.refl e108 fk109 (pc' := 145) rfl (hb hby d1_142) ?_
  intro T111 e111 X111
  have fk112 : Exa Z h108 u20 "com/example/roles_over_datacenter/rolesoverdatacenter/ActionGroup" := G41.ext O110.2
  refine Go.aastore X111 hx hZ e111 V108 rfl (Sto.ofArv V108 O1 (Ins.self fk112)) rfl ⟨by decide, by decide⟩ 20 rfl (Nat.le_of_ble_eq_true rfl) (pc' := 146) rfl (hb hby d1_145) ?_
  intro T113 h113 e113 W113 V113 X113
  have N113 := Fr.snoc X113 N108 ge5
  refine Go.dup X113 hx (pc' := 147) rfl (hb hby d1_146) rfl ?_
  refine Go.bipush X113 hx (pc' := 149) rfl (hb hby d1_147) (v := (21 : Int32)) (by decide) ?_
  have O115 := (O110.wr W113 ge5)
  have fk114 : Sta Z h113 "com/example/roles_over_datacenter/rolesoverdatacenter/ActionGroup" "MANIPULATE_ROLES" "Lcom/example/roles_over_datacenter/rolesoverdatacenter/ActionGroup;" (.ref u21) := G42.ext O115.2
  refine Go.getS X113 hx hZ hown (host := "") (Or.inl (tw_50 hw)) Via.refl e113 fk114 (pc' := 152) rfl (hb hby d1_149) ?_
  intro T116 e116 X116
  have fk117 : Exa Z h113 u21 "com/example/roles_over_datacenter/rolesoverdatacenter/ActionGroup" := G43.ext O115.2
  refine Go.aastore X116 hx hZ e116 V113 rfl (Sto.ofArv V113 O1 (Ins.self fk117)) rfl ⟨by decide, by decide⟩ 21 rfl (Nat.le_of_ble_eq_true rfl) (pc' := 153) rfl (hb hby d1_152) ?_
  intro T118 h118 e118 W118 V118 X118
  have N118 := Fr.snoc X118 N113 ge5
  refine Go.astoreN X118 hx (pc' := 154) rfl (hb hby d1_153) (Ls' := #[.val (.int p0), .val (.ref b1)]) rfl rfl ?_
  refine Go.aloadN X118 hx (pc' := 155) rfl (hb hby d1_154) rfl rfl ?_
  refine Go.iloadN X118 hx (pc' := 156) rfl (hb hby d1_155) rfl ?_
  refine Go.ldcI X118 hx hZ hown (tw_52 hw) (pc' := 158) rfl (hb hby d1_156) ?_
  refine Go.iand X118 hx (pc' := 159) rfl (hb hby d1_158) ?_
  generalize hz119 : (p0 &&& (2147483647 : Int32)) = z119
  refine Go.bipush X118 hx (pc' := 161) rfl (hb hby d1_159) (v := (22 : Int32)) (by decide) ?_
  refine Go.irem X118 hx (pc' := 162) rfl (hb hby d1_161) (by decide) ?_
  have r120 : 0 ≤ z119.toInt ∧ z119.toInt ≤ 2147483647 := own_rand hz119 (by decide)
  generalize hz121 : (z119 % (22 : Int32)) = z121
  have V122 : Arv Z h118 b1 k1 (.object "com/example/roles_over_datacenter/rolesoverdatacenter/ActionGroup") (22 : Int32) [(.ref u0), (.ref u1), (.ref u2), (.ref u3), (.ref u4), (.ref u5), (.ref u6), (.ref u7), (.ref u8), (.ref u9), (.ref u10), (.ref u11), (.ref u12), (.ref u13), (.ref u14), (.ref u15), (.ref u16), (.ref u17), (.ref u18), (.ref u19), (.ref u20), (.ref u21)] .null := V118
  have r123 : 0 ≤ z121.toInt ∧ z121.toInt ≤ 21 := own_rrem hz121 (d := 22) (by decide) (by decide) r120 (by decide) (by decide)
  obtain ⟨av, hav⟩ : ∃ av : Addr, ([(.ref u0), (.ref u1), (.ref u2), (.ref u3), (.ref u4), (.ref u5), (.ref u6), (.ref u7), (.ref u8), (.ref u9), (.ref u10), (.ref u11), (.ref u12), (.ref u13), (.ref u14), (.ref u15), (.ref u16), (.ref u17), (.ref u18), (.ref u19), (.ref u20), (.ref u21)] : List Value).getD z121.toNatClampNeg .null = .ref av := own_getDR [u0, u1, u2, u3, u4, u5, u6, u7, u8, u9, u10, u11, u12, u13, u14, u15, u16, u17, u18, u19, u20, u21] _ (own_nat r123.1 (Int.lt_of_le_of_lt r123.2 (show (21 : Int) < 22 from by decide)))
  refine Go.aaload X118 hx hZ e118 rfl V122 (v := (.ref av)) (own_in (n := 22) r123.1 (Int.lt_of_le_of_lt r123.2 (by decide)) (by decide)) hav (pc' := 163) rfl (hb hby d1_162) ?_
  subst hFF
  refine Go.retR X118 hx hlk (t := (.object "com/example/roles_over_datacenter/rolesoverdatacenter/ActionGroup")) hret rfl rfl (hb hby d1_163) (by decide) (by decide) ?_
  rw [e118]
  have Kp124 : Keep h0 h1 [] := ((Keep.refl h0 []).ext E1)
  have Kp125 : Keep h0 h8 [] := (Kp124.wr W8 (Or.inr sz6))
  have Kp126 : Keep h0 h13 [] := (Kp125.wr W13 (Or.inr sz6))
  have Kp127 : Keep h0 h18 [] := (Kp126.wr W18 (Or.inr sz6))
  have Kp128 : Keep h0 h24 [] := (Kp127.wr W24 (Or.inr sz6))
  have Kp129 : Keep h0 h29 [] := (Kp128.wr W29 (Or.inr sz6))
  have Kp130 : Keep h0 h34 [] := (Kp129.wr W34 (Or.inr sz6))
  have Kp131 : Keep h0 h39 [] := (Kp130.wr W39 (Or.inr sz6))
  have Kp132 : Keep h0 h45 [] := (Kp131.wr W45 (Or.inr sz6))
  have Kp133 : Keep h0 h50 [] := (Kp132.wr W50 (Or.inr sz6))
  have Kp134 : Keep h0 h55 [] := (Kp133.wr W55 (Or.inr sz6))
  have Kp135 : Keep h0 h60 [] := (Kp134.wr W60 (Or.inr sz6))
  have Kp136 : Keep h0 h66 [] := (Kp135.wr W66 (Or.inr sz6))
  have Kp137 : Keep h0 h71 [] := (Kp136.wr W71 (Or.inr sz6))
  have Kp138 : Keep h0 h76 [] := (Kp137.wr W76 (Or.inr sz6))
  have Kp139 : Keep h0 h81 [] := (Kp138.wr W81 (Or.inr sz6))
  have Kp140 : Keep h0 h87 [] := (Kp139.wr W87 (Or.inr sz6))
  have Kp141 : Keep h0 h92 [] := (Kp140.wr W92 (Or.inr sz6))
  have Kp142 : Keep h0 h97 [] := (Kp141.wr W97 (Or.inr sz6))
  have Kp143 : Keep h0 h102 [] := (Kp142.wr W102 (Or.inr sz6))
  have Kp144 : Keep h0 h108 [] := (Kp143.wr W108 (Or.inr sz6))
  have Kp145 : Keep h0 h113 [] := (Kp144.wr W113 (Or.inr sz6))
  have Kp146 : Keep h0 h118 [] := (Kp145.wr W118 (Or.inr sz6))
  exact ⟨av, rfl, N118, Kp146⟩
theorem pd_0 : parseMethodDescriptor "(I)Lcom/example/roles_over_datacenter/rolesoverdatacenter/ActionGroup;" = some ⟨[.int], some (.object "com/example/roles_over_datacenter/rolesoverdatacenter/ActionGroup")⟩ := by decide +kernel
theorem d2_0 : decode prog_5_method_3_code 0 = .ok (.new 8, 3) := by decide +kernel
theorem d2_3 : decode prog_5_method_3_code 3 = .ok (.dup, 1) := by decide +kernel
theorem d2_4 : decode prog_5_method_3_code 4 = .ok (.aconst_null, 1) := by decide +kernel
theorem d2_5 : decode prog_5_method_3_code 5 = .ok (.getstatic 32, 3) := by decide +kernel
theorem d2_8 : decode prog_5_method_3_code 8 = .ok (.aload_n 0, 1) := by decide +kernel
theorem d2_9 : decode prog_5_method_3_code 9 = .ok (.aconst_null, 1) := by decide +kernel
theorem d3_0 : decode prog_5_method_1_code 0 = .ok (.aload_n 0, 1) := by decide +kernel
theorem d4_0 : decode jdk_30_method_1_code 0 = .ok (.aload_n 0, 1) := by decide +kernel
theorem d4_1 : decode jdk_30_method_1_code 1 = .ok (.invokespecial 1, 3) := by decide +kernel
theorem d4_4 : decode jdk_30_method_1_code 4 = .ok (.return_, 1) := by decide +kernel
theorem ef_4_R (m : MethodId) (x0 : Addr) : entryFrame m #[(.ref x0)] 1 = mkF m 0 #[.val (.ref x0)] [] := by first | (simp [entryFrame, mkF, argsToLocals, Value.category]; done) | rfl
theorem pn_c1 : plainName "java/lang/Record" = true := by first | (simp [plainName, overriddenIn]; done) | decide +kernel
-- java/lang/Record.init
set_option maxRecDepth 65536 in
set_option maxHeartbeats 4000000 in
theorem au_4 (l : Launch) (Z : State) (a0 : Array Value) (hw : ∀ d ∈ tables_1, d.before a0 Z = true) (x0 : Addr) (h0 : Heap) (n0 : Nat) (Z0 : n0 ≤ h0.size) :
    Ctr l Z (⟨"java/lang/Record", "<init>", "()V"⟩ : MethodName) jdk_30_method_1_code 1 none ({ frames := 1, cells := 0, slots := 0, locals := 12 } : Room) #[(.ref x0)] h0 (fun v h L => v = none ∧ Fr n0 L ∧ h = h0) := by
  refine Ctr.of (plainFor_of_name pn_c1) ?_
  intro p e s m below meth c T0 hx hZ hby hml hown hnm hret hlk e0 es X0
  refine Go.cast (ef_4_R m x0) ?_
  generalize hFF : EndN s _ _ _ = FF
  refine Go.aloadN X0 hx (pc' := 1) rfl (hb hby d4_0) rfl rfl ?_
  refine Go.initO X0 hx hZ hown (tw_70 hw) (tw_71 hw) (tw_72 hw) e0 (by decide) (W := 0) (by rw [hml]; rfl) (Nat.le_of_eq rfl) (by decide) (pc' := 4) rfl (hb hby d4_1) ?_
  intro T1 e1 X1
  subst hFF
  refine Go.ret0 X1 hx hlk hret (hb hby d4_4) (by decide) (by decide) ?_
  rw [e1]
  exact ⟨rfl, (Fr.nil n0), rfl⟩
theorem pd_1 : parseMethodDescriptor "()V" = some ⟨[], none⟩ := by decide +kernel
theorem d3_1 : decode prog_5_method_1_code 1 = .ok (.invokespecial 1, 3) := by decide +kernel
theorem d3_4 : decode prog_5_method_1_code 4 = .ok (.aload_n 0, 1) := by decide +kernel
theorem d3_5 : decode prog_5_method_1_code 5 = .ok (.aload_n 1, 1) := by decide +kernel
theorem d3_6 : decode prog_5_method_1_code 6 = .ok (.putfield 7, 3) := by decide +kernel
theorem d3_9 : decode prog_5_method_1_code 9 = .ok (.aload_n 0, 1) := by decide +kernel
theorem d3_10 : decode prog_5_method_1_code 10 = .ok (.aload_n 2, 1) := by decide +kernel
theorem d3_11 : decode prog_5_method_1_code 11 = .ok (.putfield 13, 3) := by decide +kernel
theorem d3_14 : decode prog_5_method_1_code 14 = .ok (.aload_n 0, 1) := by decide +kernel
theorem d3_15 : decode prog_5_method_1_code 15 = .ok (.aload_n 3, 1) := by decide +kernel
theorem d3_16 : decode prog_5_method_1_code 16 = .ok (.putfield 17, 3) := by decide +kernel
theorem d3_19 : decode prog_5_method_1_code 19 = .ok (.aload_n 0, 1) := by decide +kernel
theorem d3_20 : decode prog_5_method_1_code 20 = .ok (.aload 4, 2) := by decide +kernel
theorem d3_22 : decode prog_5_method_1_code 22 = .ok (.putfield 21, 3) := by decide +kernel
theorem d3_25 : decode prog_5_method_1_code 25 = .ok (.return_, 1) := by decide +kernel
theorem ef_3_RNRRN (m : MethodId) (x0 : Addr)  (x2 : Addr) (x3 : Addr)  : entryFrame m #[(.ref x0), .null, (.ref x2), (.ref x3), .null] 5 = mkF m 0 #[.val (.ref x0), .val .null, .val (.ref x2), .val (.ref x3), .val .null] [] := by first | (simp [entryFrame, mkF, argsToLocals, Value.category]; done) | rfl
theorem pn_c2 : plainName "com/example/roles_over_datacenter/rolesoverdatacenter/Action$Requirement" = true := by first | (simp [plainName, overriddenIn]; done) | decide +kernel
-- com/example/roles_over_datacenter/rolesoverdatacenter/Action$Requirement.init
set_option maxRecDepth 65536 in
set_option maxHeartbeats 4000000 in
theorem au_3 (l : Launch) (Z : State) (a0 : Array Value) (hw : ∀ d ∈ tables_1, d.before a0 Z = true) (x0 : Addr) (x1 : Addr) (u0 : Addr) (u1 : Addr) (u2 : Addr) (u3 : Addr) (u4 : Addr) (u5 : Addr) (u6 : Addr) (u7 : Addr) (u8 : Addr) (u9 : Addr) (u10 : Addr) (u11 : Addr) (u12 : Addr) (u13 : Addr) (u14 : Addr) (u15 : Addr) (u16 : Addr) (u17 : Addr) (u18 : Addr) (u19 : Addr) (u20 : Addr) (u21 : Addr) (ury : Addr) (h0 : Heap) (n0 : Nat) (Z0 : n0 ≤ h0.size) (P0 : Exa Z h0 x0 "com/example/roles_over_datacenter/rolesoverdatacenter/Action$Requirement") (P1 : Fld Z h0 x0 "com/example/roles_over_datacenter/rolesoverdatacenter/Action$Requirement" "actionGroup" "Lcom/example/roles_over_datacenter/rolesoverdatacenter/ActionGroup;" .null) (P2 : Fld Z h0 x0 "com/example/roles_over_datacenter/rolesoverdatacenter/Action$Requirement" "flag" "Lcom/example/roles_over_datacenter/rolesoverdatacenter/Action$Parameter;" .null) (P3 : Fld Z h0 x0 "com/example/roles_over_datacenter/rolesoverdatacenter/Action$Requirement" "parameter" "Lcom/example/roles_over_datacenter/rolesoverdatacenter/Action$Parameter;" .null) (P4 : Fld Z h0 x0 "com/example/roles_over_datacenter/rolesoverdatacenter/Action$Requirement" "reach" "Lcom/example/roles_over_datacenter/rolesoverdatacenter/Action$Reach;" .null) (g_x0 : n0 ≤ x0) :
    Ctr l Z (⟨"com/example/roles_over_datacenter/rolesoverdatacenter/Action$Requirement", "<init>", "(Lcom/example/roles_over_datacenter/rolesoverdatacenter/Action$Parameter;Lcom/example/roles_over_datacenter/rolesoverdatacenter/Action$Reach;Lcom/example/roles_over_datacenter/rolesoverdatacenter/ActionGroup;Lcom/example/roles_over_datacenter/rolesoverdatacenter/Action$Parameter;)V"⟩ : MethodName) prog_5_method_1_code 5 none ({ frames := 2, cells := 0, slots := 0, locals := 24 } : Room) #[(.ref x0), .null, (.ref ury), (.ref x1), .null] h0 (fun v h L => v = none ∧ Fr n0 L ∧ Keep h0 h [x0] ∧ Exa Z h x0 "com/example/roles_over_datacenter/rolesoverdatacenter/Action$Requirement" ∧ Fld Z h x0 "com/example/roles_over_datacenter/rolesoverdatacenter/Action$Requirement" "actionGroup" "Lcom/example/roles_over_datacenter/rolesoverdatacenter/ActionGroup;" (.ref x1) ∧ Fld Z h x0 "com/example/roles_over_datacenter/rolesoverdatacenter/Action$Requirement" "flag" "Lcom/example/roles_over_datacenter/rolesoverdatacenter/Action$Parameter;" .null ∧ Fld Z h x0 "com/example/roles_over_datacenter/rolesoverdatacenter/Action$Requirement" "parameter" "Lcom/example/roles_over_datacenter/rolesoverdatacenter/Action$Parameter;" .null ∧ Fld Z h x0 "com/example/roles_over_datacenter/rolesoverdatacenter/Action$Requirement" "reach" "Lcom/example/roles_over_datacenter/rolesoverdatacenter/Action$Reach;" (.ref ury)) := by
  refine Ctr.of (plainFor_of_name pn_c2) ?_
  intro p e s m below meth c T0 hx hZ hby hml hown hnm hret hlk e0 es X0
  refine Go.cast (ef_3_RNRRN m x0 ury x1) ?_
  generalize hFF : EndN s _ _ _ = FF
  refine Go.aloadN X0 hx (pc' := 1) rfl (hb hby d3_0) rfl rfl ?_
  refine Go.callN X0 hx hZ hown rfl (tw_65 hw) (tw_66 hw) (tw_69 hw) (by decide) (tw_69 hw) (tw_68 hw) (au_4 l Z a0 hw x0 h0 n0 Z0) e0 (a := x0) (argsL := []) (rest := []) (pc' := 4) rfl (by rw [hml]; rfl) (lenOf pd_1 rfl) rfl rfl (W := 0) (Nat.le_of_eq rfl) (by decide) (by decide) (by decide) (by decide) (hb hby d3_1) ?_
  intro v1 T1 L1 q1 X1
  obtain ⟨rfl, N1, e1⟩ := q1
  show Go _ _ _ _ (T1.setTop (mkF m 4 #[.val (.ref x0), .val .null, .val (.ref ury), .val (.ref x1), .val .null] []))
  refine Go.aloadN X1 hx (pc' := 5) rfl (hb hby d3_4) rfl rfl ?_
  refine Go.aloadN X1 hx (pc' := 6) rfl (hb hby d3_5) rfl rfl ?_
  refine Go.putF X1 hx hZ hown (host := "") (Or.inl (tw_73 hw)) Via.refl e1 P3 P0 (Or.inr ⟨(tw_74 hw), rfl, hnm⟩) (tw_58 hw) (ty := (.object "com/example/roles_over_datacenter/rolesoverdatacenter/Action$Parameter")) (by decide) rfl rfl (pc' := 9) rfl (hb hby d3_6) ?_
  intro T2 h2 e2 W2 F2 X2
  have N2 := Fr.snoc X2 (Fr.app (Fr.nil n0) N1) g_x0
  refine Go.aloadN X2 hx (pc' := 10) rfl (hb hby d3_9) rfl rfl ?_
  refine Go.aloadN X2 hx (pc' := 11) rfl (hb hby d3_10) rfl rfl ?_
  have fk3 : Fld Z h2 x0 "com/example/roles_over_datacenter/rolesoverdatacenter/Action$Requirement" "reach" "Lcom/example/roles_over_datacenter/rolesoverdatacenter/Action$Reach;" .null := (P4.other W2 (Or.inr (slot_ne (Or.inr (tw_76 hw)) (Or.inr (tw_74 hw)) (by decide) (t := (.object "com/example/roles_over_datacenter/rolesoverdatacenter/Action$Reach")) (t' := (.object "com/example/roles_over_datacenter/rolesoverdatacenter/Action$Parameter")) (by decide) (by decide))))
  have fk4 : Exa Z h2 x0 "com/example/roles_over_datacenter/rolesoverdatacenter/Action$Requirement" := (P0.wr W2)
  refine Go.putF X2 hx hZ hown (host := "") (Or.inl (tw_75 hw)) Via.refl e2 fk3 fk4 (Or.inr ⟨(tw_76 hw), rfl, hnm⟩) (tw_58 hw) (ty := (.object "com/example/roles_over_datacenter/rolesoverdatacenter/Action$Reach")) (by decide) rfl rfl (pc' := 14) rfl (hb hby d3_11) ?_
  intro T5 h5 e5 W5 F5 X5
  have N5 := Fr.snoc X5 N2 g_x0
  refine Go.aloadN X5 hx (pc' := 15) rfl (hb hby d3_14) rfl rfl ?_
  refine Go.aloadN X5 hx (pc' := 16) rfl (hb hby d3_15) rfl rfl ?_
  have fk6 : Fld Z h5 x0 "com/example/roles_over_datacenter/rolesoverdatacenter/Action$Requirement" "actionGroup" "Lcom/example/roles_over_datacenter/rolesoverdatacenter/ActionGroup;" .null := ((P1.other W2 (Or.inr (slot_ne (Or.inr (tw_78 hw)) (Or.inr (tw_74 hw)) (by decide) (t := (.object "com/example/roles_over_datacenter/rolesoverdatacenter/ActionGroup")) (t' := (.object "com/example/roles_over_datacenter/rolesoverdatacenter/Action$Parameter")) (by decide) (by decide)))).other W5 (Or.inr (slot_ne (Or.inr (tw_78 hw)) (Or.inr (tw_76 hw)) (by decide) (t := (.object "com/example/roles_over_datacenter/rolesoverdatacenter/ActionGroup")) (t' := (.object "com/example/roles_over_datacenter/rolesoverdatacenter/Action$Reach")) (by decide) (by decide))))
  have fk7 : Exa Z h5 x0 "com/example/roles_over_datacenter/rolesoverdatacenter/Action$Requirement" := (fk4.wr W5)
  refine Go.putF X5 hx hZ hown (host := "") (Or.inl (tw_77 hw)) Via.refl e5 fk6 fk7 (Or.inr ⟨(tw_78 hw), rfl, hnm⟩) (tw_58 hw) (ty := (.object "com/example/roles_over_datacenter/rolesoverdatacenter/ActionGroup")) (by decide) rfl rfl (pc' := 19) rfl (hb hby d3_16) ?_
  intro T8 h8 e8 W8 F8 X8
  have N8 := Fr.snoc X8 N5 g_x0
  refine Go.aloadN X8 hx (pc' := 20) rfl (hb hby d3_19) rfl rfl ?_
  refine Go.aload X8 hx (pc' := 22) rfl (hb hby d3_20) rfl rfl ?_
  have fk9 : Fld Z h8 x0 "com/example/roles_over_datacenter/rolesoverdatacenter/Action$Requirement" "flag" "Lcom/example/roles_over_datacenter/rolesoverdatacenter/Action$Parameter;" .null := (((P2.other W2 (Or.inr (slot_ne (Or.inr (tw_80 hw)) (Or.inr (tw_74 hw)) (by decide) (t := (.object "com/example/roles_over_datacenter/rolesoverdatacenter/Action$Parameter")) (t' := (.object "com/example/roles_over_datacenter/rolesoverdatacenter/Action$Parameter")) (by decide) (by decide)))).other W5 (Or.inr (slot_ne (Or.inr (tw_80 hw)) (Or.inr (tw_76 hw)) (by decide) (t := (.object "com/example/roles_over_datacenter/rolesoverdatacenter/Action$Parameter")) (t' := (.object "com/example/roles_over_datacenter/rolesoverdatacenter/Action$Reach")) (by decide) (by decide)))).other W8 (Or.inr (slot_ne (Or.inr (tw_80 hw)) (Or.inr (tw_78 hw)) (by decide) (t := (.object "com/example/roles_over_datacenter/rolesoverdatacenter/Action$Parameter")) (t' := (.object "com/example/roles_over_datacenter/rolesoverdatacenter/ActionGroup")) (by decide) (by decide))))
  have fk10 : Exa Z h8 x0 "com/example/roles_over_datacenter/rolesoverdatacenter/Action$Requirement" := (fk7.wr W8)
  refine Go.putF X8 hx hZ hown (host := "") (Or.inl (tw_79 hw)) Via.refl e8 fk9 fk10 (Or.inr ⟨(tw_80 hw), rfl, hnm⟩) (tw_58 hw) (ty := (.object "com/example/roles_over_datacenter/rolesoverdatacenter/Action$Parameter")) (by decide) rfl rfl (pc' := 25) rfl (hb hby d3_22) ?_
  intro T11 h11 e11 W11 F11 X11
  have N11 := Fr.snoc X11 N8 g_x0
  subst hFF
  refine Go.ret0 X11 hx hlk hret (hb hby d3_25) (by decide) (by decide) ?_
  rw [e11]
  have fk12 : Exa Z h11 x0 "com/example/roles_over_datacenter/rolesoverdatacenter/Action$Requirement" := (fk10.wr W11)
  have fk13 : Fld Z h11 x0 "com/example/roles_over_datacenter/rolesoverdatacenter/Action$Requirement" "actionGroup" "Lcom/example/roles_over_datacenter/rolesoverdatacenter/ActionGroup;" (.ref x1) := (F8.other W11 (Or.inr (slot_ne (Or.inr (tw_78 hw)) (Or.inr (tw_80 hw)) (by decide) (t := (.object "com/example/roles_over_datacenter/rolesoverdatacenter/ActionGroup")) (t' := (.object "com/example/roles_over_datacenter/rolesoverdatacenter/Action$Parameter")) (by decide) (by decide))))
  have fk14 : Fld Z h11 x0 "com/example/roles_over_datacenter/rolesoverdatacenter/Action$Requirement" "parameter" "Lcom/example/roles_over_datacenter/rolesoverdatacenter/Action$Parameter;" .null := (((F2.other W5 (Or.inr (slot_ne (Or.inr (tw_74 hw)) (Or.inr (tw_76 hw)) (by decide) (t := (.object "com/example/roles_over_datacenter/rolesoverdatacenter/Action$Parameter")) (t' := (.object "com/example/roles_over_datacenter/rolesoverdatacenter/Action$Reach")) (by decide) (by decide)))).other W8 (Or.inr (slot_ne (Or.inr (tw_74 hw)) (Or.inr (tw_78 hw)) (by decide) (t := (.object "com/example/roles_over_datacenter/rolesoverdatacenter/Action$Parameter")) (t' := (.object "com/example/roles_over_datacenter/rolesoverdatacenter/ActionGroup")) (by decide) (by decide)))).other W11 (Or.inr (slot_ne (Or.inr (tw_74 hw)) (Or.inr (tw_80 hw)) (by decide) (t := (.object "com/example/roles_over_datacenter/rolesoverdatacenter/Action$Parameter")) (t' := (.object "com/example/roles_over_datacenter/rolesoverdatacenter/Action$Parameter")) (by decide) (by decide))))
  have fk15 : Fld Z h11 x0 "com/example/roles_over_datacenter/rolesoverdatacenter/Action$Requirement" "reach" "Lcom/example/roles_over_datacenter/rolesoverdatacenter/Action$Reach;" (.ref ury) := ((F5.other W8 (Or.inr (slot_ne (Or.inr (tw_76 hw)) (Or.inr (tw_78 hw)) (by decide) (t := (.object "com/example/roles_over_datacenter/rolesoverdatacenter/Action$Reach")) (t' := (.object "com/example/roles_over_datacenter/rolesoverdatacenter/ActionGroup")) (by decide) (by decide)))).other W11 (Or.inr (slot_ne (Or.inr (tw_76 hw)) (Or.inr (tw_80 hw)) (by decide) (t := (.object "com/example/roles_over_datacenter/rolesoverdatacenter/Action$Reach")) (t' := (.object "com/example/roles_over_datacenter/rolesoverdatacenter/Action$Parameter")) (by decide) (by decide))))
  have Kp16 : Keep h0 h2 [x0] := ((Keep.refl h0 [x0]).wr W2 (Or.inl (List.mem_of_getElem? (i := 0) rfl)))
  have Kp17 : Keep h0 h5 [x0] := (Kp16.wr W5 (Or.inl (List.mem_of_getElem? (i := 0) rfl)))
  have Kp18 : Keep h0 h8 [x0] := (Kp17.wr W8 (Or.inl (List.mem_of_getElem? (i := 0) rfl)))
  have Kp19 : Keep h0 h11 [x0] := (Kp18.wr W11 (Or.inl (List.mem_of_getElem? (i := 0) rfl)))
  exact ⟨rfl, N11, Kp19, fk12, fk13, F11, fk14, fk15⟩
theorem pd_2 : parseMethodDescriptor "(Lcom/example/roles_over_datacenter/rolesoverdatacenter/Action$Parameter;Lcom/example/roles_over_datacenter/rolesoverdatacenter/Action$Reach;Lcom/example/roles_over_datacenter/rolesoverdatacenter/ActionGroup;Lcom/example/roles_over_datacenter/rolesoverdatacenter/Action$Parameter;)V" = some ⟨[(.object "com/example/roles_over_datacenter/rolesoverdatacenter/Action$Parameter"), (.object "com/example/roles_over_datacenter/rolesoverdatacenter/Action$Reach"), (.object "com/example/roles_over_datacenter/rolesoverdatacenter/ActionGroup"), (.object "com/example/roles_over_datacenter/rolesoverdatacenter/Action$Parameter")], none⟩ := by decide +kernel
theorem d2_10 : decode prog_5_method_3_code 10 = .ok (.invokespecial 29, 3) := by decide +kernel
theorem d2_13 : decode prog_5_method_3_code 13 = .ok (.areturn, 1) := by decide +kernel
theorem ef_2_R (m : MethodId) (x0 : Addr) : entryFrame m #[(.ref x0)] 1 = mkF m 0 #[.val (.ref x0)] [] := by first | (simp [entryFrame, mkF, argsToLocals, Value.category]; done) | rfl
-- com/example/roles_over_datacenter/rolesoverdatacenter/Action$Requirement.onSystem
set_option maxRecDepth 65536 in
set_option maxHeartbeats 4000000 in
theorem au_2 (l : Launch) (Z : State) (a0 : Array Value) (hw : ∀ d ∈ tables_1, d.before a0 Z = true) (x0 : Addr) (u0 : Addr) (u1 : Addr) (u2 : Addr) (u3 : Addr) (u4 : Addr) (u5 : Addr) (u6 : Addr) (u7 : Addr) (u8 : Addr) (u9 : Addr) (u10 : Addr) (u11 : Addr) (u12 : Addr) (u13 : Addr) (u14 : Addr) (u15 : Addr) (u16 : Addr) (u17 : Addr) (u18 : Addr) (u19 : Addr) (u20 : Addr) (u21 : Addr) (ury : Addr) (h0 : Heap) (n0 : Nat) (Z0 : n0 ≤ h0.size) (O0 : Old Z n0 h0) (G : Glob Z u0 u1 u2 u3 u4 u5 u6 u7 u8 u9 u10 u11 u12 u13 u14 u15 u16 u17 u18 u19 u20 u21 ury) :
    Ctr l Z (⟨"com/example/roles_over_datacenter/rolesoverdatacenter/Action$Requirement", "onSystem", "(Lcom/example/roles_over_datacenter/rolesoverdatacenter/ActionGroup;)Lcom/example/roles_over_datacenter/rolesoverdatacenter/Action$Requirement;"⟩ : MethodName) prog_5_method_3_code 1 (some (.object "com/example/roles_over_datacenter/rolesoverdatacenter/Action$Requirement")) ({ frames := 3, cells := 1, slots := 4, locals := 41 } : Room) #[(.ref x0)] h0 (fun v h L => ∃ (y0 : Addr), v = some (.ref y0) ∧ Fr n0 L ∧ Keep h0 h [] ∧ h0.size ≤ y0 ∧ Exa Z h y0 "com/example/roles_over_datacenter/rolesoverdatacenter/Action$Requirement" ∧ Fld Z h y0 "com/example/roles_over_datacenter/rolesoverdatacenter/Action$Requirement" "actionGroup" "Lcom/example/roles_over_datacenter/rolesoverdatacenter/ActionGroup;" (.ref x0) ∧ Fld Z h y0 "com/example/roles_over_datacenter/rolesoverdatacenter/Action$Requirement" "flag" "Lcom/example/roles_over_datacenter/rolesoverdatacenter/Action$Parameter;" .null ∧ Fld Z h y0 "com/example/roles_over_datacenter/rolesoverdatacenter/Action$Requirement" "parameter" "Lcom/example/roles_over_datacenter/rolesoverdatacenter/Action$Parameter;" .null ∧ Fld Z h y0 "com/example/roles_over_datacenter/rolesoverdatacenter/Action$Requirement" "reach" "Lcom/example/roles_over_datacenter/rolesoverdatacenter/Action$Reach;" (.ref ury)) := by
  refine Ctr.of (plainFor_of_name pn_c2) ?_
  intro p e s m below meth c T0 hx hZ hby hml hown hnm hret hlk e0 es X0
  have G' := G
  obtain ⟨-, -, -, -, -, -, -, -, -, -, -, -, -, -, -, -, -, -, -, -, -, -, -, -, -, -, -, -, -, -, -, -, -, -, -, -, -, -, -, -, -, -, -, -, G44⟩ := G'
  refine Go.cast (ef_2_R m x0) ?_
  generalize hFF : EndN s _ _ _ = FF
  refine Go.new X0 hx hZ hown (tw_57 hw) (tw_58 hw) (tw_55 hw) e0 (by decide) (by decide) (pc' := 3) rfl (hb hby d2_0) ?_
  intro T1 h1 b1 e1 E1 g1 A1 D1 X1
  have b1_parameter : Fld Z h1 b1 "com/example/roles_over_datacenter/rolesoverdatacenter/Action$Requirement" "parameter" "Lcom/example/roles_over_datacenter/rolesoverdatacenter/Action$Parameter;" .null := D1 (Or.inr (tw_74 hw)) (ty := (.object "com/example/roles_over_datacenter/rolesoverdatacenter/Action$Parameter")) (by decide)
  have b1_reach : Fld Z h1 b1 "com/example/roles_over_datacenter/rolesoverdatacenter/Action$Requirement" "reach" "Lcom/example/roles_over_datacenter/rolesoverdatacenter/Action$Reach;" .null := D1 (Or.inr (tw_76 hw)) (ty := (.object "com/example/roles_over_datacenter/rolesoverdatacenter/Action$Reach")) (by decide)
  have b1_actionGroup : Fld Z h1 b1 "com/example/roles_over_datacenter/rolesoverdatacenter/Action$Requirement" "actionGroup" "Lcom/example/roles_over_datacenter/rolesoverdatacenter/ActionGroup;" .null := D1 (Or.inr (tw_78 hw)) (ty := (.object "com/example/roles_over_datacenter/rolesoverdatacenter/ActionGroup")) (by decide)
  have b1_flag : Fld Z h1 b1 "com/example/roles_over_datacenter/rolesoverdatacenter/Action$Requirement" "flag" "Lcom/example/roles_over_datacenter/rolesoverdatacenter/Action$Parameter;" .null := D1 (Or.inr (tw_80 hw)) (ty := (.object "com/example/roles_over_datacenter/rolesoverdatacenter/Action$Parameter")) (by decide)
  refine Go.dup X1 hx (pc' := 4) rfl (hb hby d2_3) rfl ?_
  refine Go.anull X1 hx (pc' := 5) rfl (hb hby d2_4) ?_
  have O3 := (O0.ext E1)
  have fk2 : Sta Z h1 "com/example/roles_over_datacenter/rolesoverdatacenter/Action$Reach" "SYSTEM" "Lcom/example/roles_over_datacenter/rolesoverdatacenter/Action$Reach;" (.ref ury) := G44.ext O3.2
  refine Go.getS X1 hx hZ hown (host := "") (Or.inl (tw_59 hw)) Via.refl e1 fk2 (pc' := 8) rfl (hb hby d2_5) ?_
  intro T4 e4 X4
  refine Go.aloadN X4 hx (pc' := 9) rfl (hb hby d2_8) rfl rfl ?_
  refine Go.anull X4 hx (pc' := 10) rfl (hb hby d2_9) ?_
  have Kp6 : Keep h0 h1 [] := ((Keep.refl h0 []).ext E1)
  have Zn5 : n0 ≤ h1.size := Nat.le_trans Z0 Kp6.1
  have sz8 : h0.size ≤ b1 := Nat.le_trans (Keep.refl h0 []).1 (Nat.le_of_eq g1.symm)
  have ge7 : n0 ≤ b1 := Nat.le_trans Z0 sz8
  refine Go.callN X4 hx hZ hown rfl (tw_62 hw) (tw_63 hw) (tw_64 hw) (by decide) (tw_64 hw) (tw_55 hw) (au_3 l Z a0 hw b1 x0 u0 u1 u2 u3 u4 u5 u6 u7 u8 u9 u10 u11 u12 u13 u14 u15 u16 u17 u18 u19 u20 u21 ury h1 n0 Zn5 A1 b1_actionGroup b1_flag b1_parameter b1_reach ge7) e4 (a := b1) (argsL := [.null, (.ref ury), (.ref x0), .null]) (rest := [(.ref b1)]) (pc' := 13) rfl (by rw [hml]; rfl) (lenOf pd_2 rfl) rfl rfl (W := 1) (Nat.le_of_eq rfl) (by decide) (by decide) (by decide) (by decide) (hb hby d2_10) ?_
  intro v9 T9 L9 q9 X9
  obtain ⟨h9, e9⟩ : ∃ z, T9.heap = z := ⟨_, rfl⟩
  rw [e9] at q9
  obtain ⟨rfl, N9, K9, F9_0, F9_1, F9_2, F9_3, F9_4⟩ := q9
  show Go _ _ _ _ (T9.setTop (mkF m 13 #[.val (.ref x0)] [(.ref b1)]))
  subst hFF
  refine Go.retR X9 hx hlk (t := (.object "com/example/roles_over_datacenter/rolesoverdatacenter/Action$Requirement")) hret rfl rfl (hb hby d2_13) (by decide) (by decide) ?_
  rw [e9]
  have Kp10 : Keep h0 h9 [] := (Kp6.trans K9 (allS (Or.inr sz8) all0))
  exact ⟨b1, rfl, (Fr.app (Fr.nil n0) N9), Kp10, sz8, F9_0, F9_1, F9_2, F9_3, F9_4⟩
theorem pd_3 : parseMethodDescriptor "(Lcom/example/roles_over_datacenter/rolesoverdatacenter/ActionGroup;)Lcom/example/roles_over_datacenter/rolesoverdatacenter/Action$Requirement;" = some ⟨[(.object "com/example/roles_over_datacenter/rolesoverdatacenter/ActionGroup")], some (.object "com/example/roles_over_datacenter/rolesoverdatacenter/Action$Requirement")⟩ := by decide +kernel
theorem d6_0 : decode prog_5_method_10_code 0 = .ok (.aload_n 0, 1) := by decide +kernel
theorem d6_1 : decode prog_5_method_10_code 1 = .ok (.getfield 7, 3) := by decide +kernel
theorem d6_4 : decode prog_5_method_10_code 4 = .ok (.areturn, 1) := by decide +kernel
theorem ef_6_R (m : MethodId) (x0 : Addr) : entryFrame m #[(.ref x0)] 1 = mkF m 0 #[.val (.ref x0)] [] := by first | (simp [entryFrame, mkF, argsToLocals, Value.category]; done) | rfl
-- com/example/roles_over_datacenter/rolesoverdatacenter/Action$Requirement.parameter
set_option maxRecDepth 65536 in
set_option maxHeartbeats 4000000 in
theorem au_5 (l : Launch) (Z : State) (a0 : Array Value) (hw : ∀ d ∈ tables_1, d.before a0 Z = true) (x0 : Addr) (h0 : Heap) (n0 : Nat) (Z0 : n0 ≤ h0.size) (P3 : Fld Z h0 x0 "com/example/roles_over_datacenter/rolesoverdatacenter/Action$Requirement" "parameter" "Lcom/example/roles_over_datacenter/rolesoverdatacenter/Action$Parameter;" .null) :
    Ctr l Z (⟨"com/example/roles_over_datacenter/rolesoverdatacenter/Action$Requirement", "parameter", "()Lcom/example/roles_over_datacenter/rolesoverdatacenter/Action$Parameter;"⟩ : MethodName) prog_5_method_10_code 1 (some (.object "com/example/roles_over_datacenter/rolesoverdatacenter/Action$Parameter")) ({ frames := 0, cells := 0, slots := 0, locals := 0 } : Room) #[(.ref x0)] h0 (fun v h L => v = some .null ∧ Fr n0 L ∧ h = h0) := by
  refine Ctr.of (plainFor_of_name pn_c2) ?_
  intro p e s m below meth c T0 hx hZ hby hml hown hnm hret hlk e0 es X0
  refine Go.cast (ef_6_R m x0) ?_
  generalize hFF : EndN s _ _ _ = FF
  refine Go.aloadN X0 hx (pc' := 1) rfl (hb hby d6_0) rfl rfl ?_
  refine Go.getF X0 hx hZ hown (host := "") (Or.inl (tw_73 hw)) Via.refl e0 P3 (pc' := 4) rfl (hb hby d6_1) ?_
  intro T1 e1 X1
  subst hFF
  refine Go.retR X1 hx hlk (t := (.object "com/example/roles_over_datacenter/rolesoverdatacenter/Action$Parameter")) hret rfl rfl (hb hby d6_4) (by decide) (by decide) ?_
  rw [e1]
  exact ⟨rfl, (Fr.nil n0), rfl⟩
theorem pd_4 : parseMethodDescriptor "()Lcom/example/roles_over_datacenter/rolesoverdatacenter/Action$Parameter;" = some ⟨[], some (.object "com/example/roles_over_datacenter/rolesoverdatacenter/Action$Parameter")⟩ := by decide +kernel
theorem d7_0 : decode prog_5_method_11_code 0 = .ok (.aload_n 0, 1) := by decide +kernel
theorem d7_1 : decode prog_5_method_11_code 1 = .ok (.getfield 13, 3) := by decide +kernel
theorem d7_4 : decode prog_5_method_11_code 4 = .ok (.areturn, 1) := by decide +kernel
theorem ef_7_R (m : MethodId) (x0 : Addr) : entryFrame m #[(.ref x0)] 1 = mkF m 0 #[.val (.ref x0)] [] := by first | (simp [entryFrame, mkF, argsToLocals, Value.category]; done) | rfl
-- com/example/roles_over_datacenter/rolesoverdatacenter/Action$Requirement.reach
set_option maxRecDepth 65536 in
set_option maxHeartbeats 4000000 in
theorem au_6 (l : Launch) (Z : State) (a0 : Array Value) (hw : ∀ d ∈ tables_1, d.before a0 Z = true) (x0 : Addr) (u0 : Addr) (u1 : Addr) (u2 : Addr) (u3 : Addr) (u4 : Addr) (u5 : Addr) (u6 : Addr) (u7 : Addr) (u8 : Addr) (u9 : Addr) (u10 : Addr) (u11 : Addr) (u12 : Addr) (u13 : Addr) (u14 : Addr) (u15 : Addr) (u16 : Addr) (u17 : Addr) (u18 : Addr) (u19 : Addr) (u20 : Addr) (u21 : Addr) (ury : Addr) (h0 : Heap) (n0 : Nat) (Z0 : n0 ≤ h0.size) (P4 : Fld Z h0 x0 "com/example/roles_over_datacenter/rolesoverdatacenter/Action$Requirement" "reach" "Lcom/example/roles_over_datacenter/rolesoverdatacenter/Action$Reach;" (.ref ury)) :
    Ctr l Z (⟨"com/example/roles_over_datacenter/rolesoverdatacenter/Action$Requirement", "reach", "()Lcom/example/roles_over_datacenter/rolesoverdatacenter/Action$Reach;"⟩ : MethodName) prog_5_method_11_code 1 (some (.object "com/example/roles_over_datacenter/rolesoverdatacenter/Action$Reach")) ({ frames := 0, cells := 0, slots := 0, locals := 0 } : Room) #[(.ref x0)] h0 (fun v h L => v = some (.ref ury) ∧ Fr n0 L ∧ h = h0) := by
  refine Ctr.of (plainFor_of_name pn_c2) ?_
  intro p e s m below meth c T0 hx hZ hby hml hown hnm hret hlk e0 es X0
  refine Go.cast (ef_7_R m x0) ?_
  generalize hFF : EndN s _ _ _ = FF
  refine Go.aloadN X0 hx (pc' := 1) rfl (hb hby d7_0) rfl rfl ?_
  refine Go.getF X0 hx hZ hown (host := "") (Or.inl (tw_75 hw)) Via.refl e0 P4 (pc' := 4) rfl (hb hby d7_1) ?_
  intro T1 e1 X1
  subst hFF
  refine Go.retR X1 hx hlk (t := (.object "com/example/roles_over_datacenter/rolesoverdatacenter/Action$Reach")) hret rfl rfl (hb hby d7_4) (by decide) (by decide) ?_
  rw [e1]
  exact ⟨rfl, (Fr.nil n0), rfl⟩
theorem pd_5 : parseMethodDescriptor "()Lcom/example/roles_over_datacenter/rolesoverdatacenter/Action$Reach;" = some ⟨[], some (.object "com/example/roles_over_datacenter/rolesoverdatacenter/Action$Reach")⟩ := by decide +kernel
theorem d8_0 : decode prog_5_method_12_code 0 = .ok (.aload_n 0, 1) := by decide +kernel
theorem d8_1 : decode prog_5_method_12_code 1 = .ok (.getfield 17, 3) := by decide +kernel
theorem d8_4 : decode prog_5_method_12_code 4 = .ok (.areturn, 1) := by decide +kernel
theorem ef_8_R (m : MethodId) (x0 : Addr) : entryFrame m #[(.ref x0)] 1 = mkF m 0 #[.val (.ref x0)] [] := by first | (simp [entryFrame, mkF, argsToLocals, Value.category]; done) | rfl
-- com/example/roles_over_datacenter/rolesoverdatacenter/Action$Requirement.actionGroup
set_option maxRecDepth 65536 in
set_option maxHeartbeats 4000000 in
theorem au_7 (l : Launch) (Z : State) (a0 : Array Value) (hw : ∀ d ∈ tables_1, d.before a0 Z = true) (x0 : Addr) (x1 : Addr) (h0 : Heap) (n0 : Nat) (Z0 : n0 ≤ h0.size) (P1 : Fld Z h0 x0 "com/example/roles_over_datacenter/rolesoverdatacenter/Action$Requirement" "actionGroup" "Lcom/example/roles_over_datacenter/rolesoverdatacenter/ActionGroup;" (.ref x1)) :
    Ctr l Z (⟨"com/example/roles_over_datacenter/rolesoverdatacenter/Action$Requirement", "actionGroup", "()Lcom/example/roles_over_datacenter/rolesoverdatacenter/ActionGroup;"⟩ : MethodName) prog_5_method_12_code 1 (some (.object "com/example/roles_over_datacenter/rolesoverdatacenter/ActionGroup")) ({ frames := 0, cells := 0, slots := 0, locals := 0 } : Room) #[(.ref x0)] h0 (fun v h L => v = some (.ref x1) ∧ Fr n0 L ∧ h = h0) := by
  refine Ctr.of (plainFor_of_name pn_c2) ?_
  intro p e s m below meth c T0 hx hZ hby hml hown hnm hret hlk e0 es X0
  refine Go.cast (ef_8_R m x0) ?_
  generalize hFF : EndN s _ _ _ = FF
  refine Go.aloadN X0 hx (pc' := 1) rfl (hb hby d8_0) rfl rfl ?_
  refine Go.getF X0 hx hZ hown (host := "") (Or.inl (tw_77 hw)) Via.refl e0 P1 (pc' := 4) rfl (hb hby d8_1) ?_
  intro T1 e1 X1
  subst hFF
  refine Go.retR X1 hx hlk (t := (.object "com/example/roles_over_datacenter/rolesoverdatacenter/ActionGroup")) hret rfl rfl (hb hby d8_4) (by decide) (by decide) ?_
  rw [e1]
  exact ⟨rfl, (Fr.nil n0), rfl⟩
theorem pd_6 : parseMethodDescriptor "()Lcom/example/roles_over_datacenter/rolesoverdatacenter/ActionGroup;" = some ⟨[], some (.object "com/example/roles_over_datacenter/rolesoverdatacenter/ActionGroup")⟩ := by decide +kernel
theorem d9_0 : decode prog_5_method_13_code 0 = .ok (.aload_n 0, 1) := by decide +kernel
theorem d9_1 : decode prog_5_method_13_code 1 = .ok (.getfield 21, 3) := by decide +kernel
theorem d9_4 : decode prog_5_method_13_code 4 = .ok (.areturn, 1) := by decide +kernel
theorem ef_9_R (m : MethodId) (x0 : Addr) : entryFrame m #[(.ref x0)] 1 = mkF m 0 #[.val (.ref x0)] [] := by first | (simp [entryFrame, mkF, argsToLocals, Value.category]; done) | rfl
-- com/example/roles_over_datacenter/rolesoverdatacenter/Action$Requirement.flag
set_option maxRecDepth 65536 in
set_option maxHeartbeats 4000000 in
theorem au_8 (l : Launch) (Z : State) (a0 : Array Value) (hw : ∀ d ∈ tables_1, d.before a0 Z = true) (x0 : Addr) (h0 : Heap) (n0 : Nat) (Z0 : n0 ≤ h0.size) (P2 : Fld Z h0 x0 "com/example/roles_over_datacenter/rolesoverdatacenter/Action$Requirement" "flag" "Lcom/example/roles_over_datacenter/rolesoverdatacenter/Action$Parameter;" .null) :
    Ctr l Z (⟨"com/example/roles_over_datacenter/rolesoverdatacenter/Action$Requirement", "flag", "()Lcom/example/roles_over_datacenter/rolesoverdatacenter/Action$Parameter;"⟩ : MethodName) prog_5_method_13_code 1 (some (.object "com/example/roles_over_datacenter/rolesoverdatacenter/Action$Parameter")) ({ frames := 0, cells := 0, slots := 0, locals := 0 } : Room) #[(.ref x0)] h0 (fun v h L => v = some .null ∧ Fr n0 L ∧ h = h0) := by
  refine Ctr.of (plainFor_of_name pn_c2) ?_
  intro p e s m below meth c T0 hx hZ hby hml hown hnm hret hlk e0 es X0
  refine Go.cast (ef_9_R m x0) ?_
  generalize hFF : EndN s _ _ _ = FF
  refine Go.aloadN X0 hx (pc' := 1) rfl (hb hby d9_0) rfl rfl ?_
  refine Go.getF X0 hx hZ hown (host := "") (Or.inl (tw_79 hw)) Via.refl e0 P2 (pc' := 4) rfl (hb hby d9_1) ?_
  intro T1 e1 X1
  subst hFF
  refine Go.retR X1 hx hlk (t := (.object "com/example/roles_over_datacenter/rolesoverdatacenter/Action$Parameter")) hret rfl rfl (hb hby d9_4) (by decide) (by decide) ?_
  rw [e1]
  exact ⟨rfl, (Fr.nil n0), rfl⟩
theorem ef_0_I (m : MethodId) (x0 : Int32) : entryFrame m #[(.int x0)] maxLocals = mkF m 0 #[.val (.int x0), .unset, .unset, .unset, .unset, .unset, .unset] [] := by first | (simp [entryFrame, mkF, argsToLocals, Value.category, maxLocals]; done) | rfl
set_option maxRecDepth 65536 in
set_option maxHeartbeats 40000000 in
theorem rm0 (l : Launch) (Z : State) (a0 : Array Value) (hw : ∀ d ∈ tables_1, d.before a0 Z = true) (p0 : Int32) (u0 : Addr) (u1 : Addr) (u2 : Addr) (u3 : Addr) (u4 : Addr) (u5 : Addr) (u6 : Addr) (u7 : Addr) (u8 : Addr) (u9 : Addr) (u10 : Addr) (u11 : Addr) (u12 : Addr) (u13 : Addr) (u14 : Addr) (u15 : Addr) (u16 : Addr) (u17 : Addr) (u18 : Addr) (u19 : Addr) (u20 : Addr) (u21 : Addr) (ury : Addr) (h0 : Heap) (n0 : Nat) (Z0 : n0 ≤ h0.size) (O0 : Old Z n0 h0) (G : Glob Z u0 u1 u2 u3 u4 u5 u6 u7 u8 u9 u10 u11 u12 u13 u14 u15 u16 u17 u18 u19 u20 u21 ury) :
    Ctr l Z x code maxLocals ret room_1 #[(.int p0)] h0 (fun v h L => v = some (.int (1 : Int32)) ∧ Fr n0 L) := by
  refine Ctr.of (plainFor_of_name pn_c0) ?_
  intro p e s m below meth c T0 hx hZ hby hml hown hnm hret hlk e0 es X0
  refine Go.cast (ef_0_I m p0) ?_
  have G' := G
  obtain ⟨-, -, -, -, -, -, -, -, -, -, -, -, -, -, -, -, -, -, -, -, -, -, -, -, -, -, -, -, -, -, -, -, -, -, -, -, -, -, -, -, -, -, -, -, G44⟩ := G'
  refine Go.iloadN X0 hx (pc' := 1) rfl (hb hby at_0) rfl ?_
  refine Go.callS X0 hx hZ hown (tw_0 hw) (tw_1 hw) (tw_2 hw) (tw_3 hw) (by decide) (tw_3 hw) (tw_2 hw) (au_1 l Z a0 hw p0 u0 u1 u2 u3 u4 u5 u6 u7 u8 u9 u10 u11 u12 u13 u14 u15 u16 u17 u18 u19 u20 u21 ury h0 n0 Z0 O0 G) e0 (argsL := [(.int p0)]) (rest := []) (pc' := 4) rfl (by rw [hml]; rfl) (lenOf pd_0 rfl) rfl rfl (W := 0) (Nat.le_of_eq rfl) (by decide) (by decide) (by decide) (by decide) (hb hby at_1) ?_
  intro v1 T1 L1 q1 X1
  obtain ⟨h1, e1⟩ : ∃ z, T1.heap = z := ⟨_, rfl⟩
  rw [e1] at q1
  obtain ⟨b1_0, rfl, N1, K1⟩ := q1
  show Go _ _ _ _ (T1.setTop (mkF m 4 #[.val (.int p0), .unset, .unset, .unset, .unset, .unset, .unset] [(.ref b1_0)]))
  refine Go.astoreN X1 hx (pc' := 5) rfl (hb hby at_4) (Ls' := #[.val (.int p0), .val (.ref b1_0), .unset, .unset, .unset, .unset, .unset]) rfl rfl ?_
  refine Go.aloadN X1 hx (pc' := 6) rfl (hb hby at_5) rfl rfl ?_
  have Kp3 : Keep h0 h1 [] := ((Keep.refl h0 []).trans K1 all0)
  have Zn2 : n0 ≤ h1.size := Nat.le_trans Z0 Kp3.1
  have O4 := (O0.keep K1 all0)
  refine Go.callS X1 hx hZ hown (tw_53 hw) (tw_54 hw) (tw_55 hw) (tw_56 hw) (by decide) (tw_56 hw) (tw_55 hw) (au_2 l Z a0 hw b1_0 u0 u1 u2 u3 u4 u5 u6 u7 u8 u9 u10 u11 u12 u13 u14 u15 u16 u17 u18 u19 u20 u21 ury h1 n0 Zn2 O4 G) e1 (argsL := [(.ref b1_0)]) (rest := []) (pc' := 9) rfl (by rw [hml]; rfl) (lenOf pd_3 rfl) rfl rfl (W := 0) (Nat.le_of_eq rfl) (by decide) (by decide) (by decide) (by decide) (hb hby at_6) ?_
  intro v5 T5 L5 q5 X5
  obtain ⟨h5, e5⟩ : ∃ z, T5.heap = z := ⟨_, rfl⟩
  rw [e5] at q5
  obtain ⟨b5_0, rfl, N5, K5, s5_0, F5_0, F5_1, F5_2, F5_3, F5_4⟩ := q5
  show Go _ _ _ _ (T5.setTop (mkF m 9 #[.val (.int p0), .val (.ref b1_0), .unset, .unset, .unset, .unset, .unset] [(.ref b5_0)]))
  refine Go.astoreN X5 hx (pc' := 10) rfl (hb hby at_9) (Ls' := #[.val (.int p0), .val (.ref b1_0), .val (.ref b5_0), .unset, .unset, .unset, .unset]) rfl rfl ?_
  refine Go.aloadN X5 hx (pc' := 11) rfl (hb hby at_10) rfl rfl ?_
  refine Go.ifnonnullYes X5 hx (pc' := 16) (hb hby at_11) (by decide) (by decide) ?_
  refine Go.aloadN X5 hx (pc' := 17) rfl (hb hby at_16) rfl rfl ?_
  have Kp7 : Keep h0 h5 [] := (Kp3.trans K5 all0)
  have Zn6 : n0 ≤ h5.size := Nat.le_trans Z0 Kp7.1
  refine Go.callV X5 hx hZ hown (tw_81 hw) (tw_82 hw) (notFace_of_selects (args := #[]) (mvT hZ (tw_84 hw))) (tw_84 hw) (tw_83 hw) (by decide) (tw_85 hw) (tw_55 hw) (au_5 l Z a0 hw b5_0 h5 n0 Zn6 F5_3) e5 F5_0 (argsL := []) (rest := []) (pc' := 20) rfl (by rw [hml]; rfl) (lenOf pd_4 rfl) rfl rfl (W := 0) (Nat.le_of_eq rfl) (by decide) (by decide) (by decide) (by decide) (hb hby at_17) ?_
  intro v8 T8 L8 q8 X8
  obtain ⟨rfl, N8, e8⟩ := q8
  show Go _ _ _ _ (T8.setTop (mkF m 20 #[.val (.int p0), .val (.ref b1_0), .val (.ref b5_0), .unset, .unset, .unset, .unset] [.null]))
  refine Go.ifnonnullNo X8 hx (pc' := 23) rfl (hb hby at_20) ?_
  refine Go.iconst X8 hx (pc' := 24) rfl (hb hby at_23) (v := (1 : Int32)) rfl ?_
  refine Go.goto X8 hx (pc' := 28) (hb hby at_24) (by decide) (by decide) ?_
  refine Go.istoreN X8 hx (pc' := 29) rfl (hb hby at_28) (Ls' := #[.val (.int p0), .val (.ref b1_0), .val (.ref b5_0), .val (.int 1), .unset, .unset, .unset]) rfl ?_
  refine Go.aloadN X8 hx (pc' := 30) rfl (hb hby at_29) rfl rfl ?_
  refine Go.callV X8 hx hZ hown (tw_86 hw) (tw_87 hw) (notFace_of_selects (args := #[]) (mvT hZ (tw_89 hw))) (tw_89 hw) (tw_88 hw) (by decide) (tw_90 hw) (tw_55 hw) (au_6 l Z a0 hw b5_0 u0 u1 u2 u3 u4 u5 u6 u7 u8 u9 u10 u11 u12 u13 u14 u15 u16 u17 u18 u19 u20 u21 ury h5 n0 Zn6 F5_4) e8 F5_0 (argsL := []) (rest := []) (pc' := 33) rfl (by rw [hml]; rfl) (lenOf pd_5 rfl) rfl rfl (W := 0) (Nat.le_of_eq rfl) (by decide) (by decide) (by decide) (by decide) (hb hby at_30) ?_
  intro v9 T9 L9 q9 X9
  obtain ⟨rfl, N9, e9⟩ := q9
  show Go _ _ _ _ (T9.setTop (mkF m 33 #[.val (.int p0), .val (.ref b1_0), .val (.ref b5_0), .val (.int 1), .unset, .unset, .unset] [(.ref ury)]))
  have O11 := (O4.keep K5 all0)
  have fk10 : Sta Z h5 "com/example/roles_over_datacenter/rolesoverdatacenter/Action$Reach" "SYSTEM" "Lcom/example/roles_over_datacenter/rolesoverdatacenter/Action$Reach;" (.ref ury) := G44.ext O11.2
  refine Go.getS X9 hx hZ hown (host := "") (Or.inl (tw_91 hw)) Via.refl e9 fk10 (pc' := 36) rfl (hb hby at_33) ?_
  intro T12 e12 X12
  refine Go.acmp X12 hx (pc' := 39) (same := true) (hb hby at_36) rfl rfl (decide_eq_true rfl) (by decide) (by decide) ?_
  refine Go.iconst X12 hx (pc' := 40) rfl (hb hby at_39) (v := (1 : Int32)) rfl ?_
  refine Go.goto X12 hx (pc' := 44) (hb hby at_40) (by decide) (by decide) ?_
  refine Go.istore X12 hx (pc' := 46) rfl (hb hby at_44) (Ls' := #[.val (.int p0), .val (.ref b1_0), .val (.ref b5_0), .val (.int 1), .val (.int 1), .unset, .unset]) rfl ?_
  refine Go.aloadN X12 hx (pc' := 47) rfl (hb hby at_46) rfl rfl ?_
  refine Go.callV X12 hx hZ hown (tw_92 hw) (tw_93 hw) (notFace_of_selects (args := #[]) (mvT hZ (tw_95 hw))) (tw_95 hw) (tw_94 hw) (by decide) (tw_96 hw) (tw_55 hw) (au_7 l Z a0 hw b5_0 b1_0 h5 n0 Zn6 F5_1) e12 F5_0 (argsL := []) (rest := []) (pc' := 50) rfl (by rw [hml]; rfl) (lenOf pd_6 rfl) rfl rfl (W := 0) (Nat.le_of_eq rfl) (by decide) (by decide) (by decide) (by decide) (hb hby at_47) ?_
  intro v13 T13 L13 q13 X13
  obtain ⟨rfl, N13, e13⟩ := q13
  show Go _ _ _ _ (T13.setTop (mkF m 50 #[.val (.int p0), .val (.ref b1_0), .val (.ref b5_0), .val (.int 1), .val (.int 1), .unset, .unset] [(.ref b1_0)]))
  refine Go.aloadN X13 hx (pc' := 51) rfl (hb hby at_50) rfl rfl ?_
  refine Go.acmp X13 hx (pc' := 54) (same := true) (hb hby at_51) rfl rfl (decide_eq_true rfl) (by decide) (by decide) ?_
  refine Go.iconst X13 hx (pc' := 55) rfl (hb hby at_54) (v := (1 : Int32)) rfl ?_
  refine Go.goto X13 hx (pc' := 59) (hb hby at_55) (by decide) (by decide) ?_
  refine Go.istore X13 hx (pc' := 61) rfl (hb hby at_59) (Ls' := #[.val (.int p0), .val (.ref b1_0), .val (.ref b5_0), .val (.int 1), .val (.int 1), .val (.int 1), .unset]) rfl ?_
  refine Go.aloadN X13 hx (pc' := 62) rfl (hb hby at_61) rfl rfl ?_
  refine Go.callV X13 hx hZ hown (tw_97 hw) (tw_98 hw) (notFace_of_selects (args := #[]) (mvT hZ (tw_100 hw))) (tw_100 hw) (tw_99 hw) (by decide) (tw_101 hw) (tw_55 hw) (au_8 l Z a0 hw b5_0 h5 n0 Zn6 F5_2) e13 F5_0 (argsL := []) (rest := []) (pc' := 65) rfl (by rw [hml]; rfl) (lenOf pd_4 rfl) rfl rfl (W := 0) (Nat.le_of_eq rfl) (by decide) (by decide) (by decide) (by decide) (hb hby at_62) ?_
  intro v14 T14 L14 q14 X14
  obtain ⟨rfl, N14, e14⟩ := q14
  show Go _ _ _ _ (T14.setTop (mkF m 65 #[.val (.int p0), .val (.ref b1_0), .val (.ref b5_0), .val (.int 1), .val (.int 1), .val (.int 1), .unset] [.null]))
  refine Go.ifnonnullNo X14 hx (pc' := 68) rfl (hb hby at_65) ?_
  refine Go.iconst X14 hx (pc' := 69) rfl (hb hby at_68) (v := (1 : Int32)) rfl ?_
  refine Go.goto X14 hx (pc' := 73) (hb hby at_69) (by decide) (by decide) ?_
  refine Go.istore X14 hx (pc' := 75) rfl (hb hby at_73) (Ls' := #[.val (.int p0), .val (.ref b1_0), .val (.ref b5_0), .val (.int 1), .val (.int 1), .val (.int 1), .val (.int 1)]) rfl ?_
  refine Go.iloadN X14 hx (pc' := 76) rfl (hb hby at_75) rfl ?_
  refine Go.ifNo X14 hx (pc' := 79) rfl (hb hby at_76) (by decide) ?_
  refine Go.iload X14 hx (pc' := 81) rfl (hb hby at_79) rfl ?_
  refine Go.ifNo X14 hx (pc' := 84) rfl (hb hby at_81) (by decide) ?_
  refine Go.iload X14 hx (pc' := 86) rfl (hb hby at_84) rfl ?_
  refine Go.ifNo X14 hx (pc' := 89) rfl (hb hby at_86) (by decide) ?_
  refine Go.iload X14 hx (pc' := 91) rfl (hb hby at_89) rfl ?_
  refine Go.ifNo X14 hx (pc' := 94) rfl (hb hby at_91) (by decide) ?_
  refine Go.iconst X14 hx (pc' := 95) rfl (hb hby at_94) (v := (1 : Int32)) rfl ?_
  refine Go.goto X14 hx (pc' := 99) (hb hby at_95) (by decide) (by decide) ?_
  refine Go.retN X14 hx hlk (t := .boolean) hret (by simp) (hb hby at_99) (by decide) (by decide) ?_
  exact ⟨rfl, (Fr.app (Fr.app (Fr.app (Fr.app (Fr.app (Fr.app (Fr.nil n0) N1) N5) N8) N9) N13) N14)⟩
set_option maxRecDepth 65536 in
set_option maxHeartbeats 4000000 in
theorem comes_1 {Post : Tables → Env → Array Value → State → Outcome → State → Prop} (hpost : ∀ tb e args s v u, (limb_1_1.after args s (.returned v) u = true ∧ limb_1_2.after args s (.returned v) u = true ∧ True) → FrameEnd s (.returned v) u (Jvm.fieldLocs frame_1_writes args s ++ Jvm.arrayLocs frame_1_arrays args s ++ Jvm.staticLocs frame_1_statics s) 16 128 → Post tb e args s (.returned v) u) :
    ArmFor flags0 classFile x code maxLocals ret World_1 tables_1 room_1 Calls_1 rest_1 Pre_1 Post := by
  intro l hfl _ _ p e ha hc hk s m args below hf hA hF happ hP
  obtain ⟨hcalls, hrest, hpre⟩ := hP
  obtain ⟨-, -, -, hnamed, -, -, -, hat⟩ := (Spec.applies_iff hf).mp happ
  obtain ⟨hg, hn⟩ := and_e (Cond.before_iff.mp (show (Jvm.Cond.and given_1 narrow_1).before args s = true from hpre))
  obtain ⟨g1, g2⟩ := and_e hg
  obtain ⟨w0, rfl⟩ : ∃ w0 : Value, args = #[w0] := by
    have hs : args.size = 1 := by simpa [Cond.value, given_1] using g1
    obtain ⟨L⟩ := args
    match L, hs with
    | [w0], _ => exact ⟨w0, rfl⟩
  have hw := fun d (hd : d ∈ tables_1) => atoms_spec (ws := Jvm.Cond.code x code maxLocals ret :: tables_1) hat d (List.mem_cons_of_mem _ hd)
  have hfit : Fit s := fun {y c} hc i hi => by
    obtain ⟨ha, rfl⟩ := Array.getElem?_eq_some_iff.mp hc
    have q := List.all_eq_true.mp ((Array.all_eq_true_iff_forall_mem.mp hF) _ (Array.getElem_mem ha)) i (List.mem_range.mpr hi)
    simpa [Array.getElem?_eq_getElem hi] using q
  obtain ⟨i0, ei0⟩ := is_v g2
  obtain rfl : w0 = (.int i0) := Option.some.inj ei0
  obtain ⟨g3, g4⟩ := and_e hn
  obtain ⟨g5, g6⟩ := and_e g4
  obtain ⟨g7, g8⟩ := and_e g6
  obtain ⟨g9, g10⟩ := and_e g8
  obtain ⟨g11, g12⟩ := and_e g10
  obtain ⟨g13, g14⟩ := and_e g12
  obtain ⟨g15, g16⟩ := and_e g14
  obtain ⟨g17, g18⟩ := and_e g16
  obtain ⟨g19, g20⟩ := and_e g18
  obtain ⟨g21, g22⟩ := and_e g20
  obtain ⟨g23, g24⟩ := and_e g22
  obtain ⟨g25, g26⟩ := and_e g24
  obtain ⟨g27, g28⟩ := and_e g26
  obtain ⟨g29, g30⟩ := and_e g28
  obtain ⟨g31, g32⟩ := and_e g30
  obtain ⟨g33, g34⟩ := and_e g32
  obtain ⟨g35, g36⟩ := and_e g34
  obtain ⟨g37, g38⟩ := and_e g36
  obtain ⟨g39, g40⟩ := and_e g38
  obtain ⟨g41, g42⟩ := and_e g40
  obtain ⟨g43, g44⟩ := and_e g42
  obtain ⟨g45, g46⟩ := and_e g44
  obtain ⟨a_0, ev0⟩ := exa_v g3
  have Sx0 : Sta s s.heap "com/example/roles_over_datacenter/rolesoverdatacenter/ActionGroup" "CREATE_VM" "Lcom/example/roles_over_datacenter/rolesoverdatacenter/ActionGroup;" (.ref a_0) := Sta.start ev0 (Or.inr ⟨(tw_7 hw), (tw_8 hw)⟩)
  obtain ⟨a_1, ev1⟩ := exa_v g5
  have Sx1 : Sta s s.heap "com/example/roles_over_datacenter/rolesoverdatacenter/ActionGroup" "DELETE_VM" "Lcom/example/roles_over_datacenter/rolesoverdatacenter/ActionGroup;" (.ref a_1) := Sta.start ev1 (Or.inr ⟨(tw_7 hw), (tw_11 hw)⟩)
  obtain ⟨a_2, ev2⟩ := exa_v g7
  have Sx2 : Sta s s.heap "com/example/roles_over_datacenter/rolesoverdatacenter/ActionGroup" "EDIT_VM_PROPERTIES" "Lcom/example/roles_over_datacenter/rolesoverdatacenter/ActionGroup;" (.ref a_2) := Sta.start ev2 (Or.inr ⟨(tw_7 hw), (tw_13 hw)⟩)
  obtain ⟨a_3, ev3⟩ := exa_v g9
  have Sx3 : Sta s s.heap "com/example/roles_over_datacenter/rolesoverdatacenter/ActionGroup" "RUN_VM" "Lcom/example/roles_over_datacenter/rolesoverdatacenter/ActionGroup;" (.ref a_3) := Sta.start ev3 (Or.inr ⟨(tw_7 hw), (tw_15 hw)⟩)
  obtain ⟨a_4, ev4⟩ := exa_v g11
  have Sx4 : Sta s s.heap "com/example/roles_over_datacenter/rolesoverdatacenter/ActionGroup" "CREATE_DISK" "Lcom/example/roles_over_datacenter/rolesoverdatacenter/ActionGroup;" (.ref a_4) := Sta.start ev4 (Or.inr ⟨(tw_7 hw), (tw_17 hw)⟩)
  obtain ⟨a_5, ev5⟩ := exa_v g13
  have Sx5 : Sta s s.heap "com/example/roles_over_datacenter/rolesoverdatacenter/ActionGroup" "EDIT_DISK_PROPERTIES" "Lcom/example/roles_over_datacenter/rolesoverdatacenter/ActionGroup;" (.ref a_5) := Sta.start ev5 (Or.inr ⟨(tw_7 hw), (tw_19 hw)⟩)
  obtain ⟨a_6, ev6⟩ := exa_v g15
  have Sx6 : Sta s s.heap "com/example/roles_over_datacenter/rolesoverdatacenter/ActionGroup" "ATTACH_DISK" "Lcom/example/roles_over_datacenter/rolesoverdatacenter/ActionGroup;" (.ref a_6) := Sta.start ev6 (Or.inr ⟨(tw_7 hw), (tw_21 hw)⟩)
  obtain ⟨a_7, ev7⟩ := exa_v g17
  have Sx7 : Sta s s.heap "com/example/roles_over_datacenter/rolesoverdatacenter/ActionGroup" "CONFIGURE_DISK_STORAGE" "Lcom/example/roles_over_datacenter/rolesoverdatacenter/ActionGroup;" (.ref a_7) := Sta.start ev7 (Or.inr ⟨(tw_7 hw), (tw_23 hw)⟩)
  obtain ⟨a_8, ev8⟩ := exa_v g19
  have Sx8 : Sta s s.heap "com/example/roles_over_datacenter/rolesoverdatacenter/ActionGroup" "DELETE_DISK" "Lcom/example/roles_over_datacenter/rolesoverdatacenter/ActionGroup;" (.ref a_8) := Sta.start ev8 (Or.inr ⟨(tw_7 hw), (tw_25 hw)⟩)
  obtain ⟨a_9, ev9⟩ := exa_v g21
  have Sx9 : Sta s s.heap "com/example/roles_over_datacenter/rolesoverdatacenter/ActionGroup" "CREATE_TEMPLATE" "Lcom/example/roles_over_datacenter/rolesoverdatacenter/ActionGroup;" (.ref a_9) := Sta.start ev9 (Or.inr ⟨(tw_7 hw), (tw_27 hw)⟩)
  obtain ⟨a_10, ev10⟩ := exa_v g23
  have Sx10 : Sta s s.heap "com/example/roles_over_datacenter/rolesoverdatacenter/ActionGroup" "EDIT_TEMPLATE_PROPERTIES" "Lcom/example/roles_over_datacenter/rolesoverdatacenter/ActionGroup;" (.ref a_10) := Sta.start ev10 (Or.inr ⟨(tw_7 hw), (tw_29 hw)⟩)
  obtain ⟨a_11, ev11⟩ := exa_v g25
  have Sx11 : Sta s s.heap "com/example/roles_over_datacenter/rolesoverdatacenter/ActionGroup" "DELETE_TEMPLATE" "Lcom/example/roles_over_datacenter/rolesoverdatacenter/ActionGroup;" (.ref a_11) := Sta.start ev11 (Or.inr ⟨(tw_7 hw), (tw_31 hw)⟩)
  obtain ⟨a_12, ev12⟩ := exa_v g27
  have Sx12 : Sta s s.heap "com/example/roles_over_datacenter/rolesoverdatacenter/ActionGroup" "CONFIGURE_STORAGE_POOL_NETWORK" "Lcom/example/roles_over_datacenter/rolesoverdatacenter/ActionGroup;" (.ref a_12) := Sta.start ev12 (Or.inr ⟨(tw_7 hw), (tw_33 hw)⟩)
  obtain ⟨a_13, ev13⟩ := exa_v g29
  have Sx13 : Sta s s.heap "com/example/roles_over_datacenter/rolesoverdatacenter/ActionGroup" "CONFIGURE_CLUSTER_NETWORK" "Lcom/example/roles_over_datacenter/rolesoverdatacenter/ActionGroup;" (.ref a_13) := Sta.start ev13 (Or.inr ⟨(tw_7 hw), (tw_35 hw)⟩)
  obtain ⟨a_14, ev14⟩ := exa_v g31
  have Sx14 : Sta s s.heap "com/example/roles_over_datacenter/rolesoverdatacenter/ActionGroup" "MANAGE_CLUSTER_NETWORK" "Lcom/example/roles_over_datacenter/rolesoverdatacenter/ActionGroup;" (.ref a_14) := Sta.start ev14 (Or.inr ⟨(tw_7 hw), (tw_37 hw)⟩)
  obtain ⟨a_15, ev15⟩ := exa_v g33
  have Sx15 : Sta s s.heap "com/example/roles_over_datacenter/rolesoverdatacenter/ActionGroup" "CONFIGURE_HOST_NETWORK" "Lcom/example/roles_over_datacenter/rolesoverdatacenter/ActionGroup;" (.ref a_15) := Sta.start ev15 (Or.inr ⟨(tw_7 hw), (tw_39 hw)⟩)
  obtain ⟨a_16, ev16⟩ := exa_v g35
  have Sx16 : Sta s s.heap "com/example/roles_over_datacenter/rolesoverdatacenter/ActionGroup" "MANIPULATE_HOST" "Lcom/example/roles_over_datacenter/rolesoverdatacenter/ActionGroup;" (.ref a_16) := Sta.start ev16 (Or.inr ⟨(tw_7 hw), (tw_41 hw)⟩)
  obtain ⟨a_17, ev17⟩ := exa_v g37
  have Sx17 : Sta s s.heap "com/example/roles_over_datacenter/rolesoverdatacenter/ActionGroup" "CONFIGURE_VM_NETWORK" "Lcom/example/roles_over_datacenter/rolesoverdatacenter/ActionGroup;" (.ref a_17) := Sta.start ev17 (Or.inr ⟨(tw_7 hw), (tw_43 hw)⟩)
  obtain ⟨a_18, ev18⟩ := exa_v g39
  have Sx18 : Sta s s.heap "com/example/roles_over_datacenter/rolesoverdatacenter/ActionGroup" "CONFIGURE_TEMPLATE_NETWORK" "Lcom/example/roles_over_datacenter/rolesoverdatacenter/ActionGroup;" (.ref a_18) := Sta.start ev18 (Or.inr ⟨(tw_7 hw), (tw_45 hw)⟩)
  obtain ⟨a_19, ev19⟩ := exa_v g41
  have Sx19 : Sta s s.heap "com/example/roles_over_datacenter/rolesoverdatacenter/ActionGroup" "PORT_MIRRORING" "Lcom/example/roles_over_datacenter/rolesoverdatacenter/ActionGroup;" (.ref a_19) := Sta.start ev19 (Or.inr ⟨(tw_7 hw), (tw_47 hw)⟩)
  obtain ⟨a_20, ev20⟩ := exa_v g43
  have Sx20 : Sta s s.heap "com/example/roles_over_datacenter/rolesoverdatacenter/ActionGroup" "MANIPULATE_PERMISSIONS" "Lcom/example/roles_over_datacenter/rolesoverdatacenter/ActionGroup;" (.ref a_20) := Sta.start ev20 (Or.inr ⟨(tw_7 hw), (tw_49 hw)⟩)
  obtain ⟨a_21, ev21⟩ := exa_v g45
  have Sx21 : Sta s s.heap "com/example/roles_over_datacenter/rolesoverdatacenter/ActionGroup" "MANIPULATE_ROLES" "Lcom/example/roles_over_datacenter/rolesoverdatacenter/ActionGroup;" (.ref a_21) := Sta.start ev21 (Or.inr ⟨(tw_7 hw), (tw_51 hw)⟩)
  obtain ⟨a_22, ev22⟩ := exa_v g46
  have Sx22 : Sta s s.heap "com/example/roles_over_datacenter/rolesoverdatacenter/Action$Reach" "SYSTEM" "Lcom/example/roles_over_datacenter/rolesoverdatacenter/Action$Reach;" (.ref a_22) := Sta.start ev22 (Or.inr ⟨(tw_60 hw), (tw_61 hw)⟩)
  have Ex47 := Exa.start ev0 g3
  have Ex48 := Exa.start ev1 g5
  have Ex49 := Exa.start ev2 g7
  have Ex50 := Exa.start ev3 g9
  have Ex51 := Exa.start ev4 g11
  have Ex52 := Exa.start ev5 g13
  have Ex53 := Exa.start ev6 g15
  have Ex54 := Exa.start ev7 g17
  have Ex55 := Exa.start ev8 g19
  have Ex56 := Exa.start ev9 g21
  have Ex57 := Exa.start ev10 g23
  have Ex58 := Exa.start ev11 g25
  have Ex59 := Exa.start ev12 g27
  have Ex60 := Exa.start ev13 g29
  have Ex61 := Exa.start ev14 g31
  have Ex62 := Exa.start ev15 g33
  have Ex63 := Exa.start ev16 g35
  have Ex64 := Exa.start ev17 g37
  have Ex65 := Exa.start ev18 g39
  have Ex66 := Exa.start ev19 g41
  have Ex67 := Exa.start ev20 g43
  have Ex68 := Exa.start ev21 g45
  have Ex69 := Exa.start ev22 g46
  have G : Glob s a_0 a_1 a_2 a_3 a_4 a_5 a_6 a_7 a_8 a_9 a_10 a_11 a_12 a_13 a_14 a_15 a_16 a_17 a_18 a_19 a_20 a_21 a_22 := ⟨Sx0, Ex47, Sx1, Ex48, Sx2, Ex49, Sx3, Ex50, Sx4, Ex51, Sx5, Ex52, Sx6, Ex53, Sx7, Ex54, Sx8, Ex55, Sx9, Ex56, Sx10, Ex57, Sx11, Ex58, Sx12, Ex59, Sx13, Ex60, Sx14, Ex61, Sx15, Ex62, Sx16, Ex63, Sx17, Ex64, Sx18, Ex65, Sx19, Ex66, Sx20, Ex67, Sx21, Ex68, Sx22⟩
  obtain ⟨n, o, h1, h2, h3, _, L, rfl, ⟨rfl, N⟩, hq⟩ := (rm0 l s _ hw i0 a_0 a_1 a_2 a_3 a_4 a_5 a_6 a_7 a_8 a_9 a_10 a_11 a_12 a_13 a_14 a_15 a_16 a_17 a_18 a_19 a_20 a_21 a_22 s.heap s.heap.size (Nat.le_refl _) (Old.start s) G) tables_1 p e ha hc hk s m _ below hf ((Spec.applies_iff_loose hf).mp happ).1 ⟨rfl, State.Warmed39.refl s, rfl⟩ trivial
  refine ⟨n, _, h1, h2, h3, hpost _ _ _ _ _ _ ⟨Cond.after_iff.mpr rfl, Cond.after_iff.mpr (eq_i res_at (Term.int_eval (1)) rfl), trivial⟩ ⟨hq.1, hq.2.1, (hq.2.2.sift fun y hy => Or.inr (N y hy)).mono (by decide) (by decide)⟩⟩
theorem main_1_1 : Claimed_1_1 := comes_1 fun _ _ _ _ _ _ h hF => ⟨h.1, hF⟩
theorem main_1_2 : Claimed_1_2 := comes_1 fun _ _ _ _ _ _ h hF => ⟨h.2.1, hF⟩
end Jvm.Pilot.@@N@@
namespace Jvm.Pilot.@@N@@
open Jvm Jvm.ClassFile Sem Op Lib Jvm.Free Jvm.Stand Jvm.Pilot.@@N@@.Jvm.D
/-! MADE BY PROGRAM (witnessworld.py) out of the Statement's table words and the real class files: 16 classes; the members and pool entries that the words name. The judged class is class 1, her method 2. -/
namespace start1
open Jvm.ClassFile
def u (s : String) : CpInfo := .utf8 (stringToUtf16 s)
/-- a pool by its gaps: so many unusable entries, then the entry; so many at the end -/
def gap : Nat → List CpInfo → List CpInfo
  | 0, r => r
  | n + 1, r => .unusable :: gap n r
def poolList (es : List (Nat × CpInfo)) (last : Nat) : List CpInfo := es.foldr (fun e r => gap e.1 (e.2 :: r)) (gap last [])
def pool (es : List (Nat × CpInfo)) (last : Nat) : Array CpInfo := ⟨poolList es last⟩
def fileOf (pool : Array CpInfo) (this : Nat) (attrs : Array Attribute := #[]) (ms : Array MethodInfo := #[]) (fl : Nat := 33) (sup : Nat := 0) (ifs : Array Nat := #[]) (fds : Array FieldInfo := #[]) : ClassFile where
  minorVersion := 0
  majorVersion := 65
  constantPool := pool
  accessFlags := fl
  thisClass := this
  superClass := sup
  interfaces := ifs
  fields := fds
  methods := ms
  attributes := attrs
def plain (name : String) (sup : Option ClassId) : Class where
  name := name
  kind := .ordinary
  loader := none
  accessFlags := 33
  super := sup
  interfaces := #[]
  cf := none
  fields := #[]
  methods := #[]
  instanceTypes := #[]
  staticTypes := #[]
  resolved := #[]
  callSites := []
  init := .initialized
  statics := none
  mirror := none

def pool0 : Array CpInfo := pool [(5, u "<init>"), (0, u "()V"), (1, .class_ 10), (1, u "java/lang/Object")] 113

def k0c0 : Code := { maxStack := 0, maxLocals := 1, code := object_method_1_code, exceptionTable := #[], attributes := #[] }
def k0m0 : Method := { name := "<init>", desc := "()V", sig := { parameters := [], returnType := none }, accessFlags := 1, code := some k0c0 }
/-- java/lang/Object -/
def k0 : Class := { plain "java/lang/Object" none with
  accessFlags := 33
  interfaces := #[]
  cf := some (fileOf pool0 8 #[] #[{ accessFlags := 1, nameIndex := 5, descriptorIndex := 6, attributes := #[] }] 33 0 #[] #[])
  fields := #[]
  methods := #[k0m0]
  instanceTypes := #[]
  staticTypes := #[]
  resolved := Array.replicate 124 none
  statics := none }

def pool1 : Array CpInfo := pool [(2, .class_ 4), (1, u "java/lang/Object"), (0, u "<init>"), (0, u "()V"), (0, .class_ 8), (0, u "com/example/roles_over_datacenter/rolesoverdatacenter/ActionGroup"), (0, .fieldref 7 10), (0, .nameAndType 11 12), (0, u "CREATE_VM"), (0, u "Lcom/example/roles_over_datacenter/rolesoverdatacenter/ActionGroup;"), (0, .fieldref 7 14), (0, .nameAndType 15 12), (0, u "DELETE_VM"), (0, .fieldref 7 17), (0, .nameAndType 18 12), (0, u "EDIT_VM_PROPERTIES"), (0, .fieldref 7 20), (0, .nameAndType 21 12), (0, u "RUN_VM"), (0, .fieldref 7 23), (0, .nameAndType 24 12), (0, u "CREATE_DISK"), (0, .fieldref 7 26), (0, .nameAndType 27 12), (0, u "EDIT_DISK_PROPERTIES"), (0, .fieldref 7 29), (0, .nameAndType 30 12), (0, u "ATTACH_DISK"), (0, .fieldref 7 32), (0, .nameAndType 33 12), (0, u "CONFIGURE_DISK_STORAGE"), (0, .fieldref 7 35), (0, .nameAndType 36 12), (0, u "DELETE_DISK"), (0, .fieldref 7 38), (0, .nameAndType 39 12), (0, u "CREATE_TEMPLATE"), (0, .fieldref 7 41), (0, .nameAndType 42 12), (0, u "EDIT_TEMPLATE_PROPERTIES"), (0, .fieldref 7 44), (0, .nameAndType 45 12), (0, u "DELETE_TEMPLATE"), (0, .fieldref 7 47), (0, .nameAndType 48 12), (0, u "CONFIGURE_STORAGE_POOL_NETWORK"), (0, .fieldref 7 50), (0, .nameAndType 51 12), (0, u "CONFIGURE_CLUSTER_NETWORK"), (0, .fieldref 7 53), (0, .nameAndType 54 12), (0, u "MANAGE_CLUSTER_NETWORK"), (0, .fieldref 7 56), (0, .nameAndType 57 12), (0, u "CONFIGURE_HOST_NETWORK"), (0, .fieldref 7 59), (0, .nameAndType 60 12), (0, u "MANIPULATE_HOST"), (0, .fieldref 7 62), (0, .nameAndType 63 12), (0, u "CONFIGURE_VM_NETWORK"), (0, .fieldref 7 65), (0, .nameAndType 66 12), (0, u "CONFIGURE_TEMPLATE_NETWORK"), (0, .fieldref 7 68), (0, .nameAndType 69 12), (0, u "PORT_MIRRORING"), (0, .fieldref 7 71), (0, .nameAndType 72 12), (0, u "MANIPULATE_PERMISSIONS"), (0, .fieldref 7 74), (0, .nameAndType 75 12), (0, u "MANIPULATE_ROLES"), (0, .integer 2147483647), (0, .methodref 78 79), (0, .class_ 80), (0, .nameAndType 81 82), (0, u "com/example/roles_over_datacenter/rolesoverdatacenter/RequirementOnSystemPinLaw"), (0, u "pick"), (0, u "(I)Lcom/example/roles_over_datacenter/rolesoverdatacenter/ActionGroup;"), (0, .methodref 84 85), (0, .class_ 86), (0, .nameAndType 87 88), (0, u "com/example/roles_over_datacenter/rolesoverdatacenter/Action$Requirement"), (0, u "onSystem"), (0, u "(Lcom/example/roles_over_datacenter/rolesoverdatacenter/ActionGroup;)Lcom/example/roles_over_datacenter/rolesoverdatacenter/Action$Requirement;"), (0, .methodref 84 90), (0, .nameAndType 91 92), (0, u "parameter"), (0, u "()Lcom/example/roles_over_datacenter/rolesoverdatacenter/Action$Parameter;"), (0, .methodref 84 94), (0, .nameAndType 95 96), (0, u "reach"), (0, u "()Lcom/example/roles_over_datacenter/rolesoverdatacenter/Action$Reach;"), (0, .fieldref 98 99), (0, .class_ 100), (0, .nameAndType 101 102), (0, u "com/example/roles_over_datacenter/rolesoverdatacenter/Action$Reach"), (0, u "SYSTEM"), (0, u "Lcom/example/roles_over_datacenter/rolesoverdatacenter/Action$Reach;"), (0, .methodref 84 104), (0, .nameAndType 105 106), (0, u "actionGroup"), (0, u "()Lcom/example/roles_over_datacenter/rolesoverdatacenter/ActionGroup;"), (0, .methodref 84 108), (0, .nameAndType 109 92), (0, u "flag"), (2, u "law"), (0, u "(I)Z")] 11

def k1m0 : Method := { name := "<init>", desc := "()V", sig := { parameters := [], returnType := none }, accessFlags := 1, code := none }
def k1c1 : Code := { maxStack := 4, maxLocals := 2, code := method_2_code, exceptionTable := #[], attributes := #[] }
def k1m1 : Method := { name := "pick", desc := "(I)Lcom/example/roles_over_datacenter/rolesoverdatacenter/ActionGroup;", sig := { parameters := [.int], returnType := some (.object "com/example/roles_over_datacenter/rolesoverdatacenter/ActionGroup") }, accessFlags := 10, code := some k1c1 }
def k1c2 : Code := { maxStack := 2, maxLocals := 7, code := code, exceptionTable := #[], attributes := #[] }
def k1m2 : Method := { name := "law", desc := "(I)Z", sig := { parameters := [.int], returnType := some .boolean }, accessFlags := 9, code := some k1c2 }
/-- com/example/roles_over_datacenter/rolesoverdatacenter/RequirementOnSystemPinLaw -/
def k1 : Class := { plain "com/example/roles_over_datacenter/rolesoverdatacenter/RequirementOnSystemPinLaw" (some 0) with
  accessFlags := 49
  interfaces := #[]
  cf := some (fileOf pool1 78 #[] #[{ accessFlags := 1, nameIndex := 5, descriptorIndex := 6, attributes := #[] }, { accessFlags := 10, nameIndex := 81, descriptorIndex := 82, attributes := #[] }, { accessFlags := 9, nameIndex := 112, descriptorIndex := 113, attributes := #[] }] 49 2 #[] #[])
  fields := #[]
  methods := #[k1m0, k1m1, k1m2]
  instanceTypes := #[]
  staticTypes := #[]
  resolved := Array.replicate 125 none
  statics := none }

def pool2 : Array CpInfo := pool [(1, .class_ 2), (0, u "java/lang/constant/Constable"), (0, .class_ 4), (0, u "java/lang/Object")] 6

/-- java/lang/constant/Constable -/
def k2 : Class := { plain "java/lang/constant/Constable" (some 0) with
  accessFlags := 1537
  interfaces := #[]
  cf := some (fileOf pool2 1 #[] #[] 1537 3 #[] #[])
  fields := #[]
  methods := #[]
  instanceTypes := #[]
  staticTypes := #[]
  resolved := Array.replicate 11 none
  statics := none }

def pool3 : Array CpInfo := pool [(1, .class_ 2), (0, u "java/lang/Comparable"), (0, .class_ 4), (0, u "java/lang/Object")] 7

/-- java/lang/Comparable -/
def k3 : Class := { plain "java/lang/Comparable" (some 0) with
  accessFlags := 1537
  interfaces := #[]
  cf := some (fileOf pool3 1 #[] #[] 1537 3 #[] #[])
  fields := #[]
  methods := #[]
  instanceTypes := #[]
  staticTypes := #[]
  resolved := Array.replicate 12 none
  statics := none }

def pool4 : Array CpInfo := pool [(1, .class_ 2), (0, u "java/io/Serializable"), (0, .class_ 4), (0, u "java/lang/Object")] 2

/-- java/io/Serializable -/
def k4 : Class := { plain "java/io/Serializable" (some 0) with
  accessFlags := 1537
  interfaces := #[]
  cf := some (fileOf pool4 1 #[] #[] 1537 3 #[] #[])
  fields := #[]
  methods := #[]
  instanceTypes := #[]
  staticTypes := #[]
  resolved := Array.replicate 7 none
  statics := none }

def pool5 : Array CpInfo := pool [(2, .class_ 4), (1, u "java/lang/Enum"), (0, u "name"), (0, u "Ljava/lang/String;"), (2, u "ordinal"), (0, u "I"), (1, .class_ 14), (1, u "java/lang/Object"), (4, u "hash"), (86, .class_ 108), (1, u "java/lang/Enum$EnumDesc"), (2, .class_ 112), (0, u "java/lang/constant/Constable"), (0, .class_ 114), (0, u "java/lang/Comparable"), (0, .class_ 116), (0, u "java/io/Serializable")] 87

/-- java/lang/Enum -/
def k5 : Class := { plain "java/lang/Enum" (some 0) with
  accessFlags := 1057
  interfaces := #[2, 3, 4]
  cf := some (fileOf pool5 2 #[.nestMembers #[106]] #[] 1057 12 #[111, 113, 115] #[{ accessFlags := 18, nameIndex := 5, descriptorIndex := 6, attributes := #[] }, { accessFlags := 18, nameIndex := 9, descriptorIndex := 10, attributes := #[] }, { accessFlags := 2, nameIndex := 19, descriptorIndex := 10, attributes := #[] }])
  fields := #[{ name := "name", type := (.object "java/lang/String"), accessFlags := 18, slot := 0, constantValue := 0 }, { name := "ordinal", type := .int, accessFlags := 18, slot := 1, constantValue := 0 }, { name := "hash", type := .int, accessFlags := 2, slot := 2, constantValue := 0 }]
  methods := #[]
  instanceTypes := #[(.object "java/lang/String"), .int, .int]
  staticTypes := #[]
  resolved := Array.replicate 204 none
  statics := none }

def pool6 : Array CpInfo := pool [(1, .class_ 2), (0, u "com/example/roles_over_datacenter/rolesoverdatacenter/ActionGroup"), (2, u "CREATE_VM"), (0, u "Lcom/example/roles_over_datacenter/rolesoverdatacenter/ActionGroup;"), (2, u "DELETE_VM"), (2, u "EDIT_VM_PROPERTIES"), (2, u "RUN_VM"), (2, u "CREATE_DISK"), (2, u "EDIT_DISK_PROPERTIES"), (2, u "ATTACH_DISK"), (2, u "CONFIGURE_DISK_STORAGE"), (2, u "DELETE_DISK"), (2, u "CREATE_TEMPLATE"), (2, u "EDIT_TEMPLATE_PROPERTIES"), (2, u "DELETE_TEMPLATE"), (2, u "CONFIGURE_STORAGE_POOL_NETWORK"), (2, u "CONFIGURE_CLUSTER_NETWORK"), (2, u "MANAGE_CLUSTER_NETWORK"), (2, u "CONFIGURE_HOST_NETWORK"), (2, u "MANIPULATE_HOST"), (2, u "CONFIGURE_VM_NETWORK"), (2, u "CONFIGURE_TEMPLATE_NETWORK"), (2, u "PORT_MIRRORING"), (2, u "MANIPULATE_PERMISSIONS"), (2, u "MANIPULATE_ROLES"), (2, u "$VALUES"), (0, u "[Lcom/example/roles_over_datacenter/rolesoverdatacenter/ActionGroup;"), (6, .class_ 82), (1, u "java/lang/Enum"), (8, u "type"), (0, u "Lcom/example/roles_over_datacenter/rolesoverdatacenter/RoleType;"), (2, u "viewChildrenByDefault"), (0, u "Z"), (10, u "BY_NAME"), (0, u "Ljava/util/Map;")] 118

/-- com/example/roles_over_datacenter/rolesoverdatacenter/ActionGroup -/
def k6 : Class := { plain "com/example/roles_over_datacenter/rolesoverdatacenter/ActionGroup" (some 5) with
  accessFlags := 16432
  interfaces := #[]
  cf := some (fileOf pool6 1 #[] #[] 16432 80 #[] #[{ accessFlags := 16409, nameIndex := 5, descriptorIndex := 6, attributes := #[] }, { accessFlags := 16409, nameIndex := 9, descriptorIndex := 6, attributes := #[] }, { accessFlags := 16409, nameIndex := 12, descriptorIndex := 6, attributes := #[] }, { accessFlags := 16409, nameIndex := 15, descriptorIndex := 6, attributes := #[] }, { accessFlags := 16409, nameIndex := 18, descriptorIndex := 6, attributes := #[] }, { accessFlags := 16409, nameIndex := 21, descriptorIndex := 6, attributes := #[] }, { accessFlags := 16409, nameIndex := 24, descriptorIndex := 6, attributes := #[] }, { accessFlags := 16409, nameIndex := 27, descriptorIndex := 6, attributes := #[] }, { accessFlags := 16409, nameIndex := 30, descriptorIndex := 6, attributes := #[] }, { accessFlags := 16409, nameIndex := 33, descriptorIndex := 6, attributes := #[] }, { accessFlags := 16409, nameIndex := 36, descriptorIndex := 6, attributes := #[] }, { accessFlags := 16409, nameIndex := 39, descriptorIndex := 6, attributes := #[] }, { accessFlags := 16409, nameIndex := 42, descriptorIndex := 6, attributes := #[] }, { accessFlags := 16409, nameIndex := 45, descriptorIndex := 6, attributes := #[] }, { accessFlags := 16409, nameIndex := 48, descriptorIndex := 6, attributes := #[] }, { accessFlags := 16409, nameIndex := 51, descriptorIndex := 6, attributes := #[] }, { accessFlags := 16409, nameIndex := 54, descriptorIndex := 6, attributes := #[] }, { accessFlags := 16409, nameIndex := 57, descriptorIndex := 6, attributes := #[] }, { accessFlags := 16409, nameIndex := 60, descriptorIndex := 6, attributes := #[] }, { accessFlags := 16409, nameIndex := 63, descriptorIndex := 6, attributes := #[] }, { accessFlags := 16409, nameIndex := 66, descriptorIndex := 6, attributes := #[] }, { accessFlags := 16409, nameIndex := 69, descriptorIndex := 6, attributes := #[] }, { accessFlags := 26, nameIndex := 107, descriptorIndex := 108, attributes := #[] }, { accessFlags := 18, nameIndex := 91, descriptorIndex := 92, attributes := #[] }, { accessFlags := 18, nameIndex := 95, descriptorIndex := 96, attributes := #[] }, { accessFlags := 4122, nameIndex := 72, descriptorIndex := 73, attributes := #[] }])
  fields := #[{ name := "CREATE_VM", type := (.object "com/example/roles_over_datacenter/rolesoverdatacenter/ActionGroup"), accessFlags := 16409, slot := 0, constantValue := 0 }, { name := "DELETE_VM", type := (.object "com/example/roles_over_datacenter/rolesoverdatacenter/ActionGroup"), accessFlags := 16409, slot := 1, constantValue := 0 }, { name := "EDIT_VM_PROPERTIES", type := (.object "com/example/roles_over_datacenter/rolesoverdatacenter/ActionGroup"), accessFlags := 16409, slot := 2, constantValue := 0 }, { name := "RUN_VM", type := (.object "com/example/roles_over_datacenter/rolesoverdatacenter/ActionGroup"), accessFlags := 16409, slot := 3, constantValue := 0 }, { name := "CREATE_DISK", type := (.object "com/example/roles_over_datacenter/rolesoverdatacenter/ActionGroup"), accessFlags := 16409, slot := 4, constantValue := 0 }, { name := "EDIT_DISK_PROPERTIES", type := (.object "com/example/roles_over_datacenter/rolesoverdatacenter/ActionGroup"), accessFlags := 16409, slot := 5, constantValue := 0 }, { name := "ATTACH_DISK", type := (.object "com/example/roles_over_datacenter/rolesoverdatacenter/ActionGroup"), accessFlags := 16409, slot := 6, constantValue := 0 }, { name := "CONFIGURE_DISK_STORAGE", type := (.object "com/example/roles_over_datacenter/rolesoverdatacenter/ActionGroup"), accessFlags := 16409, slot := 7, constantValue := 0 }, { name := "DELETE_DISK", type := (.object "com/example/roles_over_datacenter/rolesoverdatacenter/ActionGroup"), accessFlags := 16409, slot := 8, constantValue := 0 }, { name := "CREATE_TEMPLATE", type := (.object "com/example/roles_over_datacenter/rolesoverdatacenter/ActionGroup"), accessFlags := 16409, slot := 9, constantValue := 0 }, { name := "EDIT_TEMPLATE_PROPERTIES", type := (.object "com/example/roles_over_datacenter/rolesoverdatacenter/ActionGroup"), accessFlags := 16409, slot := 10, constantValue := 0 }, { name := "DELETE_TEMPLATE", type := (.object "com/example/roles_over_datacenter/rolesoverdatacenter/ActionGroup"), accessFlags := 16409, slot := 11, constantValue := 0 }, { name := "CONFIGURE_STORAGE_POOL_NETWORK", type := (.object "com/example/roles_over_datacenter/rolesoverdatacenter/ActionGroup"), accessFlags := 16409, slot := 12, constantValue := 0 }, { name := "CONFIGURE_CLUSTER_NETWORK", type := (.object "com/example/roles_over_datacenter/rolesoverdatacenter/ActionGroup"), accessFlags := 16409, slot := 13, constantValue := 0 }, { name := "MANAGE_CLUSTER_NETWORK", type := (.object "com/example/roles_over_datacenter/rolesoverdatacenter/ActionGroup"), accessFlags := 16409, slot := 14, constantValue := 0 }, { name := "CONFIGURE_HOST_NETWORK", type := (.object "com/example/roles_over_datacenter/rolesoverdatacenter/ActionGroup"), accessFlags := 16409, slot := 15, constantValue := 0 }, { name := "MANIPULATE_HOST", type := (.object "com/example/roles_over_datacenter/rolesoverdatacenter/ActionGroup"), accessFlags := 16409, slot := 16, constantValue := 0 }, { name := "CONFIGURE_VM_NETWORK", type := (.object "com/example/roles_over_datacenter/rolesoverdatacenter/ActionGroup"), accessFlags := 16409, slot := 17, constantValue := 0 }, { name := "CONFIGURE_TEMPLATE_NETWORK", type := (.object "com/example/roles_over_datacenter/rolesoverdatacenter/ActionGroup"), accessFlags := 16409, slot := 18, constantValue := 0 }, { name := "PORT_MIRRORING", type := (.object "com/example/roles_over_datacenter/rolesoverdatacenter/ActionGroup"), accessFlags := 16409, slot := 19, constantValue := 0 }, { name := "MANIPULATE_PERMISSIONS", type := (.object "com/example/roles_over_datacenter/rolesoverdatacenter/ActionGroup"), accessFlags := 16409, slot := 20, constantValue := 0 }, { name := "MANIPULATE_ROLES", type := (.object "com/example/roles_over_datacenter/rolesoverdatacenter/ActionGroup"), accessFlags := 16409, slot := 21, constantValue := 0 }, { name := "BY_NAME", type := (.object "java/util/Map"), accessFlags := 26, slot := 22, constantValue := 0 }, { name := "type", type := (.object "com/example/roles_over_datacenter/rolesoverdatacenter/RoleType"), accessFlags := 18, slot := 3, constantValue := 0 }, { name := "viewChildrenByDefault", type := .boolean, accessFlags := 18, slot := 4, constantValue := 0 }, { name := "$VALUES", type := (.array (.object "com/example/roles_over_datacenter/rolesoverdatacenter/ActionGroup")), accessFlags := 4122, slot := 23, constantValue := 0 }]
  methods := #[]
  instanceTypes := #[(.object "java/lang/String"), .int, .int, (.object "com/example/roles_over_datacenter/rolesoverdatacenter/RoleType"), .boolean]
  staticTypes := #[(.object "com/example/roles_over_datacenter/rolesoverdatacenter/ActionGroup"), (.object "com/example/roles_over_datacenter/rolesoverdatacenter/ActionGroup"), (.object "com/example/roles_over_datacenter/rolesoverdatacenter/ActionGroup"), (.object "com/example/roles_over_datacenter/rolesoverdatacenter/ActionGroup"), (.object "com/example/roles_over_datacenter/rolesoverdatacenter/ActionGroup"), (.object "com/example/roles_over_datacenter/rolesoverdatacenter/ActionGroup"), (.object "com/example/roles_over_datacenter/rolesoverdatacenter/ActionGroup"), (.object "com/example/roles_over_datacenter/rolesoverdatacenter/ActionGroup"), (.object "com/example/roles_over_datacenter/rolesoverdatacenter/ActionGroup"), (.object "com/example/roles_over_datacenter/rolesoverdatacenter/ActionGroup"), (.object "com/example/roles_over_datacenter/rolesoverdatacenter/ActionGroup"), (.object "com/example/roles_over_datacenter/rolesoverdatacenter/ActionGroup"), (.object "com/example/roles_over_datacenter/rolesoverdatacenter/ActionGroup"), (.object "com/example/roles_over_datacenter/rolesoverdatacenter/ActionGroup"), (.object "com/example/roles_over_datacenter/rolesoverdatacenter/ActionGroup"), (.object "com/example/roles_over_datacenter/rolesoverdatacenter/ActionGroup"), (.object "com/example/roles_over_datacenter/rolesoverdatacenter/ActionGroup"), (.object "com/example/roles_over_datacenter/rolesoverdatacenter/ActionGroup"), (.object "com/example/roles_over_datacenter/rolesoverdatacenter/ActionGroup"), (.object "com/example/roles_over_datacenter/rolesoverdatacenter/ActionGroup"), (.object "com/example/roles_over_datacenter/rolesoverdatacenter/ActionGroup"), (.object "com/example/roles_over_datacenter/rolesoverdatacenter/ActionGroup"), (.object "java/util/Map"), (.array (.object "com/example/roles_over_datacenter/rolesoverdatacenter/ActionGroup"))]
  resolved := Array.replicate 227 none
  statics := some 0 }

def pool7 : Array CpInfo := pool [(1, .methodref 2 3), (0, .class_ 4), (0, .nameAndType 5 6), (0, u "java/lang/Object"), (0, u "<init>"), (0, u "()V"), (0, .class_ 8), (0, u "java/lang/Record")] 13

def k7c0 : Code := { maxStack := 1, maxLocals := 1, code := jdk_30_method_1_code, exceptionTable := #[], attributes := #[] }
def k7m0 : Method := { name := "<init>", desc := "()V", sig := { parameters := [], returnType := none }, accessFlags := 4, code := some k7c0 }
/-- java/lang/Record -/
def k7 : Class := { plain "java/lang/Record" (some 0) with
  accessFlags := 1057
  interfaces := #[]
  cf := some (fileOf pool7 7 #[] #[{ accessFlags := 4, nameIndex := 5, descriptorIndex := 6, attributes := #[] }] 1057 2 #[] #[])
  fields := #[]
  methods := #[k7m0]
  instanceTypes := #[]
  staticTypes := #[]
  resolved := Array.replicate 22 none
  statics := none }

def pool8 : Array CpInfo := pool [(1, .methodref 2 3), (0, .class_ 4), (0, .nameAndType 5 6), (0, u "java/lang/Record"), (0, u "<init>"), (0, u "()V"), (0, .fieldref 8 9), (0, .class_ 10), (0, .nameAndType 11 12), (0, u "com/example/roles_over_datacenter/rolesoverdatacenter/Action$Requirement"), (0, u "parameter"), (0, u "Lcom/example/roles_over_datacenter/rolesoverdatacenter/Action$Parameter;"), (0, .fieldref 8 14), (0, .nameAndType 15 16), (0, u "reach"), (0, u "Lcom/example/roles_over_datacenter/rolesoverdatacenter/Action$Reach;"), (0, .fieldref 8 18), (0, .nameAndType 19 20), (0, u "actionGroup"), (0, u "Lcom/example/roles_over_datacenter/rolesoverdatacenter/ActionGroup;"), (0, .fieldref 8 22), (0, .nameAndType 23 12), (0, u "flag"), (1, .class_ 27), (1, u "com/example/roles_over_datacenter/rolesoverdatacenter/Action$Reach"), (1, .methodref 8 30), (0, .nameAndType 5 31), (0, u "(Lcom/example/roles_over_datacenter/rolesoverdatacenter/Action$Parameter;Lcom/example/roles_over_datacenter/rolesoverdatacenter/Action$Reach;Lcom/example/roles_over_datacenter/rolesoverdatacenter/ActionGroup;Lcom/example/roles_over_datacenter/rolesoverdatacenter/Action$Parameter;)V"), (0, .fieldref 25 33), (0, .nameAndType 34 16), (0, u "SYSTEM"), (23, u "onSystem"), (0, u "(Lcom/example/roles_over_datacenter/rolesoverdatacenter/ActionGroup;)Lcom/example/roles_over_datacenter/rolesoverdatacenter/Action$Requirement;"), (7, u "()Lcom/example/roles_over_datacenter/rolesoverdatacenter/Action$Parameter;"), (0, u "()Lcom/example/roles_over_datacenter/rolesoverdatacenter/Action$Reach;"), (0, u "()Lcom/example/roles_over_datacenter/rolesoverdatacenter/ActionGroup;"), (3, .class_ 74), (0, u "com/example/roles_over_datacenter/rolesoverdatacenter/Action")] 26

def k8c0 : Code := { maxStack := 2, maxLocals := 5, code := prog_5_method_1_code, exceptionTable := #[], attributes := #[] }
def k8m0 : Method := { name := "<init>", desc := "(Lcom/example/roles_over_datacenter/rolesoverdatacenter/Action$Parameter;Lcom/example/roles_over_datacenter/rolesoverdatacenter/Action$Reach;Lcom/example/roles_over_datacenter/rolesoverdatacenter/ActionGroup;Lcom/example/roles_over_datacenter/rolesoverdatacenter/Action$Parameter;)V", sig := { parameters := [(.object "com/example/roles_over_datacenter/rolesoverdatacenter/Action$Parameter"), (.object "com/example/roles_over_datacenter/rolesoverdatacenter/Action$Reach"), (.object "com/example/roles_over_datacenter/rolesoverdatacenter/ActionGroup"), (.object "com/example/roles_over_datacenter/rolesoverdatacenter/Action$Parameter")], returnType := none }, accessFlags := 0, code := some k8c0 }
def k8c1 : Code := { maxStack := 6, maxLocals := 1, code := prog_5_method_3_code, exceptionTable := #[], attributes := #[] }
def k8m1 : Method := { name := "onSystem", desc := "(Lcom/example/roles_over_datacenter/rolesoverdatacenter/ActionGroup;)Lcom/example/roles_over_datacenter/rolesoverdatacenter/Action$Requirement;", sig := { parameters := [(.object "com/example/roles_over_datacenter/rolesoverdatacenter/ActionGroup")], returnType := some (.object "com/example/roles_over_datacenter/rolesoverdatacenter/Action$Requirement") }, accessFlags := 8, code := some k8c1 }
def k8c2 : Code := { maxStack := 1, maxLocals := 1, code := prog_5_method_10_code, exceptionTable := #[], attributes := #[] }
def k8m2 : Method := { name := "parameter", desc := "()Lcom/example/roles_over_datacenter/rolesoverdatacenter/Action$Parameter;", sig := { parameters := [], returnType := some (.object "com/example/roles_over_datacenter/rolesoverdatacenter/Action$Parameter") }, accessFlags := 1, code := some k8c2 }
def k8c3 : Code := { maxStack := 1, maxLocals := 1, code := prog_5_method_11_code, exceptionTable := #[], attributes := #[] }
def k8m3 : Method := { name := "reach", desc := "()Lcom/example/roles_over_datacenter/rolesoverdatacenter/Action$Reach;", sig := { parameters := [], returnType := some (.object "com/example/roles_over_datacenter/rolesoverdatacenter/Action$Reach") }, accessFlags := 1, code := some k8c3 }
def k8c4 : Code := { maxStack := 1, maxLocals := 1, code := prog_5_method_12_code, exceptionTable := #[], attributes := #[] }
def k8m4 : Method := { name := "actionGroup", desc := "()Lcom/example/roles_over_datacenter/rolesoverdatacenter/ActionGroup;", sig := { parameters := [], returnType := some (.object "com/example/roles_over_datacenter/rolesoverdatacenter/ActionGroup") }, accessFlags := 1, code := some k8c4 }
def k8c5 : Code := { maxStack := 1, maxLocals := 1, code := prog_5_method_13_code, exceptionTable := #[], attributes := #[] }
def k8m5 : Method := { name := "flag", desc := "()Lcom/example/roles_over_datacenter/rolesoverdatacenter/Action$Parameter;", sig := { parameters := [], returnType := some (.object "com/example/roles_over_datacenter/rolesoverdatacenter/Action$Parameter") }, accessFlags := 1, code := some k8c5 }
/-- com/example/roles_over_datacenter/rolesoverdatacenter/Action$Requirement -/
def k8 : Class := { plain "com/example/roles_over_datacenter/rolesoverdatacenter/Action$Requirement" (some 7) with
  accessFlags := 48
  interfaces := #[]
  cf := some (fileOf pool8 8 #[.nestHost 73] #[{ accessFlags := 0, nameIndex := 5, descriptorIndex := 31, attributes := #[] }, { accessFlags := 8, nameIndex := 58, descriptorIndex := 59, attributes := #[] }, { accessFlags := 1, nameIndex := 11, descriptorIndex := 67, attributes := #[] }, { accessFlags := 1, nameIndex := 15, descriptorIndex := 68, attributes := #[] }, { accessFlags := 1, nameIndex := 19, descriptorIndex := 69, attributes := #[] }, { accessFlags := 1, nameIndex := 23, descriptorIndex := 67, attributes := #[] }] 48 2 #[] #[{ accessFlags := 18, nameIndex := 11, descriptorIndex := 12, attributes := #[] }, { accessFlags := 18, nameIndex := 15, descriptorIndex := 16, attributes := #[] }, { accessFlags := 18, nameIndex := 19, descriptorIndex := 20, attributes := #[] }, { accessFlags := 18, nameIndex := 23, descriptorIndex := 12, attributes := #[] }])
  fields := #[{ name := "parameter", type := (.object "com/example/roles_over_datacenter/rolesoverdatacenter/Action$Parameter"), accessFlags := 18, slot := 0, constantValue := 0 }, { name := "reach", type := (.object "com/example/roles_over_datacenter/rolesoverdatacenter/Action$Reach"), accessFlags := 18, slot := 1, constantValue := 0 }, { name := "actionGroup", type := (.object "com/example/roles_over_datacenter/rolesoverdatacenter/ActionGroup"), accessFlags := 18, slot := 2, constantValue := 0 }, { name := "flag", type := (.object "com/example/roles_over_datacenter/rolesoverdatacenter/Action$Parameter"), accessFlags := 18, slot := 3, constantValue := 0 }]
  methods := #[k8m0, k8m1, k8m2, k8m3, k8m4, k8m5]
  instanceTypes := #[(.object "com/example/roles_over_datacenter/rolesoverdatacenter/Action$Parameter"), (.object "com/example/roles_over_datacenter/rolesoverdatacenter/Action$Reach"), (.object "com/example/roles_over_datacenter/rolesoverdatacenter/ActionGroup"), (.object "com/example/roles_over_datacenter/rolesoverdatacenter/Action$Parameter")]
  staticTypes := #[]
  resolved := Array.replicate 101 none
  statics := none }

def pool9 : Array CpInfo := pool [(1, .class_ 2), (0, u "com/example/roles_over_datacenter/rolesoverdatacenter/Action$Reach"), (2, u "OBJECT"), (0, u "Lcom/example/roles_over_datacenter/rolesoverdatacenter/Action$Reach;"), (2, u "ATTACHED_DISKS"), (2, u "TEMPLATE_STORAGE_DOMAINS"), (2, u "SYSTEM"), (2, u "$VALUES"), (0, u "[Lcom/example/roles_over_datacenter/rolesoverdatacenter/Action$Reach;"), (6, .class_ 28), (1, u "java/lang/Enum"), (27, .class_ 57), (0, u "com/example/roles_over_datacenter/rolesoverdatacenter/Action")] 2

/-- com/example/roles_over_datacenter/rolesoverdatacenter/Action$Reach -/
def k9 : Class := { plain "com/example/roles_over_datacenter/rolesoverdatacenter/Action$Reach" (some 5) with
  accessFlags := 16432
  interfaces := #[]
  cf := some (fileOf pool9 1 #[.nestHost 56] #[] 16432 26 #[] #[{ accessFlags := 16409, nameIndex := 5, descriptorIndex := 6, attributes := #[] }, { accessFlags := 16409, nameIndex := 9, descriptorIndex := 6, attributes := #[] }, { accessFlags := 16409, nameIndex := 12, descriptorIndex := 6, attributes := #[] }, { accessFlags := 16409, nameIndex := 15, descriptorIndex := 6, attributes := #[] }, { accessFlags := 4122, nameIndex := 18, descriptorIndex := 19, attributes := #[] }])
  fields := #[{ name := "OBJECT", type := (.object "com/example/roles_over_datacenter/rolesoverdatacenter/Action$Reach"), accessFlags := 16409, slot := 0, constantValue := 0 }, { name := "ATTACHED_DISKS", type := (.object "com/example/roles_over_datacenter/rolesoverdatacenter/Action$Reach"), accessFlags := 16409, slot := 1, constantValue := 0 }, { name := "TEMPLATE_STORAGE_DOMAINS", type := (.object "com/example/roles_over_datacenter/rolesoverdatacenter/Action$Reach"), accessFlags := 16409, slot := 2, constantValue := 0 }, { name := "SYSTEM", type := (.object "com/example/roles_over_datacenter/rolesoverdatacenter/Action$Reach"), accessFlags := 16409, slot := 3, constantValue := 0 }, { name := "$VALUES", type := (.array (.object "com/example/roles_over_datacenter/rolesoverdatacenter/Action$Reach")), accessFlags := 4122, slot := 4, constantValue := 0 }]
  methods := #[]
  instanceTypes := #[(.object "java/lang/String"), .int, .int]
  staticTypes := #[(.object "com/example/roles_over_datacenter/rolesoverdatacenter/Action$Reach"), (.object "com/example/roles_over_datacenter/rolesoverdatacenter/Action$Reach"), (.object "com/example/roles_over_datacenter/rolesoverdatacenter/Action$Reach"), (.object "com/example/roles_over_datacenter/rolesoverdatacenter/Action$Reach"), (.array (.object "com/example/roles_over_datacenter/rolesoverdatacenter/Action$Reach"))]
  resolved := Array.replicate 60 none
  statics := some 1 }

def pool10 : Array CpInfo := pool [(1, u "java/lang/Cloneable"), (0, .class_ 1), (0, u "java/lang/Object"), (0, .class_ 3)] 3

/-- java/lang/Cloneable -/
def k10 : Class := { plain "java/lang/Cloneable" (some 0) with
  accessFlags := 1537
  interfaces := #[]
  cf := some (fileOf pool10 2 #[] #[] 1537 4 #[] #[])
  fields := #[]
  methods := #[]
  instanceTypes := #[]
  staticTypes := #[]
  resolved := Array.replicate 8 none
  statics := none }

/-- the primitive byte -/
def k11 : Class := { plain "byte" none with kind := .primitive 'B', accessFlags := 0x411 }
/-- [B -/
def k12 : Class := { plain "[B" (some 0) with kind := .array 11 .byte, interfaces := #[10, 4], accessFlags := 1041 }

/-- the primitive int -/
def k13 : Class := { plain "int" none with kind := .primitive 'I', accessFlags := 0x411 }
/-- [I -/
def k14 : Class := { plain "[I" (some 0) with kind := .array 13 .int, interfaces := #[10, 4], accessFlags := 1041 }

/-- [Lcom/example/roles_over_datacenter/rolesoverdatacenter/ActionGroup; -/
def k15 : Class := { plain "[Lcom/example/roles_over_datacenter/rolesoverdatacenter/ActionGroup;" (some 0) with kind := .array 6 (.object "com/example/roles_over_datacenter/rolesoverdatacenter/ActionGroup"), interfaces := #[10, 4], accessFlags := 1041 }

def heap : Heap := #[{ cls := 6, slots := #[.ref 2, .ref 3, .ref 4, .ref 5, .ref 6, .ref 7, .ref 8, .ref 9, .ref 10, .ref 11, .ref 12, .ref 13, .ref 14, .ref 15, .ref 16, .ref 17, .ref 18, .ref 19, .ref 20, .ref 21, .ref 22, .ref 23, .null, .null], vm := .statics 6 },
  { cls := 9, slots := #[.null, .null, .null, .ref 24, .null], vm := .statics 9 },
  { cls := 6, slots := #[.null, .int 0, .int 0, .null, .int 0], vm := .none },
  { cls := 6, slots := #[.null, .int 0, .int 0, .null, .int 0], vm := .none },
  { cls := 6, slots := #[.null, .int 0, .int 0, .null, .int 0], vm := .none },
  { cls := 6, slots := #[.null, .int 0, .int 0, .null, .int 0], vm := .none },
  { cls := 6, slots := #[.null, .int 0, .int 0, .null, .int 0], vm := .none },
  { cls := 6, slots := #[.null, .int 0, .int 0, .null, .int 0], vm := .none },
  { cls := 6, slots := #[.null, .int 0, .int 0, .null, .int 0], vm := .none },
  { cls := 6, slots := #[.null, .int 0, .int 0, .null, .int 0], vm := .none },
  { cls := 6, slots := #[.null, .int 0, .int 0, .null, .int 0], vm := .none },
  { cls := 6, slots := #[.null, .int 0, .int 0, .null, .int 0], vm := .none },
  { cls := 6, slots := #[.null, .int 0, .int 0, .null, .int 0], vm := .none },
  { cls := 6, slots := #[.null, .int 0, .int 0, .null, .int 0], vm := .none },
  { cls := 6, slots := #[.null, .int 0, .int 0, .null, .int 0], vm := .none },
  { cls := 6, slots := #[.null, .int 0, .int 0, .null, .int 0], vm := .none },
  { cls := 6, slots := #[.null, .int 0, .int 0, .null, .int 0], vm := .none },
  { cls := 6, slots := #[.null, .int 0, .int 0, .null, .int 0], vm := .none },
  { cls := 6, slots := #[.null, .int 0, .int 0, .null, .int 0], vm := .none },
  { cls := 6, slots := #[.null, .int 0, .int 0, .null, .int 0], vm := .none },
  { cls := 6, slots := #[.null, .int 0, .int 0, .null, .int 0], vm := .none },
  { cls := 6, slots := #[.null, .int 0, .int 0, .null, .int 0], vm := .none },
  { cls := 6, slots := #[.null, .int 0, .int 0, .null, .int 0], vm := .none },
  { cls := 6, slots := #[.null, .int 0, .int 0, .null, .int 0], vm := .none },
  { cls := 9, slots := #[.null, .int 0, .int 0], vm := .none }]
def classes : Array Class := #[k0, k1, k2, k3, k4, k5, k6, k7, k8, k9, k10, k11, k12, k13, k14, k15]
def interned : List (Array UInt16 × Addr) := []
def slotsUsed : Nat := 142
def theMethod : MethodId := ⟨1, 2⟩
def args0 : Array Value := #[.int 5]
def aboutOver (below : List Frame) : State where
  vm := { classes := classes, interned := interned.toArray }
  heap := heap
  slotsUsed := slotsUsed
  threads := #[{ frames := .invoking theMethod args0 :: below }]
def below0 : List Frame := [.native { method := ⟨0, 0⟩, args := #[] }]
def about1 : State := aboutOver below0
def p0 : Program := .bare "" "" ""
def e0 : Env := launch0.env 0 0 0
theorem w_frames : about1.frames = Frame.invoking theMethod args0 :: below0 := rfl
set_option maxRecDepth 65536 in
theorem w_args : argsFit about1.vm theMethod args0 = true := by decide +kernel
set_option maxRecDepth 65536 in
theorem w_heap : heapFits about1 = true := by decide +kernel
set_option maxRecDepth 65536 in
theorem w_runnable : about1.curStatus? = some .runnable := by decide +kernel
set_option maxRecDepth 65536 in
theorem w_alone : about1.alone = true := by decide +kernel
set_option maxRecDepth 65536 in
theorem w_named : about1.methodNamed? x = some theMethod := by decide +kernel
set_option maxRecDepth 65536 in
theorem w_hears : about1.hears theMethod below0 = true := by decide +kernel
set_option maxRecDepth 65536 in
theorem w_ripe : about1.ripe theMethod args0 below0 = true := by decide +kernel
theorem w_running : about1.status = .running := rfl
set_option maxRecDepth 65536 in
theorem w_room : about1.hasRoom e0.platform room_1 = true :=
  launch0.hasRoom_least _ room_1 (by decide +kernel) (by decide +kernel) (by decide +kernel) (by decide +kernel) (by decide +kernel) (by decide +kernel)
theorem allAtoms_all (ts : List Jvm.Cond) (a : Array Jvm.Value) (st : Jvm.State) : (allAtoms ts).before a st = ts.all (fun c => c.before a st) := by
  induction ts with
  | nil => rfl
  | cons c t ih =>
    show (Jvm.Cond.and c (allAtoms t)).before a st = _
    rw [Jvm.Cond.before_and, ih, List.all_cons]
def words1 : List Jvm.Cond := Jvm.Cond.code x code maxLocals ret :: tables_1
/-- a 'code' word, met by the world's own term for the bytes: nothing is compared byte by byte -/
theorem code_word {y : MethodName} {bytes : ByteArray} {mx : Nat} {rt : Option FieldType} {a : Array Value} {s : State} {m : MethodId} {meth : Method} {c : Code} (h1 : s.methodNamed? y = some m) (h2 : s.vm.method? m = some meth) (h3 : meth.code = some c) (h4 : c.code = bytes)
    (h5 : (c.maxLocals == mx && c.exceptionTable.isEmpty && decide (c.maxStack ≤ mostOperands) && decide (meth.sig.returnType = rt) && !meth.locks && decide (parseMethodDescriptor y.desc = some meth.sig)) = true) : (Jvm.Cond.code y bytes mx rt).before a s = true := by
  simp only [Bool.and_eq_true, beq_iff_eq, Bool.not_eq_true', decide_eq_true_eq] at h5
  obtain ⟨⟨⟨⟨⟨g1, g2⟩, g3⟩, g4⟩, g5⟩, g6⟩ := h5
  simp [Cond.before, Cond.holds, Cond.value, h1, h2, h3, h4, g1, g2, g3, g4, g5, g6]
def isCode : Jvm.Cond → Bool
  | .code _ _ _ _ => true
  | _ => false
theorem all_split {L : List Jvm.Cond} {P : Jvm.Cond → Bool} (h1 : L.all (fun c => isCode c || P c) = true) (h2 : ∀ c ∈ L.filter isCode, P c = true) : L.all P = true := by
  refine List.all_eq_true.mpr fun c hc => ?_
  have h := List.all_eq_true.mp h1 c hc
  rcases Bool.eq_false_or_eq_true (isCode c) with hi | hi
  · exact h2 c (List.mem_filter.mpr ⟨hc, hi⟩)
  · simpa [hi] using h
set_option maxRecDepth 65536 in
theorem w_c0 : (Jvm.Cond.code x code maxLocals ret).before args0 about1 = true := code_word (m := ⟨1, 2⟩) (meth := k1m2) (c := k1c2) (by decide +kernel) rfl rfl rfl (by decide +kernel)
set_option maxRecDepth 65536 in
theorem w_c1 : (Jvm.Cond.code ({ cls := "com/example/roles_over_datacenter/rolesoverdatacenter/RequirementOnSystemPinLaw", name := "pick", desc := "(I)Lcom/example/roles_over_datacenter/rolesoverdatacenter/ActionGroup;" } : Jvm.MethodName) method_2_code (2 : Nat) (Option.some (Jvm.ClassFile.FieldType.object "com/example/roles_over_datacenter/rolesoverdatacenter/ActionGroup"))).before args0 about1 = true := code_word (m := ⟨1, 1⟩) (meth := k1m1) (c := k1c1) (by decide +kernel) rfl rfl rfl (by decide +kernel)
set_option maxRecDepth 65536 in
theorem w_c2 : (Jvm.Cond.code ({ cls := "com/example/roles_over_datacenter/rolesoverdatacenter/Action$Requirement", name := "onSystem", desc := "(Lcom/example/roles_over_datacenter/rolesoverdatacenter/ActionGroup;)Lcom/example/roles_over_datacenter/rolesoverdatacenter/Action$Requirement;" } : Jvm.MethodName) prog_5_method_3_code (1 : Nat) (Option.some (Jvm.ClassFile.FieldType.object "com/example/roles_over_datacenter/rolesoverdatacenter/Action$Requirement"))).before args0 about1 = true := code_word (m := ⟨8, 1⟩) (meth := k8m1) (c := k8c1) (by decide +kernel) rfl rfl rfl (by decide +kernel)
set_option maxRecDepth 65536 in
theorem w_c3 : (Jvm.Cond.code ({ cls := "com/example/roles_over_datacenter/rolesoverdatacenter/Action$Requirement", name := "<init>", desc := "(Lcom/example/roles_over_datacenter/rolesoverdatacenter/Action$Parameter;Lcom/example/roles_over_datacenter/rolesoverdatacenter/Action$Reach;Lcom/example/roles_over_datacenter/rolesoverdatacenter/ActionGroup;Lcom/example/roles_over_datacenter/rolesoverdatacenter/Action$Parameter;)V" } : Jvm.MethodName) prog_5_method_1_code (5 : Nat) (Option.none : Option Jvm.ClassFile.FieldType)).before args0 about1 = true := code_word (m := ⟨8, 0⟩) (meth := k8m0) (c := k8c0) (by decide +kernel) rfl rfl rfl (by decide +kernel)
set_option maxRecDepth 65536 in
theorem w_c4 : (Jvm.Cond.code ({ cls := "java/lang/Record", name := "<init>", desc := "()V" } : Jvm.MethodName) jdk_30_method_1_code (1 : Nat) (Option.none : Option Jvm.ClassFile.FieldType)).before args0 about1 = true := code_word (m := ⟨7, 0⟩) (meth := k7m0) (c := k7c0) (by decide +kernel) rfl rfl rfl (by decide +kernel)
set_option maxRecDepth 65536 in
theorem w_c5 : (Jvm.Cond.code ({ cls := "java/lang/Object", name := "<init>", desc := "()V" } : Jvm.MethodName) object_method_1_code (1 : Nat) (Option.none : Option Jvm.ClassFile.FieldType)).before args0 about1 = true := code_word (m := ⟨0, 0⟩) (meth := k0m0) (c := k0c0) (by decide +kernel) rfl rfl rfl (by decide +kernel)
set_option maxRecDepth 65536 in
theorem w_c6 : (Jvm.Cond.code ({ cls := "com/example/roles_over_datacenter/rolesoverdatacenter/Action$Requirement", name := "parameter", desc := "()Lcom/example/roles_over_datacenter/rolesoverdatacenter/Action$Parameter;" } : Jvm.MethodName) prog_5_method_10_code (1 : Nat) (Option.some (Jvm.ClassFile.FieldType.object "com/example/roles_over_datacenter/rolesoverdatacenter/Action$Parameter"))).before args0 about1 = true := code_word (m := ⟨8, 2⟩) (meth := k8m2) (c := k8c2) (by decide +kernel) rfl rfl rfl (by decide +kernel)
set_option maxRecDepth 65536 in
theorem w_c7 : (Jvm.Cond.code ({ cls := "com/example/roles_over_datacenter/rolesoverdatacenter/Action$Requirement", name := "reach", desc := "()Lcom/example/roles_over_datacenter/rolesoverdatacenter/Action$Reach;" } : Jvm.MethodName) prog_5_method_11_code (1 : Nat) (Option.some (Jvm.ClassFile.FieldType.object "com/example/roles_over_datacenter/rolesoverdatacenter/Action$Reach"))).before args0 about1 = true := code_word (m := ⟨8, 3⟩) (meth := k8m3) (c := k8c3) (by decide +kernel) rfl rfl rfl (by decide +kernel)
set_option maxRecDepth 65536 in
theorem w_c8 : (Jvm.Cond.code ({ cls := "com/example/roles_over_datacenter/rolesoverdatacenter/Action$Requirement", name := "actionGroup", desc := "()Lcom/example/roles_over_datacenter/rolesoverdatacenter/ActionGroup;" } : Jvm.MethodName) prog_5_method_12_code (1 : Nat) (Option.some (Jvm.ClassFile.FieldType.object "com/example/roles_over_datacenter/rolesoverdatacenter/ActionGroup"))).before args0 about1 = true := code_word (m := ⟨8, 4⟩) (meth := k8m4) (c := k8c4) (by decide +kernel) rfl rfl rfl (by decide +kernel)
set_option maxRecDepth 65536 in
theorem w_c9 : (Jvm.Cond.code ({ cls := "com/example/roles_over_datacenter/rolesoverdatacenter/Action$Requirement", name := "flag", desc := "()Lcom/example/roles_over_datacenter/rolesoverdatacenter/Action$Parameter;" } : Jvm.MethodName) prog_5_method_13_code (1 : Nat) (Option.some (Jvm.ClassFile.FieldType.object "com/example/roles_over_datacenter/rolesoverdatacenter/Action$Parameter"))).before args0 about1 = true := code_word (m := ⟨8, 5⟩) (meth := k8m5) (c := k8c5) (by decide +kernel) rfl rfl rfl (by decide +kernel)
def codes1 : List Jvm.Cond := [Jvm.Cond.code x code maxLocals ret, Jvm.Cond.code ({ cls := "com/example/roles_over_datacenter/rolesoverdatacenter/RequirementOnSystemPinLaw", name := "pick", desc := "(I)Lcom/example/roles_over_datacenter/rolesoverdatacenter/ActionGroup;" } : Jvm.MethodName) method_2_code (2 : Nat) (Option.some (Jvm.ClassFile.FieldType.object "com/example/roles_over_datacenter/rolesoverdatacenter/ActionGroup")), Jvm.Cond.code ({ cls := "com/example/roles_over_datacenter/rolesoverdatacenter/Action$Requirement", name := "onSystem", desc := "(Lcom/example/roles_over_datacenter/rolesoverdatacenter/ActionGroup;)Lcom/example/roles_over_datacenter/rolesoverdatacenter/Action$Requirement;" } : Jvm.MethodName) prog_5_method_3_code (1 : Nat) (Option.some (Jvm.ClassFile.FieldType.object "com/example/roles_over_datacenter/rolesoverdatacenter/Action$Requirement")), Jvm.Cond.code ({ cls := "com/example/roles_over_datacenter/rolesoverdatacenter/Action$Requirement", name := "<init>", desc := "(Lcom/example/roles_over_datacenter/rolesoverdatacenter/Action$Parameter;Lcom/example/roles_over_datacenter/rolesoverdatacenter/Action$Reach;Lcom/example/roles_over_datacenter/rolesoverdatacenter/ActionGroup;Lcom/example/roles_over_datacenter/rolesoverdatacenter/Action$Parameter;)V" } : Jvm.MethodName) prog_5_method_1_code (5 : Nat) (Option.none : Option Jvm.ClassFile.FieldType), Jvm.Cond.code ({ cls := "java/lang/Record", name := "<init>", desc := "()V" } : Jvm.MethodName) jdk_30_method_1_code (1 : Nat) (Option.none : Option Jvm.ClassFile.FieldType), Jvm.Cond.code ({ cls := "java/lang/Object", name := "<init>", desc := "()V" } : Jvm.MethodName) object_method_1_code (1 : Nat) (Option.none : Option Jvm.ClassFile.FieldType), Jvm.Cond.code ({ cls := "com/example/roles_over_datacenter/rolesoverdatacenter/Action$Requirement", name := "parameter", desc := "()Lcom/example/roles_over_datacenter/rolesoverdatacenter/Action$Parameter;" } : Jvm.MethodName) prog_5_method_10_code (1 : Nat) (Option.some (Jvm.ClassFile.FieldType.object "com/example/roles_over_datacenter/rolesoverdatacenter/Action$Parameter")), Jvm.Cond.code ({ cls := "com/example/roles_over_datacenter/rolesoverdatacenter/Action$Requirement", name := "reach", desc := "()Lcom/example/roles_over_datacenter/rolesoverdatacenter/Action$Reach;" } : Jvm.MethodName) prog_5_method_11_code (1 : Nat) (Option.some (Jvm.ClassFile.FieldType.object "com/example/roles_over_datacenter/rolesoverdatacenter/Action$Reach")), Jvm.Cond.code ({ cls := "com/example/roles_over_datacenter/rolesoverdatacenter/Action$Requirement", name := "actionGroup", desc := "()Lcom/example/roles_over_datacenter/rolesoverdatacenter/ActionGroup;" } : Jvm.MethodName) prog_5_method_12_code (1 : Nat) (Option.some (Jvm.ClassFile.FieldType.object "com/example/roles_over_datacenter/rolesoverdatacenter/ActionGroup")), Jvm.Cond.code ({ cls := "com/example/roles_over_datacenter/rolesoverdatacenter/Action$Requirement", name := "flag", desc := "()Lcom/example/roles_over_datacenter/rolesoverdatacenter/Action$Parameter;" } : Jvm.MethodName) prog_5_method_13_code (1 : Nat) (Option.some (Jvm.ClassFile.FieldType.object "com/example/roles_over_datacenter/rolesoverdatacenter/Action$Parameter"))]
set_option maxRecDepth 65536 in
theorem codes_eq : words1.filter isCode = codes1 := rfl
theorem w_codes : ∀ c ∈ words1.filter isCode, c.before args0 about1 = true := by
  rw [codes_eq]
  intro c hc
  simp only [codes1, List.mem_cons, List.not_mem_nil, or_false] at hc
  rcases hc with rfl | rfl | rfl | rfl | rfl | rfl | rfl | rfl | rfl | rfl
  · exact w_c0
  · exact w_c1
  · exact w_c2
  · exact w_c3
  · exact w_c4
  · exact w_c5
  · exact w_c6
  · exact w_c7
  · exact w_c8
  · exact w_c9
set_option maxRecDepth 65536 in
theorem w_t1 : (words1.take 24).all (fun c => isCode c || c.before args0 about1) = true := by decide +kernel
set_option maxRecDepth 65536 in
theorem w_t2 : ((words1.drop 24).take 24).all (fun c => isCode c || c.before args0 about1) = true := by decide +kernel
set_option maxRecDepth 65536 in
theorem w_t3 : (((words1.drop 24).drop 24).take 24).all (fun c => isCode c || c.before args0 about1) = true := by decide +kernel
set_option maxRecDepth 65536 in
theorem w_t4 : ((((words1.drop 24).drop 24).drop 24).take 24).all (fun c => isCode c || c.before args0 about1) = true := by decide +kernel
set_option maxRecDepth 65536 in
theorem w_t5 : ((((words1.drop 24).drop 24).drop 24).drop 24).all (fun c => isCode c || c.before args0 about1) = true := by decide +kernel
theorem w_tables : (allAtoms (Jvm.Cond.code x code maxLocals ret :: tables_1)).before args0 about1 = true := by
  rw [allAtoms_all]
  show words1.all (fun c => c.before args0 about1) = true
  refine all_split ?_ w_codes
  rw [← List.take_append_drop 24 words1, List.all_append, w_t1, ← List.take_append_drop 24 (words1.drop 24), List.all_append, w_t2, ← List.take_append_drop 24 ((words1.drop 24).drop 24), List.all_append, w_t3, ← List.take_append_drop 24 (((words1.drop 24).drop 24).drop 24), List.all_append, w_t4, w_t5]
  rfl
set_option maxRecDepth 65536 in
theorem w_case : (Jvm.Cond.and given_1 narrow_1).before args0 about1 = true := by decide +kernel
theorem w_applies : (headSpec (Jvm.Cond.code x code maxLocals ret :: tables_1) room_1).applies x e0.platform about1 = true :=
  (Spec.applies_iff w_frames).mpr ⟨w_running, w_runnable, w_alone, w_named, w_hears, w_ripe, w_room, w_tables⟩
theorem atStart : AtStart classFile x code maxLocals ret World_1 tables_1 room_1 Calls_1 rest_1 Pre_1 launch0 p0 e0 about1 theMethod args0 below0 :=
  ⟨lists_1, trivial, launch0.admits_env _ _ _, launch0.least_env, fairChoices_fair.cas, fairChoices_fair.clock, w_frames, w_args, w_heap, w_applies, trivial, trivial, w_case⟩
end start1
theorem witness_1 : WitnessClaimed_1 := ⟨start1.p0, start1.e0, start1.about1, start1.theMethod, start1.args0, start1.below0, start1.atStart⟩
end Jvm.Pilot.@@N@@
