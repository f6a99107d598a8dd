
import JvmDerived
import JvmDerived.Pilot.@@N@@Statement
import JvmDerived.Pilot.@@N@@Code
set_option linter.unusedVariables false
set_option linter.unusedSimpArgs false
namespace Jvm.RoadKit
open Sem ClassFile Op Lib Jvm.Stand Jvm.Free Jvm.LawKit
section OwnGo
variable {p : Program} {l : Launch} {e : Env} {R : Room} {s : State} {m : MethodId} {args : Array Value} {below : List Frame} {meth : Method} {c : Code} {T : State} {locs : List Loc} {cells slots kc ks : Nat} {Z : State} {a0 : Array Value} {h : Heap} {Q : Option Value → Heap → List Loc → Prop} {F0 : State → Outcome → Prop}
/-- what is left of a run from T: it ends, and F0 holds of its end -/
def Go (p : Program) (e : Env) (below : List Frame) (F0 : State → Outcome → Prop) (T : State) : Prop :=
  ∃ (U : State) (o : Outcome), Steps p.tables e below T U ∧ U.status = .running ∧ Ended U below o ∧ F0 U o
def EndN (s : State) (Q : Option Value → Heap → List Loc → Prop) (kc ks : Nat) (U : State) (o : Outcome) : Prop := ∃ v L, o = .returned v ∧ Q v U.heap L ∧ FrameEnd s o U L kc ks
theorem Go.step {T' : State} (g : ∀ t, Steps p.tables e below T' t → Steps p.tables e below T t) (k : Go p e below F0 T') : Go p e below F0 T := by
  obtain ⟨U, o, h1, r⟩ := k
  exact ⟨U, o, g _ h1, r⟩
theorem Go.cast {g g' : JFrame} (q : g = g') (k : Go p e below F0 (T.setTop g')) : Go p e below F0 (T.setTop g) := by rw [q]; exact k
/-- a body's contract: from these arguments and this heap it returns, and Q holds -/
def Ctr (l : Launch) (Z : State) (y : MethodName) (bytes : ByteArray) (maxL : Nat) (ret : Option FieldType) (rm : Room) (as : Array Value) (h : Heap) (Q : Option Value → Heap → List Loc → Prop) : Prop :=
  ∀ ws : List Jvm.Cond, MetFree l y (head1 (Jvm.Cond.code y bytes maxL ret :: ws) rm) (fun a U => a = as ∧ Z.Warmed39 U.vm ∧ U.heap = h) (fun _ _ _ _ _ => True) (fun _ U o U' => ∃ v L, o = .returned v ∧ Q v U'.heap L ∧ FrameEnd U o U' L rm.cells rm.slots)
theorem Ctr.of {y : MethodName} {bytes : ByteArray} {maxL : Nat} {ret : Option FieldType} {rm : Room} {as : Array Value} (hp : plainFor y = true)
    (body : ∀ (p : Program) (e : Env) (s : State) (m : MethodId) (below : List Frame) (meth : Method) (c : Code) (T : State), p.tables.exec = Jvm.exec → Z.Warmed39 s.vm → c.code = bytes → c.maxLocals = maxL → s.vm.findClass y.cls = some m.cls → meth.name = y.name → meth.sig.returnType = ret → meth.locks = false → T.heap = h → s.heap = h → Stand p l e rm s m as below meth c T [] 0 0 →
      Go p e below (EndN s Q rm.cells rm.slots) (T.setTop (entryFrame m as maxL))) : Ctr l Z y bytes maxL ret rm as h Q := by
  intro ws
  refine MetFree.of_bodySF hp hisR ?_
  intro p e s m args below meth c s₁ Bd hml0 hP hK
  obtain ⟨rfl, hZ, hh⟩ := hP
  exact body p e s m below meth c s₁ Bd.exec hZ Bd.bytes hml0 (findClass_of_methodNamed Bd.named) (name_of_methodNamed Bd.named Bd.method).1 Bd.returns Bd.notSynchronized (by rw [← hh, Bd.state]; rfl) hh (Stand.of_body Bd)
theorem Go.ret0 (X : Stand p l e R s m args below meth c T locs cells slots) (hx : p.tables.exec = Jvm.exec) (hlk : meth.locks = false) (hret : meth.sig.returnType = none) {pc : Nat} {Ls : Array Slot} (hd : decode c.code pc = .ok (.return_, 1)) (hc : cells ≤ kc) (hs : slots ≤ ks) (q : Q none T.heap locs) : Go p e below (EndN s Q kc ks) (T.setTop (mkF m pc Ls [])) := by
  obtain ⟨fs, hr, hrun, hended, hW, hsame⟩ := X.leave (v := none) (fun _ => rfl) hlk
  exact ⟨_, _, X.returnOut hx hret hd hr, hrun, hended, _, _, rfl, q, ⟨_, rfl⟩, hW, hsame.mono hc hs⟩
theorem Go.retV (X : Stand p l e R s m args below meth c T locs cells slots) (hx : p.tables.exec = Jvm.exec) (hlk : meth.locks = false) {t : FieldType} (hret : meth.sig.returnType = some t) {pc : Nat} {Ls : Array Slot} {v : Value} {i : Instr} {rest : List Value} (hn : narrow t v = v)
    (hi : (i = .ireturn ∧ (t = .int ∨ t = .boolean ∨ t = .byte ∨ t = .char ∨ t = .short) ∧ ∃ z, v = .int z) ∨ (i = .lreturn ∧ t = .long ∧ ∃ z, v = .long z) ∨ (i = .dreturn ∧ t = .double ∧ ∃ z, v = .double z) ∨ (i = .freturn ∧ t = .float ∧ ∃ z, v = .float z) ∨ (i = .areturn ∧ t.isReference = true ∧ v.isRef = true))
    (hd : decode c.code pc = .ok (i, 1)) (hc : cells ≤ kc) (hs : slots ≤ ks) (q : Q (some v) T.heap locs) : Go p e below (EndN s Q kc ks) (T.setTop (mkF m pc Ls (v :: rest))) := by
  obtain ⟨fs, hr, hrun, hended, hW, hsame⟩ := X.leave (v := some v) (fun h => by rw [hret] at h; cases h) hlk
  exact ⟨_, _, retOut X hx hret hn hi hd hr, hrun, hended, _, _, rfl, q, ⟨_, rfl⟩, hW, hsame.mono hc hs⟩
theorem Go.retI (X : Stand p l e R s m args below meth c T locs cells slots) (hx : p.tables.exec = Jvm.exec) (hlk : meth.locks = false) (hret : meth.sig.returnType = some .int) {pc : Nat} {Ls : Array Slot} {z : Int32} {rest : List Value} (hd : decode c.code pc = .ok (.ireturn, 1)) (hc : cells ≤ kc) (hs : slots ≤ ks) (q : Q (some (.int z)) T.heap locs) : Go p e below (EndN s Q kc ks) (T.setTop (mkF m pc Ls (.int z :: rest))) :=
  Go.retV X hx hlk hret rfl (Or.inl ⟨rfl, Or.inl rfl, _, rfl⟩) hd hc hs q
theorem Go.retR (X : Stand p l e R s m args below meth c T locs cells slots) (hx : p.tables.exec = Jvm.exec) (hlk : meth.locks = false) {t : FieldType} (hret : meth.sig.returnType = some t) (ht : t.isReference = true) {pc : Nat} {Ls : Array Slot} {v : Value} (hv : v.isRef = true) {rest : List Value} (hd : decode c.code pc = .ok (.areturn, 1)) (hc : cells ≤ kc) (hs : slots ≤ ks) (q : Q (some v) T.heap locs) : Go p e below (EndN s Q kc ks) (T.setTop (mkF m pc Ls (v :: rest))) :=
  Go.retV X hx hlk hret (by rcases ref_cases hv with rfl | ⟨z, rfl⟩ <;> cases t <;> simp [FieldType.isReference] at ht <;> rfl) (Or.inr (Or.inr (Or.inr (Or.inr ⟨rfl, ht, hv⟩)))) hd hc hs q
theorem Go.retN (X : Stand p l e R s m args below meth c T locs cells slots) (hx : p.tables.exec = Jvm.exec) (hlk : meth.locks = false) {t : FieldType} (hret : meth.sig.returnType = some t) (ht : t = .boolean ∨ t = .byte ∨ t = .char ∨ t = .short) {pc : Nat} {Ls : Array Slot} {z : Int32} {rest : List Value} (hd : decode c.code pc = .ok (.ireturn, 1)) (hc : cells ≤ kc) (hs : slots ≤ ks) (q : Q (some (.int (nar t z))) T.heap locs) : Go p e below (EndN s Q kc ks) (T.setTop (mkF m pc Ls (.int z :: rest))) := by
  obtain ⟨fs, hr, hrun, hended, hW, hsame⟩ := X.leave (v := some (.int (nar t z))) (fun h => by rw [hret] at h; cases h) hlk
  exact ⟨_, _, Jvm.RoadKit.retN X hx hret ht hd hr, hrun, hended, _, _, rfl, q, ⟨_, rfl⟩, hW, hsame.mono hc hs⟩
theorem Go.iloadN (X : Stand p l e R s m args below meth c T locs cells slots) (hx : p.tables.exec = Jvm.exec) {pc : Nat} (pc' : Nat) {Ls : Array Slot} {st : List Value} {k : Fin 4} {v : Int32} (hp : pc' = pc + 1) (hd : decode c.code pc = .ok (.iload_n k, 1)) (hl : Ls[k.val]? = some (.val (.int v))) (k : Go p e below F0 (T.setTop (mkF m pc' Ls (.int v :: st)))) : Go p e below F0 (T.setTop (mkF m pc Ls st)) := by
  subst hp
  exact Go.step (fun t kt => XS.iloadN X.here hx (g := mkF m pc Ls _) rfl hd hl kt) k
theorem Go.iload (X : Stand p l e R s m args below meth c T locs cells slots) (hx : p.tables.exec = Jvm.exec) {pc : Nat} (pc' : Nat) {Ls : Array Slot} {st : List Value} {k : Nat} {v : Int32} (hp : pc' = pc + 2) (hd : decode c.code pc = .ok (.iload k, 2)) (hl : Ls[k]? = some (.val (.int v))) (k : Go p e below F0 (T.setTop (mkF m pc' Ls (.int v :: st)))) : Go p e below F0 (T.setTop (mkF m pc Ls st)) := by
  subst hp
  exact Go.step (fun t kt => XS.iload X.here hx (g := mkF m pc Ls _) rfl hd hl kt) k
theorem Go.aloadN (X : Stand p l e R s m args below meth c T locs cells slots) (hx : p.tables.exec = Jvm.exec) {pc : Nat} (pc' : Nat) {Ls : Array Slot} {st : List Value} {k : Fin 4} {v : Value} (hp : pc' = pc + 1) (hd : decode c.code pc = .ok (.aload_n k, 1)) (hl : Ls[k.val]? = some (.val v)) (hv : v.isRef = true) (k : Go p e below F0 (T.setTop (mkF m pc' Ls (v :: st)))) : Go p e below F0 (T.setTop (mkF m pc Ls st)) := by
  subst hp
  exact Go.step (fun t kt => XS.aloadN X.here hx (g := mkF m pc Ls _) rfl hd hl hv kt) k
theorem Go.aload (X : Stand p l e R s m args below meth c T locs cells slots) (hx : p.tables.exec = Jvm.exec) {pc : Nat} (pc' : Nat) {Ls : Array Slot} {st : List Value} {k : Nat} {v : Value} (hp : pc' = pc + 2) (hd : decode c.code pc = .ok (.aload k, 2)) (hl : Ls[k]? = some (.val v)) (hv : v.isRef = true) (k : Go p e below F0 (T.setTop (mkF m pc' Ls (v :: st)))) : Go p e below F0 (T.setTop (mkF m pc Ls st)) := by
  subst hp
  exact Go.step (fun t kt => XS.aload X.here hx (g := mkF m pc Ls _) rfl hd hl hv kt) k
theorem Go.iconst (X : Stand p l e R s m args below meth c T locs cells slots) (hx : p.tables.exec = Jvm.exec) {pc : Nat} (pc' : Nat) {Ls : Array Slot} {st : List Value} {i : Int} {v : Int32} (hp : pc' = pc + 1) (hd : decode c.code pc = .ok (.iconst i, 1)) (hv : Int32.ofInt i = v) (k : Go p e below F0 (T.setTop (mkF m pc' Ls (.int v :: st)))) : Go p e below F0 (T.setTop (mkF m pc Ls st)) := by
  subst hp
  exact Go.step (fun t kt => XS.iconst X.here hx (g := mkF m pc Ls _) rfl hd (by rw [hv]; exact kt)) k
theorem Go.bipush (X : Stand p l e R s m args below meth c T locs cells slots) (hx : p.tables.exec = Jvm.exec) {pc : Nat} (pc' : Nat) {Ls : Array Slot} {st : List Value} {i : Int} {v : Int32} (hp : pc' = pc + 2) (hd : decode c.code pc = .ok (.bipush i, 2)) (hv : (Int8.ofInt i).toInt32 = v) (k : Go p e below F0 (T.setTop (mkF m pc' Ls (.int v :: st)))) : Go p e below F0 (T.setTop (mkF m pc Ls st)) := by
  subst hp
  exact Go.step (fun t kt => XS.bipush X.here hx (g := mkF m pc Ls _) rfl hd (by rw [hv]; exact kt)) k
theorem Go.sipush (X : Stand p l e R s m args below meth c T locs cells slots) (hx : p.tables.exec = Jvm.exec) {pc : Nat} (pc' : Nat) {Ls : Array Slot} {st : List Value} {i : Int} {v : Int32} (hp : pc' = pc + 3) (hd : decode c.code pc = .ok (.sipush i, 3)) (hv : (Int16.ofInt i).toInt32 = v) (k : Go p e below F0 (T.setTop (mkF m pc' Ls (.int v :: st)))) : Go p e below F0 (T.setTop (mkF m pc Ls st)) := by
  subst hp
  exact Go.step (fun t kt => XS.sipush X.here hx (g := mkF m pc Ls _) rfl hd (by rw [hv]; exact kt)) k
theorem Go.anull (X : Stand p l e R s m args below meth c T locs cells slots) (hx : p.tables.exec = Jvm.exec) {pc : Nat} (pc' : Nat) {Ls : Array Slot} {st : List Value} (hp : pc' = pc + 1) (hd : decode c.code pc = .ok (.aconst_null, 1))  (k : Go p e below F0 (T.setTop (mkF m pc' Ls (.null :: st)))) : Go p e below F0 (T.setTop (mkF m pc Ls st)) := by
  subst hp
  exact Go.step (fun t kt => XS.aconstNull X.here hx (g := mkF m pc Ls _) rfl hd kt) k
theorem Go.iadd (X : Stand p l e R s m args below meth c T locs cells slots) (hx : p.tables.exec = Jvm.exec) {pc : Nat} (pc' : Nat) {Ls : Array Slot} {x y : Int32} {rest : List Value} (hp : pc' = pc + 1) (hd : decode c.code pc = .ok (.iadd, 1))  (k : Go p e below F0 (T.setTop (mkF m pc' Ls (.int (x + y) :: rest)))) : Go p e below F0 (T.setTop (mkF m pc Ls (.int y :: .int x :: rest))) := by
  subst hp
  exact Go.step (fun t kt => XS.iadd X.here hx (g := mkF m pc Ls _) rfl hd rfl kt) k
theorem Go.isub (X : Stand p l e R s m args below meth c T locs cells slots) (hx : p.tables.exec = Jvm.exec) {pc : Nat} (pc' : Nat) {Ls : Array Slot} {x y : Int32} {rest : List Value} (hp : pc' = pc + 1) (hd : decode c.code pc = .ok (.isub, 1))  (k : Go p e below F0 (T.setTop (mkF m pc' Ls (.int (x - y) :: rest)))) : Go p e below F0 (T.setTop (mkF m pc Ls (.int y :: .int x :: rest))) := by
  subst hp
  exact Go.step (fun t kt => XS.isub X.here hx (g := mkF m pc Ls _) rfl hd rfl kt) k
theorem Go.iand (X : Stand p l e R s m args below meth c T locs cells slots) (hx : p.tables.exec = Jvm.exec) {pc : Nat} (pc' : Nat) {Ls : Array Slot} {x y : Int32} {rest : List Value} (hp : pc' = pc + 1) (hd : decode c.code pc = .ok (.iand, 1))  (k : Go p e below F0 (T.setTop (mkF m pc' Ls (.int (x &&& y) :: rest)))) : Go p e below F0 (T.setTop (mkF m pc Ls (.int y :: .int x :: rest))) := by
  subst hp
  exact Go.step (fun t kt => XS.iand X.here hx (g := mkF m pc Ls _) rfl hd rfl kt) k
theorem Go.iushr (X : Stand p l e R s m args below meth c T locs cells slots) (hx : p.tables.exec = Jvm.exec) {pc : Nat} (pc' : Nat) {Ls : Array Slot} {x y : Int32} {rest : List Value} (hp : pc' = pc + 1) (hd : decode c.code pc = .ok (.iushr, 1))  (k : Go p e below F0 (T.setTop (mkF m pc' Ls (.int ((x.toUInt32 >>> (y &&& 31).toUInt32).toInt32) :: rest)))) : Go p e below F0 (T.setTop (mkF m pc Ls (.int y :: .int x :: rest))) := by
  subst hp
  exact Go.step (fun t kt => XT.iushr X.here hx (g := mkF m pc Ls _) rfl hd rfl kt) k
theorem Go.i2b (X : Stand p l e R s m args below meth c T locs cells slots) (hx : p.tables.exec = Jvm.exec) {pc : Nat} (pc' : Nat) {Ls : Array Slot} {x : Int32} {rest : List Value} (hp : pc' = pc + 1) (hd : decode c.code pc = .ok (.i2b, 1))  (k : Go p e below F0 (T.setTop (mkF m pc' Ls (.int (x.toInt8.toInt32) :: rest)))) : Go p e below F0 (T.setTop (mkF m pc Ls (.int x :: rest))) := by
  subst hp
  exact Go.step (fun t kt => XT.i2b X.here hx (g := mkF m pc Ls _) rfl hd rfl kt) k
theorem Go.i2c (X : Stand p l e R s m args below meth c T locs cells slots) (hx : p.tables.exec = Jvm.exec) {pc : Nat} (pc' : Nat) {Ls : Array Slot} {x : Int32} {rest : List Value} (hp : pc' = pc + 1) (hd : decode c.code pc = .ok (.i2c, 1))  (k : Go p e below F0 (T.setTop (mkF m pc' Ls (.int (x.toUInt32.toUInt16.toUInt32.toInt32) :: rest)))) : Go p e below F0 (T.setTop (mkF m pc Ls (.int x :: rest))) := by
  subst hp
  exact Go.step (fun t kt => XT.i2c X.here hx (g := mkF m pc Ls _) rfl hd rfl kt) k
theorem Go.dup (X : Stand p l e R s m args below meth c T locs cells slots) (hx : p.tables.exec = Jvm.exec) {pc : Nat} (pc' : Nat) {Ls : Array Slot} {x : Value} {rest : List Value} (hp : pc' = pc + 1) (hd : decode c.code pc = .ok (.dup, 1)) (hc : x.category = 1) (k : Go p e below F0 (T.setTop (mkF m pc' Ls (x :: x :: rest)))) : Go p e below F0 (T.setTop (mkF m pc Ls (x :: rest))) := by
  subst hp
  exact Go.step (fun t kt => XS.dup X.here hx (g := mkF m pc Ls _) rfl hd rfl hc kt) k
theorem Go.istoreN (X : Stand p l e R s m args below meth c T locs cells slots) (hx : p.tables.exec = Jvm.exec) {pc : Nat} (pc' : Nat) {Ls : Array Slot} {k : Fin 4} {x : Int32} {rest : List Value} {Ls' : Array Slot} (hp : pc' = pc + 1) (hd : decode c.code pc = .ok (.istore_n k, 1)) (hl : storeLocals Ls k.val (.int x) = some Ls') (k : Go p e below F0 (T.setTop (mkF m pc' Ls' rest))) : Go p e below F0 (T.setTop (mkF m pc Ls (.int x :: rest))) := by
  subst hp
  exact Go.step (fun t kt => XS.istoreN X.here hx (g := mkF m pc Ls _) rfl hd rfl hl kt) k
theorem Go.istore (X : Stand p l e R s m args below meth c T locs cells slots) (hx : p.tables.exec = Jvm.exec) {pc : Nat} (pc' : Nat) {Ls : Array Slot} {k : Nat} {x : Int32} {rest : List Value} {Ls' : Array Slot} (hp : pc' = pc + 2) (hd : decode c.code pc = .ok (.istore k, 2)) (hl : storeLocals Ls k (.int x) = some Ls') (k : Go p e below F0 (T.setTop (mkF m pc' Ls' rest))) : Go p e below F0 (T.setTop (mkF m pc Ls (.int x :: rest))) := by
  subst hp
  exact Go.step (fun t kt => XS.istore X.here hx (g := mkF m pc Ls _) rfl hd rfl hl kt) k
theorem Go.astoreN (X : Stand p l e R s m args below meth c T locs cells slots) (hx : p.tables.exec = Jvm.exec) {pc : Nat} (pc' : Nat) {Ls : Array Slot} {k : Fin 4} {x : Value} {rest : List Value} {Ls' : Array Slot} (hp : pc' = pc + 1) (hd : decode c.code pc = .ok (.astore_n k, 1)) (hv : x.isRef = true) (hl : storeLocals Ls k.val x = some Ls') (k : Go p e below F0 (T.setTop (mkF m pc' Ls' rest))) : Go p e below F0 (T.setTop (mkF m pc Ls (x :: rest))) := by
  subst hp
  exact Go.step (fun t kt => XS.astoreN X.here hx (g := mkF m pc Ls _) rfl hd rfl hv hl kt) k
theorem Go.astore (X : Stand p l e R s m args below meth c T locs cells slots) (hx : p.tables.exec = Jvm.exec) {pc : Nat} (pc' : Nat) {Ls : Array Slot} {k : Nat} {x : Value} {rest : List Value} {Ls' : Array Slot} (hp : pc' = pc + 2) (hd : decode c.code pc = .ok (.astore k, 2)) (hv : x.isRef = true) (hl : storeLocals Ls k x = some Ls') (k : Go p e below F0 (T.setTop (mkF m pc' Ls' rest))) : Go p e below F0 (T.setTop (mkF m pc Ls (x :: rest))) := by
  subst hp
  exact Go.step (fun t kt => XS.astore X.here hx (g := mkF m pc Ls _) rfl hd rfl hv hl kt) k
theorem Go.iinc (X : Stand p l e R s m args below meth c T locs cells slots) (hx : p.tables.exec = Jvm.exec) {pc : Nat} (pc' : Nat) {Ls : Array Slot} {st : List Value} {k : Nat} {cst : Int} {x y : Int32} {Ls' : Array Slot} (hp : pc' = pc + 3) (hd : decode c.code pc = .ok (.iinc k cst, 3)) (hl : Ls[k]? = some (.val (.int x))) (hy : x + Int32.ofInt cst = y) (hl' : storeLocals Ls k (.int y) = some Ls') (k : Go p e below F0 (T.setTop (mkF m pc' Ls' st))) : Go p e below F0 (T.setTop (mkF m pc Ls st)) := by
  subst hp
  exact Go.step (fun t kt => XS.iinc X.here hx (g := mkF m pc Ls _) rfl hd hl (by rw [hy]; exact hl') kt) k
theorem Go.goto (X : Stand p l e R s m args below meth c T locs cells slots) (hx : p.tables.exec = Jvm.exec) {pc : Nat} (pc' : Nat) {Ls : Array Slot} {o : Int} {st : List Value} (hd : decode c.code pc = .ok (.goto o, 3))  (ho : 0 ≤ (pc : Int) + o) (hp : ((pc : Int) + o).toNat = pc') (k : Go p e below F0 (T.setTop (mkF m pc' Ls st))) : Go p e below F0 (T.setTop (mkF m pc Ls st)) :=
  Go.step (fun t kt => XS.goto X.here hx (g := mkF m pc Ls _) rfl rfl hd ho hp kt) k
theorem Go.ifYes (X : Stand p l e R s m args below meth c T locs cells slots) (hx : p.tables.exec = Jvm.exec) {pc : Nat} (pc' : Nat) {Ls : Array Slot} {o : Int} {cd : ClassFile.Cond} {x : Int32} {rest : List Value} (hd : decode c.code pc = .ok (.ifCond cd o, 3)) (hc : if_icmp.holds cd x 0 = true) (ho : 0 ≤ (pc : Int) + o) (hp : ((pc : Int) + o).toNat = pc') (k : Go p e below F0 (T.setTop (mkF m pc' Ls rest))) : Go p e below F0 (T.setTop (mkF m pc Ls (.int x :: rest))) :=
  Go.step (fun t kt => XS.ifYes X.here hx (g := mkF m pc Ls _) rfl rfl hd rfl ((if0 _ _).trans hc) ho hp kt) k
theorem Go.icmpYes (X : Stand p l e R s m args below meth c T locs cells slots) (hx : p.tables.exec = Jvm.exec) {pc : Nat} (pc' : Nat) {Ls : Array Slot} {o : Int} {cd : ClassFile.Cond} {x y : Int32} {rest : List Value} (hd : decode c.code pc = .ok (.if_icmp cd o, 3)) (hc : if_icmp.holds cd x y = true) (ho : 0 ≤ (pc : Int) + o) (hp : ((pc : Int) + o).toNat = pc') (k : Go p e below F0 (T.setTop (mkF m pc' Ls rest))) : Go p e below F0 (T.setTop (mkF m pc Ls (.int y :: .int x :: rest))) :=
  Go.step (fun t kt => XS.icmpYes X.here hx (g := mkF m pc Ls _) rfl rfl hd rfl hc ho hp kt) k
theorem Go.ifnullYes (X : Stand p l e R s m args below meth c T locs cells slots) (hx : p.tables.exec = Jvm.exec) {pc : Nat} (pc' : Nat) {Ls : Array Slot} {o : Int} {rest : List Value} (hd : decode c.code pc = .ok (.ifnull o, 3))  (ho : 0 ≤ (pc : Int) + o) (hp : ((pc : Int) + o).toNat = pc') (k : Go p e below F0 (T.setTop (mkF m pc' Ls rest))) : Go p e below F0 (T.setTop (mkF m pc Ls (.null :: rest))) :=
  Go.step (fun t kt => XS.ifnullYes X.here hx (g := mkF m pc Ls _) rfl rfl hd rfl ho hp kt) k
theorem Go.ifNo (X : Stand p l e R s m args below meth c T locs cells slots) (hx : p.tables.exec = Jvm.exec) {pc : Nat} (pc' : Nat) {Ls : Array Slot} {o : Int} {cd : ClassFile.Cond} {x : Int32} {rest : List Value} (hp : pc' = pc + 3) (hd : decode c.code pc = .ok (.ifCond cd o, 3)) (hc : if_icmp.holds cd x 0 = false) (k : Go p e below F0 (T.setTop (mkF m pc' Ls rest))) : Go p e below F0 (T.setTop (mkF m pc Ls (.int x :: rest))) := by
  subst hp
  exact Go.step (fun t kt => XS.ifNo X.here hx (g := mkF m pc Ls _) rfl hd rfl ((if0 _ _).trans hc) kt) k
theorem Go.icmpNo (X : Stand p l e R s m args below meth c T locs cells slots) (hx : p.tables.exec = Jvm.exec) {pc : Nat} (pc' : Nat) {Ls : Array Slot} {o : Int} {cd : ClassFile.Cond} {x y : Int32} {rest : List Value} (hp : pc' = pc + 3) (hd : decode c.code pc = .ok (.if_icmp cd o, 3)) (hc : if_icmp.holds cd x y = false) (k : Go p e below F0 (T.setTop (mkF m pc' Ls rest))) : Go p e below F0 (T.setTop (mkF m pc Ls (.int y :: .int x :: rest))) := by
  subst hp
  exact Go.step (fun t kt => XS.icmpNo X.here hx (g := mkF m pc Ls _) rfl hd rfl hc kt) k
theorem Go.ifnullNo (X : Stand p l e R s m args below meth c T locs cells slots) (hx : p.tables.exec = Jvm.exec) {pc : Nat} (pc' : Nat) {Ls : Array Slot} {o : Int} {b : Addr} {rest : List Value} (hp : pc' = pc + 3) (hd : decode c.code pc = .ok (.ifnull o, 3))  (k : Go p e below F0 (T.setTop (mkF m pc' Ls rest))) : Go p e below F0 (T.setTop (mkF m pc Ls (.ref b :: rest))) := by
  subst hp
  exact Go.step (fun t kt => XS.ifnullNo X.here hx (g := mkF m pc Ls _) rfl hd rfl kt) k
theorem Go.acmp (X : Stand p l e R s m args below meth c T locs cells slots) (hx : p.tables.exec = Jvm.exec) {pc : Nat} (pc' : Nat) {Ls : Array Slot} {cd : ACond} {x y : Value} {rest : List Value} {o : Int} {same : Bool} (hd : decode c.code pc = .ok (.if_acmp cd o, 3)) (h1 : x.isRef = true) (h2 : y.isRef = true) (hq : decide (x = y) = same) (ho : 0 ≤ (pc : Int) + o) (hp : pc' = if acV cd same = true then ((pc : Int) + o).toNat else pc + 3) (k : Go p e below F0 (T.setTop (mkF m pc' Ls rest))) : Go p e below F0 (T.setTop (mkF m pc Ls (y :: x :: rest))) :=
  Go.step (fun t kt => Jvm.RoadKit.acmp (g := mkF m pc Ls _) X hx rfl h1 h2 rfl hd rfl hq ho hp kt) k
theorem Go.getF (X : Stand p l e R s m args below meth c T locs cells slots) (hx : p.tables.exec = Jvm.exec) (hZ : Z.Warmed39 s.vm) {own : String} {index : Nat} (hown : s.vm.findClass own = some m.cls) {R0 O n d host : String} (wl : (Jvm.Cond.fieldLink own index R0 n d).before a0 Z = true ∨ (Jvm.Cond.fieldLinkNest own index R0 n d host).before a0 Z = true) (via : Via Z R0 O n d) (eT : T.heap = h) {a : Addr} {v : Value} (F : Fld Z h a O n d v) {pc : Nat} (pc' : Nat) {Ls : Array Slot} {rest : List Value} (hp : pc' = pc + 3) (hd : decode c.code pc = .ok (.getfield index, 3))
    (k : ∀ T', T'.heap = h → Stand p l e R s m args below meth c T' locs cells slots → Go p e below F0 (T'.setTop (mkF m pc' Ls (v :: rest)))) : Go p e below F0 (T.setTop (mkF m pc Ls (.ref a :: rest))) := by
  subst hp
  obtain ⟨T', X', e', st⟩ := Jvm.RoadKit.getF X hx hZ hown wl via eT F (g := mkF m pc Ls (.ref a :: rest)) rfl rfl hd
  exact Go.step st (k T' e' X')
theorem Go.getS (X : Stand p l e R s m args below meth c T locs cells slots) (hx : p.tables.exec = Jvm.exec) (hZ : Z.Warmed39 s.vm) {own : String} {index : Nat} (hown : s.vm.findClass own = some m.cls) {R0 O n d host : String} (wl : (Jvm.Cond.fieldLink own index R0 n d).before a0 Z = true ∨ (Jvm.Cond.fieldLinkNest own index R0 n d host).before a0 Z = true) (via : Via Z R0 O n d) (eT : T.heap = h) {v : Value} (F : Sta Z h O n d v) {pc : Nat} (pc' : Nat) {Ls : Array Slot} {rest : List Value} (hp : pc' = pc + 3) (hd : decode c.code pc = .ok (.getstatic index, 3))
    (k : ∀ T', T'.heap = h → Stand p l e R s m args below meth c T' locs cells slots → Go p e below F0 (T'.setTop (mkF m pc' Ls (v :: rest)))) : Go p e below F0 (T.setTop (mkF m pc Ls rest)) := by
  subst hp
  obtain ⟨T', X', e', st⟩ := Jvm.RoadKit.getS2 X hx hZ hown wl via eT F (g := mkF m pc Ls rest) rfl hd
  exact Go.step st (k T' e' X')
theorem Go.putF (X : Stand p l e R s m args below meth c T locs cells slots) (hx : p.tables.exec = Jvm.exec) (hZ : Z.Warmed39 s.vm) {own : String} {index : Nat} (hown : s.vm.findClass own = some m.cls) {R0 O n d host C : String} {kk : Nat} {ty : FieldType} (wl : (Jvm.Cond.fieldLink own index R0 n d).before a0 Z = true ∨ (Jvm.Cond.fieldLinkNest own index R0 n d host).before a0 Z = true) (via : Via Z R0 O n d) (eT : T.heap = h) {a : Addr} {v old : Value} (F : Fld Z h a O n d old) (E : Exa Z h a C) (L : (Jvm.Cond.lays C O n d).before a0 Z = true ∨ ((Jvm.Cond.laysFinal C O n d).before a0 Z = true ∧ own = O ∧ meth.name = "<init>")) (wi : (Jvm.Cond.instantiable C kk).before a0 Z = true) (hty : parseFieldDescriptor d = some ty) (hn : narrow ty v = v) (hf : fits ty v = true) {pc : Nat} (pc' : Nat) {Ls : Array Slot} {rest : List Value} (hp : pc' = pc + 3) (hd : decode c.code pc = .ok (.putfield index, 3))
    (k : ∀ T' h', T'.heap = h' → Wr h h' a (slotOf Z O n d) v → Fld Z h' a O n d v → Stand p l e R s m args below meth c T' (locs ++ [⟨a, slotOf Z O n d⟩]) cells slots → Go p e below F0 (T'.setTop (mkF m pc' Ls rest))) : Go p e below F0 (T.setTop (mkF m pc Ls (v :: .ref a :: rest))) := by
  subst hp
  obtain ⟨T', h', X', e', W, st⟩ := Jvm.RoadKit.putF X hx hZ hown wl via eT F E L wi hty hn hf (g := mkF m pc Ls (v :: .ref a :: rest)) rfl rfl hd
  exact Go.step st (k T' h' e' W (F.same W) X')
theorem Go.putFN (X : Stand p l e R s m args below meth c T locs cells slots) (hx : p.tables.exec = Jvm.exec) (hZ : Z.Warmed39 s.vm) {own : String} {index : Nat} (hown : s.vm.findClass own = some m.cls) {R0 O n d C : String} {kk : Nat} {ty : FieldType} (wl : (Jvm.Cond.fieldLink own index R0 n d).before a0 Z = true) (via : Via Z R0 O n d) (eT : T.heap = h) {a : Addr} {v v' old : Value} (F : Fld Z h a O n d old) (E : Exa Z h a C) (L : (Jvm.Cond.lays C O n d).before a0 Z = true ∨ ((Jvm.Cond.laysFinal C O n d).before a0 Z = true ∧ own = O ∧ meth.name = "<init>")) (wi : (Jvm.Cond.instantiable C kk).before a0 Z = true) (hty : parseFieldDescriptor d = some ty) (hn : narrow ty v = v') (hf : fits ty v' = true) {pc : Nat} (pc' : Nat) {Ls : Array Slot} {rest : List Value} (hp : pc' = pc + 3) (hd : decode c.code pc = .ok (.putfield index, 3))
    (k : ∀ T' h', T'.heap = h' → Wr h h' a (slotOf Z O n d) v' → Fld Z h' a O n d v' → Stand p l e R s m args below meth c T' (locs ++ [⟨a, slotOf Z O n d⟩]) cells slots → Go p e below F0 (T'.setTop (mkF m pc' Ls rest))) : Go p e below F0 (T.setTop (mkF m pc Ls (v :: .ref a :: rest))) := by
  subst hp
  obtain ⟨T', h', X', e', W, st⟩ := Jvm.RoadKit.putFN X hx hZ hown wl via eT F E L wi hty hn hf (g := mkF m pc Ls (v :: .ref a :: rest)) rfl rfl hd
  exact Go.step st (k T' h' e' W (F.same W) X')
theorem Go.new (X : Stand p l e R s m args below meth c T locs cells slots) (hx : p.tables.exec = Jvm.exec) (hZ : Z.Warmed39 s.vm) {own : String} {index : Nat} (hown : s.vm.findClass own = some m.cls) {C : String} {n : Nat} (wl : (Jvm.Cond.classLink own index C).before a0 Z = true) (wi : (Jvm.Cond.instantiable C n).before a0 Z = true) (wz : (Jvm.Cond.initialized C).before a0 Z = true) (eT : T.heap = h) (hc : cells + 1 ≤ R.cells) (hl : slots + n ≤ R.slots) {pc : Nat} (pc' : Nat) {Ls : Array Slot} {rest : List Value} (hp : pc' = pc + 3) (hd : decode c.code pc = .ok (.new index, 3))
    (k : ∀ T' h' a, T'.heap = h' → Ext h h' → a = h.size → Exa Z h' a C → (∀ {O nm d : String} {ty : FieldType}, Laid Z a0 C O nm d → parseFieldDescriptor d = some ty → Fld Z h' a O nm d (defaultValue ty)) → Stand p l e R s m args below meth c T' locs (cells + 1) (slots + n) → Go p e below F0 (T'.setTop (mkF m pc' Ls (.ref a :: rest)))) : Go p e below F0 (T.setTop (mkF m pc Ls rest)) := by
  subst hp
  obtain ⟨T', h', X', e', E, A, D, -, st⟩ := newO X hx hZ hown wl wi wz eT (g := mkF m pc Ls rest) rfl hd hc hl
  exact Go.step st (k T' h' h.size e' E rfl A D X')
theorem Go.newarray (X : Stand p l e R s m args below meth c T locs cells slots) (hx : p.tables.exec = Jvm.exec) (hZ : Z.Warmed39 s.vm) {aty : ArrayType} {ty : FieldType} (hty : newarray.typeOf aty = ty) (wa : (Jvm.Cond.arrayClass ty).before a0 Z = true) (eT : T.heap = h) {n : Int32} (hn : ¬ n < 0) {cap : Nat} (hcap : n.toNatClampNeg ≤ cap) (hb : cap * 8 ≤ 536870912) (hc : cells + 1 ≤ R.cells) (hl : slots + cap ≤ R.slots) {ad : String} (had : "[" ++ ty.toString = ad) (N : Nat) {pc : Nat} (pc' : Nat) {Ls : Array Slot} {rest : List Value} (hp : pc' = pc + 2) (hd : decode c.code pc = .ok (.newarray aty, 2))
    (k : ∀ T' h' a kk, T'.heap = h' → Ext h h' → a = h.size → Arv Z h' a kk ty n (List.replicate N (defaultValue ty)) (defaultValue ty) → Exa Z h' a ad → Stand p l e R s m args below meth c T' locs (cells + 1) (slots + cap) → Go p e below F0 (T'.setTop (mkF m pc' Ls (.ref a :: rest)))) : Go p e below F0 (T.setTop (mkF m pc Ls (.int n :: rest))) := by
  subst hp hty
  obtain ⟨T', h', cA, X', e', E, A, Ex, st⟩ := newPE X hx hZ wa eT (g := mkF m pc Ls (.int n :: rest)) rfl hd rfl hn hcap hb hc hl had
  exact Go.step st (k T' h' h.size cA e' E rfl ((Arv.new A hn).pad (pad_rep [] _ N)) Ex X')
theorem Go.castore (X : Stand p l e R s m args below meth c T locs cells slots) (hx : p.tables.exec = Jvm.exec) (hZ : Z.Warmed39 s.vm) (eT : T.heap = h) {a : Addr} {kk : ClassId} {z : Int32} {vs : List Value} {dv : Value} (V : Arv Z h a kk .char z vs dv) {j : Int32} {x : Int32} (x' : Int32) (hn : nar .char x = x') (hj : ¬ j < 0 ∧ j < z) (i : Nat) (hi : j.toNatClampNeg = i) (hl : i < vs.length) {pc : Nat} (pc' : Nat) {Ls : Array Slot} {rest : List Value} (hp : pc' = pc + 1) (hd : decode c.code pc = .ok (.castore, 1))
    (k : ∀ T' h', T'.heap = h' → Wr h h' a j.toNatClampNeg (.int x') → Arv Z h' a kk .char z (vs.set i (.int x')) dv → Stand p l e R s m args below meth c T' (locs ++ [⟨a, j.toNatClampNeg⟩]) cells slots → Go p e below F0 (T'.setTop (mkF m pc' Ls rest))) : Go p e below F0 (T.setTop (mkF m pc Ls (.int x :: .int j :: .ref a :: rest))) := by
  subst hp hn
  obtain ⟨cl, A, q1, S, q3, H, G⟩ := V
  obtain ⟨T', h', X', e', W, st⟩ := stC X hx hZ eT A (j := j) (x := x) (inb_of S hj) (g := mkF m pc Ls (.int x :: .int j :: .ref a :: rest)) rfl rfl hd
  exact Go.step st (k T' h' e' W (Arv.set A q1 S q3 H G (fits_nar_char x) W i hi hl) X')
theorem Go.bastore (X : Stand p l e R s m args below meth c T locs cells slots) (hx : p.tables.exec = Jvm.exec) (hZ : Z.Warmed39 s.vm) (eT : T.heap = h) {a : Addr} {kk : ClassId} {z : Int32} {vs : List Value} {dv : Value} (V : Arv Z h a kk .byte z vs dv) {j : Int32} {x : Int32} (x' : Int32) (hn : nar .byte x = x') (hj : ¬ j < 0 ∧ j < z) (i : Nat) (hi : j.toNatClampNeg = i) (hl : i < vs.length) {pc : Nat} (pc' : Nat) {Ls : Array Slot} {rest : List Value} (hp : pc' = pc + 1) (hd : decode c.code pc = .ok (.bastore, 1))
    (k : ∀ T' h', T'.heap = h' → Wr h h' a j.toNatClampNeg (.int x') → Arv Z h' a kk .byte z (vs.set i (.int x')) dv → Stand p l e R s m args below meth c T' (locs ++ [⟨a, j.toNatClampNeg⟩]) cells slots → Go p e below F0 (T'.setTop (mkF m pc' Ls rest))) : Go p e below F0 (T.setTop (mkF m pc Ls (.int x :: .int j :: .ref a :: rest))) := by
  subst hp hn
  obtain ⟨cl, A, q1, S, q3, H, G⟩ := V
  obtain ⟨T', h', X', e', W, st⟩ := stB X hx hZ eT A (j := j) (x := x) (inb_of S hj) (g := mkF m pc Ls (.int x :: .int j :: .ref a :: rest)) rfl rfl hd
  exact Go.step st (k T' h' e' W (Arv.set A q1 S q3 H G (fits_nar_byte x) W i hi hl) X')
theorem Go.caload (X : Stand p l e R s m args below meth c T locs cells slots) (hx : p.tables.exec = Jvm.exec) (hZ : Z.Warmed39 s.vm) (eT : T.heap = h) {a : Addr} {kk : ClassId} {z : Int32} {vs : List Value} {dv : Value} (V : Arv Z h a kk .char z vs dv) {j : Int32} {v : Value} (hj : ¬ j < 0 ∧ j < z) (hv : vs.getD j.toNatClampNeg dv = v) {pc : Nat} (pc' : Nat) {Ls : Array Slot} {rest : List Value} (hp : pc' = pc + 1) (hd : decode c.code pc = .ok (.caload, 1)) (k : Go p e below F0 (T.setTop (mkF m pc' Ls (v :: rest)))) : Go p e below F0 (T.setTop (mkF m pc Ls (.int j :: .ref a :: rest))) := by
  subst hp
  obtain ⟨cl, A, q1, S, q3, H, G⟩ := V
  exact Go.step (fun t kt => X.caload hx (j := j) (v := v) (by rw [eT]; exact A.1) (State.isArrayOf_alike hZ.alike A.2.1) A.2.2 (inb_of S hj) (H.at (inb_of S hj) hv) (g := mkF m pc Ls (.int j :: .ref a :: rest)) rfl rfl hd t kt) k
theorem Go.baload (X : Stand p l e R s m args below meth c T locs cells slots) (hx : p.tables.exec = Jvm.exec) (hZ : Z.Warmed39 s.vm) (eT : T.heap = h) {a : Addr} {kk : ClassId} {z : Int32} {vs : List Value} {dv : Value} (V : Arv Z h a kk .byte z vs dv) {j : Int32} {v : Value} (hj : ¬ j < 0 ∧ j < z) (hv : vs.getD j.toNatClampNeg dv = v) {pc : Nat} (pc' : Nat) {Ls : Array Slot} {rest : List Value} (hp : pc' = pc + 1) (hd : decode c.code pc = .ok (.baload, 1)) (k : Go p e below F0 (T.setTop (mkF m pc' Ls (v :: rest)))) : Go p e below F0 (T.setTop (mkF m pc Ls (.int j :: .ref a :: rest))) := by
  subst hp
  obtain ⟨cl, A, q1, S, q3, H, G⟩ := V
  exact Go.step (fun t kt => X.baloadBytes hx (j := j) (v := v) (by rw [eT]; exact A.1) (State.isArrayOf_alike hZ.alike A.2.1) A.2.2 (inb_of S hj) (H.at (inb_of S hj) hv) (g := mkF m pc Ls (.int j :: .ref a :: rest)) rfl rfl hd t kt) k
theorem Go.aaload (X : Stand p l e R s m args below meth c T locs cells slots) (hx : p.tables.exec = Jvm.exec) (hZ : Z.Warmed39 s.vm) (eT : T.heap = h) {a : Addr} {kk : ClassId} {z : Int32} {vs : List Value} {dv : Value} {ty : FieldType} (hty : ty.isReference = true) (V : Arv Z h a kk ty z vs dv) {j : Int32} {v : Value} (hj : ¬ j < 0 ∧ j < z) (hv : vs.getD j.toNatClampNeg dv = v) {pc : Nat} (pc' : Nat) {Ls : Array Slot} {rest : List Value} (hp : pc' = pc + 1) (hd : decode c.code pc = .ok (.aaload, 1)) (k : Go p e below F0 (T.setTop (mkF m pc' Ls (v :: rest)))) : Go p e below F0 (T.setTop (mkF m pc Ls (.int j :: .ref a :: rest))) := by
  subst hp
  obtain ⟨cl, A, q1, S, q3, H, G⟩ := V
  exact Go.step (fun t kt => X.aaload hx (j := j) (v := v) (by rw [eT]; exact A.1) (State.isArrayOf_alike hZ.alike A.2.1) hty A.2.2 (inb_of S hj) (H.at (inb_of S hj) hv) (g := mkF m pc Ls (.int j :: .ref a :: rest)) rfl rfl hd t kt) k
theorem Go.arraylength (X : Stand p l e R s m args below meth c T locs cells slots) (hx : p.tables.exec = Jvm.exec) (hZ : Z.Warmed39 s.vm) (eT : T.heap = h) {a : Addr} {kk : ClassId} {ty : FieldType} {z : Int32} {vs : List Value} {dv : Value} (V : Arv Z h a kk ty z vs dv) {pc : Nat} (pc' : Nat) {Ls : Array Slot} {rest : List Value} (hp : pc' = pc + 1) (hd : decode c.code pc = .ok (.arraylength, 1)) (k : Go p e below F0 (T.setTop (mkF m pc' Ls (.int z :: rest)))) : Go p e below F0 (T.setTop (mkF m pc Ls (.ref a :: rest))) := by
  subst hp
  obtain ⟨cl, A, q1, S, q3, H, G⟩ := V
  refine Go.step (fun t kt => X.arraylength hx (by rw [eT]; exact A.1) (State.isArrayOf_alike hZ.alike A.2.1) (g := mkF m pc Ls (.ref a :: rest)) rfl rfl hd t kt) ?_
  rw [len_of S q3]
  exact k
theorem Go.castY (X : Stand p l e R s m args below meth c T locs cells slots) (hx : p.tables.exec = Jvm.exec) (hZ : Z.Warmed39 s.vm) {own : String} {index : Nat} (hown : s.vm.findClass own = some m.cls) {K : String} (wl : (Jvm.Cond.classLink own index K).before a0 Z = true) (eT : T.heap = h) {a : Addr} (F : Ins Z h a K true) {pc : Nat} (pc' : Nat) {Ls : Array Slot} {rest : List Value} (hp : pc' = pc + 3) (hd : decode c.code pc = .ok (.checkcast index, 3))
    (k : ∀ T', T'.heap = h → Stand p l e R s m args below meth c T' locs cells slots → Go p e below F0 (T'.setTop (mkF m pc' Ls (.ref a :: rest)))) : Go p e below F0 (T.setTop (mkF m pc Ls (.ref a :: rest))) := by
  subst hp
  obtain ⟨T', X', e', st⟩ := Jvm.RoadKit.castY X hx hZ hown wl eT F (g := mkF m pc Ls (.ref a :: rest)) rfl rfl hd
  exact Go.step st (k T' e' X')
theorem Go.instY (X : Stand p l e R s m args below meth c T locs cells slots) (hx : p.tables.exec = Jvm.exec) (hZ : Z.Warmed39 s.vm) {own : String} {index : Nat} (hown : s.vm.findClass own = some m.cls) {K : String} (wl : (Jvm.Cond.classLink own index K).before a0 Z = true) (eT : T.heap = h) {a : Addr} (F : Ins Z h a K true) {pc : Nat} (pc' : Nat) {Ls : Array Slot} {rest : List Value} (hp : pc' = pc + 3) (hd : decode c.code pc = .ok (.instanceof index, 3))
    (k : ∀ T', T'.heap = h → Stand p l e R s m args below meth c T' locs cells slots → Go p e below F0 (T'.setTop (mkF m pc' Ls (.int 1 :: rest)))) : Go p e below F0 (T.setTop (mkF m pc Ls (.ref a :: rest))) := by
  subst hp
  obtain ⟨T', X', e', st⟩ := Jvm.RoadKit.instY X hx hZ hown wl eT F (g := mkF m pc Ls (.ref a :: rest)) rfl rfl hd
  exact Go.step st (k T' e' X')
theorem Go.initO (X : Stand p l e R s m args below meth c T locs cells slots) (hx : p.tables.exec = Jvm.exec) (hZ : Z.Warmed39 s.vm) {own : String} {index : Nat} (hown : s.vm.findClass own = some m.cls) (w1 : (Jvm.Cond.methodLink own index Lib.objectInit).before a0 Z = true) (w2 : (Jvm.Cond.instanceMethod Lib.objectInit).before a0 Z = true) (w3 : (Jvm.Cond.code Lib.objectInit ⟨#[0xb1]⟩ 1 none).before a0 Z = true) (eT : T.heap = h) {a : Addr} (hf : 1 ≤ R.frames) {W : Nat} {pc : Nat} (pc' : Nat) {Ls : Array Slot} {rest : List Value} (hsz : Ls.size = c.maxLocals) (hW : (rest.map fun v => v.category).sum ≤ W) (hl : W + 12 ≤ R.locals) (hp : pc' = pc + 3) (hd : decode c.code pc = .ok (.invokespecial index, 3))
    (k : ∀ T', T'.heap = h → Stand p l e R s m args below meth c T' locs cells slots → Go p e below F0 (T'.setTop (mkF m pc' Ls rest))) : Go p e below F0 (T.setTop (mkF m pc Ls (.ref a :: rest))) := by
  subst hp
  obtain ⟨T', X', e', st⟩ := Jvm.RoadKit.initO X hx hZ hown w1 w2 w3 eT (g := mkF m pc Ls (.ref a :: rest)) rfl hsz rfl hd hf (W := W) (by show 2 * 0 + _ ≤ _; rw [Nat.mul_zero, Nat.zero_add]; exact hW) hl
  exact Go.step st (k T' e' X')
theorem Go.callSB (X : Stand p l e R s m args below meth c T locs cells slots) (hx : p.tables.exec = Jvm.exec) (hZ : Z.Warmed39 s.vm) {own : String} {index : Nat} (hown : s.vm.findClass own = some m.cls) {y : MethodName} {bytes : ByteArray} {maxL : Nat} {ret : Option FieldType} (w1 : (Jvm.Cond.methodLink own index y).before a0 Z = true) (w2 : (Jvm.Cond.static y).before a0 Z = true) (w3 : (Jvm.Cond.initialized y.cls).before a0 Z = true) (w4 : (Jvm.Cond.code y bytes maxL ret).before a0 Z = true) (hy : y.cls ≠ "java/lang/invoke/MethodHandle" ∧ y.cls ≠ "java/lang/invoke/VarHandle") {W : Nat} {Pre : Pt → Array Value → Prop} {Post : Pt → Array Value → Option Value → Pt → Prop} (hK : Back l R p e below s args y 3 W Pre Post) (eT : T.heap = h)  {pc : Nat} (pc' : Nat) {Ls : Array Slot} {stk argsL rest : List Value} (hp : pc' = pc + 3) (hsz : Ls.size = c.maxLocals) (hlen : ∀ sig, parseMethodDescriptor y.desc = some sig → argsL.length = sig.parameters.length) (hst : stk = argsL.reverse ++ rest) (hW : (rest.map fun v => v.category).sum ≤ W) (hd : decode c.code pc = .ok (.invokestatic index, 3)) (hpre : ∀ vm₁, s.WarmedH vm₁ → Pre ⟨T.setVm vm₁, locs, cells, slots⟩ argsL.toArray)
    (k : ∀ (v : Option Value) (vm₁ : Vm) (T' : State) (locs' : List Loc) (cells' slots' : Nat), Stand p l e R s m args below meth c T' locs' cells' slots' → Post ⟨T.setVm vm₁, locs, cells, slots⟩ argsL.toArray v ⟨T', locs', cells', slots'⟩ → Go p e below F0 (T'.setTop (mkF m pc' Ls (v.toList ++ rest)))) : Go p e below F0 (T.setTop (mkF m pc Ls stk)) := by
  subst hp
  obtain ⟨v, vm₁, ⟨T', L', c', n'⟩, -, X', hP, st⟩ := Jvm.LawKit.callS X hx hown (mvT hZ w1) (mvT hZ w2) (mvT hZ w3) (mvT hZ w4) hy hK (g := mkF m pc Ls stk) rfl hsz hlen hst (by show 2 * 0 + _ ≤ _; rw [Nat.mul_zero, Nat.zero_add]; exact hW) hd hpre
  exact Go.step st (k v vm₁ T' L' c' n' X' hP)
theorem Go.callS (X : Stand p l e R s m args below meth c T locs cells slots) (hx : p.tables.exec = Jvm.exec) (hZ : Z.Warmed39 s.vm) {own : String} {index : Nat} (hown : s.vm.findClass own = some m.cls) {y : MethodName} {bytes : ByteArray} {maxL : Nat} {ret : Option FieldType} (w1 : (Jvm.Cond.methodLink own index y).before a0 Z = true) (w2 : (Jvm.Cond.static y).before a0 Z = true) (w3 : (Jvm.Cond.initialized y.cls).before a0 Z = true) (w4 : (Jvm.Cond.code y bytes maxL ret).before a0 Z = true) (hy : y.cls ≠ "java/lang/invoke/MethodHandle" ∧ y.cls ≠ "java/lang/invoke/VarHandle") {rm : Room} {Qc : Option Value → Heap → List Loc → Prop}  (wc : (Jvm.Cond.code y bytes maxL ret).before a0 Z = true) (wz : (Jvm.Cond.initialized y.cls).before a0 Z = true) {as : Array Value} (hC : Ctr l Z y bytes maxL ret rm as h Qc) (eT : T.heap = h)  {pc : Nat} (pc' : Nat) {Ls : Array Slot} {stk argsL rest : List Value} (hp : pc' = pc + 3) (hsz : Ls.size = c.maxLocals) (hlen : ∀ sig, parseMethodDescriptor y.desc = some sig → argsL.length = sig.parameters.length) (hst : stk = argsL.reverse ++ rest) (has : argsL.toArray = as) {W : Nat} (hW : (rest.map fun v => v.category).sum ≤ W) (hf : rm.frames + 1 ≤ R.frames) (hl : W + (maxL + 11) + rm.locals ≤ R.locals) (hc : cells + rm.cells ≤ R.cells) (hs : slots + rm.slots ≤ R.slots) (hd : decode c.code pc = .ok (.invokestatic index, 3))
    (k : ∀ (v : Option Value) (T' : State) (L : List Loc), Qc v T'.heap L → Stand p l e R s m args below meth c T' (locs ++ L) (cells + rm.cells) (slots + rm.slots) → Go p e below F0 (T'.setTop (mkF m pc' Ls (v.toList ++ rest)))) : Go p e below F0 (T.setTop (mkF m pc Ls stk)) :=
  Go.callSB X hx hZ hown w1 w2 w3 w4 hy (backOf (W := W) (hC []) hZ wc wz hf hl) eT  pc' hp hsz hlen hst hW hd (fun _ _ => ⟨has, eT, hc, hs⟩) (fun v vm₁ T' locs' cells' slots' X' ⟨L, hq, h1, h2, h3⟩ => by
    try dsimp only at h1 h2 h3
    subst h1 h2 h3
    exact k v T' L hq X')
theorem Go.callVB (X : Stand p l e R s m args below meth c T locs cells slots) (hx : p.tables.exec = Jvm.exec) (hZ : Z.Warmed39 s.vm) {own : String} {index : Nat} (hown : s.vm.findClass own = some m.cls) {x y : MethodName} {C : String} (w1 : (Jvm.Cond.methodLink own index x).before a0 Z = true) (w2 : (Jvm.Cond.declares x).before a0 Z = true) (nf : NotFace s x) (w3 : (Jvm.Cond.selects C x y).before a0 Z = true) (w4 : (Jvm.Cond.instanceMethod y).before a0 Z = true) (hy : x.cls ≠ "java/lang/invoke/MethodHandle" ∧ x.cls ≠ "java/lang/invoke/VarHandle") {W : Nat} {Pre : Pt → Array Value → Prop} {Post : Pt → Array Value → Option Value → Pt → Prop} (hK : Back l R p e below s args y 3 W Pre Post) (eT : T.heap = h) {a : Addr} (F : Exa Z h a C) {pc : Nat} (pc' : Nat) {Ls : Array Slot} {stk argsL rest : List Value} (hp : pc' = pc + 3) (hsz : Ls.size = c.maxLocals) (hlen : ∀ sig, parseMethodDescriptor x.desc = some sig → argsL.length = sig.parameters.length) (hst : stk = argsL.reverse ++ .ref a :: rest) (hW : (rest.map fun v => v.category).sum ≤ W) (hd : decode c.code pc = .ok (.invokevirtual index, 3)) (hpre : ∀ vm₁, s.WarmedH vm₁ → Pre ⟨T.setVm vm₁, locs, cells, slots⟩ (.ref a :: argsL).toArray)
    (k : ∀ (v : Option Value) (vm₁ : Vm) (T' : State) (locs' : List Loc) (cells' slots' : Nat), Stand p l e R s m args below meth c T' locs' cells' slots' → Post ⟨T.setVm vm₁, locs, cells, slots⟩ (.ref a :: argsL).toArray v ⟨T', locs', cells', slots'⟩ → Go p e below F0 (T'.setTop (mkF m pc' Ls (v.toList ++ rest)))) : Go p e below F0 (T.setTop (mkF m pc Ls stk)) := by
  subst hp
  obtain ⟨cB, kB, q1, q2, q3⟩ := isOf hZ eT F
  obtain ⟨v, vm₁, ⟨T', L', c', n'⟩, -, X', hP, st⟩ := X.virtualBack hx (y := x) (z := y) hown (mvT hZ w1) (mvT hZ w2) nf (mvT hZ w3) (mvT hZ w4) hy hK q1 q3 (g := mkF m pc Ls stk) rfl hsz (Steps.refl _) hlen hst (by show 2 * 0 + _ ≤ _; rw [Nat.mul_zero, Nat.zero_add]; exact hW) hd hpre
  exact Go.step (fun t kt => st.trans kt) (k v vm₁ T' L' c' n' X' hP)
theorem Go.callV (X : Stand p l e R s m args below meth c T locs cells slots) (hx : p.tables.exec = Jvm.exec) (hZ : Z.Warmed39 s.vm) {own : String} {index : Nat} (hown : s.vm.findClass own = some m.cls) {x y : MethodName} {C : String} (w1 : (Jvm.Cond.methodLink own index x).before a0 Z = true) (w2 : (Jvm.Cond.declares x).before a0 Z = true) (nf : NotFace s x) (w3 : (Jvm.Cond.selects C x y).before a0 Z = true) (w4 : (Jvm.Cond.instanceMethod y).before a0 Z = true) (hy : x.cls ≠ "java/lang/invoke/MethodHandle" ∧ x.cls ≠ "java/lang/invoke/VarHandle") {bytes : ByteArray} {maxL : Nat} {ret : Option FieldType} {rm : Room} {Qc : Option Value → Heap → List Loc → Prop}  (wc : (Jvm.Cond.code y bytes maxL ret).before a0 Z = true) (wz : (Jvm.Cond.initialized y.cls).before a0 Z = true) {as : Array Value} (hC : Ctr l Z y bytes maxL ret rm as h Qc) (eT : T.heap = h) {a : Addr} (F : Exa Z h a C) {pc : Nat} (pc' : Nat) {Ls : Array Slot} {stk argsL rest : List Value} (hp : pc' = pc + 3) (hsz : Ls.size = c.maxLocals) (hlen : ∀ sig, parseMethodDescriptor x.desc = some sig → argsL.length = sig.parameters.length) (hst : stk = argsL.reverse ++ .ref a :: rest) (has : (.ref a :: argsL).toArray = as) {W : Nat} (hW : (rest.map fun v => v.category).sum ≤ W) (hf : rm.frames + 1 ≤ R.frames) (hl : W + (maxL + 11) + rm.locals ≤ R.locals) (hc : cells + rm.cells ≤ R.cells) (hs : slots + rm.slots ≤ R.slots) (hd : decode c.code pc = .ok (.invokevirtual index, 3))
    (k : ∀ (v : Option Value) (T' : State) (L : List Loc), Qc v T'.heap L → Stand p l e R s m args below meth c T' (locs ++ L) (cells + rm.cells) (slots + rm.slots) → Go p e below F0 (T'.setTop (mkF m pc' Ls (v.toList ++ rest)))) : Go p e below F0 (T.setTop (mkF m pc Ls stk)) :=
  Go.callVB X hx hZ hown w1 w2 nf w3 w4 hy (backOf (W := W) (hC []) hZ wc wz hf hl) eT F pc' hp hsz hlen hst hW hd (fun _ _ => ⟨has, eT, hc, hs⟩) (fun v vm₁ T' locs' cells' slots' X' ⟨L, hq, h1, h2, h3⟩ => by
    try dsimp only at h1 h2 h3
    subst h1 h2 h3
    exact k v T' L hq X')
theorem Go.callNB (X : Stand p l e R s m args below meth c T locs cells slots) (hx : p.tables.exec = Jvm.exec) (hZ : Z.Warmed39 s.vm) {own : String} {index : Nat} (hown : s.vm.findClass own = some m.cls) {y : MethodName} {bytes : ByteArray} {maxL : Nat} (hn : y.name = "<init>") (w1 : (Jvm.Cond.methodLink own index y).before a0 Z = true) (w2 : (Jvm.Cond.instanceMethod y).before a0 Z = true) (w4 : (Jvm.Cond.code y bytes maxL none).before a0 Z = true) (hy : y.cls ≠ "java/lang/invoke/MethodHandle" ∧ y.cls ≠ "java/lang/invoke/VarHandle") {W : Nat} {Pre : Pt → Array Value → Prop} {Post : Pt → Array Value → Option Value → Pt → Prop} (hK : Back l R p e below s args y 3 W Pre Post) (eT : T.heap = h) {a : Addr} {pc : Nat} (pc' : Nat) {Ls : Array Slot} {stk argsL rest : List Value} (hp : pc' = pc + 3) (hsz : Ls.size = c.maxLocals) (hlen : ∀ sig, parseMethodDescriptor y.desc = some sig → argsL.length = sig.parameters.length) (hst : stk = argsL.reverse ++ .ref a :: rest) (hW : (rest.map fun v => v.category).sum ≤ W) (hd : decode c.code pc = .ok (.invokespecial index, 3)) (hpre : ∀ vm₁, s.WarmedH vm₁ → Pre ⟨T.setVm vm₁, locs, cells, slots⟩ (.ref a :: argsL).toArray)
    (k : ∀ (v : Option Value) (vm₁ : Vm) (T' : State) (locs' : List Loc) (cells' slots' : Nat), Stand p l e R s m args below meth c T' locs' cells' slots' → Post ⟨T.setVm vm₁, locs, cells, slots⟩ (.ref a :: argsL).toArray v ⟨T', locs', cells', slots'⟩ → Go p e below F0 (T'.setTop (mkF m pc' Ls (v.toList ++ rest)))) : Go p e below F0 (T.setTop (mkF m pc Ls stk)) := by
  subst hp
  obtain ⟨v, vm₁, ⟨T', L', c', n'⟩, -, X', hP, st⟩ := X.specialBack hx (y := y) hn hown (mvT hZ w1) (mvT hZ w2) (mvT hZ w4) hy hK (g := mkF m pc Ls stk) rfl hsz (Steps.refl _) (a := a) hlen hst (by show 2 * 0 + _ ≤ _; rw [Nat.mul_zero, Nat.zero_add]; exact hW) hd hpre
  exact Go.step (fun t kt => st.trans kt) (k v vm₁ T' L' c' n' X' hP)
theorem Go.callN (X : Stand p l e R s m args below meth c T locs cells slots) (hx : p.tables.exec = Jvm.exec) (hZ : Z.Warmed39 s.vm) {own : String} {index : Nat} (hown : s.vm.findClass own = some m.cls) {y : MethodName} {bytes : ByteArray} {maxL : Nat} (hn : y.name = "<init>") (w1 : (Jvm.Cond.methodLink own index y).before a0 Z = true) (w2 : (Jvm.Cond.instanceMethod y).before a0 Z = true) (w4 : (Jvm.Cond.code y bytes maxL none).before a0 Z = true) (hy : y.cls ≠ "java/lang/invoke/MethodHandle" ∧ y.cls ≠ "java/lang/invoke/VarHandle") {rm : Room} {Qc : Option Value → Heap → List Loc → Prop}  (wc : (Jvm.Cond.code y bytes maxL none).before a0 Z = true) (wz : (Jvm.Cond.initialized y.cls).before a0 Z = true) {as : Array Value} (hC : Ctr l Z y bytes maxL none rm as h Qc) (eT : T.heap = h) {a : Addr} {pc : Nat} (pc' : Nat) {Ls : Array Slot} {stk argsL rest : List Value} (hp : pc' = pc + 3) (hsz : Ls.size = c.maxLocals) (hlen : ∀ sig, parseMethodDescriptor y.desc = some sig → argsL.length = sig.parameters.length) (hst : stk = argsL.reverse ++ .ref a :: rest) (has : (.ref a :: argsL).toArray = as) {W : Nat} (hW : (rest.map fun v => v.category).sum ≤ W) (hf : rm.frames + 1 ≤ R.frames) (hl : W + (maxL + 11) + rm.locals ≤ R.locals) (hc : cells + rm.cells ≤ R.cells) (hs : slots + rm.slots ≤ R.slots) (hd : decode c.code pc = .ok (.invokespecial index, 3))
    (k : ∀ (v : Option Value) (T' : State) (L : List Loc), Qc v T'.heap L → Stand p l e R s m args below meth c T' (locs ++ L) (cells + rm.cells) (slots + rm.slots) → Go p e below F0 (T'.setTop (mkF m pc' Ls (v.toList ++ rest)))) : Go p e below F0 (T.setTop (mkF m pc Ls stk)) :=
  Go.callNB X hx hZ hown hn w1 w2 w4 hy (backOf (W := W) (hC []) hZ wc wz hf hl) eT  pc' hp hsz hlen hst hW hd (fun _ _ => ⟨has, eT, hc, hs⟩) (fun v vm₁ T' locs' cells' slots' X' ⟨L, hq, h1, h2, h3⟩ => by
    try dsimp only at h1 h2 h3
    subst h1 h2 h3
    exact k v T' L hq X')
theorem own_NSroot {O K : String} {n : Nat} (wo : (Jvm.Cond.noSuperclass O).before a0 Z = true) (wk : (Jvm.Cond.instantiable K n).before a0 Z = true) (hn : O ≠ K) : NS Z O K := by
  obtain ⟨c, k, h1, h2, h3, -, -⟩ := Cond.noSuperclass_spec wo
  obtain ⟨t, kt, g1, -⟩ := Cond.instantiable_spec wk
  have ne := ids_ne h1 g1 hn
  refine ⟨c, t, h1, g1, fun fuel => ?_⟩
  cases fuel with
  | zero => rfl
  | succ f => simp [Vm.isSubclassAux, ne, h2, h3]
theorem own_NSno {C S K : String} {n : Nat} (wc : (Jvm.Cond.superclass C S).before a0 Z = true) (wk : (Jvm.Cond.instantiable K n).before a0 Z = true) (ns : NS Z C K) (hn : C ≠ K) : ∃ c t, Z.vm.findClass C = some c ∧ Z.vm.findClass K = some t ∧ Z.vm.assignable c t = false := by
  obtain ⟨c, t, h0, g0, n3⟩ := ns
  obtain ⟨q, k, kp, h1, h2, h3, h4, h5, -, h7⟩ := Cond.superclass_spec h0 wc
  obtain ⟨t', kt, g1, g2, g3, g4, -⟩ := Cond.instantiable_spec wk
  cases g0.symm.trans g1
  have ne := ids_ne h0 g0 hn
  have g5 : kt.isInterface = false := by cases hq : kt.isInterface <;> simp [hq] at g4 ⊢
  refine ⟨c, t, h0, g0, ?_⟩
  show Z.vm.assignableAux (255 + 1) c t = false
  simp [Vm.assignableAux, ne, h2, g2, h5, g3, g5, Vm.isSubclass, n3]
theorem Go.instN (X : Stand p l e R s m args below meth c T locs cells slots) (hx : p.tables.exec = Jvm.exec) (hZ : Z.Warmed39 s.vm) {own : String} {index : Nat} (hown : s.vm.findClass own = some m.cls) {K C : String} (wl : (Jvm.Cond.classLink own index K).before a0 Z = true) (eT : T.heap = h) {a : Addr} (E : Exa Z h a C) (F : ∃ c t, Z.vm.findClass C = some c ∧ Z.vm.findClass K = some t ∧ Z.vm.assignable c t = false) {pc : Nat} (pc' : Nat) {Ls : Array Slot} {rest : List Value} (hp : pc' = pc + 3) (hd : decode c.code pc = .ok (.instanceof index, 3))
    (k : ∀ T', T'.heap = h → Stand p l e R s m args below meth c T' locs cells slots → Go p e below F0 (T'.setTop (mkF m pc' Ls (.int 0 :: rest)))) : Go p e below F0 (T.setTop (mkF m pc Ls (.ref a :: rest))) := by
  subst hp
  obtain ⟨T', X', e', st⟩ := Jvm.RoadKit.instNo X hx hZ hown wl eT E F (g := mkF m pc Ls (.ref a :: rest)) rfl rfl hd
  exact Go.step st (k T' e' X')
end OwnGo
end Jvm.RoadKit
namespace Jvm.RoadKit
open Sem ClassFile Op Lib Jvm.Stand Jvm.Free Jvm.LawKit
section OwnWide
variable {p : Program} {l : Launch} {e : Env} {R : Room} {s : State} {m : MethodId} {args : Array Value} {below : List Frame} {meth : Method} {c : Code} {T : State} {locs : List Loc} {cells slots kc ks : Nat} {Z : State} {a0 : Array Value} {h : Heap} {Q : Option Value → Heap → List Loc → Prop} {F0 : State → Outcome → Prop} {EL : List (String × Nat)} {vm0 : Vm} {sf : List Addr} {QW : Option Value → Vm → Heap → List Loc → Prop}
/-- the wide end: constants may have been resolved meanwhile -/
def EndW (Z : State) (EL : List (String × Nat)) (s : State) (QW : Option Value → Vm → Heap → List Loc → Prop) (kc ks : Nat) (U : State) (o : Outcome) : Prop :=
  ∃ v L, o = .returned v ∧ QW v U.vm U.heap L ∧ CHr Z EL s.vm s.heap U.vm U.heap ∧ ReturnedEndW s o U L kc ks
def CtrW (l : Launch) (Z : State) (EL : List (String × Nat)) (y : MethodName) (bytes : ByteArray) (maxL : Nat) (ret : Option FieldType) (rm : Room) (as : Array Value) (h : Heap) (sf : List Addr) (QW : Option Value → Vm → Heap → List Loc → Prop) : Prop :=
  ∀ ws : List Jvm.Cond, MetFree l y (head1 (Jvm.Cond.code y bytes maxL ret :: ws) rm) (fun a U => a = as ∧ Z.Warmed39 U.vm ∧ U.heap = h ∧ CHv Z EL U.vm h ∧ ∀ x ∈ sf, Safe Z EL U.vm h x) (fun _ _ _ _ _ => True) (fun _ U o U' => EndW Z EL U QW rm.cells rm.slots U' o)
theorem since0 (s : State) (n : Nat) : s.Since s.vm n := State.WarmedH.since (State.WarmedH.refl s) n
theorem CtrW.of {y : MethodName} {bytes : ByteArray} {maxL : Nat} {ret : Option FieldType} {rm : Room} {as : Array Value} (hp : plainFor y = true)
    (body : ∀ (p : Program) (e : Env) (s : State) (m : MethodId) (below : List Frame) (meth : Method) (c : Code) (T : State), p.tables.exec = Jvm.exec → Z.Warmed39 s.vm → c.code = bytes → c.maxLocals = maxL → s.vm.findClass y.cls = some m.cls → meth.name = y.name → meth.sig.returnType = ret → meth.locks = false → T.heap = h → s.heap = h → s.Since s.vm h.size → CHr Z EL s.vm s.heap s.vm h → (∀ x ∈ sf, Safe Z EL s.vm h x) → Stand p l e rm (s.setVm s.vm) m as below meth c T [] 0 0 →
      Go p e below (EndW Z EL s QW rm.cells rm.slots) (T.setTop (entryFrame m as maxL))) : CtrW l Z EL y bytes maxL ret rm as h sf QW := by
  intro ws
  refine MetFree.of_bodySF hp hisR ?_
  intro p e s m args below meth c s₁ Bd hml0 hP hK
  obtain ⟨rfl, hZ, hh, hC, hs⟩ := hP
  exact body p e s m below meth c s₁ Bd.exec hZ Bd.bytes hml0 (findClass_of_methodNamed Bd.named) (name_of_methodNamed Bd.named Bd.method).1 Bd.returns Bd.notSynchronized (by rw [← hh, Bd.state]; rfl) hh (since0 s _) (by rw [hh]; exact CHr.refl hC) hs (Stand.of_body Bd)
theorem Go.endW (X : Stand p l e R (s.setVm vm0) m args below meth c T locs cells slots) (hx : p.tables.exec = Jvm.exec) {v : Option Value} (hv : meth.sig.returnType = none → v = none) (hlk : meth.locks = false) (hc : cells ≤ kc) (hs : slots ≤ ks) (hZ : Z.Warmed39 vm0) (hEL : EW Z a0 EL) (eT : T.heap = h) {k0 : Nat} (hS : s.Since vm0 k0) (hk : k0 ≤ h.size) (hC : CHr Z EL s.vm s.heap vm0 h) (q : CHr Z EL vm0 h T.vm h → QW v T.vm h locs) {g : JFrame}
    (st : ∀ fs, (∀ (f : JFrame) (acts : List Action), f.method = m → f.locked = none → f.entered = [] → (doReturn e (T.setTop f) acts v).1 = T.setFrames fs) → Steps p.tables e below (T.setTop g) (T.setFrames fs)) : Go p e below (EndW Z EL s QW kc ks) (T.setTop g) := by
  obtain ⟨fs, hr, hrun, hended, hE⟩ := X.leaveW hS (by rw [eT]; exact hk) (v := v) hv hlk
  have hat := CHv.at X hZ hEL hC.1
  refine ⟨_, _, st fs hr, hrun, hended, v, locs, rfl, ?_, ?_, hE.1, hE.2.1, hE.2.2.1, hE.2.2.2.mono hc hs⟩
  · show QW v T.vm T.heap locs
    rw [eT]; exact q hat
  · show CHr Z EL s.vm s.heap T.vm T.heap
    rw [eT]; exact hC.trans hat
theorem Go.ret0W (X : Stand p l e R (s.setVm vm0) m args below meth c T locs cells slots) (hx : p.tables.exec = Jvm.exec) (hlk : meth.locks = false) (hZ : Z.Warmed39 vm0) (hEL : EW Z a0 EL) (eT : T.heap = h) {k0 : Nat} (hS : s.Since vm0 k0) (hk : k0 ≤ h.size) (hC : CHr Z EL s.vm s.heap vm0 h) (hret : meth.sig.returnType = none) {pc : Nat} {Ls : Array Slot} (hd : decode c.code pc = .ok (.return_, 1)) (hc : cells ≤ kc) (hs : slots ≤ ks) (q : CHr Z EL vm0 h T.vm h → QW none T.vm h locs) : Go p e below (EndW Z EL s QW kc ks) (T.setTop (mkF m pc Ls [])) :=
  Go.endW X hx (fun _ => rfl) hlk hc hs hZ hEL eT hS hk hC q (fun fs hr => X.returnOut hx hret hd hr)
theorem Go.retNW (X : Stand p l e R (s.setVm vm0) m args below meth c T locs cells slots) (hx : p.tables.exec = Jvm.exec) (hlk : meth.locks = false) (hZ : Z.Warmed39 vm0) (hEL : EW Z a0 EL) (eT : T.heap = h) {k0 : Nat} (hS : s.Since vm0 k0) (hk : k0 ≤ h.size) (hC : CHr Z EL s.vm s.heap vm0 h) {t : FieldType} (hret : meth.sig.returnType = some t) (ht : t = .boolean ∨ t = .byte ∨ t = .char ∨ t = .short) {pc : Nat} {Ls : Array Slot} {z : Int32} {rest : List Value} (hd : decode c.code pc = .ok (.ireturn, 1)) (hc : cells ≤ kc) (hs : slots ≤ ks) (q : CHr Z EL vm0 h T.vm h → QW (some (.int (nar t z))) T.vm h locs) : Go p e below (EndW Z EL s QW kc ks) (T.setTop (mkF m pc Ls (.int z :: rest))) :=
  Go.endW X hx (fun h => by rw [hret] at h; cases h) hlk hc hs hZ hEL eT hS hk hC q (fun fs hr => Jvm.RoadKit.retN X hx hret ht hd hr)
theorem Go.retRW (X : Stand p l e R (s.setVm vm0) m args below meth c T locs cells slots) (hx : p.tables.exec = Jvm.exec) (hlk : meth.locks = false) (hZ : Z.Warmed39 vm0) (hEL : EW Z a0 EL) (eT : T.heap = h) {k0 : Nat} (hS : s.Since vm0 k0) (hk : k0 ≤ h.size) (hC : CHr Z EL s.vm s.heap vm0 h) {t : FieldType} (hret : meth.sig.returnType = some t) (ht : t.isReference = true) {pc : Nat} {Ls : Array Slot} {v : Value} (hv : v.isRef = true) {rest : List Value} (hd : decode c.code pc = .ok (.areturn, 1)) (hc : cells ≤ kc) (hs : slots ≤ ks) (q : CHr Z EL vm0 h T.vm h → QW (some v) T.vm h locs) : Go p e below (EndW Z EL s QW kc ks) (T.setTop (mkF m pc Ls (v :: rest))) :=
  Go.endW X hx (fun h => by rw [hret] at h; cases h) hlk hc hs hZ hEL eT hS hk hC q (fun fs hr => retOut X hx hret (by rcases ref_cases hv with rfl | ⟨z, rfl⟩ <;> cases t <;> simp [FieldType.isReference] at ht <;> rfl) (Or.inr (Or.inr (Or.inr (Or.inr ⟨rfl, ht, hv⟩)))) hd hr)
theorem CtrW.back {y : MethodName} {bytes : ByteArray} {maxL : Nat} {ret : Option FieldType} {rm : Room} {len W : Nat} {as : Array Value} (hM : CtrW l Z EL y bytes maxL ret rm as h sf QW)
    (hZ : Z.Warmed39 vm0) (wc : (Jvm.Cond.code y bytes maxL ret).before a0 Z = true) (wz : (Jvm.Cond.initialized y.cls).before a0 Z = true) (hf : rm.frames + 1 ≤ R.frames) (hl : W + (maxL + 11) + rm.locals ≤ R.locals) (hEL : EW Z a0 EL) (H : CHv Z EL vm0 h) (hsf : ∀ x ∈ sf, x < h.size ∧ Safe Z EL vm0 h x) :
    BackS l R p e below (s.setVm vm0) args y len W (fun A a => a = as ∧ A.U.heap = h ∧ A.cells + rm.cells ≤ R.cells ∧ A.slots + rm.slots ≤ R.slots)
      (fun A _ v B => ∃ L, QW v B.U.vm B.U.heap L ∧ B.locs = A.locs ++ L ∧ B.cells = A.cells + rm.cells ∧ B.slots = A.slots + rm.slots ∧ CHr Z EL vm0 h B.U.vm B.U.heap) :=
  BackS.of_freeW (bytes := bytes) (maxL := maxL) (ret := ret) (E := fun _ first o t L k n => k = rm.cells ∧ n = rm.slots ∧ (∃ v, o = .returned v ∧ QW v t.vm t.heap L) ∧ CHr Z EL first.vm first.heap t.vm t.heap) (hM []) hf hl
    (fun m meth c A a Y hp => have hU : Z.Warmed39 A.U.vm := wtrans (s := s.setVm vm0) hZ Y.warmed
      ⟨by show (Jvm.Cond.and _ .tt).before a A.U = true; rw [Cond.before_and, mv hU wc]; rfl, mv hU wc, mv hU wz, hp.2.2.1, hp.2.2.2⟩)
    (fun m meth c A a g mk Y hp => have hA := CHv.at Y hZ hEL H
      ⟨hp.1, wtrans (s := s.setVm vm0) hZ Y.warmed, hp.2.1, hA.1, fun x hx => hA.safe (hsf x hx).1 (hsf x hx).2⟩) (fun _ _ _ _ _ _ _ _ _ => trivial)
    (fun _ _ _ _ ⟨v, L, h1, h2, h3, h4⟩ => ⟨L, _, _, h4, rfl, rfl, ⟨v, h1, h2⟩, h3⟩)
    (fun m meth c A a g mk v t L k n Y hp _ _ ⟨e1, e2, ⟨v', e3, e4⟩, e5⟩ => by
      cases e3; subst e1 e2
      refine ⟨L, e4, rfl, rfl, rfl, (CHv.at Y hZ hEL H).trans ?_⟩
      rw [← hp.2.1]; exact e5)
theorem Go.callSW (X : Stand p l e R (s.setVm vm0) m args below meth c T locs cells slots) (hx : p.tables.exec = Jvm.exec) (hZ : Z.Warmed39 vm0) {own : String} {index : Nat} (hown : vm0.findClass own = some m.cls) {y : MethodName} {bytes : ByteArray} {maxL : Nat} {ret : Option FieldType} {rm : Room} (w1 : (Jvm.Cond.methodLink own index y).before a0 Z = true) (w2 : (Jvm.Cond.static y).before a0 Z = true) (w3 : (Jvm.Cond.initialized y.cls).before a0 Z = true) (w4 : (Jvm.Cond.code y bytes maxL ret).before a0 Z = true) (hy : y.cls ≠ "java/lang/invoke/MethodHandle" ∧ y.cls ≠ "java/lang/invoke/VarHandle") (wc : (Jvm.Cond.code y bytes maxL ret).before a0 Z = true) (wz : (Jvm.Cond.initialized y.cls).before a0 Z = true) {as : Array Value} (hM : CtrW l Z EL y bytes maxL ret rm as h sf QW) (hEL : EW Z a0 EL) (H : CHv Z EL vm0 h) (hsf : ∀ x ∈ sf, x < h.size ∧ Safe Z EL vm0 h x) {k0 : Nat} (hS : s.Since vm0 k0) (hk : k0 ≤ h.size) (eT : T.heap = h)  {pc : Nat} (pc' : Nat) {Ls : Array Slot} {stk argsL rest : List Value} (hp : pc' = pc + 3) (hsz : Ls.size = c.maxLocals) (hlen : ∀ sig, parseMethodDescriptor y.desc = some sig → argsL.length = sig.parameters.length) (hst : stk = argsL.reverse ++ rest) (has : argsL.toArray = as) {W : Nat} (hW : (rest.map fun v => v.category).sum ≤ W) (hf : rm.frames + 1 ≤ R.frames) (hl : W + (maxL + 11) + rm.locals ≤ R.locals) (hc : cells + rm.cells ≤ R.cells) (hs : slots + rm.slots ≤ R.slots) (hd : decode c.code pc = .ok (.invokestatic index, 3))
    (k : ∀ (v : Option Value) (T' : State) (L : List Loc) (h' : Heap), T'.heap = h' → QW v T'.vm h' L → CHr Z EL vm0 h T'.vm h' → s.Since T'.vm h'.size → Z.Warmed39 T'.vm → T'.vm.findClass own = some m.cls → Stand p l e R (s.setVm T'.vm) m args below meth c T' (locs ++ L) (cells + rm.cells) (slots + rm.slots) → Go p e below F0 (T'.setTop (mkF m pc' Ls (v.toList ++ rest)))) : Go p e below F0 (T.setTop (mkF m pc Ls stk)) := by
  subst hp
  obtain ⟨v, vm₁, ⟨T', L', c', n'⟩, -, X', h2, hg, ⟨L, hq, h1, h3, h4, h5⟩, st⟩ := callSS X hx hown (mvT (s := s.setVm vm0) hZ w1) (mvT (s := s.setVm vm0) hZ w2) (mvT (s := s.setVm vm0) hZ w3) (mvT (s := s.setVm vm0) hZ w4) hy (hM.back (W := W) hZ wc wz hf hl hEL H hsf) (g := mkF m pc Ls stk) rfl hsz hlen hst (by show 2 * 0 + _ ≤ _; rw [Nat.mul_zero, Nat.zero_add]; exact hW) hd (fun _ _ => ⟨has, eT, hc, hs⟩)
  obtain ⟨X2, hS2, hZ2, hown2⟩ := rebS hS (by rw [eT]; exact hk) X' h2 hg hZ hown
  try dsimp only at h1 h3 h4
  subst h1 h3 h4
  exact Go.step (fun t kt => st.trans kt) (k v T' L T'.heap rfl hq h5 hS2 hZ2 hown2 X2)
theorem Go.callNW (X : Stand p l e R (s.setVm vm0) m args below meth c T locs cells slots) (hx : p.tables.exec = Jvm.exec) (hZ : Z.Warmed39 vm0) {own : String} {index : Nat} (hown : vm0.findClass own = some m.cls) {y : MethodName} {bytes : ByteArray} {maxL : Nat} {rm : Room} (hn : y.name = "<init>") (w1 : (Jvm.Cond.methodLink own index y).before a0 Z = true) (w2 : (Jvm.Cond.instanceMethod y).before a0 Z = true) (w4 : (Jvm.Cond.code y bytes maxL none).before a0 Z = true) (hy : y.cls ≠ "java/lang/invoke/MethodHandle" ∧ y.cls ≠ "java/lang/invoke/VarHandle") (wc : (Jvm.Cond.code y bytes maxL none).before a0 Z = true) (wz : (Jvm.Cond.initialized y.cls).before a0 Z = true) {as : Array Value} (hM : CtrW l Z EL y bytes maxL none rm as h sf QW) (hEL : EW Z a0 EL) (H : CHv Z EL vm0 h) (hsf : ∀ x ∈ sf, x < h.size ∧ Safe Z EL vm0 h x) {k0 : Nat} (hS : s.Since vm0 k0) (hk : k0 ≤ h.size) (eT : T.heap = h) {a : Addr} {pc : Nat} (pc' : Nat) {Ls : Array Slot} {stk argsL rest : List Value} (hp : pc' = pc + 3) (hsz : Ls.size = c.maxLocals) (hlen : ∀ sig, parseMethodDescriptor y.desc = some sig → argsL.length = sig.parameters.length) (hst : stk = argsL.reverse ++ .ref a :: rest) (has : (.ref a :: argsL).toArray = as) {W : Nat} (hW : (rest.map fun v => v.category).sum ≤ W) (hf : rm.frames + 1 ≤ R.frames) (hl : W + (maxL + 11) + rm.locals ≤ R.locals) (hc : cells + rm.cells ≤ R.cells) (hs : slots + rm.slots ≤ R.slots) (hd : decode c.code pc = .ok (.invokespecial index, 3))
    (k : ∀ (v : Option Value) (T' : State) (L : List Loc) (h' : Heap), T'.heap = h' → QW v T'.vm h' L → CHr Z EL vm0 h T'.vm h' → s.Since T'.vm h'.size → Z.Warmed39 T'.vm → T'.vm.findClass own = some m.cls → Stand p l e R (s.setVm T'.vm) m args below meth c T' (locs ++ L) (cells + rm.cells) (slots + rm.slots) → Go p e below F0 (T'.setTop (mkF m pc' Ls (v.toList ++ rest)))) : Go p e below F0 (T.setTop (mkF m pc Ls stk)) := by
  subst hp
  obtain ⟨v, vm₁, ⟨T', L', c', n'⟩, -, X', h2, hg, ⟨L, hq, h1, h3, h4, h5⟩, st⟩ := X.specialBackS hx (y := y) hn hown (mvT (s := s.setVm vm0) hZ w1) (mvT (s := s.setVm vm0) hZ w2) (mvT (s := s.setVm vm0) hZ w4) hy (hM.back (W := W) hZ wc wz hf hl hEL H hsf) (g := mkF m pc Ls stk) rfl hsz (Steps.refl _) (a := a) hlen hst (by show 2 * 0 + _ ≤ _; rw [Nat.mul_zero, Nat.zero_add]; exact hW) hd (fun _ _ => ⟨has, eT, hc, hs⟩)
  obtain ⟨X2, hS2, hZ2, hown2⟩ := rebS hS (by rw [eT]; exact hk) X' h2 hg hZ hown
  try dsimp only at h1 h3 h4
  subst h1 h3 h4
  exact Go.step (fun t kt => st.trans kt) (k v T' L T'.heap rfl hq h5 hS2 hZ2 hown2 X2)
theorem Go.ldcCH (X : Stand p l e R (s.setVm vm0) m args below meth c T locs cells slots) (hx : p.tables.exec = Jvm.exec) (hZ : Z.Warmed39 vm0) {own text : String} {index : Nat} (hown : vm0.findClass own = some m.cls) (wl : (Jvm.Cond.stringLink own index text).before a0 Z = true) (wS : ∀ a ∈ Bundle.stringAtoms, a.before a0 Z = true) (eT : T.heap = h) {k0 : Nat} (hS : s.Since vm0 k0) (hk : k0 ≤ h.size) (hEL : EW Z a0 EL) (hmem : (own, index) ∈ EL) (H : CHv Z EL vm0 h) {vs : List Value} {z : Int32} (ht : (∀ c ∈ text.toList, c.toNat < 256) ∧ text.toList.map (fun c => Value.int (Jvm.Lit.byteI c.toNat.toUInt16)) = vs) (hz : ¬ z < 0) (hl : z.toNatClampNeg = vs.length) {n : Nat} (hn : 4 * text.toList.length ≤ n) (hbig : n ≤ 536870912) (hc : cells + 2 ≤ R.cells) (hl' : slots + (n + 4) ≤ R.slots) {pc : Nat} (pc' : Nat) {Ls : Array Slot} {rest : List Value} (hp : pc' = pc + 2) (hd : decode c.code pc = .ok (.ldc index, 2))
    (k : ∀ (a : Addr) (T' : State) (h' : Heap) (k1 : Nat) (b : Addr) (kk : ClassId), T'.heap = h' → Ext h h' → s.Since T'.vm k1 → k1 ≤ h'.size → Z.Warmed39 T'.vm → T'.vm.findClass own = some m.cls → Exa Z h' a "java/lang/String" → Fld Z h' a "java/lang/String" "coder" "B" (.int 0) → Fld Z h' a "java/lang/String" "value" "[B" (.ref b) → Arv Z h' b kk .byte z vs (.int 0) → CHr Z EL vm0 h T'.vm h' → (∀ x, Safe Z EL T'.vm h' x → x ≠ a ∧ x ≠ b) → Stand p l e R (s.setVm T'.vm) m args below meth c T' locs (cells + 2) (slots + (n + 4)) → Go p e below F0 (T'.setTop (mkF m pc' Ls (.ref a :: rest)))) : Go p e below F0 (T.setTop (mkF m pc Ls rest)) := by
  subst hp
  obtain ⟨a, T', h', k1, b, kk, X', e', E, hS', hk', hZ', hown', F1, F2, F3, F4, -, -, C, -, hne, st⟩ := Jvm.RoadKit.ldcCH X hx hZ hown wl wS eT hS hk hEL hmem H ht hz hl (g := mkF m pc Ls rest) rfl hd hn hbig hc hl'
  exact Go.step st (k a T' h' k1 b kk e' E hS' hk' hZ' hown' F1 F2 F3 F4 C hne X')
end OwnWide
end Jvm.RoadKit
namespace Jvm.Pilot.@@N@@
open Jvm Jvm.ClassFile Sem Op Lib Jvm.Free Jvm.Stand Jvm.LawKit Jvm.RoadKit Bundle Jvm.Pilot.@@N@@.Jvm.D
theorem tw_0 {Z : State} {a0 : Array Value} (hw : ∀ d ∈ tables_1, d.before a0 Z = true) : (Jvm.Cond.classLink "com/example/rockhopper/rockhopper/model/ValidatorsEqualsPinLaw" (12 : Nat) "com/example/rockhopper/rockhopper/model/Validators").before a0 Z = true := hw _ (List.mem_of_getElem? (i := 0) rfl)
theorem tw_1 {Z : State} {a0 : Array Value} (hw : ∀ d ∈ tables_1, d.before a0 Z = true) : (Jvm.Cond.instantiable "com/example/rockhopper/rockhopper/model/Validators" (2 : Nat)).before a0 Z = true := hw _ (List.mem_of_getElem? (i := 1) rfl)
theorem tw_2 {Z : State} {a0 : Array Value} (hw : ∀ d ∈ tables_1, d.before a0 Z = true) : (Jvm.Cond.initialized "com/example/rockhopper/rockhopper/model/Validators").before a0 Z = true := hw _ (List.mem_of_getElem? (i := 2) rfl)
theorem tw_3 {Z : State} {a0 : Array Value} (hw : ∀ d ∈ tables_1, d.before a0 Z = true) : (Jvm.Cond.methodLink "com/example/rockhopper/rockhopper/model/ValidatorsEqualsPinLaw" (14 : Nat) ({ cls := "com/example/rockhopper/rockhopper/model/ValidatorsEqualsPinLaw", name := "mk", desc := "(I)Ljava/lang/String;" } : Jvm.MethodName)).before a0 Z = true := hw _ (List.mem_of_getElem? (i := 3) rfl)
theorem tw_4 {Z : State} {a0 : Array Value} (hw : ∀ d ∈ tables_1, d.before a0 Z = true) : (Jvm.Cond.static ({ cls := "com/example/rockhopper/rockhopper/model/ValidatorsEqualsPinLaw", name := "mk", desc := "(I)Ljava/lang/String;" } : Jvm.MethodName)).before a0 Z = true := hw _ (List.mem_of_getElem? (i := 4) rfl)
theorem tw_5 {Z : State} {a0 : Array Value} (hw : ∀ d ∈ tables_1, d.before a0 Z = true) : (Jvm.Cond.initialized "com/example/rockhopper/rockhopper/model/ValidatorsEqualsPinLaw").before a0 Z = true := hw _ (List.mem_of_getElem? (i := 5) rfl)
theorem tw_6 {Z : State} {a0 : Array Value} (hw : ∀ d ∈ tables_1, d.before a0 Z = true) : (Jvm.Cond.code ({ cls := "com/example/rockhopper/rockhopper/model/ValidatorsEqualsPinLaw", name := "mk", desc := "(I)Ljava/lang/String;" } : Jvm.MethodName) method_2_code (3 : Nat) (Option.some (Jvm.ClassFile.FieldType.object "java/lang/String"))).before a0 Z = true := hw _ (List.mem_of_getElem? (i := 6) rfl)
theorem tw_7 {Z : State} {a0 : Array Value} (hw : ∀ d ∈ tables_1, d.before a0 Z = true) : (Jvm.Cond.arrayClass Jvm.ClassFile.FieldType.char).before a0 Z = true := hw _ (List.mem_of_getElem? (i := 7) rfl)
theorem tw_8 {Z : State} {a0 : Array Value} (hw : ∀ d ∈ tables_1, d.before a0 Z = true) : (Jvm.Cond.classLink "com/example/rockhopper/rockhopper/model/ValidatorsEqualsPinLaw" (7 : Nat) "java/lang/String").before a0 Z = true := hw _ (List.mem_of_getElem? (i := 8) rfl)
theorem tw_9 {Z : State} {a0 : Array Value} (hw : ∀ d ∈ tables_1, d.before a0 Z = true) : (Jvm.Cond.instantiable "java/lang/String" (4 : Nat)).before a0 Z = true := hw _ (List.mem_of_getElem? (i := 9) rfl)
theorem tw_10 {Z : State} {a0 : Array Value} (hw : ∀ d ∈ tables_1, d.before a0 Z = true) : (Jvm.Cond.initialized "java/lang/String").before a0 Z = true := hw _ (List.mem_of_getElem? (i := 10) rfl)
theorem tw_11 {Z : State} {a0 : Array Value} (hw : ∀ d ∈ tables_1, d.before a0 Z = true) : (Jvm.Cond.methodLink "com/example/rockhopper/rockhopper/model/ValidatorsEqualsPinLaw" (9 : Nat) ({ cls := "java/lang/String", name := "<init>", desc := "([C)V" } : Jvm.MethodName)).before a0 Z = true := hw _ (List.mem_of_getElem? (i := 11) rfl)
theorem tw_12 {Z : State} {a0 : Array Value} (hw : ∀ d ∈ tables_1, d.before a0 Z = true) : (Jvm.Cond.instanceMethod ({ cls := "java/lang/String", name := "<init>", desc := "([C)V" } : Jvm.MethodName)).before a0 Z = true := hw _ (List.mem_of_getElem? (i := 12) rfl)
theorem tw_13 {Z : State} {a0 : Array Value} (hw : ∀ d ∈ tables_1, d.before a0 Z = true) : (Jvm.Cond.code ({ cls := "java/lang/String", name := "<init>", desc := "([C)V" } : Jvm.MethodName) jdk_42_method_3_code (2 : Nat) (Option.none : Option Jvm.ClassFile.FieldType)).before a0 Z = true := hw _ (List.mem_of_getElem? (i := 13) rfl)
theorem tw_14 {Z : State} {a0 : Array Value} (hw : ∀ d ∈ tables_1, d.before a0 Z = true) : (Jvm.Cond.methodLink "java/lang/String" (27 : Nat) ({ cls := "java/lang/String", name := "<init>", desc := "([CIILjava/lang/Void;)V" } : Jvm.MethodName)).before a0 Z = true := hw _ (List.mem_of_getElem? (i := 14) rfl)
theorem tw_15 {Z : State} {a0 : Array Value} (hw : ∀ d ∈ tables_1, d.before a0 Z = true) : (Jvm.Cond.instanceMethod ({ cls := "java/lang/String", name := "<init>", desc := "([CIILjava/lang/Void;)V" } : Jvm.MethodName)).before a0 Z = true := hw _ (List.mem_of_getElem? (i := 15) rfl)
theorem tw_17 {Z : State} {a0 : Array Value} (hw : ∀ d ∈ tables_1, d.before a0 Z = true) : (Jvm.Cond.code ({ cls := "java/lang/String", name := "<init>", desc := "([CIILjava/lang/Void;)V" } : Jvm.MethodName) jdk_42_method_149_code (6 : Nat) (Option.none : Option Jvm.ClassFile.FieldType)).before a0 Z = true := hw _ (List.mem_of_getElem? (i := 17) rfl)
theorem tw_18 {Z : State} {a0 : Array Value} (hw : ∀ d ∈ tables_1, d.before a0 Z = true) : (Jvm.Cond.methodLink "java/lang/String" (1 : Nat) ({ cls := "java/lang/Object", name := "<init>", desc := "()V" } : Jvm.MethodName)).before a0 Z = true := hw _ (List.mem_of_getElem? (i := 18) rfl)
theorem tw_19 {Z : State} {a0 : Array Value} (hw : ∀ d ∈ tables_1, d.before a0 Z = true) : (Jvm.Cond.instanceMethod ({ cls := "java/lang/Object", name := "<init>", desc := "()V" } : Jvm.MethodName)).before a0 Z = true := hw _ (List.mem_of_getElem? (i := 19) rfl)
theorem tw_20 {Z : State} {a0 : Array Value} (hw : ∀ d ∈ tables_1, d.before a0 Z = true) : (Jvm.Cond.code ({ cls := "java/lang/Object", name := "<init>", desc := "()V" } : Jvm.MethodName) object_method_1_code (1 : Nat) (Option.none : Option Jvm.ClassFile.FieldType)).before a0 Z = true := hw _ (List.mem_of_getElem? (i := 20) rfl)
theorem tw_21 {Z : State} {a0 : Array Value} (hw : ∀ d ∈ tables_1, d.before a0 Z = true) : (Jvm.Cond.stringLink "java/lang/String" (7 : Nat) "").before a0 Z = true := hw _ (List.mem_of_getElem? (i := 21) rfl)
theorem tw_22 {Z : State} {a0 : Array Value} (hw : ∀ d ∈ tables_1, d.before a0 Z = true) : (Jvm.Cond.arrayClass Jvm.ClassFile.FieldType.byte).before a0 Z = true := hw _ (List.mem_of_getElem? (i := 22) rfl)
theorem tw_23 {Z : State} {a0 : Array Value} (hw : ∀ d ∈ tables_1, d.before a0 Z = true) : (Jvm.Cond.laysFinal "java/lang/String" "java/lang/String" "value" "[B").before a0 Z = true := hw _ (List.mem_of_getElem? (i := 23) rfl)
theorem tw_24 {Z : State} {a0 : Array Value} (hw : ∀ d ∈ tables_1, d.before a0 Z = true) : (Jvm.Cond.laysFinal "java/lang/String" "java/lang/String" "coder" "B").before a0 Z = true := hw _ (List.mem_of_getElem? (i := 24) rfl)
theorem tw_27 {Z : State} {a0 : Array Value} (hw : ∀ d ∈ tables_1, d.before a0 Z = true) : (Jvm.Cond.fieldLink "java/lang/String" (9 : Nat) "java/lang/String" "value" "[B").before a0 Z = true := hw _ (List.mem_of_getElem? (i := 27) rfl)
theorem tw_28 {Z : State} {a0 : Array Value} (hw : ∀ d ∈ tables_1, d.before a0 Z = true) : (Jvm.Cond.fieldLink "java/lang/String" (15 : Nat) "java/lang/String" "coder" "B").before a0 Z = true := hw _ (List.mem_of_getElem? (i := 28) rfl)
theorem tw_29 {Z : State} {a0 : Array Value} (hw : ∀ d ∈ tables_1, d.before a0 Z = true) : (Jvm.Cond.methodLink "com/example/rockhopper/rockhopper/model/ValidatorsEqualsPinLaw" (20 : Nat) ({ cls := "com/example/rockhopper/rockhopper/model/Validators", name := "<init>", desc := "(Ljava/lang/String;Ljava/lang/String;)V" } : Jvm.MethodName)).before a0 Z = true := hw _ (List.mem_of_getElem? (i := 29) rfl)
theorem tw_30 {Z : State} {a0 : Array Value} (hw : ∀ d ∈ tables_1, d.before a0 Z = true) : (Jvm.Cond.instanceMethod ({ cls := "com/example/rockhopper/rockhopper/model/Validators", name := "<init>", desc := "(Ljava/lang/String;Ljava/lang/String;)V" } : Jvm.MethodName)).before a0 Z = true := hw _ (List.mem_of_getElem? (i := 30) rfl)
theorem tw_31 {Z : State} {a0 : Array Value} (hw : ∀ d ∈ tables_1, d.before a0 Z = true) : (Jvm.Cond.code ({ cls := "com/example/rockhopper/rockhopper/model/Validators", name := "<init>", desc := "(Ljava/lang/String;Ljava/lang/String;)V" } : Jvm.MethodName) prog_9_method_1_code (3 : Nat) (Option.none : Option Jvm.ClassFile.FieldType)).before a0 Z = true := hw _ (List.mem_of_getElem? (i := 31) rfl)
theorem tw_32 {Z : State} {a0 : Array Value} (hw : ∀ d ∈ tables_1, d.before a0 Z = true) : (Jvm.Cond.methodLink "com/example/rockhopper/rockhopper/model/Validators" (1 : Nat) ({ cls := "java/lang/Object", name := "<init>", desc := "()V" } : Jvm.MethodName)).before a0 Z = true := hw _ (List.mem_of_getElem? (i := 32) rfl)
theorem tw_33 {Z : State} {a0 : Array Value} (hw : ∀ d ∈ tables_1, d.before a0 Z = true) : (Jvm.Cond.fieldLink "com/example/rockhopper/rockhopper/model/Validators" (7 : Nat) "com/example/rockhopper/rockhopper/model/Validators" "etag" "Ljava/lang/String;").before a0 Z = true := hw _ (List.mem_of_getElem? (i := 33) rfl)
theorem tw_34 {Z : State} {a0 : Array Value} (hw : ∀ d ∈ tables_1, d.before a0 Z = true) : (Jvm.Cond.laysFinal "com/example/rockhopper/rockhopper/model/Validators" "com/example/rockhopper/rockhopper/model/Validators" "etag" "Ljava/lang/String;").before a0 Z = true := hw _ (List.mem_of_getElem? (i := 34) rfl)
theorem tw_35 {Z : State} {a0 : Array Value} (hw : ∀ d ∈ tables_1, d.before a0 Z = true) : (Jvm.Cond.fieldLink "com/example/rockhopper/rockhopper/model/Validators" (13 : Nat) "com/example/rockhopper/rockhopper/model/Validators" "lastModified" "Ljava/lang/String;").before a0 Z = true := hw _ (List.mem_of_getElem? (i := 35) rfl)
theorem tw_36 {Z : State} {a0 : Array Value} (hw : ∀ d ∈ tables_1, d.before a0 Z = true) : (Jvm.Cond.laysFinal "com/example/rockhopper/rockhopper/model/Validators" "com/example/rockhopper/rockhopper/model/Validators" "lastModified" "Ljava/lang/String;").before a0 Z = true := hw _ (List.mem_of_getElem? (i := 36) rfl)
theorem tw_37 {Z : State} {a0 : Array Value} (hw : ∀ d ∈ tables_1, d.before a0 Z = true) : (Jvm.Cond.methodLink "com/example/rockhopper/rockhopper/model/ValidatorsEqualsPinLaw" (23 : Nat) ({ cls := "com/example/rockhopper/rockhopper/model/Validators", name := "equals", desc := "(Ljava/lang/Object;)Z" } : Jvm.MethodName)).before a0 Z = true := hw _ (List.mem_of_getElem? (i := 37) rfl)
theorem tw_38 {Z : State} {a0 : Array Value} (hw : ∀ d ∈ tables_1, d.before a0 Z = true) : (Jvm.Cond.declares ({ cls := "com/example/rockhopper/rockhopper/model/Validators", name := "equals", desc := "(Ljava/lang/Object;)Z" } : Jvm.MethodName)).before a0 Z = true := hw _ (List.mem_of_getElem? (i := 38) rfl)
theorem tw_39 {Z : State} {a0 : Array Value} (hw : ∀ d ∈ tables_1, d.before a0 Z = true) : (Jvm.Cond.instanceMethod ({ cls := "com/example/rockhopper/rockhopper/model/Validators", name := "equals", desc := "(Ljava/lang/Object;)Z" } : Jvm.MethodName)).before a0 Z = true := hw _ (List.mem_of_getElem? (i := 39) rfl)
theorem tw_40 {Z : State} {a0 : Array Value} (hw : ∀ d ∈ tables_1, d.before a0 Z = true) : (Jvm.Cond.selects "com/example/rockhopper/rockhopper/model/Validators" ({ cls := "com/example/rockhopper/rockhopper/model/Validators", name := "equals", desc := "(Ljava/lang/Object;)Z" } : Jvm.MethodName) ({ cls := "com/example/rockhopper/rockhopper/model/Validators", name := "equals", desc := "(Ljava/lang/Object;)Z" } : Jvm.MethodName)).before a0 Z = true := hw _ (List.mem_of_getElem? (i := 40) rfl)
theorem tw_41 {Z : State} {a0 : Array Value} (hw : ∀ d ∈ tables_1, d.before a0 Z = true) : (Jvm.Cond.code ({ cls := "com/example/rockhopper/rockhopper/model/Validators", name := "equals", desc := "(Ljava/lang/Object;)Z" } : Jvm.MethodName) prog_9_method_4_code (2 : Nat) (Option.some Jvm.ClassFile.FieldType.boolean)).before a0 Z = true := hw _ (List.mem_of_getElem? (i := 41) rfl)
theorem tw_42 {Z : State} {a0 : Array Value} (hw : ∀ d ∈ tables_1, d.before a0 Z = true) : (Jvm.Cond.methodLink "com/example/rockhopper/rockhopper/model/ValidatorsEqualsPinLaw" (27 : Nat) ({ cls := "java/lang/Integer", name := "valueOf", desc := "(I)Ljava/lang/Integer;" } : Jvm.MethodName)).before a0 Z = true := hw _ (List.mem_of_getElem? (i := 42) rfl)
theorem tw_43 {Z : State} {a0 : Array Value} (hw : ∀ d ∈ tables_1, d.before a0 Z = true) : (Jvm.Cond.static ({ cls := "java/lang/Integer", name := "valueOf", desc := "(I)Ljava/lang/Integer;" } : Jvm.MethodName)).before a0 Z = true := hw _ (List.mem_of_getElem? (i := 43) rfl)
theorem tw_44 {Z : State} {a0 : Array Value} (hw : ∀ d ∈ tables_1, d.before a0 Z = true) : (Jvm.Cond.initialized "java/lang/Integer").before a0 Z = true := hw _ (List.mem_of_getElem? (i := 44) rfl)
theorem tw_45 {Z : State} {a0 : Array Value} (hw : ∀ d ∈ tables_1, d.before a0 Z = true) : (Jvm.Cond.code ({ cls := "java/lang/Integer", name := "valueOf", desc := "(I)Ljava/lang/Integer;" } : Jvm.MethodName) jdk_33_method_22_code (1 : Nat) (Option.some (Jvm.ClassFile.FieldType.object "java/lang/Integer"))).before a0 Z = true := hw _ (List.mem_of_getElem? (i := 45) rfl)
theorem tw_46 {Z : State} {a0 : Array Value} (hw : ∀ d ∈ tables_1, d.before a0 Z = true) : (Jvm.Cond.fieldLink "java/lang/Integer" (191 : Nat) "java/lang/Integer$IntegerCache" "high" "I").before a0 Z = true := hw _ (List.mem_of_getElem? (i := 46) rfl)
theorem tw_47 {Z : State} {a0 : Array Value} (hw : ∀ d ∈ tables_1, d.before a0 Z = true) : (Jvm.Cond.initialized "java/lang/Integer$IntegerCache").before a0 Z = true := hw _ (List.mem_of_getElem? (i := 47) rfl)
theorem tw_48 {Z : State} {a0 : Array Value} (hw : ∀ d ∈ tables_1, d.before a0 Z = true) : (Jvm.Cond.fieldLink "java/lang/Integer" (195 : Nat) "java/lang/Integer$IntegerCache" "cache" "[Ljava/lang/Integer;").before a0 Z = true := hw _ (List.mem_of_getElem? (i := 48) rfl)
theorem tw_49 {Z : State} {a0 : Array Value} (hw : ∀ d ∈ tables_1, d.before a0 Z = true) : (Jvm.Cond.classLink "com/example/rockhopper/rockhopper/model/Validators" (8 : Nat) "com/example/rockhopper/rockhopper/model/Validators").before a0 Z = true := hw _ (List.mem_of_getElem? (i := 49) rfl)
theorem tw_50 {Z : State} {a0 : Array Value} (hw : ∀ d ∈ tables_1, d.before a0 Z = true) : (Jvm.Cond.superclass "java/lang/Integer" "java/lang/Number").before a0 Z = true := hw _ (List.mem_of_getElem? (i := 50) rfl)
theorem tw_51 {Z : State} {a0 : Array Value} (hw : ∀ d ∈ tables_1, d.before a0 Z = true) : (Jvm.Cond.superclass "java/lang/Number" "java/lang/Object").before a0 Z = true := hw _ (List.mem_of_getElem? (i := 51) rfl)
theorem tw_52 {Z : State} {a0 : Array Value} (hw : ∀ d ∈ tables_1, d.before a0 Z = true) : (Jvm.Cond.noSuperclass "java/lang/Object").before a0 Z = true := hw _ (List.mem_of_getElem? (i := 52) rfl)
theorem tw_54 {Z : State} {a0 : Array Value} (hw : ∀ d ∈ tables_1, d.before a0 Z = true) : (Jvm.Cond.methodLink "com/example/rockhopper/rockhopper/model/Validators" (16 : Nat) ({ cls := "java/util/Objects", name := "equals", desc := "(Ljava/lang/Object;Ljava/lang/Object;)Z" } : Jvm.MethodName)).before a0 Z = true := hw _ (List.mem_of_getElem? (i := 54) rfl)
theorem tw_55 {Z : State} {a0 : Array Value} (hw : ∀ d ∈ tables_1, d.before a0 Z = true) : (Jvm.Cond.static ({ cls := "java/util/Objects", name := "equals", desc := "(Ljava/lang/Object;Ljava/lang/Object;)Z" } : Jvm.MethodName)).before a0 Z = true := hw _ (List.mem_of_getElem? (i := 55) rfl)
theorem tw_56 {Z : State} {a0 : Array Value} (hw : ∀ d ∈ tables_1, d.before a0 Z = true) : (Jvm.Cond.initialized "java/util/Objects").before a0 Z = true := hw _ (List.mem_of_getElem? (i := 56) rfl)
theorem tw_57 {Z : State} {a0 : Array Value} (hw : ∀ d ∈ tables_1, d.before a0 Z = true) : (Jvm.Cond.code ({ cls := "java/util/Objects", name := "equals", desc := "(Ljava/lang/Object;Ljava/lang/Object;)Z" } : Jvm.MethodName) jdk_31_method_2_code (2 : Nat) (Option.some Jvm.ClassFile.FieldType.boolean)).before a0 Z = true := hw _ (List.mem_of_getElem? (i := 57) rfl)
theorem tw_58 {Z : State} {a0 : Array Value} (hw : ∀ d ∈ tables_1, d.before a0 Z = true) : (Jvm.Cond.fieldLink "java/lang/String" (38 : Nat) "java/lang/String" "COMPACT_STRINGS" "Z").before a0 Z = true := hw _ (List.mem_of_getElem? (i := 58) rfl)
theorem tw_59 {Z : State} {a0 : Array Value} (hw : ∀ d ∈ tables_1, d.before a0 Z = true) : (Jvm.Cond.methodLink "java/lang/String" (177 : Nat) ({ cls := "java/lang/StringUTF16", name := "compress", desc := "([CII)[B" } : Jvm.MethodName)).before a0 Z = true := hw _ (List.mem_of_getElem? (i := 59) rfl)
theorem tw_60 {Z : State} {a0 : Array Value} (hw : ∀ d ∈ tables_1, d.before a0 Z = true) : (Jvm.Cond.static ({ cls := "java/lang/StringUTF16", name := "compress", desc := "([CII)[B" } : Jvm.MethodName)).before a0 Z = true := hw _ (List.mem_of_getElem? (i := 60) rfl)
theorem tw_61 {Z : State} {a0 : Array Value} (hw : ∀ d ∈ tables_1, d.before a0 Z = true) : (Jvm.Cond.initialized "java/lang/StringUTF16").before a0 Z = true := hw _ (List.mem_of_getElem? (i := 61) rfl)
theorem tw_62 {Z : State} {a0 : Array Value} (hw : ∀ d ∈ tables_1, d.before a0 Z = true) : (Jvm.Cond.code ({ cls := "java/lang/StringUTF16", name := "compress", desc := "([CII)[B" } : Jvm.MethodName) jdk_52_method_16_code (6 : Nat) (Option.some (Jvm.ClassFile.FieldType.array Jvm.ClassFile.FieldType.byte))).before a0 Z = true := hw _ (List.mem_of_getElem? (i := 62) rfl)
theorem tw_63 {Z : State} {a0 : Array Value} (hw : ∀ d ∈ tables_1, d.before a0 Z = true) : (Jvm.Cond.methodLink "java/lang/StringUTF16" (115 : Nat) ({ cls := "java/lang/StringUTF16", name := "compress", desc := "([CI[BII)I" } : Jvm.MethodName)).before a0 Z = true := hw _ (List.mem_of_getElem? (i := 63) rfl)
theorem tw_64 {Z : State} {a0 : Array Value} (hw : ∀ d ∈ tables_1, d.before a0 Z = true) : (Jvm.Cond.static ({ cls := "java/lang/StringUTF16", name := "compress", desc := "([CI[BII)I" } : Jvm.MethodName)).before a0 Z = true := hw _ (List.mem_of_getElem? (i := 64) rfl)
theorem tw_65 {Z : State} {a0 : Array Value} (hw : ∀ d ∈ tables_1, d.before a0 Z = true) : (Jvm.Cond.code ({ cls := "java/lang/StringUTF16", name := "compress", desc := "([CI[BII)I" } : Jvm.MethodName) jdk_52_method_21_code (7 : Nat) (Option.some Jvm.ClassFile.FieldType.int)).before a0 Z = true := hw _ (List.mem_of_getElem? (i := 65) rfl)
theorem tw_66 {Z : State} {a0 : Array Value} (hw : ∀ d ∈ tables_1, d.before a0 Z = true) : (Jvm.Cond.methodLink "java/lang/String" (47 : Nat) ({ cls := "java/lang/StringUTF16", name := "coderFromArrayLen", desc := "([BI)B" } : Jvm.MethodName)).before a0 Z = true := hw _ (List.mem_of_getElem? (i := 66) rfl)
theorem tw_67 {Z : State} {a0 : Array Value} (hw : ∀ d ∈ tables_1, d.before a0 Z = true) : (Jvm.Cond.static ({ cls := "java/lang/StringUTF16", name := "coderFromArrayLen", desc := "([BI)B" } : Jvm.MethodName)).before a0 Z = true := hw _ (List.mem_of_getElem? (i := 67) rfl)
theorem tw_68 {Z : State} {a0 : Array Value} (hw : ∀ d ∈ tables_1, d.before a0 Z = true) : (Jvm.Cond.code ({ cls := "java/lang/StringUTF16", name := "coderFromArrayLen", desc := "([BI)B" } : Jvm.MethodName) jdk_52_method_15_code (2 : Nat) (Option.some Jvm.ClassFile.FieldType.byte)).before a0 Z = true := hw _ (List.mem_of_getElem? (i := 68) rfl)
theorem tw_69 {Z : State} {a0 : Array Value} (hw : ∀ d ∈ tables_1, d.before a0 Z = true) : (Jvm.Cond.methodLink "com/example/rockhopper/rockhopper/model/ValidatorsEqualsPinLaw" (33 : Nat) ({ cls := "com/example/rockhopper/rockhopper/model/ValidatorsEqualsPinLaw", name := "same", desc := "(II)Z" } : Jvm.MethodName)).before a0 Z = true := hw _ (List.mem_of_getElem? (i := 69) rfl)
theorem tw_70 {Z : State} {a0 : Array Value} (hw : ∀ d ∈ tables_1, d.before a0 Z = true) : (Jvm.Cond.static ({ cls := "com/example/rockhopper/rockhopper/model/ValidatorsEqualsPinLaw", name := "same", desc := "(II)Z" } : Jvm.MethodName)).before a0 Z = true := hw _ (List.mem_of_getElem? (i := 70) rfl)
theorem tw_71 {Z : State} {a0 : Array Value} (hw : ∀ d ∈ tables_1, d.before a0 Z = true) : (Jvm.Cond.code ({ cls := "com/example/rockhopper/rockhopper/model/ValidatorsEqualsPinLaw", name := "same", desc := "(II)Z" } : Jvm.MethodName) method_3_code (4 : Nat) (Option.some Jvm.ClassFile.FieldType.boolean)).before a0 Z = true := hw _ (List.mem_of_getElem? (i := 71) rfl)
theorem tw_72 {Z : State} {a0 : Array Value} (hw : ∀ d ∈ tables_1, d.before a0 Z = true) : (Jvm.Cond.methodLink "java/util/Objects" (14 : Nat) ({ cls := "java/lang/Object", name := "equals", desc := "(Ljava/lang/Object;)Z" } : Jvm.MethodName)).before a0 Z = true := hw _ (List.mem_of_getElem? (i := 72) rfl)
theorem tw_73 {Z : State} {a0 : Array Value} (hw : ∀ d ∈ tables_1, d.before a0 Z = true) : (Jvm.Cond.declares ({ cls := "java/lang/Object", name := "equals", desc := "(Ljava/lang/Object;)Z" } : Jvm.MethodName)).before a0 Z = true := hw _ (List.mem_of_getElem? (i := 73) rfl)
theorem tw_75 {Z : State} {a0 : Array Value} (hw : ∀ d ∈ tables_1, d.before a0 Z = true) : (Jvm.Cond.selects "java/lang/String" ({ cls := "java/lang/Object", name := "equals", desc := "(Ljava/lang/Object;)Z" } : Jvm.MethodName) ({ cls := "java/lang/String", name := "equals", desc := "(Ljava/lang/Object;)Z" } : Jvm.MethodName)).before a0 Z = true := hw _ (List.mem_of_getElem? (i := 75) rfl)
theorem tw_76 {Z : State} {a0 : Array Value} (hw : ∀ d ∈ tables_1, d.before a0 Z = true) : (Jvm.Cond.instanceMethod ({ cls := "java/lang/String", name := "equals", desc := "(Ljava/lang/Object;)Z" } : Jvm.MethodName)).before a0 Z = true := hw _ (List.mem_of_getElem? (i := 76) rfl)
theorem tw_77 {Z : State} {a0 : Array Value} (hw : ∀ d ∈ tables_1, d.before a0 Z = true) : (Jvm.Cond.code ({ cls := "java/lang/String", name := "equals", desc := "(Ljava/lang/Object;)Z" } : Jvm.MethodName) jdk_42_method_66_code (3 : Nat) (Option.some Jvm.ClassFile.FieldType.boolean)).before a0 Z = true := hw _ (List.mem_of_getElem? (i := 77) rfl)
theorem tw_78 {Z : State} {a0 : Array Value} (hw : ∀ d ∈ tables_1, d.before a0 Z = true) : (Jvm.Cond.classLink "java/lang/String" (10 : Nat) "java/lang/String").before a0 Z = true := hw _ (List.mem_of_getElem? (i := 78) rfl)
theorem tw_79 {Z : State} {a0 : Array Value} (hw : ∀ d ∈ tables_1, d.before a0 Z = true) : (Jvm.Cond.methodLink "java/lang/String" (541 : Nat) ({ cls := "java/lang/StringLatin1", name := "equals", desc := "([B[B)Z" } : Jvm.MethodName)).before a0 Z = true := hw _ (List.mem_of_getElem? (i := 79) rfl)
theorem tw_80 {Z : State} {a0 : Array Value} (hw : ∀ d ∈ tables_1, d.before a0 Z = true) : (Jvm.Cond.static ({ cls := "java/lang/StringLatin1", name := "equals", desc := "([B[B)Z" } : Jvm.MethodName)).before a0 Z = true := hw _ (List.mem_of_getElem? (i := 80) rfl)
theorem tw_81 {Z : State} {a0 : Array Value} (hw : ∀ d ∈ tables_1, d.before a0 Z = true) : (Jvm.Cond.initialized "java/lang/StringLatin1").before a0 Z = true := hw _ (List.mem_of_getElem? (i := 81) rfl)
theorem tw_82 {Z : State} {a0 : Array Value} (hw : ∀ d ∈ tables_1, d.before a0 Z = true) : (Jvm.Cond.code ({ cls := "java/lang/StringLatin1", name := "equals", desc := "([B[B)Z" } : Jvm.MethodName) jdk_43_method_13_code (3 : Nat) (Option.some Jvm.ClassFile.FieldType.boolean)).before a0 Z = true := hw _ (List.mem_of_getElem? (i := 82) rfl)
theorem tw_83 {Z : State} {a0 : Array Value} (hw : ∀ d ∈ tables_1, d.before a0 Z = true) : (Jvm.Cond.classLink "java/lang/Integer" (1 : Nat) "java/lang/Integer").before a0 Z = true := hw _ (List.mem_of_getElem? (i := 83) rfl)
theorem tw_84 {Z : State} {a0 : Array Value} (hw : ∀ d ∈ tables_1, d.before a0 Z = true) : (Jvm.Cond.instantiable "java/lang/Integer" (1 : Nat)).before a0 Z = true := hw _ (List.mem_of_getElem? (i := 84) rfl)
theorem tw_85 {Z : State} {a0 : Array Value} (hw : ∀ d ∈ tables_1, d.before a0 Z = true) : (Jvm.Cond.methodLink "java/lang/Integer" (199 : Nat) ({ cls := "java/lang/Integer", name := "<init>", desc := "(I)V" } : Jvm.MethodName)).before a0 Z = true := hw _ (List.mem_of_getElem? (i := 85) rfl)
theorem tw_86 {Z : State} {a0 : Array Value} (hw : ∀ d ∈ tables_1, d.before a0 Z = true) : (Jvm.Cond.instanceMethod ({ cls := "java/lang/Integer", name := "<init>", desc := "(I)V" } : Jvm.MethodName)).before a0 Z = true := hw _ (List.mem_of_getElem? (i := 86) rfl)
theorem tw_88 {Z : State} {a0 : Array Value} (hw : ∀ d ∈ tables_1, d.before a0 Z = true) : (Jvm.Cond.code ({ cls := "java/lang/Integer", name := "<init>", desc := "(I)V" } : Jvm.MethodName) jdk_33_method_23_code (2 : Nat) (Option.none : Option Jvm.ClassFile.FieldType)).before a0 Z = true := hw _ (List.mem_of_getElem? (i := 88) rfl)
theorem tw_89 {Z : State} {a0 : Array Value} (hw : ∀ d ∈ tables_1, d.before a0 Z = true) : (Jvm.Cond.methodLink "java/lang/Integer" (202 : Nat) ({ cls := "java/lang/Number", name := "<init>", desc := "()V" } : Jvm.MethodName)).before a0 Z = true := hw _ (List.mem_of_getElem? (i := 89) rfl)
theorem tw_90 {Z : State} {a0 : Array Value} (hw : ∀ d ∈ tables_1, d.before a0 Z = true) : (Jvm.Cond.instanceMethod ({ cls := "java/lang/Number", name := "<init>", desc := "()V" } : Jvm.MethodName)).before a0 Z = true := hw _ (List.mem_of_getElem? (i := 90) rfl)
theorem tw_93 {Z : State} {a0 : Array Value} (hw : ∀ d ∈ tables_1, d.before a0 Z = true) : (Jvm.Cond.initialized "java/lang/Number").before a0 Z = true := hw _ (List.mem_of_getElem? (i := 93) rfl)
theorem tw_94 {Z : State} {a0 : Array Value} (hw : ∀ d ∈ tables_1, d.before a0 Z = true) : (Jvm.Cond.code ({ cls := "java/lang/Number", name := "<init>", desc := "()V" } : Jvm.MethodName) jdk_18_method_1_code (1 : Nat) (Option.none : Option Jvm.ClassFile.FieldType)).before a0 Z = true := hw _ (List.mem_of_getElem? (i := 94) rfl)
theorem tw_95 {Z : State} {a0 : Array Value} (hw : ∀ d ∈ tables_1, d.before a0 Z = true) : (Jvm.Cond.methodLink "java/lang/Number" (1 : Nat) ({ cls := "java/lang/Object", name := "<init>", desc := "()V" } : Jvm.MethodName)).before a0 Z = true := hw _ (List.mem_of_getElem? (i := 95) rfl)
theorem tw_96 {Z : State} {a0 : Array Value} (hw : ∀ d ∈ tables_1, d.before a0 Z = true) : (Jvm.Cond.fieldLink "java/lang/Integer" (205 : Nat) "java/lang/Integer" "value" "I").before a0 Z = true := hw _ (List.mem_of_getElem? (i := 96) rfl)
theorem tw_97 {Z : State} {a0 : Array Value} (hw : ∀ d ∈ tables_1, d.before a0 Z = true) : (Jvm.Cond.laysFinal "java/lang/Integer" "java/lang/Integer" "value" "I").before a0 Z = true := hw _ (List.mem_of_getElem? (i := 97) rfl)
section OwnStart
variable {args : Array Value} {first s : State} {o : Option Outcome} {idx : List Nat} {t : Term}
theorem own_eqI {k : Int32} (h : (Jvm.Cond.eq t (Term.int k)).value args first o s idx = some true) : t.eval args first o idx s = some (.int k) := by
  cases ht : t.eval args first o idx s with
  | none => simp [Cond.value, ht] at h
  | some x => cases x <;> simp [Cond.value, ht, Term.eval] at h; subst h; rfl
theorem own_len {a : Addr} {cl : Cell} {ty : FieldType} {n : Int32} (ev : t.eval args s none [] s = some (.ref a)) (A : Arr s s.heap a cl ty) (h : (Jvm.Cond.eq (.length t) (Term.int n)).value args s none s [] = some true) : cl.slots.size < 2 ^ 31 ∧ cl.slots.size.toInt32 = n := by
  have h1 := own_eqI h
  have h2 : s.arrayAt? a = some cl := Arr.fin (Vm.Alike.refl _) A
  simp only [Term.eval, ev, Bind.bind, Option.bind, h2, Pure.pure] at h1
  split at h1
  · exact ⟨by assumption, by simpa using h1⟩
  · simp at h1
end OwnStart

section OwnAuto
theorem own_rlit {k : Int32} {n : Int} (h : k.toInt = n) : n ≤ k.toInt ∧ k.toInt ≤ n := by omega
theorem own_rand {x m z : Int32} {k : Int} (h : (x &&& m) = z) (hm : 0 ≤ m.toInt ∧ m.toInt = k) : 0 ≤ z.toInt ∧ z.toInt ≤ k := by subst h; have := c_and x m hm.1; omega
theorem own_ri2b {x z : Int32} (h : (x.toInt8.toInt32) = z) : -128 ≤ z.toInt ∧ z.toInt ≤ 127 := by subst h; have := c_i2b x; omega
theorem own_rushr {x q z : Int32} {k : Nat} {B : Int} (h : ((x.toUInt32 >>> (q &&& 31).toUInt32).toInt32) = z) (hk : q.toBitVec.toNat % 32 = k) (h0 : 0 < k) (hB : (4294967295 : Int) / ((2 ^ k : Nat) : Int) ≤ B) : 0 ≤ z.toInt ∧ z.toInt ≤ B := by
  subst h
  rw [c_iushr x q k hk h0]
  have h1 : 0 ≤ x.toInt % 4294967296 := Int.emod_nonneg _ (by decide)
  have h2 : x.toInt % 4294967296 ≤ 4294967295 := by have := Int.emod_lt_of_pos x.toInt (by decide : (0 : Int) < 4294967296); omega
  have hp : (0 : Int) < ((2 ^ k : Nat) : Int) := Int.ofNat_lt.mpr (Nat.two_pow_pos k)
  exact ⟨Int.ediv_nonneg h1 (Int.le_of_lt hp), Int.le_trans (Int.ediv_le_ediv hp h2) hB⟩
theorem own_i2c_id {x : Int32} {a b : Int} (hr : a ≤ x.toInt ∧ x.toInt ≤ b) (ha : 0 ≤ a) (hb : b ≤ 65535) : (x.toUInt32.toUInt16.toUInt32.toInt32) = x := by apply Int32.toInt_inj.mp; have := c_i2c x; omega
theorem own_i2b_id {x : Int32} {a b : Int} (hr : a ≤ x.toInt ∧ x.toInt ≤ b) (ha : -128 ≤ a) (hb : b ≤ 127) : (x.toInt8.toInt32) = x := by apply Int32.toInt_inj.mp; have := c_i2b x; omega
theorem own_nar_byte {x : Int32} {a b : Int} (hr : a ≤ x.toInt ∧ x.toInt ≤ b) (ha : -128 ≤ a) (hb : b ≤ 127) : nar .byte x = x := own_i2b_id hr ha hb
theorem own_nar_char {x : Int32} {a b : Int} (hr : a ≤ x.toInt ∧ x.toInt ≤ b) (ha : 0 ≤ a) (hb : b ≤ 65535) : nar .char x = x := own_i2c_id hr ha hb
theorem own_nlt_r {x y : Int32} {a b c d : Int} (hx : a ≤ x.toInt ∧ x.toInt ≤ b) (hy : c ≤ y.toInt ∧ y.toInt ≤ d) (h : d ≤ a) : ¬ x < y := by rw [Int32.lt_iff_toInt_lt]; omega
theorem own_lat_eq {c d b e : Int32} (hb : c.toInt8.toInt32 = b) (he : d.toInt8.toInt32 = e) (h : c = d) : b = e := by subst hb he h; rfl
theorem own_lat_ne {c d b e : Int32} {l1 h1 l2 h2 : Int} (hb : c.toInt8.toInt32 = b) (he : d.toInt8.toInt32 = e) (rc : l1 ≤ c.toInt ∧ c.toInt ≤ h1) (rd : l2 ≤ d.toInt ∧ d.toInt ≤ h2) (hh : 0 ≤ l1 ∧ h1 ≤ 255 ∧ 0 ≤ l2 ∧ h2 ≤ 255) (h : ¬ c = d) : ¬ b = e := fun q => h (by
  subst hb he
  apply Int32.toInt_inj.mp
  have q' := congrArg Int32.toInt q
  have e1 := c_i2b c; have e2 := c_i2b d
  omega)
end OwnAuto

def EL0 : List (String × Nat) := [("java/lang/String", 7)]
theorem own_EW {Z : State} {a0 : Array Value} (hw : ∀ d ∈ tables_1, d.before a0 Z = true) : EW Z a0 EL0 := (EW.cons (tw_21 hw) (by decide) EW.nil)
theorem own_SA {Z : State} {a0 : Array Value} (hw : ∀ d ∈ tables_1, d.before a0 Z = true) : ∀ a ∈ Bundle.stringAtoms, a.before a0 Z = true := fun a ha => hw a ((by decide +kernel : ∀ w ∈ Bundle.stringAtoms, w ∈ tables_1) a ha)
def Glob (Z : State) (ga3 : Addr) (gz9 : Int32) (gv13 : Value) (gk17 : ClassId) (gvs18 : List Value) : Prop := Sta Z Z.heap "java/lang/Integer$IntegerCache" "high" "I" (.int 127) ∧ Sta Z Z.heap "java/lang/Integer$IntegerCache" "cache" "[Ljava/lang/Integer;" (.ref ga3) ∧ Exa Z Z.heap ga3 "[Ljava/lang/Integer;" ∧ Sta Z Z.heap "java/lang/String" "COMPACT_STRINGS" "Z" (.int gz9) ∧ Sta Z Z.heap "jdk/internal/util/Preconditions" "SIOOBE_FORMATTER" "Ljava/util/function/BiFunction;" gv13 ∧ Arv Z Z.heap ga3 gk17 (.object "java/lang/Integer") (256 : Int32) gvs18 .null ∧ ¬ gz9 = (0 : Int32) ∧ (∀ j : Int32, ¬ j < 0 → j < 256 → ∃ b : Addr, gvs18.getD j.toNatClampNeg .null = .ref b ∧ Exa Z Z.heap b "java/lang/Integer") ∧ gv13.isRef = true
def own_key (x : Int32) : Option (List Int32) := if (x &&& (3 : Int32)) = 3 then none else if (x &&& (3 : Int32)) = 0 then some [] else if (x &&& (3 : Int32)) = 1 then some [((((x.toUInt32 >>> ((2 : Int32) &&& 31).toUInt32).toInt32) &&& (255 : Int32)).toInt8.toInt32)] else some [((((x.toUInt32 >>> ((2 : Int32) &&& 31).toUInt32).toInt32) &&& (255 : Int32)).toInt8.toInt32), ((((x.toUInt32 >>> ((10 : Int32) &&& 31).toUInt32).toInt32) &&& (255 : Int32)).toInt8.toInt32)]
theorem own_key3 {x : Int32} (h : (x &&& (3 : Int32)) = 3) : own_key x = none := by unfold own_key; rw [if_pos h]
theorem own_key0 {x : Int32} (h : (x &&& (3 : Int32)) = 0) : own_key x = some [] := by unfold own_key; rw [h, if_neg (by decide), if_pos rfl]
theorem own_key1 {x a b c : Int32} (h : (x &&& (3 : Int32)) = 1) (e1 : ((x.toUInt32 >>> ((2 : Int32) &&& 31).toUInt32).toInt32) = a) (e2 : (a &&& (255 : Int32)) = b) (e3 : b.toInt8.toInt32 = c) : own_key x = some [c] := by subst e1 e2 e3; unfold own_key; rw [h, if_neg (by decide), if_neg (by decide), if_pos rfl]
theorem own_key2 {x a b c a' b' c' : Int32} (h : (x &&& (3 : Int32)) = 2) (e1 : ((x.toUInt32 >>> ((2 : Int32) &&& 31).toUInt32).toInt32) = a) (e2 : (a &&& (255 : Int32)) = b) (e3 : b.toInt8.toInt32 = c) (e4 : ((x.toUInt32 >>> ((10 : Int32) &&& 31).toUInt32).toInt32) = a') (e5 : (a' &&& (255 : Int32)) = b') (e6 : b'.toInt8.toInt32 = c') : own_key x = some [c, c'] := by subst e1 e2 e3 e4 e5 e6; unfold own_key; rw [h, if_neg (by decide), if_neg (by decide), if_neg (by decide)]
theorem own_getDI' (l : List Int32) (n : Nat) (d : Int32) : (l.map Value.int).getD n (.int d) = .int (l.getD n d) := by
  induction l generalizing n with
  | nil => rfl
  | cons a r ih => cases n with
    | zero => rfl
    | succ k => exact ih k
theorem own_ofN {i : Nat} (h : i < 2 ^ 31) : (Int32.ofNat i).toInt = i := Int32.toInt_ofNat_of_lt h
theorem own_ofN0 {i : Nat} (h : i < 2 ^ 31) : ¬ Int32.ofNat i < 0 := by rw [Int32.lt_iff_toInt_lt, own_ofN h]; show ¬ (i : Int) < 0; omega
theorem own_ofNc {i : Nat} (h : i < 2 ^ 31) : (Int32.ofNat i).toNatClampNeg = i := by
  have q := nat_of (own_ofN0 h); rw [own_ofN h] at q; omega
theorem own_ofNlt {i : Nat} {z : Int32} (h : i < 2 ^ 31) (q : (i : Int) < z.toInt) : Int32.ofNat i < z := by rw [Int32.lt_iff_toInt_lt, own_ofN h]; exact q
theorem own_ofNge {i : Nat} {z : Int32} (h : i < 2 ^ 31) (q : z.toInt ≤ (i : Int)) : ¬ Int32.ofNat i < z := by rw [Int32.lt_iff_toInt_lt, own_ofN h]; omega
theorem own_ofNs (i : Nat) : Int32.ofNat i + Int32.ofInt 1 = Int32.ofNat (i + 1) := by rw [Int32.ofNat_add]; rfl
theorem own_ltN {z : Int32} {n : Nat} (h : z.toInt = n) : n < 2 ^ 31 := by have := rng32 z; omega
theorem own_takeS {us vs : List Int32} {i : Nat} (h1 : i < us.length) (h2 : i < vs.length) (ht : us.take i = vs.take i) (he : us.getD i 0 = vs.getD i 0) : us.take (i + 1) = vs.take (i + 1) := by
  rw [List.take_succ, List.take_succ, ht]
  simp only [List.getD_eq_getElem?_getD, List.getElem?_eq_getElem h1, List.getElem?_eq_getElem h2, Option.getD_some] at he
  rw [List.getElem?_eq_getElem h1, List.getElem?_eq_getElem h2, he]
theorem own_lc {α : Type} {a b : α} {x y : List α} (h : a = b) (q : x = y) : a :: x = b :: y := by rw [h, q]
theorem own_l1 {α : Type} {a b : α} {x y : List α} (h : ¬ a = b) : ¬ a :: x = b :: y := fun q => h (List.cons.inj q).1
theorem own_l2 {α : Type} {a b : α} {x y : List α} (h : ¬ x = y) : ¬ a :: x = b :: y := fun q => h (List.cons.inj q).2
theorem own_cache {Z : State} {a : Addr} {c : Cell} {K d : String} {z : Int32} {val : Int32 → Value} (F : Bxs Z a c K d z val) : ∃ vs : List Value, Arv Z Z.heap a c.cls (.object K) z vs .null ∧ ∀ j : Int32, ¬ j < 0 → j < z → ∃ b : Addr, vs.getD j.toNatClampNeg .null = .ref b ∧ Exa Z Z.heap b K := by
  obtain ⟨A, S, hz, H⟩ := F
  have hg : ∀ i, i < c.slots.size → c.slots[i]? = some (c.slots.toList.getD i .null) := fun i hi => by simp [List.getD_eq_getElem?_getD, hi]
  have hn := nat_of hz
  have hr := rng32 z
  refine ⟨c.slots.toList, ⟨c, A, rfl, S, hz, fun i hi => hg i hi, fun i hi => ?_⟩, fun j h1 h2 => ?_⟩
  · have hi2 : i < 2 ^ 31 := by omega
    obtain ⟨b, hb, -⟩ := H (Int32.ofNat i) (by rw [own_ofNc hi2]; exact fun q => q.elim (own_ofN0 hi2) (fun q => absurd q (by omega)))
    rw [own_ofNc hi2, hg i hi] at hb
    rw [Option.some.inj hb]; rfl
  · have hj := nat_of h1
    rw [Int32.lt_iff_toInt_lt] at h2
    have hlt : j.toNatClampNeg < c.slots.size := by omega
    obtain ⟨b, hb, hE, -⟩ := H j (fun q => q.elim h1 (fun q => absurd q (by omega)))
    rw [hg _ hlt] at hb
    exact ⟨b, Option.some.inj hb, hE⟩
theorem own_box {p z : Int32} (h1 : ¬ p < -128) (h2 : ¬ 127 < p) (e : p + 128 = z) : ¬ z < 0 ∧ z < 256 := by
  subst e
  rw [Int32.lt_iff_toInt_lt] at h1 h2
  have e := c_iadd p 128
  have r := rng32 p
  have r2 := rng32 (p + 128)
  have a1 : (-128 : Int32).toInt = -128 := rfl
  have a2 : (127 : Int32).toInt = 127 := rfl
  have a3 : (128 : Int32).toInt = 128 := rfl
  have a4 : (0 : Int32).toInt = 0 := rfl
  have a5 : (256 : Int32).toInt = 256 := rfl
  rw [Int32.lt_iff_toInt_lt, Int32.lt_iff_toInt_lt]
  omega
theorem d1_0 : decode method_2_code 0 = .ok (.iload_n 0, 1) := by decide +kernel
theorem d1_1 : decode method_2_code 1 = .ok (.iconst 3, 1) := by decide +kernel
theorem d1_2 : decode method_2_code 2 = .ok (.iand, 1) := by decide +kernel
theorem d1_3 : decode method_2_code 3 = .ok (.istore_n 1, 1) := by decide +kernel
theorem own_cs_0_3 {z : Int32} (h : 0 ≤ z.toInt ∧ z.toInt ≤ 3) : z = (0 : Int32) ∨ z = (1 : Int32) ∨ z = (2 : Int32) ∨ z = (3 : Int32) := by
  have q : z.toInt = 0 ∨ z.toInt = 1 ∨ z.toInt = 2 ∨ z.toInt = 3 := by omega
  rcases q with h | h | h | h <;> simp [← Int32.toInt_inj, h]
theorem d1_4 : decode method_2_code 4 = .ok (.iload_n 1, 1) := by decide +kernel
theorem d1_5 : decode method_2_code 5 = .ok (.iconst 3, 1) := by decide +kernel
theorem d1_6 : decode method_2_code 6 = .ok (.if_icmp .ne 5, 3) := by decide +kernel
theorem d1_11 : decode method_2_code 11 = .ok (.iload_n 1, 1) := by decide +kernel
theorem d1_12 : decode method_2_code 12 = .ok (.newarray .char, 2) := by decide +kernel
theorem d1_14 : decode method_2_code 14 = .ok (.astore_n 2, 1) := by decide +kernel
theorem d1_15 : decode method_2_code 15 = .ok (.iload_n 1, 1) := by decide +kernel
theorem d1_16 : decode method_2_code 16 = .ok (.iconst 1, 1) := by decide +kernel
theorem d1_17 : decode method_2_code 17 = .ok (.if_icmp .lt 14, 3) := by decide +kernel
theorem d1_31 : decode method_2_code 31 = .ok (.iload_n 1, 1) := by decide +kernel
theorem d1_32 : decode method_2_code 32 = .ok (.iconst 2, 1) := by decide +kernel
theorem d1_33 : decode method_2_code 33 = .ok (.if_icmp .lt 15, 3) := by decide +kernel
theorem d1_48 : decode method_2_code 48 = .ok (.new 7, 3) := by decide +kernel
theorem d1_51 : decode method_2_code 51 = .ok (.dup, 1) := by decide +kernel
theorem d1_52 : decode method_2_code 52 = .ok (.aload_n 2, 1) := by decide +kernel
theorem d2_0 : decode jdk_42_method_3_code 0 = .ok (.aload_n 0, 1) := by decide +kernel
theorem d2_1 : decode jdk_42_method_3_code 1 = .ok (.aload_n 1, 1) := by decide +kernel
theorem d2_2 : decode jdk_42_method_3_code 2 = .ok (.iconst 0, 1) := by decide +kernel
theorem d2_3 : decode jdk_42_method_3_code 3 = .ok (.aload_n 1, 1) := by decide +kernel
theorem d2_4 : decode jdk_42_method_3_code 4 = .ok (.arraylength, 1) := by decide +kernel
theorem d2_5 : decode jdk_42_method_3_code 5 = .ok (.aconst_null, 1) := by decide +kernel
theorem d3_0 : decode jdk_42_method_149_code 0 = .ok (.aload_n 0, 1) := by decide +kernel
theorem d3_1 : decode jdk_42_method_149_code 1 = .ok (.invokespecial 1, 3) := by decide +kernel
theorem d3_4 : decode jdk_42_method_149_code 4 = .ok (.iload_n 3, 1) := by decide +kernel
theorem d3_5 : decode jdk_42_method_149_code 5 = .ok (.ifCond .ne 22, 3) := by decide +kernel
theorem d3_8 : decode jdk_42_method_149_code 8 = .ok (.aload_n 0, 1) := by decide +kernel
theorem d3_9 : decode jdk_42_method_149_code 9 = .ok (.ldc 7, 2) := by decide +kernel
theorem d3_11 : decode jdk_42_method_149_code 11 = .ok (.getfield 9, 3) := by decide +kernel
theorem d3_14 : decode jdk_42_method_149_code 14 = .ok (.putfield 9, 3) := by decide +kernel
theorem d3_17 : decode jdk_42_method_149_code 17 = .ok (.aload_n 0, 1) := by decide +kernel
theorem d3_18 : decode jdk_42_method_149_code 18 = .ok (.ldc 7, 2) := by decide +kernel
theorem d3_20 : decode jdk_42_method_149_code 20 = .ok (.getfield 15, 3) := by decide +kernel
theorem d3_23 : decode jdk_42_method_149_code 23 = .ok (.putfield 15, 3) := by decide +kernel
theorem d3_26 : decode jdk_42_method_149_code 26 = .ok (.return_, 1) := by decide +kernel
theorem ef_3_RRIIN (m : MethodId) (x0 : Addr) (x1 : Addr) (x2 : Int32) (x3 : Int32)  : entryFrame m #[(.ref x0), (.ref x1), (.int x2), (.int x3), .null] 6 = mkF m 0 #[.val (.ref x0), .val (.ref x1), .val (.int x2), .val (.int x3), .val .null, .unset] [] := by first | (simp [entryFrame, mkF, argsToLocals, Value.category]; done) | rfl
theorem pn_c0 : plainName "java/lang/String" = true := by first | (simp [plainName, overriddenIn]; done) | decide +kernel
-- java/lang/String.init
set_option maxRecDepth 65536 in
set_option maxHeartbeats 4000000 in
theorem au_4 (l : Launch) (Z : State) (a0 : Array Value) (hw : ∀ d ∈ tables_1, d.before a0 Z = true) (x0 : Addr) (x1 : Addr) (x2 : Addr) (ga3 : Addr) (gz9 : Int32) (gv13 : Value) (gk17 : ClassId) (gvs18 : List Value) (h0 : Heap) (n0 : Nat) (Z0 : n0 ≤ h0.size) (G : Glob Z ga3 gz9 gv13 gk17 gvs18) (P0 : Exa Z h0 x0 "java/lang/String") (P1 : Fld Z h0 x0 "java/lang/String" "coder" "B" (.int 0)) (P2 : Fld Z h0 x0 "java/lang/String" "value" "[B" .null) (P5 : Exa Z h0 x2 "com/example/rockhopper/rockhopper/model/Validators") (g_x0 : n0 ≤ x0) :
    CtrW l Z EL0 (⟨"java/lang/String", "<init>", "([CIILjava/lang/Void;)V"⟩ : MethodName) jdk_42_method_149_code 6 none ({ frames := 1, cells := 4, slots := 8, locals := 12 } : Room) #[(.ref x0), (.ref x1), (.int 0), (.int 0), .null] h0 [x0, x2] (fun v vm h L => ∃ (y0 : Addr) (y1 : ClassId), v = none ∧ Fr n0 L ∧ Keep h0 h [x0] ∧ y0 ≠ x2 ∧ Exa Z h x0 "java/lang/String" ∧ Fld Z h x0 "java/lang/String" "coder" "B" (.int 0) ∧ Fld Z h x0 "java/lang/String" "value" "[B" (.ref y0) ∧ Arv Z h y0 y1 .byte (0 : Int32) [] (.int (0 : Int32))) := by
  refine CtrW.of (plainFor_of_name pn_c0) ?_
  intro p e s m below meth c T0 hx hZ hby hml hown hnm hret hlk e0 es hS0 C0 hsf X0
  have G' := G
  obtain ⟨-, -, G2, -, -, -, -, -, -⟩ := G'
  refine Go.cast (ef_3_RRIIN m x0 x1 (0 : Int32) (0 : Int32)) ?_
  generalize hFF : EndW Z EL0 s _ _ _ = FF
  refine Go.aloadN X0 hx (pc' := 1) rfl (hb hby d3_0) rfl rfl ?_
  refine Go.initO X0 hx hZ hown (tw_18 hw) (tw_19 hw) (tw_20 hw) e0 (by decide) (W := 0) (by rw [hml]; rfl) (Nat.le_of_eq rfl) (by decide) (pc' := 4) rfl (hb hby d3_1) ?_
  intro T1 e1 X1
  refine Go.iloadN X1 hx (pc' := 5) rfl (hb hby d3_4) rfl ?_
  refine Go.ifNo X1 hx (pc' := 8) rfl (hb hby d3_5) (by decide) ?_
  refine Go.aloadN X1 hx (pc' := 9) rfl (hb hby d3_8) rfl rfl ?_
  refine Go.ldcCH X1 hx hZ hown (tw_21 hw) (own_SA hw) e1 hS0 (Nat.le_refl _) (own_EW hw) (List.mem_of_getElem? (i := 0) rfl) C0.1 (vs := []) (z := (0 : Int32)) (by decide) (by decide) rfl (n := 0) (by decide) (by decide) (by decide) (by decide) (pc' := 11) rfl (hb hby d3_9) ?_
  intro a2 T2 h2 j2 b2 k2 e2 E2 S2 i2 Z2 O2 A2 F2 G2 V2 C2 D2 X2
  refine Go.getF X2 hx Z2 O2 (host := "") (Or.inl (tw_27 hw)) Via.refl e2 G2 (pc' := 14) rfl (hb hby d3_11) ?_
  intro T3 e3 X3
  have fk4 : Fld Z h2 x0 "java/lang/String" "value" "[B" .null := (P2.ext E2)
  have fk5 : Exa Z h2 x0 "java/lang/String" := (P0.ext E2)
  refine Go.putF X3 hx Z2 O2 (host := "") (Or.inl (tw_27 hw)) Via.refl e3 fk4 fk5 (Or.inr ⟨(tw_23 hw), rfl, hnm⟩) (tw_9 hw) (ty := (.array .byte)) (by decide) rfl rfl (pc' := 17) rfl (hb hby d3_14) ?_
  intro T6 h6 e6 W6 F6 X6
  have N6 := Fr.snoc X6 (Fr.nil n0) g_x0
  refine Go.aloadN X6 hx (pc' := 18) rfl (hb hby d3_17) rfl rfl ?_
  have C7 : CHr Z EL0 s.vm s.heap T2.vm h2 := (C0.trans C2)
  have fk8 : Safe Z EL0 T2.vm h2 x0 := (C2.safe P0.lt (hsf _ (List.mem_of_getElem? (i := 0) rfl)))
  have C9 : CHr Z EL0 s.vm s.heap T2.vm h6 := (C7.trans (CHr.wr W6 fk8 C7.1))
  have hk10 := (Nat.le_trans i2 (Keep.of_wr W6).1)
  refine Go.ldcCH X6 hx Z2 O2 (tw_21 hw) (own_SA hw) e6 S2 hk10 (own_EW hw) (List.mem_of_getElem? (i := 0) rfl) C9.1 (vs := []) (z := (0 : Int32)) (by decide) (by decide) rfl (n := 0) (by decide) (by decide) (by decide) (by decide) (pc' := 20) rfl (hb hby d3_18) ?_
  intro a11 T11 h11 j11 b11 k11 e11 E11 S11 i11 Z11 O11 A11 F11 G11 V11 C11 D11 X11
  refine Go.getF X11 hx Z11 O11 (host := "") (Or.inl (tw_28 hw)) Via.refl e11 F11 (pc' := 23) rfl (hb hby d3_20) ?_
  intro T12 e12 X12
  have fk13 : Fld Z h11 x0 "java/lang/String" "coder" "B" (.int 0) := (((P1.ext E2).other W6 (Or.inr (slot_ne (Or.inr (tw_24 hw)) (Or.inr (tw_23 hw)) (by decide) (t := .byte) (t' := (.array .byte)) (by decide) (by decide)))).ext E11)
  have fk14 : Exa Z h11 x0 "java/lang/String" := ((fk5.wr W6).ext E11)
  refine Go.putFN X12 hx Z11 O11 (tw_28 hw) Via.refl e12 fk13 fk14 (Or.inr ⟨(tw_24 hw), rfl, hnm⟩) (tw_9 hw) (ty := .byte) (v' := (.int 0)) (by decide) (by decide) (by decide) (pc' := 26) rfl (hb hby d3_23) ?_
  intro T15 h15 e15 W15 F15 X15
  have N15 := Fr.snoc X15 N6 g_x0
  subst hFF
  have C16 : CHr Z EL0 s.vm s.heap T11.vm h11 := (C9.trans C11)
  have fk17 : Safe Z EL0 T2.vm h6 x0 := (Safe.wr W6 fk8 C7.1 fk8)
  have fk18 : Exa Z h6 x0 "java/lang/String" := (fk5.wr W6)
  have fk19 : Safe Z EL0 T11.vm h11 x0 := (C11.safe fk18.lt fk17)
  have C20 : CHr Z EL0 s.vm s.heap T11.vm h15 := (C16.trans (CHr.wr W15 fk19 C16.1))
  have hk21 := (Nat.le_trans i11 (Keep.of_wr W15).1)
  refine Go.ret0W X15 hx hlk Z11 (own_EW hw) e15 S11 hk21 C20 hret (hb hby d3_26) (by decide) (by decide) (fun hat => ?_)
  have fk22 : Exa Z h15 x0 "java/lang/String" := (fk14.wr W15)
  have fk23 : Fld Z h15 x0 "java/lang/String" "value" "[B" (.ref b2) := ((F6.ext E11).other W15 (Or.inr (slot_ne (Or.inr (tw_23 hw)) (Or.inr (tw_24 hw)) (by decide) (t := (.array .byte)) (t' := .byte) (by decide) (by decide))))
  have fk24 := (((V2.other W6 (Ne.symm (D2 x0 fk8).2)).ext E11).other W15 (Ne.symm (D2 x0 fk8).2))
  have Kp25 : Keep h0 h2 [x0] := ((Keep.refl h0 [x0]).ext E2)
  have Kp26 : Keep h0 h6 [x0] := (Kp25.wr W6 (Or.inl (List.mem_of_getElem? (i := 0) rfl)))
  have Kp27 : Keep h0 h11 [x0] := (Kp26.ext E11)
  have Kp28 : Keep h0 h15 [x0] := (Kp27.wr W15 (Or.inl (List.mem_of_getElem? (i := 0) rfl)))
  have fk29 : Safe Z EL0 T2.vm h2 x2 := (C2.safe P5.lt (hsf _ (List.mem_of_getElem? (i := 1) rfl)))
  exact ⟨b2, k2, rfl, N15, Kp28, (Ne.symm (D2 x2 fk29).2), fk22, F15, fk23, fk24⟩
theorem pd_0 : parseMethodDescriptor "([CIILjava/lang/Void;)V" = some ⟨[(.array .char), .int, .int, (.object "java/lang/Void")], none⟩ := by decide +kernel
theorem d2_6 : decode jdk_42_method_3_code 6 = .ok (.invokespecial 27, 3) := by decide +kernel
theorem d2_9 : decode jdk_42_method_3_code 9 = .ok (.return_, 1) := by decide +kernel
theorem ef_2_RR (m : MethodId) (x0 : Addr) (x1 : Addr) : entryFrame m #[(.ref x0), (.ref x1)] 2 = mkF m 0 #[.val (.ref x0), .val (.ref x1)] [] := by first | (simp [entryFrame, mkF, argsToLocals, Value.category]; done) | rfl
-- java/lang/String.init
set_option maxRecDepth 65536 in
set_option maxHeartbeats 4000000 in
theorem au_5 (l : Launch) (Z : State) (a0 : Array Value) (hw : ∀ d ∈ tables_1, d.before a0 Z = true) (x0 : Addr) (x1 : Addr) (x2 : Addr) (kk0 : ClassId) (ga3 : Addr) (gz9 : Int32) (gv13 : Value) (gk17 : ClassId) (gvs18 : List Value) (h0 : Heap) (n0 : Nat) (Z0 : n0 ≤ h0.size) (G : Glob Z ga3 gz9 gv13 gk17 gvs18) (P0 : Exa Z h0 x0 "java/lang/String") (P1 : Fld Z h0 x0 "java/lang/String" "coder" "B" (.int 0)) (P2 : Fld Z h0 x0 "java/lang/String" "value" "[B" .null) (P3 : Arv Z h0 x1 kk0 .char (0 : Int32) [] (.int 0)) (P5 : Exa Z h0 x2 "com/example/rockhopper/rockhopper/model/Validators") (g_x0 : n0 ≤ x0) :
    CtrW l Z EL0 (⟨"java/lang/String", "<init>", "([C)V"⟩ : MethodName) jdk_42_method_3_code 2 none ({ frames := 2, cells := 4, slots := 8, locals := 29 } : Room) #[(.ref x0), (.ref x1)] h0 [x0, x2] (fun v vm h L => ∃ (y0 : Addr) (y1 : ClassId), v = none ∧ Fr n0 L ∧ Keep h0 h [x0] ∧ y0 ≠ x2 ∧ Exa Z h x0 "java/lang/String" ∧ Fld Z h x0 "java/lang/String" "coder" "B" (.int 0) ∧ Fld Z h x0 "java/lang/String" "value" "[B" (.ref y0) ∧ Arv Z h y0 y1 .byte (0 : Int32) [] (.int (0 : Int32))) := by
  refine CtrW.of (plainFor_of_name pn_c0) ?_
  intro p e s m below meth c T0 hx hZ hby hml hown hnm hret hlk e0 es hS0 C0 hsf X0
  refine Go.cast (ef_2_RR m x0 x1) ?_
  generalize hFF : EndW Z EL0 s _ _ _ = FF
  refine Go.aloadN X0 hx (pc' := 1) rfl (hb hby d2_0) rfl rfl ?_
  refine Go.aloadN X0 hx (pc' := 2) rfl (hb hby d2_1) rfl rfl ?_
  refine Go.iconst X0 hx (pc' := 3) rfl (hb hby d2_2) (v := (0 : Int32)) rfl ?_
  refine Go.aloadN X0 hx (pc' := 4) rfl (hb hby d2_3) rfl rfl ?_
  refine Go.arraylength X0 hx hZ e0 P3 (pc' := 5) rfl (hb hby d2_4) ?_
  refine Go.anull X0 hx (pc' := 6) rfl (hb hby d2_5) ?_
  refine Go.callNW X0 hx hZ hown rfl (tw_14 hw) (tw_15 hw) (tw_17 hw) (by decide) (tw_17 hw) (tw_10 hw) (au_4 l Z a0 hw x0 x1 x2 ga3 gz9 gv13 gk17 gvs18 h0 n0 Z0 G P0 P1 P2 P5 g_x0) (own_EW hw) C0.1 (allS ⟨P0.lt, (hsf _ (List.mem_of_getElem? (i := 0) rfl))⟩ (allS ⟨P5.lt, (hsf _ (List.mem_of_getElem? (i := 1) rfl))⟩ all0)) hS0 (Nat.le_refl _) e0 (a := x0) (argsL := [(.ref x1), (.int 0), (.int 0), .null]) (rest := []) (pc' := 9) rfl (by rw [hml]; rfl) (lenOf pd_0 rfl) rfl rfl (W := 0) (Nat.le_of_eq rfl) (by decide) (by decide) (by decide) (by decide) (hb hby d2_6) ?_
  intro v1 T1 L1 h1 e1 q1 C1 S1 Z1 O1 X1
  obtain ⟨b1_0, k1_0, rfl, N1, K1, n1_0, F1_0, F1_1, F1_2, F1_3⟩ := q1
  show Go _ _ _ _ (T1.setTop (mkF m 9 #[.val (.ref x0), .val (.ref x1)] []))
  subst hFF
  have C2 : CHr Z EL0 s.vm s.heap T1.vm h1 := (C0.trans C1)
  refine Go.ret0W X1 hx hlk Z1 (own_EW hw) e1 S1 (Nat.le_refl _) C2 hret (hb hby d2_9) (by decide) (by decide) (fun hat => ?_)
  have Kp3 : Keep h0 h1 [x0] := ((Keep.refl h0 [x0]).trans K1 (allS (Or.inl (List.mem_of_getElem? (i := 0) rfl)) all0))
  exact ⟨b1_0, k1_0, rfl, (Fr.app (Fr.nil n0) N1), Kp3, n1_0, F1_0, F1_1, F1_2, F1_3⟩
theorem pd_1 : parseMethodDescriptor "([C)V" = some ⟨[(.array .char)], none⟩ := by decide +kernel
theorem d1_53 : decode method_2_code 53 = .ok (.invokespecial 9, 3) := by decide +kernel
theorem d1_56 : decode method_2_code 56 = .ok (.areturn, 1) := by decide +kernel
theorem d1_20 : decode method_2_code 20 = .ok (.aload_n 2, 1) := by decide +kernel
theorem d1_21 : decode method_2_code 21 = .ok (.iconst 0, 1) := by decide +kernel
theorem d1_22 : decode method_2_code 22 = .ok (.iload_n 0, 1) := by decide +kernel
theorem d1_23 : decode method_2_code 23 = .ok (.iconst 2, 1) := by decide +kernel
theorem d1_24 : decode method_2_code 24 = .ok (.iushr, 1) := by decide +kernel
theorem d1_25 : decode method_2_code 25 = .ok (.sipush 255, 3) := by decide +kernel
theorem d1_28 : decode method_2_code 28 = .ok (.iand, 1) := by decide +kernel
theorem d1_29 : decode method_2_code 29 = .ok (.i2c, 1) := by decide +kernel
theorem d1_30 : decode method_2_code 30 = .ok (.castore, 1) := by decide +kernel
theorem d3_27 : decode jdk_42_method_149_code 27 = .ok (.getstatic 38, 3) := by decide +kernel
theorem d3_30 : decode jdk_42_method_149_code 30 = .ok (.ifCond .eq 28, 3) := by decide +kernel
theorem d3_33 : decode jdk_42_method_149_code 33 = .ok (.aload_n 1, 1) := by decide +kernel
theorem d3_34 : decode jdk_42_method_149_code 34 = .ok (.iload_n 2, 1) := by decide +kernel
theorem d3_35 : decode jdk_42_method_149_code 35 = .ok (.iload_n 3, 1) := by decide +kernel
theorem d9_0 : decode jdk_52_method_16_code 0 = .ok (.iload_n 2, 1) := by decide +kernel
theorem d9_1 : decode jdk_52_method_16_code 1 = .ok (.newarray .byte, 2) := by decide +kernel
theorem d9_3 : decode jdk_52_method_16_code 3 = .ok (.astore_n 3, 1) := by decide +kernel
theorem d9_4 : decode jdk_52_method_16_code 4 = .ok (.aload_n 0, 1) := by decide +kernel
theorem d9_5 : decode jdk_52_method_16_code 5 = .ok (.iload_n 1, 1) := by decide +kernel
theorem d9_6 : decode jdk_52_method_16_code 6 = .ok (.aload_n 3, 1) := by decide +kernel
theorem d9_7 : decode jdk_52_method_16_code 7 = .ok (.iconst 0, 1) := by decide +kernel
theorem d9_8 : decode jdk_52_method_16_code 8 = .ok (.iload_n 2, 1) := by decide +kernel
theorem d10_0 : decode jdk_52_method_21_code 0 = .ok (.iconst 0, 1) := by decide +kernel
theorem d10_1 : decode jdk_52_method_21_code 1 = .ok (.istore 5, 2) := by decide +kernel
theorem d10_3 : decode jdk_52_method_21_code 3 = .ok (.iload 5, 2) := by decide +kernel
theorem d10_5 : decode jdk_52_method_21_code 5 = .ok (.iload 4, 2) := by decide +kernel
theorem d10_7 : decode jdk_52_method_21_code 7 = .ok (.if_icmp .ge 37, 3) := by decide +kernel
theorem d10_10 : decode jdk_52_method_21_code 10 = .ok (.aload_n 0, 1) := by decide +kernel
theorem d10_11 : decode jdk_52_method_21_code 11 = .ok (.iload_n 1, 1) := by decide +kernel
theorem d10_12 : decode jdk_52_method_21_code 12 = .ok (.caload, 1) := by decide +kernel
theorem d10_13 : decode jdk_52_method_21_code 13 = .ok (.istore 6, 2) := by decide +kernel
theorem d10_15 : decode jdk_52_method_21_code 15 = .ok (.iload 6, 2) := by decide +kernel
theorem d10_17 : decode jdk_52_method_21_code 17 = .ok (.sipush 255, 3) := by decide +kernel
theorem d10_20 : decode jdk_52_method_21_code 20 = .ok (.if_icmp .le 6, 3) := by decide +kernel
theorem d10_26 : decode jdk_52_method_21_code 26 = .ok (.aload_n 2, 1) := by decide +kernel
theorem d10_27 : decode jdk_52_method_21_code 27 = .ok (.iload_n 3, 1) := by decide +kernel
theorem d10_28 : decode jdk_52_method_21_code 28 = .ok (.iload 6, 2) := by decide +kernel
theorem d10_30 : decode jdk_52_method_21_code 30 = .ok (.i2b, 1) := by decide +kernel
theorem d10_31 : decode jdk_52_method_21_code 31 = .ok (.bastore, 1) := by decide +kernel
theorem d10_32 : decode jdk_52_method_21_code 32 = .ok (.iinc 1 1, 3) := by decide +kernel
theorem d10_35 : decode jdk_52_method_21_code 35 = .ok (.iinc 3 1, 3) := by decide +kernel
theorem d10_38 : decode jdk_52_method_21_code 38 = .ok (.iinc 5 1, 3) := by decide +kernel
theorem d10_41 : decode jdk_52_method_21_code 41 = .ok (.goto (-38), 3) := by decide +kernel
theorem d10_44 : decode jdk_52_method_21_code 44 = .ok (.iload 4, 2) := by decide +kernel
theorem d10_46 : decode jdk_52_method_21_code 46 = .ok (.ireturn, 1) := by decide +kernel
theorem ef_10_RIRII (m : MethodId) (x0 : Addr) (x1 : Int32) (x2 : Addr) (x3 : Int32) (x4 : Int32) : entryFrame m #[(.ref x0), (.int x1), (.ref x2), (.int x3), (.int x4)] 7 = mkF m 0 #[.val (.ref x0), .val (.int x1), .val (.ref x2), .val (.int x3), .val (.int x4), .unset, .unset] [] := by first | (simp [entryFrame, mkF, argsToLocals, Value.category]; done) | rfl
theorem pn_c1 : plainName "java/lang/StringUTF16" = true := by first | (simp [plainName, overriddenIn]; done) | decide +kernel
-- java/lang/StringUTF16.compress
set_option maxRecDepth 65536 in
set_option maxHeartbeats 4000000 in
theorem au_10 (l : Launch) (Z : State) (a0 : Array Value) (hw : ∀ d ∈ tables_1, d.before a0 Z = true) (x0 : Addr) (x1 : Addr) (kk0 : ClassId) (p0 : Int32) (kk1 : ClassId) (h0 : Heap) (n0 : Nat) (Z0 : n0 ≤ h0.size) (P0 : Arv Z h0 x0 kk0 .char (1 : Int32) [(.int p0)] (.int 0)) (P2 : Arv Z h0 x1 kk1 .byte (1 : Int32) [(.int 0)] (.int 0)) (P3 : Exa Z h0 x1 "[B") (R_p0 : 0 ≤ p0.toInt ∧ p0.toInt ≤ 255) (g_x1 : n0 ≤ x1) :
    Ctr l Z (⟨"java/lang/StringUTF16", "compress", "([CI[BII)I"⟩ : MethodName) jdk_52_method_21_code 7 (some .int) ({ frames := 0, cells := 0, slots := 0, locals := 0 } : Room) #[(.ref x0), (.int 0), (.ref x1), (.int 0), (.int 1)] h0 (fun v h L => ∃ (y0 : Int32), (p0.toInt8.toInt32) = y0 ∧ v = some (.int 1) ∧ Fr n0 L ∧ Keep h0 h [x1] ∧ Arv Z h x1 kk1 .byte (1 : Int32) [(.int y0)] (.int 0) ∧ Exa Z h x1 "[B") := by
  refine Ctr.of (plainFor_of_name pn_c1) ?_
  intro p e s m below meth c T0 hx hZ hby hml hown hnm hret hlk e0 es X0
  refine Go.cast (ef_10_RIRII m x0 (0 : Int32) x1 (0 : Int32) (1 : Int32)) ?_
  generalize hFF : EndN s _ _ _ = FF
  refine Go.iconst X0 hx (pc' := 1) rfl (hb hby d10_0) (v := (0 : Int32)) rfl ?_
  refine Go.istore X0 hx (pc' := 3) rfl (hb hby d10_1) (Ls' := #[.val (.ref x0), .val (.int 0), .val (.ref x1), .val (.int 0), .val (.int 1), .val (.int 0), .unset]) rfl ?_
  refine Go.iload X0 hx (pc' := 5) rfl (hb hby d10_3) rfl ?_
  refine Go.iload X0 hx (pc' := 7) rfl (hb hby d10_5) rfl ?_
  refine Go.icmpNo X0 hx (pc' := 10) rfl (hb hby d10_7) (by decide) ?_
  refine Go.aloadN X0 hx (pc' := 11) rfl (hb hby d10_10) rfl rfl ?_
  refine Go.iloadN X0 hx (pc' := 12) rfl (hb hby d10_11) rfl ?_
  refine Go.caload X0 hx hZ e0 P0 (v := (.int p0)) ⟨by decide, by decide⟩ rfl (pc' := 13) rfl (hb hby d10_12) ?_
  refine Go.istore X0 hx (pc' := 15) rfl (hb hby d10_13) (Ls' := #[.val (.ref x0), .val (.int 0), .val (.ref x1), .val (.int 0), .val (.int 1), .val (.int 0), .val (.int p0)]) rfl ?_
  refine Go.iload X0 hx (pc' := 17) rfl (hb hby d10_15) rfl ?_
  refine Go.sipush X0 hx (pc' := 20) rfl (hb hby d10_17) (v := (255 : Int32)) (by decide) ?_
  refine Go.icmpYes X0 hx (pc' := 26) (hb hby d10_20) (flt (own_nlt_r (own_rlit (n := 255) (by decide)) R_p0 (by decide))).2.2.2 (by decide) (by decide) ?_
  refine Go.aloadN X0 hx (pc' := 27) rfl (hb hby d10_26) rfl rfl ?_
  refine Go.iloadN X0 hx (pc' := 28) rfl (hb hby d10_27) rfl ?_
  refine Go.iload X0 hx (pc' := 30) rfl (hb hby d10_28) rfl ?_
  refine Go.i2b X0 hx (pc' := 31) rfl (hb hby d10_30) ?_
  generalize hz1 : (p0.toInt8.toInt32) = z1
  have r2 : -128 ≤ z1.toInt ∧ z1.toInt ≤ 127 := own_ri2b hz1
  refine Go.bastore X0 hx hZ e0 P2 z1 (own_nar_byte r2 (by decide) (by decide)) ⟨by decide, by decide⟩ 0 rfl (Nat.le_of_ble_eq_true rfl) (pc' := 32) rfl (hb hby d10_31) ?_
  intro T3 h3 e3 W3 V3 X3
  have N3 := Fr.snoc X3 (Fr.nil n0) g_x1
  refine Go.iinc X3 hx (pc' := 35) rfl (hb hby d10_32) rfl (y := (1 : Int32)) (by decide) (Ls' := #[.val (.ref x0), .val (.int 1), .val (.ref x1), .val (.int 0), .val (.int 1), .val (.int 0), .val (.int p0)]) rfl ?_
  refine Go.iinc X3 hx (pc' := 38) rfl (hb hby d10_35) rfl (y := (1 : Int32)) (by decide) (Ls' := #[.val (.ref x0), .val (.int 1), .val (.ref x1), .val (.int 1), .val (.int 1), .val (.int 0), .val (.int p0)]) rfl ?_
  refine Go.iinc X3 hx (pc' := 41) rfl (hb hby d10_38) rfl (y := (1 : Int32)) (by decide) (Ls' := #[.val (.ref x0), .val (.int 1), .val (.ref x1), .val (.int 1), .val (.int 1), .val (.int 1), .val (.int p0)]) rfl ?_
  refine Go.goto X3 hx (pc' := 3) (hb hby d10_41) (by decide) (by decide) ?_
  refine Go.iload X3 hx (pc' := 5) rfl (hb hby d10_3) rfl ?_
  refine Go.iload X3 hx (pc' := 7) rfl (hb hby d10_5) rfl ?_
  refine Go.icmpYes X3 hx (pc' := 44) (hb hby d10_7) (by decide) (by decide) (by decide) ?_
  refine Go.iload X3 hx (pc' := 46) rfl (hb hby d10_44) rfl ?_
  subst hFF
  refine Go.retI X3 hx hlk hret (hb hby d10_46) (by decide) (by decide) ?_
  rw [e3]
  have V4 : Arv Z h3 x1 kk1 .byte (1 : Int32) [(.int z1)] (.int 0) := V3
  have fk5 : Exa Z h3 x1 "[B" := (P3.wr W3)
  have Kp6 : Keep h0 h3 [x1] := ((Keep.refl h0 [x1]).wr W3 (Or.inl (List.mem_of_getElem? (i := 0) rfl)))
  exact ⟨z1, hz1, rfl, N3, Kp6, V4, fk5⟩
theorem pd_2 : parseMethodDescriptor "([CI[BII)I" = some ⟨[(.array .char), .int, (.array .byte), .int, .int], some .int⟩ := by decide +kernel
theorem d9_9 : decode jdk_52_method_16_code 9 = .ok (.invokestatic 115, 3) := by decide +kernel
theorem d9_12 : decode jdk_52_method_16_code 12 = .ok (.istore 4, 2) := by decide +kernel
theorem d9_14 : decode jdk_52_method_16_code 14 = .ok (.iload 4, 2) := by decide +kernel
theorem d9_16 : decode jdk_52_method_16_code 16 = .ok (.iload_n 2, 1) := by decide +kernel
theorem d9_17 : decode jdk_52_method_16_code 17 = .ok (.if_icmp .eq 40, 3) := by decide +kernel
theorem d9_57 : decode jdk_52_method_16_code 57 = .ok (.aload_n 3, 1) := by decide +kernel
theorem d9_58 : decode jdk_52_method_16_code 58 = .ok (.areturn, 1) := by decide +kernel
theorem ef_9_RII (m : MethodId) (x0 : Addr) (x1 : Int32) (x2 : Int32) : entryFrame m #[(.ref x0), (.int x1), (.int x2)] 6 = mkF m 0 #[.val (.ref x0), .val (.int x1), .val (.int x2), .unset, .unset, .unset] [] := by first | (simp [entryFrame, mkF, argsToLocals, Value.category]; done) | rfl
-- java/lang/StringUTF16.compress
set_option maxRecDepth 65536 in
set_option maxHeartbeats 4000000 in
theorem au_9 (l : Launch) (Z : State) (a0 : Array Value) (hw : ∀ d ∈ tables_1, d.before a0 Z = true) (x0 : Addr) (kk0 : ClassId) (p0 : Int32) (h0 : Heap) (n0 : Nat) (Z0 : n0 ≤ h0.size) (P0 : Arv Z h0 x0 kk0 .char (1 : Int32) [(.int p0)] (.int 0)) (R_p0 : 0 ≤ p0.toInt ∧ p0.toInt ≤ 255) :
    Ctr l Z (⟨"java/lang/StringUTF16", "compress", "([CII)[B"⟩ : MethodName) jdk_52_method_16_code 6 (some (.array .byte)) ({ frames := 1, cells := 1, slots := 1, locals := 18 } : Room) #[(.ref x0), (.int 0), (.int 1)] h0 (fun v h L => ∃ (y0 : Int32) (y1 : Addr) (y2 : ClassId), (p0.toInt8.toInt32) = y0 ∧ v = some (.ref y1) ∧ Fr n0 L ∧ Keep h0 h [] ∧ h0.size ≤ y1 ∧ Arv Z h y1 y2 .byte (1 : Int32) [(.int y0)] (.int 0) ∧ Exa Z h y1 "[B") := by
  refine Ctr.of (plainFor_of_name pn_c1) ?_
  intro p e s m below meth c T0 hx hZ hby hml hown hnm hret hlk e0 es X0
  refine Go.cast (ef_9_RII m x0 (0 : Int32) (1 : Int32)) ?_
  generalize hFF : EndN s _ _ _ = FF
  refine Go.iloadN X0 hx (pc' := 1) rfl (hb hby d9_0) rfl ?_
  refine Go.newarray X0 hx hZ (ty := .byte) rfl (tw_22 hw) e0 (by decide) (cap := 1) (by decide) (by decide) (by decide) (by decide) (ad := "[B") (by decide) 1 (pc' := 3) rfl (hb hby d9_1) ?_
  intro T1 h1 b1 k1 e1 E1 g1 V1 A1 X1
  have V1' : Arv Z h1 b1 k1 .byte (1 : Int32) [(.int 0)] (.int 0) := V1
  refine Go.astoreN X1 hx (pc' := 4) rfl (hb hby d9_3) (Ls' := #[.val (.ref x0), .val (.int 0), .val (.int 1), .val (.ref b1), .unset, .unset]) rfl rfl ?_
  refine Go.aloadN X1 hx (pc' := 5) rfl (hb hby d9_4) rfl rfl ?_
  refine Go.iloadN X1 hx (pc' := 6) rfl (hb hby d9_5) rfl ?_
  refine Go.aloadN X1 hx (pc' := 7) rfl (hb hby d9_6) rfl rfl ?_
  refine Go.iconst X1 hx (pc' := 8) rfl (hb hby d9_7) (v := (0 : Int32)) rfl ?_
  refine Go.iloadN X1 hx (pc' := 9) rfl (hb hby d9_8) rfl ?_
  have Kp3 : Keep h0 h1 [] := ((Keep.refl h0 []).ext E1)
  have Zn2 : n0 ≤ h1.size := Nat.le_trans Z0 Kp3.1
  have fk4 := (P0.ext E1)
  have sz6 : h0.size ≤ b1 := Nat.le_trans (Keep.refl h0 []).1 (Nat.le_of_eq g1.symm)
  have ge5 : n0 ≤ b1 := Nat.le_trans Z0 sz6
  refine Go.callS X1 hx hZ hown (tw_63 hw) (tw_64 hw) (tw_61 hw) (tw_65 hw) (by decide) (tw_65 hw) (tw_61 hw) (au_10 l Z a0 hw x0 b1 kk0 p0 k1 h1 n0 Zn2 fk4 V1' A1 R_p0 ge5) e1 (argsL := [(.ref x0), (.int 0), (.ref b1), (.int 0), (.int 1)]) (rest := []) (pc' := 12) rfl (by rw [hml]; rfl) (lenOf pd_2 rfl) rfl rfl (W := 0) (Nat.le_of_eq rfl) (by decide) (by decide) (by decide) (by decide) (hb hby d9_9) ?_
  intro v7 T7 L7 q7 X7
  obtain ⟨h7, e7⟩ : ∃ z, T7.heap = z := ⟨_, rfl⟩
  rw [e7] at q7
  obtain ⟨z7_0, d7_0, rfl, N7, K7, F7_0, F7_1⟩ := q7
  show Go _ _ _ _ (T7.setTop (mkF m 12 #[.val (.ref x0), .val (.int 0), .val (.int 1), .val (.ref b1), .unset, .unset] [(.int 1)]))
  refine Go.istore X7 hx (pc' := 14) rfl (hb hby d9_12) (Ls' := #[.val (.ref x0), .val (.int 0), .val (.int 1), .val (.ref b1), .val (.int 1), .unset]) rfl ?_
  refine Go.iload X7 hx (pc' := 16) rfl (hb hby d9_14) rfl ?_
  refine Go.iloadN X7 hx (pc' := 17) rfl (hb hby d9_16) rfl ?_
  refine Go.icmpYes X7 hx (pc' := 57) (hb hby d9_17) (by decide) (by decide) (by decide) ?_
  refine Go.aloadN X7 hx (pc' := 58) rfl (hb hby d9_57) rfl rfl ?_
  subst hFF
  refine Go.retR X7 hx hlk (t := (.array .byte)) hret rfl rfl (hb hby d9_58) (by decide) (by decide) ?_
  rw [e7]
  have Kp8 : Keep h0 h7 [] := (Kp3.trans K7 (allS (Or.inr sz6) all0))
  exact ⟨z7_0, b1, k1, d7_0, rfl, (Fr.app (Fr.nil n0) N7), Kp8, sz6, F7_0, F7_1⟩
theorem pd_3 : parseMethodDescriptor "([CII)[B" = some ⟨[(.array .char), .int, .int], some (.array .byte)⟩ := by decide +kernel
theorem d3_36 : decode jdk_42_method_149_code 36 = .ok (.invokestatic 177, 3) := by decide +kernel
theorem d3_39 : decode jdk_42_method_149_code 39 = .ok (.astore 5, 2) := by decide +kernel
theorem d3_41 : decode jdk_42_method_149_code 41 = .ok (.aload_n 0, 1) := by decide +kernel
theorem d3_42 : decode jdk_42_method_149_code 42 = .ok (.aload 5, 2) := by decide +kernel
theorem d3_44 : decode jdk_42_method_149_code 44 = .ok (.iload_n 3, 1) := by decide +kernel
theorem d11_0 : decode jdk_52_method_15_code 0 = .ok (.iload_n 1, 1) := by decide +kernel
theorem d11_1 : decode jdk_52_method_15_code 1 = .ok (.aload_n 0, 1) := by decide +kernel
theorem d11_2 : decode jdk_52_method_15_code 2 = .ok (.arraylength, 1) := by decide +kernel
theorem d11_3 : decode jdk_52_method_15_code 3 = .ok (.isub, 1) := by decide +kernel
theorem d11_4 : decode jdk_52_method_15_code 4 = .ok (.bipush 31, 2) := by decide +kernel
theorem d11_6 : decode jdk_52_method_15_code 6 = .ok (.iushr, 1) := by decide +kernel
theorem d11_7 : decode jdk_52_method_15_code 7 = .ok (.i2b, 1) := by decide +kernel
theorem d11_8 : decode jdk_52_method_15_code 8 = .ok (.ireturn, 1) := by decide +kernel
theorem ef_11_RI (m : MethodId) (x0 : Addr) (x1 : Int32) : entryFrame m #[(.ref x0), (.int x1)] 2 = mkF m 0 #[.val (.ref x0), .val (.int x1)] [] := by first | (simp [entryFrame, mkF, argsToLocals, Value.category]; done) | rfl
-- java/lang/StringUTF16.coderFromArrayLen
set_option maxRecDepth 65536 in
set_option maxHeartbeats 4000000 in
theorem au_11 (l : Launch) (Z : State) (a0 : Array Value) (hw : ∀ d ∈ tables_1, d.before a0 Z = true) (x0 : Addr) (kk0 : ClassId) (p0 : Int32) (h0 : Heap) (n0 : Nat) (Z0 : n0 ≤ h0.size) (P0 : Arv Z h0 x0 kk0 .byte (1 : Int32) [(.int p0)] (.int 0)) :
    Ctr l Z (⟨"java/lang/StringUTF16", "coderFromArrayLen", "([BI)B"⟩ : MethodName) jdk_52_method_15_code 2 (some .byte) ({ frames := 0, cells := 0, slots := 0, locals := 0 } : Room) #[(.ref x0), (.int 1)] h0 (fun v h L => v = some (.int 0) ∧ Fr n0 L ∧ h = h0) := by
  refine Ctr.of (plainFor_of_name pn_c1) ?_
  intro p e s m below meth c T0 hx hZ hby hml hown hnm hret hlk e0 es X0
  refine Go.cast (ef_11_RI m x0 (1 : Int32)) ?_
  generalize hFF : EndN s _ _ _ = FF
  refine Go.iloadN X0 hx (pc' := 1) rfl (hb hby d11_0) rfl ?_
  refine Go.aloadN X0 hx (pc' := 2) rfl (hb hby d11_1) rfl rfl ?_
  refine Go.arraylength X0 hx hZ e0 P0 (pc' := 3) rfl (hb hby d11_2) ?_
  refine Go.isub X0 hx (pc' := 4) rfl (hb hby d11_3) ?_
  rw [show ((1 : Int32) - (1 : Int32)) = (0 : Int32) from by decide]
  refine Go.bipush X0 hx (pc' := 6) rfl (hb hby d11_4) (v := (31 : Int32)) (by decide) ?_
  refine Go.iushr X0 hx (pc' := 7) rfl (hb hby d11_6) ?_
  rw [show (((0 : Int32).toUInt32 >>> ((31 : Int32) &&& 31).toUInt32).toInt32) = (0 : Int32) from by decide]
  refine Go.i2b X0 hx (pc' := 8) rfl (hb hby d11_7) ?_
  rw [show ((0 : Int32).toInt8.toInt32) = (0 : Int32) from by decide]
  subst hFF
  refine Go.retN X0 hx hlk (t := .byte) hret (by simp) (hb hby d11_8) (by decide) (by decide) ?_
  rw [e0]
  exact ⟨(congrArg (fun z => some (Value.int z)) (by decide : nar .byte (0 : Int32) = (0 : Int32))), (Fr.nil n0), rfl⟩
theorem pd_4 : parseMethodDescriptor "([BI)B" = some ⟨[(.array .byte), .int], some .byte⟩ := by decide +kernel
theorem d3_45 : decode jdk_42_method_149_code 45 = .ok (.invokestatic 47, 3) := by decide +kernel
theorem d3_48 : decode jdk_42_method_149_code 48 = .ok (.putfield 15, 3) := by decide +kernel
theorem d3_51 : decode jdk_42_method_149_code 51 = .ok (.aload_n 0, 1) := by decide +kernel
theorem d3_52 : decode jdk_42_method_149_code 52 = .ok (.aload 5, 2) := by decide +kernel
theorem d3_54 : decode jdk_42_method_149_code 54 = .ok (.putfield 9, 3) := by decide +kernel
theorem d3_57 : decode jdk_42_method_149_code 57 = .ok (.return_, 1) := by decide +kernel
-- java/lang/String.init
set_option maxRecDepth 65536 in
set_option maxHeartbeats 4000000 in
theorem au_8 (l : Launch) (Z : State) (a0 : Array Value) (hw : ∀ d ∈ tables_1, d.before a0 Z = true) (x0 : Addr) (x1 : Addr) (kk0 : ClassId) (p0 : Int32) (ga3 : Addr) (gz9 : Int32) (gv13 : Value) (gk17 : ClassId) (gvs18 : List Value) (h0 : Heap) (n0 : Nat) (Z0 : n0 ≤ h0.size) (O0 : Old Z n0 h0) (G : Glob Z ga3 gz9 gv13 gk17 gvs18) (P0 : Exa Z h0 x0 "java/lang/String") (P1 : Fld Z h0 x0 "java/lang/String" "coder" "B" (.int 0)) (P2 : Fld Z h0 x0 "java/lang/String" "value" "[B" .null) (P3 : Arv Z h0 x1 kk0 .char (1 : Int32) [(.int p0)] (.int 0)) (R_p0 : 0 ≤ p0.toInt ∧ p0.toInt ≤ 255) (g_x0 : n0 ≤ x0) :
    Ctr l Z (⟨"java/lang/String", "<init>", "([CIILjava/lang/Void;)V"⟩ : MethodName) jdk_42_method_149_code 6 none ({ frames := 2, cells := 1, slots := 1, locals := 35 } : Room) #[(.ref x0), (.ref x1), (.int 0), (.int 1), .null] h0 (fun v h L => ∃ (y0 : Int32) (y1 : Addr) (y2 : ClassId), (p0.toInt8.toInt32) = y0 ∧ v = none ∧ Fr n0 L ∧ Keep h0 h [x0] ∧ h0.size ≤ y1 ∧ Exa Z h x0 "java/lang/String" ∧ Fld Z h x0 "java/lang/String" "coder" "B" (.int 0) ∧ Fld Z h x0 "java/lang/String" "value" "[B" (.ref y1) ∧ Arv Z h y1 y2 .byte (1 : Int32) [(.int y0)] (.int 0) ∧ Exa Z h y1 "[B") := by
  refine Ctr.of (plainFor_of_name pn_c0) ?_
  intro p e s m below meth c T0 hx hZ hby hml hown hnm hret hlk e0 es X0
  have G' := G
  obtain ⟨-, -, -, G3, -, -, G6, -, -⟩ := G'
  refine Go.cast (ef_3_RRIIN m x0 x1 (0 : Int32) (1 : Int32)) ?_
  generalize hFF : EndN s _ _ _ = FF
  refine Go.aloadN X0 hx (pc' := 1) rfl (hb hby d3_0) rfl rfl ?_
  refine Go.initO X0 hx hZ hown (tw_18 hw) (tw_19 hw) (tw_20 hw) e0 (by decide) (W := 0) (by rw [hml]; rfl) (Nat.le_of_eq rfl) (by decide) (pc' := 4) rfl (hb hby d3_1) ?_
  intro T1 e1 X1
  refine Go.iloadN X1 hx (pc' := 5) rfl (hb hby d3_4) rfl ?_
  refine Go.ifYes X1 hx (pc' := 27) (hb hby d3_5) (by decide) (by decide) (by decide) ?_
  have fk2 : Sta Z h0 "java/lang/String" "COMPACT_STRINGS" "Z" (.int gz9) := G3.ext O0.2
  refine Go.getS X1 hx hZ hown (host := "") (Or.inl (tw_58 hw)) Via.refl e1 fk2 (pc' := 30) rfl (hb hby d3_27) ?_
  intro T3 e3 X3
  refine Go.ifNo X3 hx (pc' := 33) rfl (hb hby d3_30) (feq G6).1 ?_
  refine Go.aloadN X3 hx (pc' := 34) rfl (hb hby d3_33) rfl rfl ?_
  refine Go.iloadN X3 hx (pc' := 35) rfl (hb hby d3_34) rfl ?_
  refine Go.iloadN X3 hx (pc' := 36) rfl (hb hby d3_35) rfl ?_
  refine Go.callS X3 hx hZ hown (tw_59 hw) (tw_60 hw) (tw_61 hw) (tw_62 hw) (by decide) (tw_62 hw) (tw_61 hw) (au_9 l Z a0 hw x1 kk0 p0 h0 n0 Z0 P3 R_p0) e3 (argsL := [(.ref x1), (.int 0), (.int 1)]) (rest := []) (pc' := 39) rfl (by rw [hml]; rfl) (lenOf pd_3 rfl) rfl rfl (W := 0) (Nat.le_of_eq rfl) (by decide) (by decide) (by decide) (by decide) (hb hby d3_36) ?_
  intro v4 T4 L4 q4 X4
  obtain ⟨h4, e4⟩ : ∃ z, T4.heap = z := ⟨_, rfl⟩
  rw [e4] at q4
  obtain ⟨z4_0, b4_0, k4_0, d4_0, rfl, N4, K4, s4_0, F4_0, F4_1⟩ := q4
  show Go _ _ _ _ (T4.setTop (mkF m 39 #[.val (.ref x0), .val (.ref x1), .val (.int 0), .val (.int 1), .val .null, .unset] [(.ref b4_0)]))
  refine Go.astore X4 hx (pc' := 41) rfl (hb hby d3_39) (Ls' := #[.val (.ref x0), .val (.ref x1), .val (.int 0), .val (.int 1), .val .null, .val (.ref b4_0)]) rfl rfl ?_
  refine Go.aloadN X4 hx (pc' := 42) rfl (hb hby d3_41) rfl rfl ?_
  refine Go.aload X4 hx (pc' := 44) rfl (hb hby d3_42) rfl rfl ?_
  refine Go.iloadN X4 hx (pc' := 45) rfl (hb hby d3_44) rfl ?_
  have r5 : -128 ≤ z4_0.toInt ∧ z4_0.toInt ≤ 127 := own_ri2b d4_0
  have Kp7 : Keep h0 h4 [x0] := ((Keep.refl h0 [x0]).trans K4 all0)
  have Zn6 : n0 ≤ h4.size := Nat.le_trans Z0 Kp7.1
  refine Go.callS X4 hx hZ hown (tw_66 hw) (tw_67 hw) (tw_61 hw) (tw_68 hw) (by decide) (tw_68 hw) (tw_61 hw) (au_11 l Z a0 hw b4_0 k4_0 z4_0 h4 n0 Zn6 F4_0) e4 (argsL := [(.ref b4_0), (.int 1)]) (rest := [(.ref x0)]) (pc' := 48) rfl (by rw [hml]; rfl) (lenOf pd_4 rfl) rfl rfl (W := 1) (Nat.le_of_eq rfl) (by decide) (by decide) (by decide) (by decide) (hb hby d3_45) ?_
  intro v8 T8 L8 q8 X8
  obtain ⟨rfl, N8, e8⟩ := q8
  show Go _ _ _ _ (T8.setTop (mkF m 48 #[.val (.ref x0), .val (.ref x1), .val (.int 0), .val (.int 1), .val .null, .val (.ref b4_0)] [(.int 0), (.ref x0)]))
  have fk9 : Fld Z h4 x0 "java/lang/String" "coder" "B" (.int 0) := (P1.keep K4 nin0)
  have fk10 : Exa Z h4 x0 "java/lang/String" := (P0.keep K4)
  refine Go.putFN X8 hx hZ hown (tw_28 hw) Via.refl e8 fk9 fk10 (Or.inr ⟨(tw_24 hw), rfl, hnm⟩) (tw_9 hw) (ty := .byte) (v' := (.int 0)) (by decide) (by decide) (by decide) (pc' := 51) rfl (hb hby d3_48) ?_
  intro T11 h11 e11 W11 F11 X11
  have N11 := Fr.snoc X11 (Fr.app (Fr.app (Fr.nil n0) N4) N8) g_x0
  refine Go.aloadN X11 hx (pc' := 52) rfl (hb hby d3_51) rfl rfl ?_
  refine Go.aload X11 hx (pc' := 54) rfl (hb hby d3_52) rfl rfl ?_
  have fk12 : Fld Z h11 x0 "java/lang/String" "value" "[B" .null := ((P2.keep K4 nin0).other W11 (Or.inr (slot_ne (Or.inr (tw_23 hw)) (Or.inr (tw_24 hw)) (by decide) (t := (.array .byte)) (t' := .byte) (by decide) (by decide))))
  have fk13 : Exa Z h11 x0 "java/lang/String" := (fk10.wr W11)
  refine Go.putF X11 hx hZ hown (host := "") (Or.inl (tw_27 hw)) Via.refl e11 fk12 fk13 (Or.inr ⟨(tw_23 hw), rfl, hnm⟩) (tw_9 hw) (ty := (.array .byte)) (by decide) rfl rfl (pc' := 57) rfl (hb hby d3_54) ?_
  intro T14 h14 e14 W14 F14 X14
  have N14 := Fr.snoc X14 N11 g_x0
  subst hFF
  refine Go.ret0 X14 hx hlk hret (hb hby d3_57) (by decide) (by decide) ?_
  rw [e14]
  have fk15 : Exa Z h14 x0 "java/lang/String" := (fk13.wr W14)
  have fk16 : Fld Z h14 x0 "java/lang/String" "coder" "B" (.int 0) := (F11.other W14 (Or.inr (slot_ne (Or.inr (tw_24 hw)) (Or.inr (tw_23 hw)) (by decide) (t := .byte) (t' := (.array .byte)) (by decide) (by decide))))
  have ne17 : x0 ≠ b4_0 := Nat.ne_of_lt (Nat.lt_of_lt_of_le P0.lt s4_0)
  have fk18 := ((F4_0.other W11 (Ne.symm ne17)).other W14 (Ne.symm ne17))
  have fk19 : Exa Z h14 b4_0 "[B" := ((F4_1.wr W11).wr W14)
  have Kp20 : Keep h0 h11 [x0] := (Kp7.wr W11 (Or.inl (List.mem_of_getElem? (i := 0) rfl)))
  have Kp21 : Keep h0 h14 [x0] := (Kp20.wr W14 (Or.inl (List.mem_of_getElem? (i := 0) rfl)))
  have sz22 : h0.size ≤ b4_0 := Nat.le_trans (Keep.refl h0 [x0]).1 s4_0
  exact ⟨z4_0, b4_0, k4_0, d4_0, rfl, N14, Kp21, sz22, fk15, fk16, F14, fk18, fk19⟩
-- java/lang/String.init
set_option maxRecDepth 65536 in
set_option maxHeartbeats 4000000 in
theorem au_7 (l : Launch) (Z : State) (a0 : Array Value) (hw : ∀ d ∈ tables_1, d.before a0 Z = true) (x0 : Addr) (x1 : Addr) (kk0 : ClassId) (p0 : Int32) (ga3 : Addr) (gz9 : Int32) (gv13 : Value) (gk17 : ClassId) (gvs18 : List Value) (h0 : Heap) (n0 : Nat) (Z0 : n0 ≤ h0.size) (O0 : Old Z n0 h0) (G : Glob Z ga3 gz9 gv13 gk17 gvs18) (P0 : Exa Z h0 x0 "java/lang/String") (P1 : Fld Z h0 x0 "java/lang/String" "coder" "B" (.int 0)) (P2 : Fld Z h0 x0 "java/lang/String" "value" "[B" .null) (P3 : Arv Z h0 x1 kk0 .char (1 : Int32) [(.int p0)] (.int 0)) (R_p0 : 0 ≤ p0.toInt ∧ p0.toInt ≤ 255) (g_x0 : n0 ≤ x0) :
    Ctr l Z (⟨"java/lang/String", "<init>", "([C)V"⟩ : MethodName) jdk_42_method_3_code 2 none ({ frames := 3, cells := 1, slots := 1, locals := 52 } : Room) #[(.ref x0), (.ref x1)] h0 (fun v h L => ∃ (y0 : Int32) (y1 : Addr) (y2 : ClassId), (p0.toInt8.toInt32) = y0 ∧ v = none ∧ Fr n0 L ∧ Keep h0 h [x0] ∧ h0.size ≤ y1 ∧ Exa Z h x0 "java/lang/String" ∧ Fld Z h x0 "java/lang/String" "coder" "B" (.int 0) ∧ Fld Z h x0 "java/lang/String" "value" "[B" (.ref y1) ∧ Arv Z h y1 y2 .byte (1 : Int32) [(.int y0)] (.int 0) ∧ Exa Z h y1 "[B") := by
  refine Ctr.of (plainFor_of_name pn_c0) ?_
  intro p e s m below meth c T0 hx hZ hby hml hown hnm hret hlk e0 es X0
  refine Go.cast (ef_2_RR m x0 x1) ?_
  generalize hFF : EndN s _ _ _ = FF
  refine Go.aloadN X0 hx (pc' := 1) rfl (hb hby d2_0) rfl rfl ?_
  refine Go.aloadN X0 hx (pc' := 2) rfl (hb hby d2_1) rfl rfl ?_
  refine Go.iconst X0 hx (pc' := 3) rfl (hb hby d2_2) (v := (0 : Int32)) rfl ?_
  refine Go.aloadN X0 hx (pc' := 4) rfl (hb hby d2_3) rfl rfl ?_
  refine Go.arraylength X0 hx hZ e0 P3 (pc' := 5) rfl (hb hby d2_4) ?_
  refine Go.anull X0 hx (pc' := 6) rfl (hb hby d2_5) ?_
  refine Go.callN X0 hx hZ hown rfl (tw_14 hw) (tw_15 hw) (tw_17 hw) (by decide) (tw_17 hw) (tw_10 hw) (au_8 l Z a0 hw x0 x1 kk0 p0 ga3 gz9 gv13 gk17 gvs18 h0 n0 Z0 O0 G P0 P1 P2 P3 R_p0 g_x0) e0 (a := x0) (argsL := [(.ref x1), (.int 0), (.int 1), .null]) (rest := []) (pc' := 9) rfl (by rw [hml]; rfl) (lenOf pd_0 rfl) rfl rfl (W := 0) (Nat.le_of_eq rfl) (by decide) (by decide) (by decide) (by decide) (hb hby d2_6) ?_
  intro v1 T1 L1 q1 X1
  obtain ⟨h1, e1⟩ : ∃ z, T1.heap = z := ⟨_, rfl⟩
  rw [e1] at q1
  obtain ⟨z1_0, b1_0, k1_0, d1_0, rfl, N1, K1, s1_0, F1_0, F1_1, F1_2, F1_3, F1_4⟩ := q1
  show Go _ _ _ _ (T1.setTop (mkF m 9 #[.val (.ref x0), .val (.ref x1)] []))
  subst hFF
  refine Go.ret0 X1 hx hlk hret (hb hby d2_9) (by decide) (by decide) ?_
  rw [e1]
  have Kp2 : Keep h0 h1 [x0] := ((Keep.refl h0 [x0]).trans K1 (allS (Or.inl (List.mem_of_getElem? (i := 0) rfl)) all0))
  have sz3 : h0.size ≤ b1_0 := Nat.le_trans (Keep.refl h0 [x0]).1 s1_0
  exact ⟨z1_0, b1_0, k1_0, d1_0, rfl, (Fr.app (Fr.nil n0) N1), Kp2, sz3, F1_0, F1_1, F1_2, F1_3, F1_4⟩
theorem d1_36 : decode method_2_code 36 = .ok (.aload_n 2, 1) := by decide +kernel
theorem d1_37 : decode method_2_code 37 = .ok (.iconst 1, 1) := by decide +kernel
theorem d1_38 : decode method_2_code 38 = .ok (.iload_n 0, 1) := by decide +kernel
theorem d1_39 : decode method_2_code 39 = .ok (.bipush 10, 2) := by decide +kernel
theorem d1_41 : decode method_2_code 41 = .ok (.iushr, 1) := by decide +kernel
theorem d1_42 : decode method_2_code 42 = .ok (.sipush 255, 3) := by decide +kernel
theorem d1_45 : decode method_2_code 45 = .ok (.iand, 1) := by decide +kernel
theorem d1_46 : decode method_2_code 46 = .ok (.i2c, 1) := by decide +kernel
theorem d1_47 : decode method_2_code 47 = .ok (.castore, 1) := by decide +kernel
-- java/lang/StringUTF16.compress
set_option maxRecDepth 65536 in
set_option maxHeartbeats 4000000 in
theorem au_15 (l : Launch) (Z : State) (a0 : Array Value) (hw : ∀ d ∈ tables_1, d.before a0 Z = true) (x0 : Addr) (x1 : Addr) (kk0 : ClassId) (p0 : Int32) (p1 : Int32) (kk1 : ClassId) (h0 : Heap) (n0 : Nat) (Z0 : n0 ≤ h0.size) (P0 : Arv Z h0 x0 kk0 .char (2 : Int32) [(.int p0), (.int p1)] (.int 0)) (P2 : Arv Z h0 x1 kk1 .byte (2 : Int32) [(.int 0), (.int 0)] (.int 0)) (P3 : Exa Z h0 x1 "[B") (R_p0 : 0 ≤ p0.toInt ∧ p0.toInt ≤ 255) (R_p1 : 0 ≤ p1.toInt ∧ p1.toInt ≤ 255) (g_x1 : n0 ≤ x1) (ne_x0_x1 : x0 ≠ x1) :
    Ctr l Z (⟨"java/lang/StringUTF16", "compress", "([CI[BII)I"⟩ : MethodName) jdk_52_method_21_code 7 (some .int) ({ frames := 0, cells := 0, slots := 0, locals := 0 } : Room) #[(.ref x0), (.int 0), (.ref x1), (.int 0), (.int 2)] h0 (fun v h L => ∃ (y0 : Int32) (y1 : Int32), (p0.toInt8.toInt32) = y0 ∧ (p1.toInt8.toInt32) = y1 ∧ v = some (.int 2) ∧ Fr n0 L ∧ Keep h0 h [x1] ∧ Arv Z h x1 kk1 .byte (2 : Int32) [(.int y0), (.int y1)] (.int 0) ∧ Exa Z h x1 "[B") := by
  refine Ctr.of (plainFor_of_name pn_c1) ?_
  intro p e s m below meth c T0 hx hZ hby hml hown hnm hret hlk e0 es X0
  refine Go.cast (ef_10_RIRII m x0 (0 : Int32) x1 (0 : Int32) (2 : Int32)) ?_
  generalize hFF : EndN s _ _ _ = FF
  refine Go.iconst X0 hx (pc' := 1) rfl (hb hby d10_0) (v := (0 : Int32)) rfl ?_
  refine Go.istore X0 hx (pc' := 3) rfl (hb hby d10_1) (Ls' := #[.val (.ref x0), .val (.int 0), .val (.ref x1), .val (.int 0), .val (.int 2), .val (.int 0), .unset]) rfl ?_
  refine Go.iload X0 hx (pc' := 5) rfl (hb hby d10_3) rfl ?_
  refine Go.iload X0 hx (pc' := 7) rfl (hb hby d10_5) rfl ?_
  refine Go.icmpNo X0 hx (pc' := 10) rfl (hb hby d10_7) (by decide) ?_
  refine Go.aloadN X0 hx (pc' := 11) rfl (hb hby d10_10) rfl rfl ?_
  refine Go.iloadN X0 hx (pc' := 12) rfl (hb hby d10_11) rfl ?_
  refine Go.caload X0 hx hZ e0 P0 (v := (.int p0)) ⟨by decide, by decide⟩ rfl (pc' := 13) rfl (hb hby d10_12) ?_
  refine Go.istore X0 hx (pc' := 15) rfl (hb hby d10_13) (Ls' := #[.val (.ref x0), .val (.int 0), .val (.ref x1), .val (.int 0), .val (.int 2), .val (.int 0), .val (.int p0)]) rfl ?_
  refine Go.iload X0 hx (pc' := 17) rfl (hb hby d10_15) rfl ?_
  refine Go.sipush X0 hx (pc' := 20) rfl (hb hby d10_17) (v := (255 : Int32)) (by decide) ?_
  refine Go.icmpYes X0 hx (pc' := 26) (hb hby d10_20) (flt (own_nlt_r (own_rlit (n := 255) (by decide)) R_p0 (by decide))).2.2.2 (by decide) (by decide) ?_
  refine Go.aloadN X0 hx (pc' := 27) rfl (hb hby d10_26) rfl rfl ?_
  refine Go.iloadN X0 hx (pc' := 28) rfl (hb hby d10_27) rfl ?_
  refine Go.iload X0 hx (pc' := 30) rfl (hb hby d10_28) rfl ?_
  refine Go.i2b X0 hx (pc' := 31) rfl (hb hby d10_30) ?_
  generalize hz1 : (p0.toInt8.toInt32) = z1
  have r2 : -128 ≤ z1.toInt ∧ z1.toInt ≤ 127 := own_ri2b hz1
  refine Go.bastore X0 hx hZ e0 P2 z1 (own_nar_byte r2 (by decide) (by decide)) ⟨by decide, by decide⟩ 0 rfl (Nat.le_of_ble_eq_true rfl) (pc' := 32) rfl (hb hby d10_31) ?_
  intro T3 h3 e3 W3 V3 X3
  have N3 := Fr.snoc X3 (Fr.nil n0) g_x1
  refine Go.iinc X3 hx (pc' := 35) rfl (hb hby d10_32) rfl (y := (1 : Int32)) (by decide) (Ls' := #[.val (.ref x0), .val (.int 1), .val (.ref x1), .val (.int 0), .val (.int 2), .val (.int 0), .val (.int p0)]) rfl ?_
  refine Go.iinc X3 hx (pc' := 38) rfl (hb hby d10_35) rfl (y := (1 : Int32)) (by decide) (Ls' := #[.val (.ref x0), .val (.int 1), .val (.ref x1), .val (.int 1), .val (.int 2), .val (.int 0), .val (.int p0)]) rfl ?_
  refine Go.iinc X3 hx (pc' := 41) rfl (hb hby d10_38) rfl (y := (1 : Int32)) (by decide) (Ls' := #[.val (.ref x0), .val (.int 1), .val (.ref x1), .val (.int 1), .val (.int 2), .val (.int 1), .val (.int p0)]) rfl ?_
  refine Go.goto X3 hx (pc' := 3) (hb hby d10_41) (by decide) (by decide) ?_
  refine Go.iload X3 hx (pc' := 5) rfl (hb hby d10_3) rfl ?_
  refine Go.iload X3 hx (pc' := 7) rfl (hb hby d10_5) rfl ?_
  refine Go.icmpNo X3 hx (pc' := 10) rfl (hb hby d10_7) (by decide) ?_
  refine Go.aloadN X3 hx (pc' := 11) rfl (hb hby d10_10) rfl rfl ?_
  refine Go.iloadN X3 hx (pc' := 12) rfl (hb hby d10_11) rfl ?_
  have fk4 := (P0.other W3 ne_x0_x1)
  refine Go.caload X3 hx hZ e3 fk4 (v := (.int p1)) ⟨by decide, by decide⟩ rfl (pc' := 13) rfl (hb hby d10_12) ?_
  refine Go.istore X3 hx (pc' := 15) rfl (hb hby d10_13) (Ls' := #[.val (.ref x0), .val (.int 1), .val (.ref x1), .val (.int 1), .val (.int 2), .val (.int 1), .val (.int p1)]) rfl ?_
  refine Go.iload X3 hx (pc' := 17) rfl (hb hby d10_15) rfl ?_
  refine Go.sipush X3 hx (pc' := 20) rfl (hb hby d10_17) (v := (255 : Int32)) (by decide) ?_
  refine Go.icmpYes X3 hx (pc' := 26) (hb hby d10_20) (flt (own_nlt_r (own_rlit (n := 255) (by decide)) R_p1 (by decide))).2.2.2 (by decide) (by decide) ?_
  refine Go.aloadN X3 hx (pc' := 27) rfl (hb hby d10_26) rfl rfl ?_
  refine Go.iloadN X3 hx (pc' := 28) rfl (hb hby d10_27) rfl ?_
  refine Go.iload X3 hx (pc' := 30) rfl (hb hby d10_28) rfl ?_
  refine Go.i2b X3 hx (pc' := 31) rfl (hb hby d10_30) ?_
  generalize hz5 : (p1.toInt8.toInt32) = z5
  have r6 : -128 ≤ z5.toInt ∧ z5.toInt ≤ 127 := own_ri2b hz5
  refine Go.bastore X3 hx hZ e3 V3 z5 (own_nar_byte r6 (by decide) (by decide)) ⟨by decide, by decide⟩ 1 rfl (Nat.le_of_ble_eq_true rfl) (pc' := 32) rfl (hb hby d10_31) ?_
  intro T7 h7 e7 W7 V7 X7
  have N7 := Fr.snoc X7 N3 g_x1
  refine Go.iinc X7 hx (pc' := 35) rfl (hb hby d10_32) rfl (y := (2 : Int32)) (by decide) (Ls' := #[.val (.ref x0), .val (.int 2), .val (.ref x1), .val (.int 1), .val (.int 2), .val (.int 1), .val (.int p1)]) rfl ?_
  refine Go.iinc X7 hx (pc' := 38) rfl (hb hby d10_35) rfl (y := (2 : Int32)) (by decide) (Ls' := #[.val (.ref x0), .val (.int 2), .val (.ref x1), .val (.int 2), .val (.int 2), .val (.int 1), .val (.int p1)]) rfl ?_
  refine Go.iinc X7 hx (pc' := 41) rfl (hb hby d10_38) rfl (y := (2 : Int32)) (by decide) (Ls' := #[.val (.ref x0), .val (.int 2), .val (.ref x1), .val (.int 2), .val (.int 2), .val (.int 2), .val (.int p1)]) rfl ?_
  refine Go.goto X7 hx (pc' := 3) (hb hby d10_41) (by decide) (by decide) ?_
  refine Go.iload X7 hx (pc' := 5) rfl (hb hby d10_3) rfl ?_
  refine Go.iload X7 hx (pc' := 7) rfl (hb hby d10_5) rfl ?_
  refine Go.icmpYes X7 hx (pc' := 44) (hb hby d10_7) (by decide) (by decide) (by decide) ?_
  refine Go.iload X7 hx (pc' := 46) rfl (hb hby d10_44) rfl ?_
  subst hFF
  refine Go.retI X7 hx hlk hret (hb hby d10_46) (by decide) (by decide) ?_
  rw [e7]
  have V8 : Arv Z h7 x1 kk1 .byte (2 : Int32) [(.int z1), (.int z5)] (.int 0) := V7
  have fk9 : Exa Z h7 x1 "[B" := ((P3.wr W3).wr W7)
  have Kp10 : Keep h0 h3 [x1] := ((Keep.refl h0 [x1]).wr W3 (Or.inl (List.mem_of_getElem? (i := 0) rfl)))
  have Kp11 : Keep h0 h7 [x1] := (Kp10.wr W7 (Or.inl (List.mem_of_getElem? (i := 0) rfl)))
  exact ⟨z1, z5, hz1, hz5, rfl, N7, Kp11, V8, fk9⟩
-- java/lang/StringUTF16.compress
set_option maxRecDepth 65536 in
set_option maxHeartbeats 4000000 in
theorem au_14 (l : Launch) (Z : State) (a0 : Array Value) (hw : ∀ d ∈ tables_1, d.before a0 Z = true) (x0 : Addr) (kk0 : ClassId) (p0 : Int32) (p1 : Int32) (h0 : Heap) (n0 : Nat) (Z0 : n0 ≤ h0.size) (P0 : Arv Z h0 x0 kk0 .char (2 : Int32) [(.int p0), (.int p1)] (.int 0)) (R_p0 : 0 ≤ p0.toInt ∧ p0.toInt ≤ 255) (R_p1 : 0 ≤ p1.toInt ∧ p1.toInt ≤ 255) :
    Ctr l Z (⟨"java/lang/StringUTF16", "compress", "([CII)[B"⟩ : MethodName) jdk_52_method_16_code 6 (some (.array .byte)) ({ frames := 1, cells := 1, slots := 2, locals := 18 } : Room) #[(.ref x0), (.int 0), (.int 2)] h0 (fun v h L => ∃ (y0 : Int32) (y1 : Int32) (y2 : Addr) (y3 : ClassId), (p0.toInt8.toInt32) = y0 ∧ (p1.toInt8.toInt32) = y1 ∧ v = some (.ref y2) ∧ Fr n0 L ∧ Keep h0 h [] ∧ h0.size ≤ y2 ∧ Arv Z h y2 y3 .byte (2 : Int32) [(.int y0), (.int y1)] (.int 0) ∧ Exa Z h y2 "[B") := by
  refine Ctr.of (plainFor_of_name pn_c1) ?_
  intro p e s m below meth c T0 hx hZ hby hml hown hnm hret hlk e0 es X0
  refine Go.cast (ef_9_RII m x0 (0 : Int32) (2 : Int32)) ?_
  generalize hFF : EndN s _ _ _ = FF
  refine Go.iloadN X0 hx (pc' := 1) rfl (hb hby d9_0) rfl ?_
  refine Go.newarray X0 hx hZ (ty := .byte) rfl (tw_22 hw) e0 (by decide) (cap := 2) (by decide) (by decide) (by decide) (by decide) (ad := "[B") (by decide) 2 (pc' := 3) rfl (hb hby d9_1) ?_
  intro T1 h1 b1 k1 e1 E1 g1 V1 A1 X1
  have V1' : Arv Z h1 b1 k1 .byte (2 : Int32) [(.int 0), (.int 0)] (.int 0) := V1
  refine Go.astoreN X1 hx (pc' := 4) rfl (hb hby d9_3) (Ls' := #[.val (.ref x0), .val (.int 0), .val (.int 2), .val (.ref b1), .unset, .unset]) rfl rfl ?_
  refine Go.aloadN X1 hx (pc' := 5) rfl (hb hby d9_4) rfl rfl ?_
  refine Go.iloadN X1 hx (pc' := 6) rfl (hb hby d9_5) rfl ?_
  refine Go.aloadN X1 hx (pc' := 7) rfl (hb hby d9_6) rfl rfl ?_
  refine Go.iconst X1 hx (pc' := 8) rfl (hb hby d9_7) (v := (0 : Int32)) rfl ?_
  refine Go.iloadN X1 hx (pc' := 9) rfl (hb hby d9_8) rfl ?_
  have Kp3 : Keep h0 h1 [] := ((Keep.refl h0 []).ext E1)
  have Zn2 : n0 ≤ h1.size := Nat.le_trans Z0 Kp3.1
  have fk4 := (P0.ext E1)
  have sz6 : h0.size ≤ b1 := Nat.le_trans (Keep.refl h0 []).1 (Nat.le_of_eq g1.symm)
  have ge5 : n0 ≤ b1 := Nat.le_trans Z0 sz6
  have ne7 : x0 ≠ b1 := Nat.ne_of_lt (Nat.lt_of_lt_of_le P0.lt (Nat.le_of_eq g1.symm))
  refine Go.callS X1 hx hZ hown (tw_63 hw) (tw_64 hw) (tw_61 hw) (tw_65 hw) (by decide) (tw_65 hw) (tw_61 hw) (au_15 l Z a0 hw x0 b1 kk0 p0 p1 k1 h1 n0 Zn2 fk4 V1' A1 R_p0 R_p1 ge5 ne7) e1 (argsL := [(.ref x0), (.int 0), (.ref b1), (.int 0), (.int 2)]) (rest := []) (pc' := 12) rfl (by rw [hml]; rfl) (lenOf pd_2 rfl) rfl rfl (W := 0) (Nat.le_of_eq rfl) (by decide) (by decide) (by decide) (by decide) (hb hby d9_9) ?_
  intro v8 T8 L8 q8 X8
  obtain ⟨h8, e8⟩ : ∃ z, T8.heap = z := ⟨_, rfl⟩
  rw [e8] at q8
  obtain ⟨z8_0, z8_1, d8_0, d8_1, rfl, N8, K8, F8_0, F8_1⟩ := q8
  show Go _ _ _ _ (T8.setTop (mkF m 12 #[.val (.ref x0), .val (.int 0), .val (.int 2), .val (.ref b1), .unset, .unset] [(.int 2)]))
  refine Go.istore X8 hx (pc' := 14) rfl (hb hby d9_12) (Ls' := #[.val (.ref x0), .val (.int 0), .val (.int 2), .val (.ref b1), .val (.int 2), .unset]) rfl ?_
  refine Go.iload X8 hx (pc' := 16) rfl (hb hby d9_14) rfl ?_
  refine Go.iloadN X8 hx (pc' := 17) rfl (hb hby d9_16) rfl ?_
  refine Go.icmpYes X8 hx (pc' := 57) (hb hby d9_17) (by decide) (by decide) (by decide) ?_
  refine Go.aloadN X8 hx (pc' := 58) rfl (hb hby d9_57) rfl rfl ?_
  subst hFF
  refine Go.retR X8 hx hlk (t := (.array .byte)) hret rfl rfl (hb hby d9_58) (by decide) (by decide) ?_
  rw [e8]
  have Kp9 : Keep h0 h8 [] := (Kp3.trans K8 (allS (Or.inr sz6) all0))
  exact ⟨z8_0, z8_1, b1, k1, d8_0, d8_1, rfl, (Fr.app (Fr.nil n0) N8), Kp9, sz6, F8_0, F8_1⟩
-- java/lang/StringUTF16.coderFromArrayLen
set_option maxRecDepth 65536 in
set_option maxHeartbeats 4000000 in
theorem au_16 (l : Launch) (Z : State) (a0 : Array Value) (hw : ∀ d ∈ tables_1, d.before a0 Z = true) (x0 : Addr) (kk0 : ClassId) (p0 : Int32) (p1 : Int32) (h0 : Heap) (n0 : Nat) (Z0 : n0 ≤ h0.size) (P0 : Arv Z h0 x0 kk0 .byte (2 : Int32) [(.int p0), (.int p1)] (.int 0)) :
    Ctr l Z (⟨"java/lang/StringUTF16", "coderFromArrayLen", "([BI)B"⟩ : MethodName) jdk_52_method_15_code 2 (some .byte) ({ frames := 0, cells := 0, slots := 0, locals := 0 } : Room) #[(.ref x0), (.int 2)] h0 (fun v h L => v = some (.int 0) ∧ Fr n0 L ∧ h = h0) := by
  refine Ctr.of (plainFor_of_name pn_c1) ?_
  intro p e s m below meth c T0 hx hZ hby hml hown hnm hret hlk e0 es X0
  refine Go.cast (ef_11_RI m x0 (2 : Int32)) ?_
  generalize hFF : EndN s _ _ _ = FF
  refine Go.iloadN X0 hx (pc' := 1) rfl (hb hby d11_0) rfl ?_
  refine Go.aloadN X0 hx (pc' := 2) rfl (hb hby d11_1) rfl rfl ?_
  refine Go.arraylength X0 hx hZ e0 P0 (pc' := 3) rfl (hb hby d11_2) ?_
  refine Go.isub X0 hx (pc' := 4) rfl (hb hby d11_3) ?_
  rw [show ((2 : Int32) - (2 : Int32)) = (0 : Int32) from by decide]
  refine Go.bipush X0 hx (pc' := 6) rfl (hb hby d11_4) (v := (31 : Int32)) (by decide) ?_
  refine Go.iushr X0 hx (pc' := 7) rfl (hb hby d11_6) ?_
  rw [show (((0 : Int32).toUInt32 >>> ((31 : Int32) &&& 31).toUInt32).toInt32) = (0 : Int32) from by decide]
  refine Go.i2b X0 hx (pc' := 8) rfl (hb hby d11_7) ?_
  rw [show ((0 : Int32).toInt8.toInt32) = (0 : Int32) from by decide]
  subst hFF
  refine Go.retN X0 hx hlk (t := .byte) hret (by simp) (hb hby d11_8) (by decide) (by decide) ?_
  rw [e0]
  exact ⟨(congrArg (fun z => some (Value.int z)) (by decide : nar .byte (0 : Int32) = (0 : Int32))), (Fr.nil n0), rfl⟩
-- java/lang/String.init
set_option maxRecDepth 65536 in
set_option maxHeartbeats 4000000 in
theorem au_13 (l : Launch) (Z : State) (a0 : Array Value) (hw : ∀ d ∈ tables_1, d.before a0 Z = true) (x0 : Addr) (x1 : Addr) (kk0 : ClassId) (p0 : Int32) (p1 : Int32) (ga3 : Addr) (gz9 : Int32) (gv13 : Value) (gk17 : ClassId) (gvs18 : List Value) (h0 : Heap) (n0 : Nat) (Z0 : n0 ≤ h0.size) (O0 : Old Z n0 h0) (G : Glob Z ga3 gz9 gv13 gk17 gvs18) (P0 : Exa Z h0 x0 "java/lang/String") (P1 : Fld Z h0 x0 "java/lang/String" "coder" "B" (.int 0)) (P2 : Fld Z h0 x0 "java/lang/String" "value" "[B" .null) (P3 : Arv Z h0 x1 kk0 .char (2 : Int32) [(.int p0), (.int p1)] (.int 0)) (R_p0 : 0 ≤ p0.toInt ∧ p0.toInt ≤ 255) (R_p1 : 0 ≤ p1.toInt ∧ p1.toInt ≤ 255) (g_x0 : n0 ≤ x0) :
    Ctr l Z (⟨"java/lang/String", "<init>", "([CIILjava/lang/Void;)V"⟩ : MethodName) jdk_42_method_149_code 6 none ({ frames := 2, cells := 1, slots := 2, locals := 35 } : Room) #[(.ref x0), (.ref x1), (.int 0), (.int 2), .null] h0 (fun v h L => ∃ (y0 : Int32) (y1 : Int32) (y2 : Addr) (y3 : ClassId), (p0.toInt8.toInt32) = y0 ∧ (p1.toInt8.toInt32) = y1 ∧ v = none ∧ Fr n0 L ∧ Keep h0 h [x0] ∧ h0.size ≤ y2 ∧ Exa Z h x0 "java/lang/String" ∧ Fld Z h x0 "java/lang/String" "coder" "B" (.int 0) ∧ Fld Z h x0 "java/lang/String" "value" "[B" (.ref y2) ∧ Arv Z h y2 y3 .byte (2 : Int32) [(.int y0), (.int y1)] (.int 0) ∧ Exa Z h y2 "[B") := by
  refine Ctr.of (plainFor_of_name pn_c0) ?_
  intro p e s m below meth c T0 hx hZ hby hml hown hnm hret hlk e0 es X0
  have G' := G
  obtain ⟨-, -, -, G3, -, -, G6, -, -⟩ := G'
  refine Go.cast (ef_3_RRIIN m x0 x1 (0 : Int32) (2 : Int32)) ?_
  generalize hFF : EndN s _ _ _ = FF
  refine Go.aloadN X0 hx (pc' := 1) rfl (hb hby d3_0) rfl rfl ?_
  refine Go.initO X0 hx hZ hown (tw_18 hw) (tw_19 hw) (tw_20 hw) e0 (by decide) (W := 0) (by rw [hml]; rfl) (Nat.le_of_eq rfl) (by decide) (pc' := 4) rfl (hb hby d3_1) ?_
  intro T1 e1 X1
  refine Go.iloadN X1 hx (pc' := 5) rfl (hb hby d3_4) rfl ?_
  refine Go.ifYes X1 hx (pc' := 27) (hb hby d3_5) (by decide) (by decide) (by decide) ?_
  have fk2 : Sta Z h0 "java/lang/String" "COMPACT_STRINGS" "Z" (.int gz9) := G3.ext O0.2
  refine Go.getS X1 hx hZ hown (host := "") (Or.inl (tw_58 hw)) Via.refl e1 fk2 (pc' := 30) rfl (hb hby d3_27) ?_
  intro T3 e3 X3
  refine Go.ifNo X3 hx (pc' := 33) rfl (hb hby d3_30) (feq G6).1 ?_
  refine Go.aloadN X3 hx (pc' := 34) rfl (hb hby d3_33) rfl rfl ?_
  refine Go.iloadN X3 hx (pc' := 35) rfl (hb hby d3_34) rfl ?_
  refine Go.iloadN X3 hx (pc' := 36) rfl (hb hby d3_35) rfl ?_
  refine Go.callS X3 hx hZ hown (tw_59 hw) (tw_60 hw) (tw_61 hw) (tw_62 hw) (by decide) (tw_62 hw) (tw_61 hw) (au_14 l Z a0 hw x1 kk0 p0 p1 h0 n0 Z0 P3 R_p0 R_p1) e3 (argsL := [(.ref x1), (.int 0), (.int 2)]) (rest := []) (pc' := 39) rfl (by rw [hml]; rfl) (lenOf pd_3 rfl) rfl rfl (W := 0) (Nat.le_of_eq rfl) (by decide) (by decide) (by decide) (by decide) (hb hby d3_36) ?_
  intro v4 T4 L4 q4 X4
  obtain ⟨h4, e4⟩ : ∃ z, T4.heap = z := ⟨_, rfl⟩
  rw [e4] at q4
  obtain ⟨z4_0, z4_1, b4_0, k4_0, d4_0, d4_1, rfl, N4, K4, s4_0, F4_0, F4_1⟩ := q4
  show Go _ _ _ _ (T4.setTop (mkF m 39 #[.val (.ref x0), .val (.ref x1), .val (.int 0), .val (.int 2), .val .null, .unset] [(.ref b4_0)]))
  refine Go.astore X4 hx (pc' := 41) rfl (hb hby d3_39) (Ls' := #[.val (.ref x0), .val (.ref x1), .val (.int 0), .val (.int 2), .val .null, .val (.ref b4_0)]) rfl rfl ?_
  refine Go.aloadN X4 hx (pc' := 42) rfl (hb hby d3_41) rfl rfl ?_
  refine Go.aload X4 hx (pc' := 44) rfl (hb hby d3_42) rfl rfl ?_
  refine Go.iloadN X4 hx (pc' := 45) rfl (hb hby d3_44) rfl ?_
  have r5 : -128 ≤ z4_0.toInt ∧ z4_0.toInt ≤ 127 := own_ri2b d4_0
  have r6 : -128 ≤ z4_1.toInt ∧ z4_1.toInt ≤ 127 := own_ri2b d4_1
  have Kp8 : Keep h0 h4 [x0] := ((Keep.refl h0 [x0]).trans K4 all0)
  have Zn7 : n0 ≤ h4.size := Nat.le_trans Z0 Kp8.1
  refine Go.callS X4 hx hZ hown (tw_66 hw) (tw_67 hw) (tw_61 hw) (tw_68 hw) (by decide) (tw_68 hw) (tw_61 hw) (au_16 l Z a0 hw b4_0 k4_0 z4_0 z4_1 h4 n0 Zn7 F4_0) e4 (argsL := [(.ref b4_0), (.int 2)]) (rest := [(.ref x0)]) (pc' := 48) rfl (by rw [hml]; rfl) (lenOf pd_4 rfl) rfl rfl (W := 1) (Nat.le_of_eq rfl) (by decide) (by decide) (by decide) (by decide) (hb hby d3_45) ?_
  intro v9 T9 L9 q9 X9
  obtain ⟨rfl, N9, e9⟩ := q9
  show Go _ _ _ _ (T9.setTop (mkF m 48 #[.val (.ref x0), .val (.ref x1), .val (.int 0), .val (.int 2), .val .null, .val (.ref b4_0)] [(.int 0), (.ref x0)]))
  have fk10 : Fld Z h4 x0 "java/lang/String" "coder" "B" (.int 0) := (P1.keep K4 nin0)
  have fk11 : Exa Z h4 x0 "java/lang/String" := (P0.keep K4)
  refine Go.putFN X9 hx hZ hown (tw_28 hw) Via.refl e9 fk10 fk11 (Or.inr ⟨(tw_24 hw), rfl, hnm⟩) (tw_9 hw) (ty := .byte) (v' := (.int 0)) (by decide) (by decide) (by decide) (pc' := 51) rfl (hb hby d3_48) ?_
  intro T12 h12 e12 W12 F12 X12
  have N12 := Fr.snoc X12 (Fr.app (Fr.app (Fr.nil n0) N4) N9) g_x0
  refine Go.aloadN X12 hx (pc' := 52) rfl (hb hby d3_51) rfl rfl ?_
  refine Go.aload X12 hx (pc' := 54) rfl (hb hby d3_52) rfl rfl ?_
  have fk13 : Fld Z h12 x0 "java/lang/String" "value" "[B" .null := ((P2.keep K4 nin0).other W12 (Or.inr (slot_ne (Or.inr (tw_23 hw)) (Or.inr (tw_24 hw)) (by decide) (t := (.array .byte)) (t' := .byte) (by decide) (by decide))))
  have fk14 : Exa Z h12 x0 "java/lang/String" := (fk11.wr W12)
  refine Go.putF X12 hx hZ hown (host := "") (Or.inl (tw_27 hw)) Via.refl e12 fk13 fk14 (Or.inr ⟨(tw_23 hw), rfl, hnm⟩) (tw_9 hw) (ty := (.array .byte)) (by decide) rfl rfl (pc' := 57) rfl (hb hby d3_54) ?_
  intro T15 h15 e15 W15 F15 X15
  have N15 := Fr.snoc X15 N12 g_x0
  subst hFF
  refine Go.ret0 X15 hx hlk hret (hb hby d3_57) (by decide) (by decide) ?_
  rw [e15]
  have fk16 : Exa Z h15 x0 "java/lang/String" := (fk14.wr W15)
  have fk17 : Fld Z h15 x0 "java/lang/String" "coder" "B" (.int 0) := (F12.other W15 (Or.inr (slot_ne (Or.inr (tw_24 hw)) (Or.inr (tw_23 hw)) (by decide) (t := .byte) (t' := (.array .byte)) (by decide) (by decide))))
  have ne18 : x0 ≠ b4_0 := Nat.ne_of_lt (Nat.lt_of_lt_of_le P0.lt s4_0)
  have fk19 := ((F4_0.other W12 (Ne.symm ne18)).other W15 (Ne.symm ne18))
  have fk20 : Exa Z h15 b4_0 "[B" := ((F4_1.wr W12).wr W15)
  have Kp21 : Keep h0 h12 [x0] := (Kp8.wr W12 (Or.inl (List.mem_of_getElem? (i := 0) rfl)))
  have Kp22 : Keep h0 h15 [x0] := (Kp21.wr W15 (Or.inl (List.mem_of_getElem? (i := 0) rfl)))
  have sz23 : h0.size ≤ b4_0 := Nat.le_trans (Keep.refl h0 [x0]).1 s4_0
  exact ⟨z4_0, z4_1, b4_0, k4_0, d4_0, d4_1, rfl, N15, Kp22, sz23, fk16, fk17, F15, fk19, fk20⟩
-- java/lang/String.init
set_option maxRecDepth 65536 in
set_option maxHeartbeats 4000000 in
theorem au_12 (l : Launch) (Z : State) (a0 : Array Value) (hw : ∀ d ∈ tables_1, d.before a0 Z = true) (x0 : Addr) (x1 : Addr) (kk0 : ClassId) (p0 : Int32) (p1 : Int32) (ga3 : Addr) (gz9 : Int32) (gv13 : Value) (gk17 : ClassId) (gvs18 : List Value) (h0 : Heap) (n0 : Nat) (Z0 : n0 ≤ h0.size) (O0 : Old Z n0 h0) (G : Glob Z ga3 gz9 gv13 gk17 gvs18) (P0 : Exa Z h0 x0 "java/lang/String") (P1 : Fld Z h0 x0 "java/lang/String" "coder" "B" (.int 0)) (P2 : Fld Z h0 x0 "java/lang/String" "value" "[B" .null) (P3 : Arv Z h0 x1 kk0 .char (2 : Int32) [(.int p0), (.int p1)] (.int 0)) (R_p0 : 0 ≤ p0.toInt ∧ p0.toInt ≤ 255) (R_p1 : 0 ≤ p1.toInt ∧ p1.toInt ≤ 255) (g_x0 : n0 ≤ x0) :
    Ctr l Z (⟨"java/lang/String", "<init>", "([C)V"⟩ : MethodName) jdk_42_method_3_code 2 none ({ frames := 3, cells := 1, slots := 2, locals := 52 } : Room) #[(.ref x0), (.ref x1)] h0 (fun v h L => ∃ (y0 : Int32) (y1 : Int32) (y2 : Addr) (y3 : ClassId), (p0.toInt8.toInt32) = y0 ∧ (p1.toInt8.toInt32) = y1 ∧ v = none ∧ Fr n0 L ∧ Keep h0 h [x0] ∧ h0.size ≤ y2 ∧ Exa Z h x0 "java/lang/String" ∧ Fld Z h x0 "java/lang/String" "coder" "B" (.int 0) ∧ Fld Z h x0 "java/lang/String" "value" "[B" (.ref y2) ∧ Arv Z h y2 y3 .byte (2 : Int32) [(.int y0), (.int y1)] (.int 0) ∧ Exa Z h y2 "[B") := by
  refine Ctr.of (plainFor_of_name pn_c0) ?_
  intro p e s m below meth c T0 hx hZ hby hml hown hnm hret hlk e0 es X0
  refine Go.cast (ef_2_RR m x0 x1) ?_
  generalize hFF : EndN s _ _ _ = FF
  refine Go.aloadN X0 hx (pc' := 1) rfl (hb hby d2_0) rfl rfl ?_
  refine Go.aloadN X0 hx (pc' := 2) rfl (hb hby d2_1) rfl rfl ?_
  refine Go.iconst X0 hx (pc' := 3) rfl (hb hby d2_2) (v := (0 : Int32)) rfl ?_
  refine Go.aloadN X0 hx (pc' := 4) rfl (hb hby d2_3) rfl rfl ?_
  refine Go.arraylength X0 hx hZ e0 P3 (pc' := 5) rfl (hb hby d2_4) ?_
  refine Go.anull X0 hx (pc' := 6) rfl (hb hby d2_5) ?_
  refine Go.callN X0 hx hZ hown rfl (tw_14 hw) (tw_15 hw) (tw_17 hw) (by decide) (tw_17 hw) (tw_10 hw) (au_13 l Z a0 hw x0 x1 kk0 p0 p1 ga3 gz9 gv13 gk17 gvs18 h0 n0 Z0 O0 G P0 P1 P2 P3 R_p0 R_p1 g_x0) e0 (a := x0) (argsL := [(.ref x1), (.int 0), (.int 2), .null]) (rest := []) (pc' := 9) rfl (by rw [hml]; rfl) (lenOf pd_0 rfl) rfl rfl (W := 0) (Nat.le_of_eq rfl) (by decide) (by decide) (by decide) (by decide) (hb hby d2_6) ?_
  intro v1 T1 L1 q1 X1
  obtain ⟨h1, e1⟩ : ∃ z, T1.heap = z := ⟨_, rfl⟩
  rw [e1] at q1
  obtain ⟨z1_0, z1_1, b1_0, k1_0, d1_0, d1_1, rfl, N1, K1, s1_0, F1_0, F1_1, F1_2, F1_3, F1_4⟩ := q1
  show Go _ _ _ _ (T1.setTop (mkF m 9 #[.val (.ref x0), .val (.ref x1)] []))
  subst hFF
  refine Go.ret0 X1 hx hlk hret (hb hby d2_9) (by decide) (by decide) ?_
  rw [e1]
  have Kp2 : Keep h0 h1 [x0] := ((Keep.refl h0 [x0]).trans K1 (allS (Or.inl (List.mem_of_getElem? (i := 0) rfl)) all0))
  have sz3 : h0.size ≤ b1_0 := Nat.le_trans (Keep.refl h0 [x0]).1 s1_0
  exact ⟨z1_0, z1_1, b1_0, k1_0, d1_0, d1_1, rfl, (Fr.app (Fr.nil n0) N1), Kp2, sz3, F1_0, F1_1, F1_2, F1_3, F1_4⟩
theorem d1_9 : decode method_2_code 9 = .ok (.aconst_null, 1) := by decide +kernel
theorem d1_10 : decode method_2_code 10 = .ok (.areturn, 1) := by decide +kernel
theorem ef_1_I (m : MethodId) (x0 : Int32) : entryFrame m #[(.int x0)] 3 = mkF m 0 #[.val (.int x0), .unset, .unset] [] := by first | (simp [entryFrame, mkF, argsToLocals, Value.category]; done) | rfl
theorem pn_c2 : plainName "com/example/rockhopper/rockhopper/model/ValidatorsEqualsPinLaw" = true := by first | (simp [plainName, overriddenIn]; done) | decide +kernel
-- com/example/rockhopper/rockhopper/model/ValidatorsEqualsPinLaw.mk
set_option maxRecDepth 65536 in
set_option maxHeartbeats 4000000 in
theorem au_6 (l : Launch) (Z : State) (a0 : Array Value) (hw : ∀ d ∈ tables_1, d.before a0 Z = true) (p0 : Int32) (x0 : Addr) (ga3 : Addr) (gz9 : Int32) (gv13 : Value) (gk17 : ClassId) (gvs18 : List Value) (h0 : Heap) (n0 : Nat) (Z0 : n0 ≤ h0.size) (O0 : Old Z n0 h0) (G : Glob Z ga3 gz9 gv13 gk17 gvs18) (P0 : Exa Z h0 x0 "com/example/rockhopper/rockhopper/model/Validators") :
    CtrW l Z EL0 (⟨"com/example/rockhopper/rockhopper/model/ValidatorsEqualsPinLaw", "mk", "(I)Ljava/lang/String;"⟩ : MethodName) method_2_code 3 (some (.object "java/lang/String")) ({ frames := 4, cells := 6, slots := 12, locals := 66 } : Room) #[(.int p0)] h0 [x0] (fun v vm h L => (∃ (y0 : List Int32) (y1 : Int32) (y2 : Addr) (y3 : Addr) (y4 : ClassId), own_key p0 = some y0 ∧ y1.toInt = y0.length ∧ v = some (.ref y2) ∧ Fr n0 L ∧ Keep h0 h [] ∧ h0.size ≤ y2 ∧ y3 ≠ x0 ∧ Safe Z EL0 vm h y2 ∧ Exa Z h y2 "java/lang/String" ∧ Fld Z h y2 "java/lang/String" "coder" "B" (.int 0) ∧ Fld Z h y2 "java/lang/String" "value" "[B" (.ref y3) ∧ Arv Z h y3 y4 .byte y1 (y0.map Value.int) (.int 0)) ∨ (own_key p0 = none ∧ v = some .null ∧ Fr n0 L ∧ Keep h0 h [])) := by
  refine CtrW.of (plainFor_of_name pn_c2) ?_
  intro p e s m below meth c T0 hx hZ hby hml hown hnm hret hlk e0 es hS0 C0 hsf X0
  refine Go.cast (ef_1_I m p0) ?_
  generalize hFF : EndW Z EL0 s _ _ _ = FF
  refine Go.iloadN X0 hx (pc' := 1) rfl (hb hby d1_0) rfl ?_
  refine Go.iconst X0 hx (pc' := 2) rfl (hb hby d1_1) (v := (3 : Int32)) rfl ?_
  refine Go.iand X0 hx (pc' := 3) rfl (hb hby d1_2) ?_
  generalize hz1 : (p0 &&& (3 : Int32)) = z1
  refine Go.istoreN X0 hx (pc' := 4) rfl (hb hby d1_3) (Ls' := #[.val (.int p0), .val (.int z1), .unset]) rfl ?_
  have r2 : 0 ≤ z1.toInt ∧ z1.toInt ≤ 3 := own_rand hz1 (by decide)
  rcases own_cs_0_3 r2 with rfl | rfl | rfl | rfl
  · refine Go.iloadN X0 hx (pc' := 5) rfl (hb hby d1_4) rfl ?_
    refine Go.iconst X0 hx (pc' := 6) rfl (hb hby d1_5) (v := (3 : Int32)) rfl ?_
    refine Go.icmpYes X0 hx (pc' := 11) (hb hby d1_6) (by decide) (by decide) (by decide) ?_
    refine Go.iloadN X0 hx (pc' := 12) rfl (hb hby d1_11) rfl ?_
    refine Go.newarray X0 hx hZ (ty := .char) rfl (tw_7 hw) e0 (by decide) (cap := 0) (by decide) (by decide) (by decide) (by decide) (ad := "[C") (by decide) 0 (pc' := 14) rfl (hb hby d1_12) ?_
    intro T3 h3 b3 k3 e3 E3 g3 V3 A3 X3
    have V3' : Arv Z h3 b3 k3 .char (0 : Int32) [] (.int 0) := V3
    refine Go.astoreN X3 hx (pc' := 15) rfl (hb hby d1_14) (Ls' := #[.val (.int p0), .val (.int 0), .val (.ref b3)]) rfl rfl ?_
    refine Go.iloadN X3 hx (pc' := 16) rfl (hb hby d1_15) rfl ?_
    refine Go.iconst X3 hx (pc' := 17) rfl (hb hby d1_16) (v := (1 : Int32)) rfl ?_
    refine Go.icmpYes X3 hx (pc' := 31) (hb hby d1_17) (by decide) (by decide) (by decide) ?_
    refine Go.iloadN X3 hx (pc' := 32) rfl (hb hby d1_31) rfl ?_
    refine Go.iconst X3 hx (pc' := 33) rfl (hb hby d1_32) (v := (2 : Int32)) rfl ?_
    refine Go.icmpYes X3 hx (pc' := 48) (hb hby d1_33) (by decide) (by decide) (by decide) ?_
    refine Go.new X3 hx hZ hown (tw_8 hw) (tw_9 hw) (tw_10 hw) e3 (by decide) (by decide) (pc' := 51) rfl (hb hby d1_48) ?_
    intro T4 h4 b4 e4 E4 g4 A4 D4 X4
    have b4_value : Fld Z h4 b4 "java/lang/String" "value" "[B" .null := D4 (Or.inr (tw_23 hw)) (ty := (.array .byte)) (by decide)
    have b4_coder : Fld Z h4 b4 "java/lang/String" "coder" "B" (.int 0) := D4 (Or.inr (tw_24 hw)) (ty := .byte) (by decide)
    refine Go.dup X4 hx (pc' := 52) rfl (hb hby d1_51) rfl ?_
    refine Go.aloadN X4 hx (pc' := 53) rfl (hb hby d1_52) rfl rfl ?_
    have Kp6 : Keep h0 h3 [] := ((Keep.refl h0 []).ext E3)
    have Kp7 : Keep h0 h4 [] := (Kp6.ext E4)
    have Zn5 : n0 ≤ h4.size := Nat.le_trans Z0 Kp7.1
    have fk8 := (V3'.ext E4)
    have fk9 : Exa Z h4 x0 "com/example/rockhopper/rockhopper/model/Validators" := ((P0.ext E3).ext E4)
    have sz11 : h0.size ≤ b4 := Nat.le_trans Kp6.1 (Nat.le_of_eq g4.symm)
    have ge10 : n0 ≤ b4 := Nat.le_trans Z0 sz11
    have C12 : CHr Z EL0 s.vm s.heap s.vm h3 := (C0.trans (CHr.ext E3 C0.1))
    have C13 : CHr Z EL0 s.vm s.heap s.vm h4 := (C12.trans (CHr.ext E4 C12.1))
    have fk14 : Safe Z EL0 s.vm h4 b4 := (Safe.ext E4 C12.1 (Safe.new (Nat.le_of_eq g4.symm) : Safe Z EL0 s.vm h3 b4))
    have fk15 : Safe Z EL0 s.vm h3 x0 := (Safe.ext E3 C0.1 (hsf _ (List.mem_of_getElem? (i := 0) rfl)))
    have fk16 : Safe Z EL0 s.vm h4 x0 := (Safe.ext E4 C12.1 fk15)
    have hk17 := (Nat.le_trans (Nat.le_trans (Nat.le_refl _) E3.1) E4.1)
    refine Go.callNW X4 hx hZ hown rfl (tw_11 hw) (tw_12 hw) (tw_13 hw) (by decide) (tw_13 hw) (tw_10 hw) (au_5 l Z a0 hw b4 b3 x0 k3 ga3 gz9 gv13 gk17 gvs18 h4 n0 Zn5 G A4 b4_coder b4_value fk8 fk9 ge10) (own_EW hw) C13.1 (allS ⟨A4.lt, fk14⟩ (allS ⟨fk9.lt, fk16⟩ all0)) hS0 hk17 e4 (a := b4) (argsL := [(.ref b3)]) (rest := [(.ref b4)]) (pc' := 56) rfl (by rw [hml]; rfl) (lenOf pd_1 rfl) rfl rfl (W := 1) (Nat.le_of_eq rfl) (by decide) (by decide) (by decide) (by decide) (hb hby d1_53) ?_
    intro v18 T18 L18 h18 e18 q18 C18 S18 Z18 O18 X18
    obtain ⟨b18_0, k18_0, rfl, N18, K18, n18_0, F18_0, F18_1, F18_2, F18_3⟩ := q18
    show Go _ _ _ _ (T18.setTop (mkF m 56 #[.val (.int p0), .val (.int 0), .val (.ref b3)] [(.ref b4)]))
    subst hFF
    have C19 : CHr Z EL0 s.vm s.heap T18.vm h18 := (C13.trans C18)
    refine Go.retRW X18 hx hlk Z18 (own_EW hw) e18 S18 (Nat.le_refl _) C19 (t := (.object "java/lang/String")) hret rfl rfl (hb hby d1_56) (by decide) (by decide) (fun hat => ?_)
    have lk : own_key p0 = some [] := (own_key0 hz1)
    obtain ⟨lu, hlu⟩ : ∃ u, ([] : List Int32) = u := ⟨_, rfl⟩
    rw [hlu] at lk
    obtain ⟨lz, hlz⟩ : ∃ z : Int32, (0 : Int32) = z := ⟨_, rfl⟩
    have lV : Arv Z h18 b18_0 k18_0 .byte lz (lu.map Value.int) (.int 0) := by subst hlz hlu; exact F18_3
    have ll : lz.toInt = lu.length := by subst hlz hlu; rfl
    have Kp20 : Keep h0 h18 [] := (Kp7.trans K18 (allS (Or.inr sz11) all0))
    have fk21 : Safe Z EL0 T18.vm h18 b4 := (C18.safe A4.lt fk14)
    exact Or.inl ⟨lu, lz, b4, b18_0, k18_0, lk, ll, rfl, (Fr.app (Fr.nil n0) N18), Kp20, sz11, n18_0, (hat.safe F18_0.lt fk21), F18_0, F18_1, F18_2, lV⟩
  · refine Go.iloadN X0 hx (pc' := 5) rfl (hb hby d1_4) rfl ?_
    refine Go.iconst X0 hx (pc' := 6) rfl (hb hby d1_5) (v := (3 : Int32)) rfl ?_
    refine Go.icmpYes X0 hx (pc' := 11) (hb hby d1_6) (by decide) (by decide) (by decide) ?_
    refine Go.iloadN X0 hx (pc' := 12) rfl (hb hby d1_11) rfl ?_
    refine Go.newarray X0 hx hZ (ty := .char) rfl (tw_7 hw) e0 (by decide) (cap := 1) (by decide) (by decide) (by decide) (by decide) (ad := "[C") (by decide) 1 (pc' := 14) rfl (hb hby d1_12) ?_
    intro T22 h22 b22 k22 e22 E22 g22 V22 A22 X22
    have V22' : Arv Z h22 b22 k22 .char (1 : Int32) [(.int 0)] (.int 0) := V22
    refine Go.astoreN X22 hx (pc' := 15) rfl (hb hby d1_14) (Ls' := #[.val (.int p0), .val (.int 1), .val (.ref b22)]) rfl rfl ?_
    refine Go.iloadN X22 hx (pc' := 16) rfl (hb hby d1_15) rfl ?_
    refine Go.iconst X22 hx (pc' := 17) rfl (hb hby d1_16) (v := (1 : Int32)) rfl ?_
    refine Go.icmpNo X22 hx (pc' := 20) rfl (hb hby d1_17) (by decide) ?_
    refine Go.aloadN X22 hx (pc' := 21) rfl (hb hby d1_20) rfl rfl ?_
    refine Go.iconst X22 hx (pc' := 22) rfl (hb hby d1_21) (v := (0 : Int32)) rfl ?_
    refine Go.iloadN X22 hx (pc' := 23) rfl (hb hby d1_22) rfl ?_
    refine Go.iconst X22 hx (pc' := 24) rfl (hb hby d1_23) (v := (2 : Int32)) rfl ?_
    refine Go.iushr X22 hx (pc' := 25) rfl (hb hby d1_24) ?_
    generalize hz23 : ((p0.toUInt32 >>> ((2 : Int32) &&& 31).toUInt32).toInt32) = z23
    refine Go.sipush X22 hx (pc' := 28) rfl (hb hby d1_25) (v := (255 : Int32)) (by decide) ?_
    refine Go.iand X22 hx (pc' := 29) rfl (hb hby d1_28) ?_
    have r24 : 0 ≤ z23.toInt ∧ z23.toInt ≤ 1073741823 := own_rushr hz23 (k := 2) (by decide) (by decide) (by decide)
    generalize hz25 : (z23 &&& (255 : Int32)) = z25
    refine Go.i2c X22 hx (pc' := 30) rfl (hb hby d1_29) ?_
    have r26 : 0 ≤ z25.toInt ∧ z25.toInt ≤ 255 := own_rand hz25 (by decide)
    rw [show (z25.toUInt32.toUInt16.toUInt32.toInt32) = z25 from (own_i2c_id r26 (by decide) (by decide))]
    have sz28 : h0.size ≤ b22 := Nat.le_trans (Keep.refl h0 []).1 (Nat.le_of_eq g22.symm)
    have ge27 : n0 ≤ b22 := Nat.le_trans Z0 sz28
    refine Go.castore X22 hx hZ e22 V22' z25 (own_nar_char r26 (by decide) (by decide)) ⟨by decide, by decide⟩ 0 rfl (Nat.le_of_ble_eq_true rfl) (pc' := 31) rfl (hb hby d1_30) ?_
    intro T29 h29 e29 W29 V29 X29
    have N29 := Fr.snoc X29 (Fr.nil n0) ge27
    refine Go.iloadN X29 hx (pc' := 32) rfl (hb hby d1_31) rfl ?_
    refine Go.iconst X29 hx (pc' := 33) rfl (hb hby d1_32) (v := (2 : Int32)) rfl ?_
    refine Go.icmpYes X29 hx (pc' := 48) (hb hby d1_33) (by decide) (by decide) (by decide) ?_
    refine Go.new X29 hx hZ hown (tw_8 hw) (tw_9 hw) (tw_10 hw) e29 (by decide) (by decide) (pc' := 51) rfl (hb hby d1_48) ?_
    intro T30 h30 b30 e30 E30 g30 A30 D30 X30
    have b30_value : Fld Z h30 b30 "java/lang/String" "value" "[B" .null := D30 (Or.inr (tw_23 hw)) (ty := (.array .byte)) (by decide)
    have b30_coder : Fld Z h30 b30 "java/lang/String" "coder" "B" (.int 0) := D30 (Or.inr (tw_24 hw)) (ty := .byte) (by decide)
    refine Go.dup X30 hx (pc' := 52) rfl (hb hby d1_51) rfl ?_
    refine Go.aloadN X30 hx (pc' := 53) rfl (hb hby d1_52) rfl rfl ?_
    have Kp32 : Keep h0 h22 [] := ((Keep.refl h0 []).ext E22)
    have Kp33 : Keep h0 h29 [] := (Kp32.wr W29 (Or.inr sz28))
    have Kp34 : Keep h0 h30 [] := (Kp33.ext E30)
    have Zn31 : n0 ≤ h30.size := Nat.le_trans Z0 Kp34.1
    have O35 := (O0.ext E22)
    have O36 := (O35.wr W29 ge27)
    have O37 := (O36.ext E30)
    have V38 : Arv Z h29 b22 k22 .char (1 : Int32) [(.int z25)] (.int 0) := V29
    have fk39 := (V38.ext E30)
    have sz41 : h0.size ≤ b30 := Nat.le_trans Kp33.1 (Nat.le_of_eq g30.symm)
    have ge40 : n0 ≤ b30 := Nat.le_trans Z0 sz41
    refine Go.callN X30 hx hZ hown rfl (tw_11 hw) (tw_12 hw) (tw_13 hw) (by decide) (tw_13 hw) (tw_10 hw) (au_7 l Z a0 hw b30 b22 k22 z25 ga3 gz9 gv13 gk17 gvs18 h30 n0 Zn31 O37 G A30 b30_coder b30_value fk39 r26 ge40) e30 (a := b30) (argsL := [(.ref b22)]) (rest := [(.ref b30)]) (pc' := 56) rfl (by rw [hml]; rfl) (lenOf pd_1 rfl) rfl rfl (W := 1) (Nat.le_of_eq rfl) (by decide) (by decide) (by decide) (by decide) (hb hby d1_53) ?_
    intro v42 T42 L42 q42 X42
    obtain ⟨h42, e42⟩ : ∃ z, T42.heap = z := ⟨_, rfl⟩
    rw [e42] at q42
    obtain ⟨z42_0, b42_0, k42_0, d42_0, rfl, N42, K42, s42_0, F42_0, F42_1, F42_2, F42_3, F42_4⟩ := q42
    show Go _ _ _ _ (T42.setTop (mkF m 56 #[.val (.int p0), .val (.int 1), .val (.ref b22)] [(.ref b30)]))
    subst hFF
    have C43 : CHr Z EL0 s.vm s.heap s.vm h22 := (C0.trans (CHr.ext E22 C0.1))
    have fk44 : Safe Z EL0 s.vm h22 b22 := (Safe.ext E22 C0.1 (Safe.new (Nat.le_of_eq g22.symm) : Safe Z EL0 s.vm h0 b22))
    have C45 : CHr Z EL0 s.vm s.heap s.vm h29 := (C43.trans (CHr.wr W29 fk44 C43.1))
    have C46 : CHr Z EL0 s.vm s.heap s.vm h30 := (C45.trans (CHr.ext E30 C45.1))
    have fk47 : Safe Z EL0 s.vm h30 b30 := (Safe.ext E30 C45.1 (Safe.new (Nat.le_of_eq g30.symm) : Safe Z EL0 s.vm h29 b30))
    have C48 : CHr Z EL0 s.vm s.heap s.vm h42 := (C46.trans (CHr.keep K42 (sfS fk47 sf0) C46.1))
    have hk49 := (Nat.le_trans (Nat.le_trans (Nat.le_trans (Nat.le_trans (Nat.le_refl _) E22.1) (Keep.of_wr W29).1) E30.1) K42.1)
    refine Go.retRW X42 hx hlk hZ (own_EW hw) e42 hS0 hk49 C48 (t := (.object "java/lang/String")) hret rfl rfl (hb hby d1_56) (by decide) (by decide) (fun hat => ?_)
    have lk : own_key p0 = some [z42_0] := (own_key1 hz1 hz23 hz25 d42_0)
    obtain ⟨lu, hlu⟩ : ∃ u, ([z42_0] : List Int32) = u := ⟨_, rfl⟩
    rw [hlu] at lk
    obtain ⟨lz, hlz⟩ : ∃ z : Int32, (1 : Int32) = z := ⟨_, rfl⟩
    have lV : Arv Z h42 b42_0 k42_0 .byte lz (lu.map Value.int) (.int 0) := by subst hlz hlu; exact F42_3
    have ll : lz.toInt = lu.length := by subst hlz hlu; rfl
    have Kp50 : Keep h0 h42 [] := (Kp34.trans K42 (allS (Or.inr sz41) all0))
    have sz51 : h0.size ≤ b42_0 := Nat.le_trans Kp34.1 s42_0
    have ne52 : b30 ≠ b42_0 := Nat.ne_of_lt (Nat.lt_of_lt_of_le A30.lt s42_0)
    have fk54 : Exa Z h30 x0 "com/example/rockhopper/rockhopper/model/Validators" := (((P0.ext E22).wr W29).ext E30)
    have ne53 : x0 ≠ b42_0 := Nat.ne_of_lt (Nat.lt_of_lt_of_le fk54.lt s42_0)
    have fk55 : Safe Z EL0 s.vm h42 b30 := (Safe.keep K42 (sfS fk47 sf0) C46.1 fk47)
    exact Or.inl ⟨lu, lz, b30, b42_0, k42_0, lk, ll, rfl, (Fr.app N29 N42), Kp50, sz41, (Ne.symm ne53), (hat.safe F42_0.lt fk55), F42_0, F42_1, F42_2, lV⟩
  · refine Go.iloadN X0 hx (pc' := 5) rfl (hb hby d1_4) rfl ?_
    refine Go.iconst X0 hx (pc' := 6) rfl (hb hby d1_5) (v := (3 : Int32)) rfl ?_
    refine Go.icmpYes X0 hx (pc' := 11) (hb hby d1_6) (by decide) (by decide) (by decide) ?_
    refine Go.iloadN X0 hx (pc' := 12) rfl (hb hby d1_11) rfl ?_
    refine Go.newarray X0 hx hZ (ty := .char) rfl (tw_7 hw) e0 (by decide) (cap := 2) (by decide) (by decide) (by decide) (by decide) (ad := "[C") (by decide) 2 (pc' := 14) rfl (hb hby d1_12) ?_
    intro T56 h56 b56 k56 e56 E56 g56 V56 A56 X56
    have V56' : Arv Z h56 b56 k56 .char (2 : Int32) [(.int 0), (.int 0)] (.int 0) := V56
    refine Go.astoreN X56 hx (pc' := 15) rfl (hb hby d1_14) (Ls' := #[.val (.int p0), .val (.int 2), .val (.ref b56)]) rfl rfl ?_
    refine Go.iloadN X56 hx (pc' := 16) rfl (hb hby d1_15) rfl ?_
    refine Go.iconst X56 hx (pc' := 17) rfl (hb hby d1_16) (v := (1 : Int32)) rfl ?_
    refine Go.icmpNo X56 hx (pc' := 20) rfl (hb hby d1_17) (by decide) ?_
    refine Go.aloadN X56 hx (pc' := 21) rfl (hb hby d1_20) rfl rfl ?_
    refine Go.iconst X56 hx (pc' := 22) rfl (hb hby d1_21) (v := (0 : Int32)) rfl ?_
    refine Go.iloadN X56 hx (pc' := 23) rfl (hb hby d1_22) rfl ?_
    refine Go.iconst X56 hx (pc' := 24) rfl (hb hby d1_23) (v := (2 : Int32)) rfl ?_
    refine Go.iushr X56 hx (pc' := 25) rfl (hb hby d1_24) ?_
    generalize hz57 : ((p0.toUInt32 >>> ((2 : Int32) &&& 31).toUInt32).toInt32) = z57
    refine Go.sipush X56 hx (pc' := 28) rfl (hb hby d1_25) (v := (255 : Int32)) (by decide) ?_
    refine Go.iand X56 hx (pc' := 29) rfl (hb hby d1_28) ?_
    have r58 : 0 ≤ z57.toInt ∧ z57.toInt ≤ 1073741823 := own_rushr hz57 (k := 2) (by decide) (by decide) (by decide)
    generalize hz59 : (z57 &&& (255 : Int32)) = z59
    refine Go.i2c X56 hx (pc' := 30) rfl (hb hby d1_29) ?_
    have r60 : 0 ≤ z59.toInt ∧ z59.toInt ≤ 255 := own_rand hz59 (by decide)
    rw [show (z59.toUInt32.toUInt16.toUInt32.toInt32) = z59 from (own_i2c_id r60 (by decide) (by decide))]
    have sz62 : h0.size ≤ b56 := Nat.le_trans (Keep.refl h0 []).1 (Nat.le_of_eq g56.symm)
    have ge61 : n0 ≤ b56 := Nat.le_trans Z0 sz62
    refine Go.castore X56 hx hZ e56 V56' z59 (own_nar_char r60 (by decide) (by decide)) ⟨by decide, by decide⟩ 0 rfl (Nat.le_of_ble_eq_true rfl) (pc' := 31) rfl (hb hby d1_30) ?_
    intro T63 h63 e63 W63 V63 X63
    have N63 := Fr.snoc X63 (Fr.nil n0) ge61
    refine Go.iloadN X63 hx (pc' := 32) rfl (hb hby d1_31) rfl ?_
    refine Go.iconst X63 hx (pc' := 33) rfl (hb hby d1_32) (v := (2 : Int32)) rfl ?_
    refine Go.icmpNo X63 hx (pc' := 36) rfl (hb hby d1_33) (by decide) ?_
    refine Go.aloadN X63 hx (pc' := 37) rfl (hb hby d1_36) rfl rfl ?_
    refine Go.iconst X63 hx (pc' := 38) rfl (hb hby d1_37) (v := (1 : Int32)) rfl ?_
    refine Go.iloadN X63 hx (pc' := 39) rfl (hb hby d1_38) rfl ?_
    refine Go.bipush X63 hx (pc' := 41) rfl (hb hby d1_39) (v := (10 : Int32)) (by decide) ?_
    refine Go.iushr X63 hx (pc' := 42) rfl (hb hby d1_41) ?_
    generalize hz64 : ((p0.toUInt32 >>> ((10 : Int32) &&& 31).toUInt32).toInt32) = z64
    refine Go.sipush X63 hx (pc' := 45) rfl (hb hby d1_42) (v := (255 : Int32)) (by decide) ?_
    refine Go.iand X63 hx (pc' := 46) rfl (hb hby d1_45) ?_
    have r65 : 0 ≤ z64.toInt ∧ z64.toInt ≤ 4194303 := own_rushr hz64 (k := 10) (by decide) (by decide) (by decide)
    generalize hz66 : (z64 &&& (255 : Int32)) = z66
    refine Go.i2c X63 hx (pc' := 47) rfl (hb hby d1_46) ?_
    have r67 : 0 ≤ z66.toInt ∧ z66.toInt ≤ 255 := own_rand hz66 (by decide)
    rw [show (z66.toUInt32.toUInt16.toUInt32.toInt32) = z66 from (own_i2c_id r67 (by decide) (by decide))]
    refine Go.castore X63 hx hZ e63 V63 z66 (own_nar_char r67 (by decide) (by decide)) ⟨by decide, by decide⟩ 1 rfl (Nat.le_of_ble_eq_true rfl) (pc' := 48) rfl (hb hby d1_47) ?_
    intro T68 h68 e68 W68 V68 X68
    have N68 := Fr.snoc X68 N63 ge61
    refine Go.new X68 hx hZ hown (tw_8 hw) (tw_9 hw) (tw_10 hw) e68 (by decide) (by decide) (pc' := 51) rfl (hb hby d1_48) ?_
    intro T69 h69 b69 e69 E69 g69 A69 D69 X69
    have b69_value : Fld Z h69 b69 "java/lang/String" "value" "[B" .null := D69 (Or.inr (tw_23 hw)) (ty := (.array .byte)) (by decide)
    have b69_coder : Fld Z h69 b69 "java/lang/String" "coder" "B" (.int 0) := D69 (Or.inr (tw_24 hw)) (ty := .byte) (by decide)
    refine Go.dup X69 hx (pc' := 52) rfl (hb hby d1_51) rfl ?_
    refine Go.aloadN X69 hx (pc' := 53) rfl (hb hby d1_52) rfl rfl ?_
    have Kp71 : Keep h0 h56 [] := ((Keep.refl h0 []).ext E56)
    have Kp72 : Keep h0 h63 [] := (Kp71.wr W63 (Or.inr sz62))
    have Kp73 : Keep h0 h68 [] := (Kp72.wr W68 (Or.inr sz62))
    have Kp74 : Keep h0 h69 [] := (Kp73.ext E69)
    have Zn70 : n0 ≤ h69.size := Nat.le_trans Z0 Kp74.1
    have O75 := (O0.ext E56)
    have O76 := (O75.wr W63 ge61)
    have O77 := (O76.wr W68 ge61)
    have O78 := (O77.ext E69)
    have V79 : Arv Z h68 b56 k56 .char (2 : Int32) [(.int z59), (.int z66)] (.int 0) := V68
    have fk80 := (V79.ext E69)
    have sz82 : h0.size ≤ b69 := Nat.le_trans Kp73.1 (Nat.le_of_eq g69.symm)
    have ge81 : n0 ≤ b69 := Nat.le_trans Z0 sz82
    refine Go.callN X69 hx hZ hown rfl (tw_11 hw) (tw_12 hw) (tw_13 hw) (by decide) (tw_13 hw) (tw_10 hw) (au_12 l Z a0 hw b69 b56 k56 z59 z66 ga3 gz9 gv13 gk17 gvs18 h69 n0 Zn70 O78 G A69 b69_coder b69_value fk80 r60 r67 ge81) e69 (a := b69) (argsL := [(.ref b56)]) (rest := [(.ref b69)]) (pc' := 56) rfl (by rw [hml]; rfl) (lenOf pd_1 rfl) rfl rfl (W := 1) (Nat.le_of_eq rfl) (by decide) (by decide) (by decide) (by decide) (hb hby d1_53) ?_
    intro v83 T83 L83 q83 X83
    obtain ⟨h83, e83⟩ : ∃ z, T83.heap = z := ⟨_, rfl⟩
    rw [e83] at q83
    obtain ⟨z83_0, z83_1, b83_0, k83_0, d83_0, d83_1, rfl, N83, K83, s83_0, F83_0, F83_1, F83_2, F83_3, F83_4⟩ := q83
    show Go _ _ _ _ (T83.setTop (mkF m 56 #[.val (.int p0), .val (.int 2), .val (.ref b56)] [(.ref b69)]))
    subst hFF
    have C84 : CHr Z EL0 s.vm s.heap s.vm h56 := (C0.trans (CHr.ext E56 C0.1))
    have fk85 : Safe Z EL0 s.vm h56 b56 := (Safe.ext E56 C0.1 (Safe.new (Nat.le_of_eq g56.symm) : Safe Z EL0 s.vm h0 b56))
    have C86 : CHr Z EL0 s.vm s.heap s.vm h63 := (C84.trans (CHr.wr W63 fk85 C84.1))
    have fk87 : Safe Z EL0 s.vm h63 b56 := (Safe.wr W63 fk85 C84.1 fk85)
    have C88 : CHr Z EL0 s.vm s.heap s.vm h68 := (C86.trans (CHr.wr W68 fk87 C86.1))
    have C89 : CHr Z EL0 s.vm s.heap s.vm h69 := (C88.trans (CHr.ext E69 C88.1))
    have fk90 : Safe Z EL0 s.vm h69 b69 := (Safe.ext E69 C88.1 (Safe.new (Nat.le_of_eq g69.symm) : Safe Z EL0 s.vm h68 b69))
    have C91 : CHr Z EL0 s.vm s.heap s.vm h83 := (C89.trans (CHr.keep K83 (sfS fk90 sf0) C89.1))
    have hk92 := (Nat.le_trans (Nat.le_trans (Nat.le_trans (Nat.le_trans (Nat.le_trans (Nat.le_refl _) E56.1) (Keep.of_wr W63).1) (Keep.of_wr W68).1) E69.1) K83.1)
    refine Go.retRW X83 hx hlk hZ (own_EW hw) e83 hS0 hk92 C91 (t := (.object "java/lang/String")) hret rfl rfl (hb hby d1_56) (by decide) (by decide) (fun hat => ?_)
    have lk : own_key p0 = some [z83_0, z83_1] := (own_key2 hz1 hz57 hz59 d83_0 hz64 hz66 d83_1)
    obtain ⟨lu, hlu⟩ : ∃ u, ([z83_0, z83_1] : List Int32) = u := ⟨_, rfl⟩
    rw [hlu] at lk
    obtain ⟨lz, hlz⟩ : ∃ z : Int32, (2 : Int32) = z := ⟨_, rfl⟩
    have lV : Arv Z h83 b83_0 k83_0 .byte lz (lu.map Value.int) (.int 0) := by subst hlz hlu; exact F83_3
    have ll : lz.toInt = lu.length := by subst hlz hlu; rfl
    have Kp93 : Keep h0 h83 [] := (Kp74.trans K83 (allS (Or.inr sz82) all0))
    have sz94 : h0.size ≤ b83_0 := Nat.le_trans Kp74.1 s83_0
    have ne95 : b69 ≠ b83_0 := Nat.ne_of_lt (Nat.lt_of_lt_of_le A69.lt s83_0)
    have fk97 : Exa Z h69 x0 "com/example/rockhopper/rockhopper/model/Validators" := ((((P0.ext E56).wr W63).wr W68).ext E69)
    have ne96 : x0 ≠ b83_0 := Nat.ne_of_lt (Nat.lt_of_lt_of_le fk97.lt s83_0)
    have fk98 : Safe Z EL0 s.vm h83 b69 := (Safe.keep K83 (sfS fk90 sf0) C89.1 fk90)
    exact Or.inl ⟨lu, lz, b69, b83_0, k83_0, lk, ll, rfl, (Fr.app N68 N83), Kp93, sz82, (Ne.symm ne96), (hat.safe F83_0.lt fk98), F83_0, F83_1, F83_2, lV⟩
  · refine Go.iloadN X0 hx (pc' := 5) rfl (hb hby d1_4) rfl ?_
    refine Go.iconst X0 hx (pc' := 6) rfl (hb hby d1_5) (v := (3 : Int32)) rfl ?_
    refine Go.icmpNo X0 hx (pc' := 9) rfl (hb hby d1_6) (by decide) ?_
    refine Go.anull X0 hx (pc' := 10) rfl (hb hby d1_9) ?_
    subst hFF
    refine Go.retRW X0 hx hlk hZ (own_EW hw) e0 hS0 (Nat.le_refl _) C0 (t := (.object "java/lang/String")) hret rfl rfl (hb hby d1_10) (by decide) (by decide) (fun hat => ?_)
    have lk : own_key p0 = none := (own_key3 hz1)
    exact Or.inr (⟨lk, rfl, (Fr.nil n0), (Keep.refl h0 [])⟩)
theorem pd_5 : parseMethodDescriptor "(I)Ljava/lang/String;" = some ⟨[.int], some (.object "java/lang/String")⟩ := by decide +kernel
theorem d5_0 : decode prog_9_method_1_code 0 = .ok (.aload_n 0, 1) := by decide +kernel
theorem d5_1 : decode prog_9_method_1_code 1 = .ok (.invokespecial 1, 3) := by decide +kernel
theorem d5_4 : decode prog_9_method_1_code 4 = .ok (.aload_n 0, 1) := by decide +kernel
theorem d5_5 : decode prog_9_method_1_code 5 = .ok (.aload_n 1, 1) := by decide +kernel
theorem d5_6 : decode prog_9_method_1_code 6 = .ok (.putfield 7, 3) := by decide +kernel
theorem d5_9 : decode prog_9_method_1_code 9 = .ok (.aload_n 0, 1) := by decide +kernel
theorem d5_10 : decode prog_9_method_1_code 10 = .ok (.aload_n 2, 1) := by decide +kernel
theorem d5_11 : decode prog_9_method_1_code 11 = .ok (.putfield 13, 3) := by decide +kernel
theorem d5_14 : decode prog_9_method_1_code 14 = .ok (.return_, 1) := by decide +kernel
theorem ef_5_RRR (m : MethodId) (x0 : Addr) (x1 : Addr) (x2 : Addr) : entryFrame m #[(.ref x0), (.ref x1), (.ref x2)] 3 = mkF m 0 #[.val (.ref x0), .val (.ref x1), .val (.ref x2)] [] := by first | (simp [entryFrame, mkF, argsToLocals, Value.category]; done) | rfl
theorem pn_c3 : plainName "com/example/rockhopper/rockhopper/model/Validators" = true := by first | (simp [plainName, overriddenIn]; done) | decide +kernel
-- com/example/rockhopper/rockhopper/model/Validators.init
set_option maxRecDepth 65536 in
set_option maxHeartbeats 4000000 in
theorem au_17 (l : Launch) (Z : State) (a0 : Array Value) (hw : ∀ d ∈ tables_1, d.before a0 Z = true) (x0 : Addr) (x1 : Addr) (x2 : Addr) (h0 : Heap) (n0 : Nat) (Z0 : n0 ≤ h0.size) (P0 : Exa Z h0 x0 "com/example/rockhopper/rockhopper/model/Validators") (P1 : Fld Z h0 x0 "com/example/rockhopper/rockhopper/model/Validators" "etag" "Ljava/lang/String;" .null) (P2 : Fld Z h0 x0 "com/example/rockhopper/rockhopper/model/Validators" "lastModified" "Ljava/lang/String;" .null) (g_x0 : n0 ≤ x0) :
    Ctr l Z (⟨"com/example/rockhopper/rockhopper/model/Validators", "<init>", "(Ljava/lang/String;Ljava/lang/String;)V"⟩ : MethodName) prog_9_method_1_code 3 none ({ frames := 1, cells := 0, slots := 0, locals := 12 } : Room) #[(.ref x0), (.ref x1), (.ref x2)] h0 (fun v h L => v = none ∧ Fr n0 L ∧ Keep h0 h [x0] ∧ Exa Z h x0 "com/example/rockhopper/rockhopper/model/Validators" ∧ Fld Z h x0 "com/example/rockhopper/rockhopper/model/Validators" "etag" "Ljava/lang/String;" (.ref x1) ∧ Fld Z h x0 "com/example/rockhopper/rockhopper/model/Validators" "lastModified" "Ljava/lang/String;" (.ref x2)) := by
  refine Ctr.of (plainFor_of_name pn_c3) ?_
  intro p e s m below meth c T0 hx hZ hby hml hown hnm hret hlk e0 es X0
  refine Go.cast (ef_5_RRR m x0 x1 x2) ?_
  generalize hFF : EndN s _ _ _ = FF
  refine Go.aloadN X0 hx (pc' := 1) rfl (hb hby d5_0) rfl rfl ?_
  refine Go.initO X0 hx hZ hown (tw_32 hw) (tw_19 hw) (tw_20 hw) e0 (by decide) (W := 0) (by rw [hml]; rfl) (Nat.le_of_eq rfl) (by decide) (pc' := 4) rfl (hb hby d5_1) ?_
  intro T1 e1 X1
  refine Go.aloadN X1 hx (pc' := 5) rfl (hb hby d5_4) rfl rfl ?_
  refine Go.aloadN X1 hx (pc' := 6) rfl (hb hby d5_5) rfl rfl ?_
  refine Go.putF X1 hx hZ hown (host := "") (Or.inl (tw_33 hw)) Via.refl e1 P1 P0 (Or.inr ⟨(tw_34 hw), rfl, hnm⟩) (tw_1 hw) (ty := (.object "java/lang/String")) (by decide) rfl rfl (pc' := 9) rfl (hb hby d5_6) ?_
  intro T2 h2 e2 W2 F2 X2
  have N2 := Fr.snoc X2 (Fr.nil n0) g_x0
  refine Go.aloadN X2 hx (pc' := 10) rfl (hb hby d5_9) rfl rfl ?_
  refine Go.aloadN X2 hx (pc' := 11) rfl (hb hby d5_10) rfl rfl ?_
  have fk3 : Fld Z h2 x0 "com/example/rockhopper/rockhopper/model/Validators" "lastModified" "Ljava/lang/String;" .null := (P2.other W2 (Or.inr (slot_ne (Or.inr (tw_36 hw)) (Or.inr (tw_34 hw)) (by decide) (t := (.object "java/lang/String")) (t' := (.object "java/lang/String")) (by decide) (by decide))))
  have fk4 : Exa Z h2 x0 "com/example/rockhopper/rockhopper/model/Validators" := (P0.wr W2)
  refine Go.putF X2 hx hZ hown (host := "") (Or.inl (tw_35 hw)) Via.refl e2 fk3 fk4 (Or.inr ⟨(tw_36 hw), rfl, hnm⟩) (tw_1 hw) (ty := (.object "java/lang/String")) (by decide) rfl rfl (pc' := 14) rfl (hb hby d5_11) ?_
  intro T5 h5 e5 W5 F5 X5
  have N5 := Fr.snoc X5 N2 g_x0
  subst hFF
  refine Go.ret0 X5 hx hlk hret (hb hby d5_14) (by decide) (by decide) ?_
  rw [e5]
  have fk6 : Exa Z h5 x0 "com/example/rockhopper/rockhopper/model/Validators" := (fk4.wr W5)
  have fk7 : Fld Z h5 x0 "com/example/rockhopper/rockhopper/model/Validators" "etag" "Ljava/lang/String;" (.ref x1) := (F2.other W5 (Or.inr (slot_ne (Or.inr (tw_34 hw)) (Or.inr (tw_36 hw)) (by decide) (t := (.object "java/lang/String")) (t' := (.object "java/lang/String")) (by decide) (by decide))))
  have Kp8 : Keep h0 h2 [x0] := ((Keep.refl h0 [x0]).wr W2 (Or.inl (List.mem_of_getElem? (i := 0) rfl)))
  have Kp9 : Keep h0 h5 [x0] := (Kp8.wr W5 (Or.inl (List.mem_of_getElem? (i := 0) rfl)))
  exact ⟨rfl, N5, Kp9, fk6, fk7, F5⟩
theorem pd_6 : parseMethodDescriptor "(Ljava/lang/String;Ljava/lang/String;)V" = some ⟨[(.object "java/lang/String"), (.object "java/lang/String")], none⟩ := by decide +kernel
theorem d6_0 : decode prog_9_method_4_code 0 = .ok (.aload_n 1, 1) := by decide +kernel
theorem d6_1 : decode prog_9_method_4_code 1 = .ok (.instanceof 8, 3) := by decide +kernel
theorem d6_4 : decode prog_9_method_4_code 4 = .ok (.ifCond .eq 41, 3) := by decide +kernel
theorem d6_45 : decode prog_9_method_4_code 45 = .ok (.iconst 0, 1) := by decide +kernel
theorem d6_46 : decode prog_9_method_4_code 46 = .ok (.ireturn, 1) := by decide +kernel
theorem ef_6_RN (m : MethodId) (x0 : Addr)  : entryFrame m #[(.ref x0), .null] 2 = mkF m 0 #[.val (.ref x0), .val .null] [] := by first | (simp [entryFrame, mkF, argsToLocals, Value.category]; done) | rfl
-- com/example/rockhopper/rockhopper/model/Validators.equals
set_option maxRecDepth 65536 in
set_option maxHeartbeats 4000000 in
theorem au_18 (l : Launch) (Z : State) (a0 : Array Value) (hw : ∀ d ∈ tables_1, d.before a0 Z = true) (x0 : Addr) (h0 : Heap) (n0 : Nat) (Z0 : n0 ≤ h0.size) :
    Ctr l Z (⟨"com/example/rockhopper/rockhopper/model/Validators", "equals", "(Ljava/lang/Object;)Z"⟩ : MethodName) prog_9_method_4_code 2 (some .boolean) ({ frames := 0, cells := 0, slots := 0, locals := 0 } : Room) #[(.ref x0), .null] h0 (fun v h L => v = some (.int 0) ∧ Fr n0 L ∧ h = h0) := by
  refine Ctr.of (plainFor_of_name pn_c3) ?_
  intro p e s m below meth c T0 hx hZ hby hml hown hnm hret hlk e0 es X0
  refine Go.cast (ef_6_RN m x0) ?_
  generalize hFF : EndN s _ _ _ = FF
  refine Go.aloadN X0 hx (pc' := 1) rfl (hb hby d6_0) rfl rfl ?_
  refine Go.step (fun t kt => X0.instanceofNull hx (g := (mkF m 1 #[.val (.ref x0), .val .null] [.null])) rfl rfl (hb hby d6_1) t kt) ?_
  show Go _ _ _ _ (T0.setTop (mkF m 4 #[.val (.ref x0), .val .null] [(.int 0)]))
  refine Go.ifYes X0 hx (pc' := 45) (hb hby d6_4) (by decide) (by decide) (by decide) ?_
  refine Go.iconst X0 hx (pc' := 46) rfl (hb hby d6_45) (v := (0 : Int32)) rfl ?_
  subst hFF
  refine Go.retN X0 hx hlk (t := .boolean) hret (by simp) (hb hby d6_46) (by decide) (by decide) ?_
  rw [e0]
  exact ⟨(congrArg (fun z => some (Value.int z)) (by decide : nar .boolean (0 : Int32) = (0 : Int32))), (Fr.nil n0), rfl⟩
theorem pd_7 : parseMethodDescriptor "(Ljava/lang/Object;)Z" = some ⟨[(.object "java/lang/Object")], some .boolean⟩ := by decide +kernel
theorem d7_0 : decode jdk_33_method_22_code 0 = .ok (.iload_n 0, 1) := by decide +kernel
theorem d7_1 : decode jdk_33_method_22_code 1 = .ok (.bipush (-128), 2) := by decide +kernel
theorem d7_3 : decode jdk_33_method_22_code 3 = .ok (.if_icmp .lt 20, 3) := by decide +kernel
theorem d7_23 : decode jdk_33_method_22_code 23 = .ok (.new 1, 3) := by decide +kernel
theorem d7_26 : decode jdk_33_method_22_code 26 = .ok (.dup, 1) := by decide +kernel
theorem d7_27 : decode jdk_33_method_22_code 27 = .ok (.iload_n 0, 1) := by decide +kernel
theorem d15_0 : decode jdk_33_method_23_code 0 = .ok (.aload_n 0, 1) := by decide +kernel
theorem d16_0 : decode jdk_18_method_1_code 0 = .ok (.aload_n 0, 1) := by decide +kernel
theorem d16_1 : decode jdk_18_method_1_code 1 = .ok (.invokespecial 1, 3) := by decide +kernel
theorem d16_4 : decode jdk_18_method_1_code 4 = .ok (.return_, 1) := by decide +kernel
theorem ef_16_R (m : MethodId) (x0 : Addr) : entryFrame m #[(.ref x0)] 1 = mkF m 0 #[.val (.ref x0)] [] := by first | (simp [entryFrame, mkF, argsToLocals, Value.category]; done) | rfl
theorem pn_c4 : plainName "java/lang/Number" = true := by first | (simp [plainName, overriddenIn]; done) | decide +kernel
-- java/lang/Number.init
set_option maxRecDepth 65536 in
set_option maxHeartbeats 4000000 in
theorem au_21 (l : Launch) (Z : State) (a0 : Array Value) (hw : ∀ d ∈ tables_1, d.before a0 Z = true) (x0 : Addr) (h0 : Heap) (n0 : Nat) (Z0 : n0 ≤ h0.size) :
    Ctr l Z (⟨"java/lang/Number", "<init>", "()V"⟩ : MethodName) jdk_18_method_1_code 1 none ({ frames := 1, cells := 0, slots := 0, locals := 12 } : Room) #[(.ref x0)] h0 (fun v h L => v = none ∧ Fr n0 L ∧ h = h0) := by
  refine Ctr.of (plainFor_of_name pn_c4) ?_
  intro p e s m below meth c T0 hx hZ hby hml hown hnm hret hlk e0 es X0
  refine Go.cast (ef_16_R m x0) ?_
  generalize hFF : EndN s _ _ _ = FF
  refine Go.aloadN X0 hx (pc' := 1) rfl (hb hby d16_0) rfl rfl ?_
  refine Go.initO X0 hx hZ hown (tw_95 hw) (tw_19 hw) (tw_20 hw) e0 (by decide) (W := 0) (by rw [hml]; rfl) (Nat.le_of_eq rfl) (by decide) (pc' := 4) rfl (hb hby d16_1) ?_
  intro T1 e1 X1
  subst hFF
  refine Go.ret0 X1 hx hlk hret (hb hby d16_4) (by decide) (by decide) ?_
  rw [e1]
  exact ⟨rfl, (Fr.nil n0), rfl⟩
theorem pd_8 : parseMethodDescriptor "()V" = some ⟨[], none⟩ := by decide +kernel
theorem d15_1 : decode jdk_33_method_23_code 1 = .ok (.invokespecial 202, 3) := by decide +kernel
theorem d15_4 : decode jdk_33_method_23_code 4 = .ok (.aload_n 0, 1) := by decide +kernel
theorem d15_5 : decode jdk_33_method_23_code 5 = .ok (.iload_n 1, 1) := by decide +kernel
theorem d15_6 : decode jdk_33_method_23_code 6 = .ok (.putfield 205, 3) := by decide +kernel
theorem d15_9 : decode jdk_33_method_23_code 9 = .ok (.return_, 1) := by decide +kernel
theorem ef_15_RI (m : MethodId) (x0 : Addr) (x1 : Int32) : entryFrame m #[(.ref x0), (.int x1)] 2 = mkF m 0 #[.val (.ref x0), .val (.int x1)] [] := by first | (simp [entryFrame, mkF, argsToLocals, Value.category]; done) | rfl
theorem pn_c5 : plainName "java/lang/Integer" = true := by first | (simp [plainName, overriddenIn]; done) | decide +kernel
-- java/lang/Integer.init
set_option maxRecDepth 65536 in
set_option maxHeartbeats 4000000 in
theorem au_20 (l : Launch) (Z : State) (a0 : Array Value) (hw : ∀ d ∈ tables_1, d.before a0 Z = true) (x0 : Addr) (p0 : Int32) (h0 : Heap) (n0 : Nat) (Z0 : n0 ≤ h0.size) (P0 : Exa Z h0 x0 "java/lang/Integer") (P1 : Fld Z h0 x0 "java/lang/Integer" "value" "I" (.int 0)) (g_x0 : n0 ≤ x0) :
    Ctr l Z (⟨"java/lang/Integer", "<init>", "(I)V"⟩ : MethodName) jdk_33_method_23_code 2 none ({ frames := 2, cells := 0, slots := 0, locals := 24 } : Room) #[(.ref x0), (.int p0)] h0 (fun v h L => v = none ∧ Fr n0 L ∧ Keep h0 h [x0] ∧ Exa Z h x0 "java/lang/Integer" ∧ Fld Z h x0 "java/lang/Integer" "value" "I" (.int p0)) := by
  refine Ctr.of (plainFor_of_name pn_c5) ?_
  intro p e s m below meth c T0 hx hZ hby hml hown hnm hret hlk e0 es X0
  refine Go.cast (ef_15_RI m x0 p0) ?_
  generalize hFF : EndN s _ _ _ = FF
  refine Go.aloadN X0 hx (pc' := 1) rfl (hb hby d15_0) rfl rfl ?_
  refine Go.callN X0 hx hZ hown rfl (tw_89 hw) (tw_90 hw) (tw_94 hw) (by decide) (tw_94 hw) (tw_93 hw) (au_21 l Z a0 hw x0 h0 n0 Z0) e0 (a := x0) (argsL := []) (rest := []) (pc' := 4) rfl (by rw [hml]; rfl) (lenOf pd_8 rfl) rfl rfl (W := 0) (Nat.le_of_eq rfl) (by decide) (by decide) (by decide) (by decide) (hb hby d15_1) ?_
  intro v1 T1 L1 q1 X1
  obtain ⟨rfl, N1, e1⟩ := q1
  show Go _ _ _ _ (T1.setTop (mkF m 4 #[.val (.ref x0), .val (.int p0)] []))
  refine Go.aloadN X1 hx (pc' := 5) rfl (hb hby d15_4) rfl rfl ?_
  refine Go.iloadN X1 hx (pc' := 6) rfl (hb hby d15_5) rfl ?_
  refine Go.putF X1 hx hZ hown (host := "") (Or.inl (tw_96 hw)) Via.refl e1 P1 P0 (Or.inr ⟨(tw_97 hw), rfl, hnm⟩) (tw_84 hw) (ty := .int) (by decide) rfl rfl (pc' := 9) rfl (hb hby d15_6) ?_
  intro T2 h2 e2 W2 F2 X2
  have N2 := Fr.snoc X2 (Fr.app (Fr.nil n0) N1) g_x0
  subst hFF
  refine Go.ret0 X2 hx hlk hret (hb hby d15_9) (by decide) (by decide) ?_
  rw [e2]
  have fk3 : Exa Z h2 x0 "java/lang/Integer" := (P0.wr W2)
  have Kp4 : Keep h0 h2 [x0] := ((Keep.refl h0 [x0]).wr W2 (Or.inl (List.mem_of_getElem? (i := 0) rfl)))
  exact ⟨rfl, N2, Kp4, fk3, F2⟩
theorem pd_9 : parseMethodDescriptor "(I)V" = some ⟨[.int], none⟩ := by decide +kernel
theorem d7_28 : decode jdk_33_method_22_code 28 = .ok (.invokespecial 199, 3) := by decide +kernel
theorem d7_31 : decode jdk_33_method_22_code 31 = .ok (.areturn, 1) := by decide +kernel
theorem d7_6 : decode jdk_33_method_22_code 6 = .ok (.iload_n 0, 1) := by decide +kernel
theorem d7_7 : decode jdk_33_method_22_code 7 = .ok (.getstatic 191, 3) := by decide +kernel
theorem d7_10 : decode jdk_33_method_22_code 10 = .ok (.if_icmp .gt 13, 3) := by decide +kernel
theorem d7_13 : decode jdk_33_method_22_code 13 = .ok (.getstatic 195, 3) := by decide +kernel
theorem d7_16 : decode jdk_33_method_22_code 16 = .ok (.iload_n 0, 1) := by decide +kernel
theorem d7_17 : decode jdk_33_method_22_code 17 = .ok (.sipush 128, 3) := by decide +kernel
theorem d7_20 : decode jdk_33_method_22_code 20 = .ok (.iadd, 1) := by decide +kernel
theorem d7_21 : decode jdk_33_method_22_code 21 = .ok (.aaload, 1) := by decide +kernel
theorem d7_22 : decode jdk_33_method_22_code 22 = .ok (.areturn, 1) := by decide +kernel
theorem ef_7_I (m : MethodId) (x0 : Int32) : entryFrame m #[(.int x0)] 1 = mkF m 0 #[.val (.int x0)] [] := by first | (simp [entryFrame, mkF, argsToLocals, Value.category]; done) | rfl
-- java/lang/Integer.valueOf
set_option maxRecDepth 65536 in
set_option maxHeartbeats 4000000 in
theorem au_19 (l : Launch) (Z : State) (a0 : Array Value) (hw : ∀ d ∈ tables_1, d.before a0 Z = true) (p0 : Int32) (ga3 : Addr) (gz9 : Int32) (gv13 : Value) (gk17 : ClassId) (gvs18 : List Value) (h0 : Heap) (n0 : Nat) (Z0 : n0 ≤ h0.size) (O0 : Old Z n0 h0) (G : Glob Z ga3 gz9 gv13 gk17 gvs18) :
    Ctr l Z (⟨"java/lang/Integer", "valueOf", "(I)Ljava/lang/Integer;"⟩ : MethodName) jdk_33_method_22_code 1 (some (.object "java/lang/Integer")) ({ frames := 3, cells := 1, slots := 1, locals := 38 } : Room) #[(.int p0)] h0 (fun v h L => ∃ bz : Addr, v = some (.ref bz) ∧ Fr n0 L ∧ Keep h0 h [] ∧ Exa Z h bz "java/lang/Integer") := by
  refine Ctr.of (plainFor_of_name pn_c5) ?_
  intro p e s m below meth c T0 hx hZ hby hml hown hnm hret hlk e0 es X0
  have G' := G
  obtain ⟨G0, G1, -, -, -, G5, -, G7, -⟩ := G'
  refine Go.cast (ef_7_I m p0) ?_
  generalize hFF : EndN s _ _ _ = FF
  refine Go.iloadN X0 hx (pc' := 1) rfl (hb hby d7_0) rfl ?_
  refine Go.bipush X0 hx (pc' := 3) rfl (hb hby d7_1) (v := (-128 : Int32)) (by decide) ?_
  by_cases hc1 : p0 < (-128 : Int32)
  · refine Go.icmpYes X0 hx (pc' := 23) (hb hby d7_3) (tlt hc1).1 (by decide) (by decide) ?_
    refine Go.new X0 hx hZ hown (tw_83 hw) (tw_84 hw) (tw_44 hw) e0 (by decide) (by decide) (pc' := 26) rfl (hb hby d7_23) ?_
    intro T2 h2 b2 e2 E2 g2 A2 D2 X2
    have b2_value : Fld Z h2 b2 "java/lang/Integer" "value" "I" (.int 0) := D2 (Or.inr (tw_97 hw)) (ty := .int) (by decide)
    refine Go.dup X2 hx (pc' := 27) rfl (hb hby d7_26) rfl ?_
    refine Go.iloadN X2 hx (pc' := 28) rfl (hb hby d7_27) rfl ?_
    have Kp4 : Keep h0 h2 [] := ((Keep.refl h0 []).ext E2)
    have Zn3 : n0 ≤ h2.size := Nat.le_trans Z0 Kp4.1
    have sz6 : h0.size ≤ b2 := Nat.le_trans (Keep.refl h0 []).1 (Nat.le_of_eq g2.symm)
    have ge5 : n0 ≤ b2 := Nat.le_trans Z0 sz6
    refine Go.callN X2 hx hZ hown rfl (tw_85 hw) (tw_86 hw) (tw_88 hw) (by decide) (tw_88 hw) (tw_44 hw) (au_20 l Z a0 hw b2 p0 h2 n0 Zn3 A2 b2_value ge5) e2 (a := b2) (argsL := [(.int p0)]) (rest := [(.ref b2)]) (pc' := 31) rfl (by rw [hml]; rfl) (lenOf pd_9 rfl) rfl rfl (W := 1) (Nat.le_of_eq rfl) (by decide) (by decide) (by decide) (by decide) (hb hby d7_28) ?_
    intro v7 T7 L7 q7 X7
    obtain ⟨h7, e7⟩ : ∃ z, T7.heap = z := ⟨_, rfl⟩
    rw [e7] at q7
    obtain ⟨rfl, N7, K7, F7_0, F7_1⟩ := q7
    show Go _ _ _ _ (T7.setTop (mkF m 31 #[.val (.int p0)] [(.ref b2)]))
    subst hFF
    refine Go.retR X7 hx hlk (t := (.object "java/lang/Integer")) hret rfl rfl (hb hby d7_31) (by decide) (by decide) ?_
    rw [e7]
    have Kp8 : Keep h0 h7 [] := (Kp4.trans K7 (allS (Or.inr sz6) all0))
    exact ⟨b2, rfl, (Fr.app (Fr.nil n0) N7), Kp8, F7_0⟩
  · refine Go.icmpNo X0 hx (pc' := 6) rfl (hb hby d7_3) (flt hc1).1 ?_
    refine Go.iloadN X0 hx (pc' := 7) rfl (hb hby d7_6) rfl ?_
    have fk9 : Sta Z h0 "java/lang/Integer$IntegerCache" "high" "I" (.int 127) := G0.ext O0.2
    refine Go.getS X0 hx hZ hown (host := "") (Or.inl (tw_46 hw)) Via.refl e0 fk9 (pc' := 10) rfl (hb hby d7_7) ?_
    intro T10 e10 X10
    by_cases hc11 : (127 : Int32) < p0
    · refine Go.icmpYes X10 hx (pc' := 23) (hb hby d7_10) (tlt hc11).2.2.1 (by decide) (by decide) ?_
      refine Go.new X10 hx hZ hown (tw_83 hw) (tw_84 hw) (tw_44 hw) e10 (by decide) (by decide) (pc' := 26) rfl (hb hby d7_23) ?_
      intro T12 h12 b12 e12 E12 g12 A12 D12 X12
      have b12_value : Fld Z h12 b12 "java/lang/Integer" "value" "I" (.int 0) := D12 (Or.inr (tw_97 hw)) (ty := .int) (by decide)
      refine Go.dup X12 hx (pc' := 27) rfl (hb hby d7_26) rfl ?_
      refine Go.iloadN X12 hx (pc' := 28) rfl (hb hby d7_27) rfl ?_
      have Kp14 : Keep h0 h12 [] := ((Keep.refl h0 []).ext E12)
      have Zn13 : n0 ≤ h12.size := Nat.le_trans Z0 Kp14.1
      have sz16 : h0.size ≤ b12 := Nat.le_trans (Keep.refl h0 []).1 (Nat.le_of_eq g12.symm)
      have ge15 : n0 ≤ b12 := Nat.le_trans Z0 sz16
      refine Go.callN X12 hx hZ hown rfl (tw_85 hw) (tw_86 hw) (tw_88 hw) (by decide) (tw_88 hw) (tw_44 hw) (au_20 l Z a0 hw b12 p0 h12 n0 Zn13 A12 b12_value ge15) e12 (a := b12) (argsL := [(.int p0)]) (rest := [(.ref b12)]) (pc' := 31) rfl (by rw [hml]; rfl) (lenOf pd_9 rfl) rfl rfl (W := 1) (Nat.le_of_eq rfl) (by decide) (by decide) (by decide) (by decide) (hb hby d7_28) ?_
      intro v17 T17 L17 q17 X17
      obtain ⟨h17, e17⟩ : ∃ z, T17.heap = z := ⟨_, rfl⟩
      rw [e17] at q17
      obtain ⟨rfl, N17, K17, F17_0, F17_1⟩ := q17
      show Go _ _ _ _ (T17.setTop (mkF m 31 #[.val (.int p0)] [(.ref b12)]))
      subst hFF
      refine Go.retR X17 hx hlk (t := (.object "java/lang/Integer")) hret rfl rfl (hb hby d7_31) (by decide) (by decide) ?_
      rw [e17]
      have Kp18 : Keep h0 h17 [] := (Kp14.trans K17 (allS (Or.inr sz16) all0))
      exact ⟨b12, rfl, (Fr.app (Fr.nil n0) N17), Kp18, F17_0⟩
    · refine Go.icmpNo X10 hx (pc' := 13) rfl (hb hby d7_10) (flt hc11).2.2.1 ?_
      have fk19 : Sta Z h0 "java/lang/Integer$IntegerCache" "cache" "[Ljava/lang/Integer;" (.ref ga3) := G1.ext O0.2
      refine Go.getS X10 hx hZ hown (host := "") (Or.inl (tw_48 hw)) Via.refl e10 fk19 (pc' := 16) rfl (hb hby d7_13) ?_
      intro T20 e20 X20
      refine Go.iloadN X20 hx (pc' := 17) rfl (hb hby d7_16) rfl ?_
      refine Go.sipush X20 hx (pc' := 20) rfl (hb hby d7_17) (v := (128 : Int32)) (by decide) ?_
      refine Go.iadd X20 hx (pc' := 21) rfl (hb hby d7_20) ?_
      generalize hz21 : (p0 + (128 : Int32)) = z21
      have fk22 : Arv Z h0 ga3 gk17 (.object "java/lang/Integer") (256 : Int32) gvs18 .null := G5.ext O0.2
      have bj23 := own_box hc1 hc11 hz21
      obtain ⟨bx, hbx, Ebx⟩ := G7 z21 bj23.1 bj23.2
      refine Go.aaload X20 hx hZ e20 rfl fk22 (v := (.ref bx)) bj23 hbx (pc' := 22) rfl (hb hby d7_21) ?_
      subst hFF
      refine Go.retR X20 hx hlk (t := (.object "java/lang/Integer")) hret rfl rfl (hb hby d7_22) (by decide) (by decide) ?_
      rw [e20]
      have fk24 : Exa Z h0 bx "java/lang/Integer" := Ebx.ext O0.2
      exact ⟨bx, rfl, (Fr.nil n0), (Keep.refl h0 []), fk24⟩
theorem pd_10 : parseMethodDescriptor "(I)Ljava/lang/Integer;" = some ⟨[.int], some (.object "java/lang/Integer")⟩ := by decide +kernel
theorem ef_6_RR (m : MethodId) (x0 : Addr) (x1 : Addr) : entryFrame m #[(.ref x0), (.ref x1)] 2 = mkF m 0 #[.val (.ref x0), .val (.ref x1)] [] := by first | (simp [entryFrame, mkF, argsToLocals, Value.category]; done) | rfl
-- com/example/rockhopper/rockhopper/model/Validators.equals
set_option maxRecDepth 65536 in
set_option maxHeartbeats 4000000 in
theorem au_22 (l : Launch) (Z : State) (a0 : Array Value) (hw : ∀ d ∈ tables_1, d.before a0 Z = true) (x0 : Addr) (x1 : Addr) (h0 : Heap) (n0 : Nat) (Z0 : n0 ≤ h0.size) (P3 : Exa Z h0 x1 "java/lang/Integer") :
    Ctr l Z (⟨"com/example/rockhopper/rockhopper/model/Validators", "equals", "(Ljava/lang/Object;)Z"⟩ : MethodName) prog_9_method_4_code 2 (some .boolean) ({ frames := 0, cells := 0, slots := 0, locals := 0 } : Room) #[(.ref x0), (.ref x1)] h0 (fun v h L => v = some (.int 0) ∧ Fr n0 L ∧ h = h0) := by
  refine Ctr.of (plainFor_of_name pn_c3) ?_
  intro p e s m below meth c T0 hx hZ hby hml hown hnm hret hlk e0 es X0
  refine Go.cast (ef_6_RR m x0 x1) ?_
  generalize hFF : EndN s _ _ _ = FF
  refine Go.aloadN X0 hx (pc' := 1) rfl (hb hby d6_0) rfl rfl ?_
  refine Go.instN X0 hx hZ hown (tw_49 hw) e0 P3 (own_NSno (tw_50 hw) (tw_1 hw) (NS.step (tw_50 hw) (NS.step (tw_51 hw) (own_NSroot (tw_52 hw) (tw_1 hw) (by decide)) (by decide)) (by decide)) (by decide)) (pc' := 4) rfl (hb hby d6_1) ?_
  intro T1 e1 X1
  refine Go.ifYes X1 hx (pc' := 45) (hb hby d6_4) (by decide) (by decide) (by decide) ?_
  refine Go.iconst X1 hx (pc' := 46) rfl (hb hby d6_45) (v := (0 : Int32)) rfl ?_
  subst hFF
  refine Go.retN X1 hx hlk (t := .boolean) hret (by simp) (hb hby d6_46) (by decide) (by decide) ?_
  rw [e1]
  exact ⟨(congrArg (fun z => some (Value.int z)) (by decide : nar .boolean (0 : Int32) = (0 : Int32))), (Fr.nil n0), rfl⟩
theorem d6_7 : decode prog_9_method_4_code 7 = .ok (.aload_n 1, 1) := by decide +kernel
theorem d6_8 : decode prog_9_method_4_code 8 = .ok (.checkcast 8, 3) := by decide +kernel
theorem d6_11 : decode prog_9_method_4_code 11 = .ok (.getfield 7, 3) := by decide +kernel
theorem d6_14 : decode prog_9_method_4_code 14 = .ok (.aload_n 0, 1) := by decide +kernel
theorem d6_15 : decode prog_9_method_4_code 15 = .ok (.getfield 7, 3) := by decide +kernel
theorem d8_0 : decode jdk_31_method_2_code 0 = .ok (.aload_n 0, 1) := by decide +kernel
theorem d8_1 : decode jdk_31_method_2_code 1 = .ok (.aload_n 1, 1) := by decide +kernel
theorem d8_2 : decode jdk_31_method_2_code 2 = .ok (.if_acmp .eq 15, 3) := by decide +kernel
theorem d8_17 : decode jdk_31_method_2_code 17 = .ok (.iconst 1, 1) := by decide +kernel
theorem d8_18 : decode jdk_31_method_2_code 18 = .ok (.goto 4, 3) := by decide +kernel
theorem d8_22 : decode jdk_31_method_2_code 22 = .ok (.ireturn, 1) := by decide +kernel
theorem ef_8_RR (m : MethodId) (x0 : Addr) (x1 : Addr) : entryFrame m #[(.ref x0), (.ref x1)] 2 = mkF m 0 #[.val (.ref x0), .val (.ref x1)] [] := by first | (simp [entryFrame, mkF, argsToLocals, Value.category]; done) | rfl
theorem pn_c6 : plainName "java/util/Objects" = true := by first | (simp [plainName, overriddenIn]; done) | decide +kernel
-- java/util/Objects.equals
set_option maxRecDepth 65536 in
set_option maxHeartbeats 4000000 in
theorem au_24 (l : Launch) (Z : State) (a0 : Array Value) (hw : ∀ d ∈ tables_1, d.before a0 Z = true) (x0 : Addr) (h0 : Heap) (n0 : Nat) (Z0 : n0 ≤ h0.size) :
    Ctr l Z (⟨"java/util/Objects", "equals", "(Ljava/lang/Object;Ljava/lang/Object;)Z"⟩ : MethodName) jdk_31_method_2_code 2 (some .boolean) ({ frames := 0, cells := 0, slots := 0, locals := 0 } : Room) #[(.ref x0), (.ref x0)] h0 (fun v h L => v = some (.int 1) ∧ Fr n0 L ∧ h = h0) := by
  refine Ctr.of (plainFor_of_name pn_c6) ?_
  intro p e s m below meth c T0 hx hZ hby hml hown hnm hret hlk e0 es X0
  refine Go.cast (ef_8_RR m x0 x0) ?_
  generalize hFF : EndN s _ _ _ = FF
  refine Go.aloadN X0 hx (pc' := 1) rfl (hb hby d8_0) rfl rfl ?_
  refine Go.aloadN X0 hx (pc' := 2) rfl (hb hby d8_1) rfl rfl ?_
  refine Go.acmp X0 hx (pc' := 17) (same := true) (hb hby d8_2) rfl rfl (decide_eq_true rfl) (by decide) (by decide) ?_
  refine Go.iconst X0 hx (pc' := 18) rfl (hb hby d8_17) (v := (1 : Int32)) rfl ?_
  refine Go.goto X0 hx (pc' := 22) (hb hby d8_18) (by decide) (by decide) ?_
  subst hFF
  refine Go.retN X0 hx hlk (t := .boolean) hret (by simp) (hb hby d8_22) (by decide) (by decide) ?_
  rw [e0]
  exact ⟨(congrArg (fun z => some (Value.int z)) (by decide : nar .boolean (1 : Int32) = (1 : Int32))), (Fr.nil n0), rfl⟩
theorem pd_11 : parseMethodDescriptor "(Ljava/lang/Object;Ljava/lang/Object;)Z" = some ⟨[(.object "java/lang/Object"), (.object "java/lang/Object")], some .boolean⟩ := by decide +kernel
theorem d6_18 : decode prog_9_method_4_code 18 = .ok (.invokestatic 16, 3) := by decide +kernel
theorem d6_21 : decode prog_9_method_4_code 21 = .ok (.ifCond .eq 24, 3) := by decide +kernel
theorem d6_24 : decode prog_9_method_4_code 24 = .ok (.aload_n 1, 1) := by decide +kernel
theorem d6_25 : decode prog_9_method_4_code 25 = .ok (.checkcast 8, 3) := by decide +kernel
theorem d6_28 : decode prog_9_method_4_code 28 = .ok (.getfield 13, 3) := by decide +kernel
theorem d6_31 : decode prog_9_method_4_code 31 = .ok (.aload_n 0, 1) := by decide +kernel
theorem d6_32 : decode prog_9_method_4_code 32 = .ok (.getfield 13, 3) := by decide +kernel
theorem d6_35 : decode prog_9_method_4_code 35 = .ok (.invokestatic 16, 3) := by decide +kernel
theorem d6_38 : decode prog_9_method_4_code 38 = .ok (.ifCond .eq 7, 3) := by decide +kernel
theorem d6_41 : decode prog_9_method_4_code 41 = .ok (.iconst 1, 1) := by decide +kernel
theorem d6_42 : decode prog_9_method_4_code 42 = .ok (.goto 4, 3) := by decide +kernel
-- com/example/rockhopper/rockhopper/model/Validators.equals
set_option maxRecDepth 65536 in
set_option maxHeartbeats 4000000 in
theorem au_23 (l : Launch) (Z : State) (a0 : Array Value) (hw : ∀ d ∈ tables_1, d.before a0 Z = true) (x0 : Addr) (x1 : Addr) (x2 : Addr) (h0 : Heap) (n0 : Nat) (Z0 : n0 ≤ h0.size) (P0 : Exa Z h0 x0 "com/example/rockhopper/rockhopper/model/Validators") (P1 : Fld Z h0 x0 "com/example/rockhopper/rockhopper/model/Validators" "etag" "Ljava/lang/String;" (.ref x1)) (P2 : Fld Z h0 x0 "com/example/rockhopper/rockhopper/model/Validators" "lastModified" "Ljava/lang/String;" (.ref x2)) :
    Ctr l Z (⟨"com/example/rockhopper/rockhopper/model/Validators", "equals", "(Ljava/lang/Object;)Z"⟩ : MethodName) prog_9_method_4_code 2 (some .boolean) ({ frames := 1, cells := 0, slots := 0, locals := 13 } : Room) #[(.ref x0), (.ref x0)] h0 (fun v h L => v = some (.int 1) ∧ Fr n0 L ∧ h = h0) := by
  refine Ctr.of (plainFor_of_name pn_c3) ?_
  intro p e s m below meth c T0 hx hZ hby hml hown hnm hret hlk e0 es X0
  refine Go.cast (ef_6_RR m x0 x0) ?_
  generalize hFF : EndN s _ _ _ = FF
  refine Go.aloadN X0 hx (pc' := 1) rfl (hb hby d6_0) rfl rfl ?_
  refine Go.instY X0 hx hZ hown (tw_49 hw) e0 (Ins.self P0) (pc' := 4) rfl (hb hby d6_1) ?_
  intro T1 e1 X1
  refine Go.ifNo X1 hx (pc' := 7) rfl (hb hby d6_4) (by decide) ?_
  refine Go.aloadN X1 hx (pc' := 8) rfl (hb hby d6_7) rfl rfl ?_
  refine Go.castY X1 hx hZ hown (tw_49 hw) e1 (Ins.self P0) (pc' := 11) rfl (hb hby d6_8) ?_
  intro T2 e2 X2
  refine Go.getF X2 hx hZ hown (host := "") (Or.inl (tw_33 hw)) Via.refl e2 P1 (pc' := 14) rfl (hb hby d6_11) ?_
  intro T3 e3 X3
  refine Go.aloadN X3 hx (pc' := 15) rfl (hb hby d6_14) rfl rfl ?_
  refine Go.getF X3 hx hZ hown (host := "") (Or.inl (tw_33 hw)) Via.refl e3 P1 (pc' := 18) rfl (hb hby d6_15) ?_
  intro T4 e4 X4
  refine Go.callS X4 hx hZ hown (tw_54 hw) (tw_55 hw) (tw_56 hw) (tw_57 hw) (by decide) (tw_57 hw) (tw_56 hw) (au_24 l Z a0 hw x1 h0 n0 Z0) e4 (argsL := [(.ref x1), (.ref x1)]) (rest := []) (pc' := 21) rfl (by rw [hml]; rfl) (lenOf pd_11 rfl) rfl rfl (W := 0) (Nat.le_of_eq rfl) (by decide) (by decide) (by decide) (by decide) (hb hby d6_18) ?_
  intro v5 T5 L5 q5 X5
  obtain ⟨rfl, N5, e5⟩ := q5
  show Go _ _ _ _ (T5.setTop (mkF m 21 #[.val (.ref x0), .val (.ref x0)] [(.int 1)]))
  refine Go.ifNo X5 hx (pc' := 24) rfl (hb hby d6_21) (by decide) ?_
  refine Go.aloadN X5 hx (pc' := 25) rfl (hb hby d6_24) rfl rfl ?_
  refine Go.castY X5 hx hZ hown (tw_49 hw) e5 (Ins.self P0) (pc' := 28) rfl (hb hby d6_25) ?_
  intro T6 e6 X6
  refine Go.getF X6 hx hZ hown (host := "") (Or.inl (tw_35 hw)) Via.refl e6 P2 (pc' := 31) rfl (hb hby d6_28) ?_
  intro T7 e7 X7
  refine Go.aloadN X7 hx (pc' := 32) rfl (hb hby d6_31) rfl rfl ?_
  refine Go.getF X7 hx hZ hown (host := "") (Or.inl (tw_35 hw)) Via.refl e7 P2 (pc' := 35) rfl (hb hby d6_32) ?_
  intro T8 e8 X8
  refine Go.callS X8 hx hZ hown (tw_54 hw) (tw_55 hw) (tw_56 hw) (tw_57 hw) (by decide) (tw_57 hw) (tw_56 hw) (au_24 l Z a0 hw x2 h0 n0 Z0) e8 (argsL := [(.ref x2), (.ref x2)]) (rest := []) (pc' := 38) rfl (by rw [hml]; rfl) (lenOf pd_11 rfl) rfl rfl (W := 0) (Nat.le_of_eq rfl) (by decide) (by decide) (by decide) (by decide) (hb hby d6_35) ?_
  intro v9 T9 L9 q9 X9
  obtain ⟨rfl, N9, e9⟩ := q9
  show Go _ _ _ _ (T9.setTop (mkF m 38 #[.val (.ref x0), .val (.ref x0)] [(.int 1)]))
  refine Go.ifNo X9 hx (pc' := 41) rfl (hb hby d6_38) (by decide) ?_
  refine Go.iconst X9 hx (pc' := 42) rfl (hb hby d6_41) (v := (1 : Int32)) rfl ?_
  refine Go.goto X9 hx (pc' := 46) (hb hby d6_42) (by decide) (by decide) ?_
  subst hFF
  refine Go.retN X9 hx hlk (t := .boolean) hret (by simp) (hb hby d6_46) (by decide) (by decide) ?_
  rw [e9]
  exact ⟨(congrArg (fun z => some (Value.int z)) (by decide : nar .boolean (1 : Int32) = (1 : Int32))), (Fr.app (Fr.app (Fr.nil n0) N5) N9), rfl⟩
theorem d12_0 : decode method_3_code 0 = .ok (.iload_n 0, 1) := by decide +kernel
theorem d12_1 : decode method_3_code 1 = .ok (.iconst 3, 1) := by decide +kernel
theorem d12_2 : decode method_3_code 2 = .ok (.iand, 1) := by decide +kernel
theorem d12_3 : decode method_3_code 3 = .ok (.istore_n 2, 1) := by decide +kernel
theorem d12_4 : decode method_3_code 4 = .ok (.iload_n 1, 1) := by decide +kernel
theorem d12_5 : decode method_3_code 5 = .ok (.iconst 3, 1) := by decide +kernel
theorem d12_6 : decode method_3_code 6 = .ok (.iand, 1) := by decide +kernel
theorem d12_7 : decode method_3_code 7 = .ok (.istore_n 3, 1) := by decide +kernel
theorem d12_8 : decode method_3_code 8 = .ok (.iload_n 2, 1) := by decide +kernel
theorem d12_9 : decode method_3_code 9 = .ok (.iload_n 3, 1) := by decide +kernel
theorem d12_10 : decode method_3_code 10 = .ok (.if_icmp .eq 5, 3) := by decide +kernel
theorem d12_15 : decode method_3_code 15 = .ok (.iload_n 2, 1) := by decide +kernel
theorem d12_16 : decode method_3_code 16 = .ok (.iconst 3, 1) := by decide +kernel
theorem d12_17 : decode method_3_code 17 = .ok (.if_icmp .ne 5, 3) := by decide +kernel
theorem d12_22 : decode method_3_code 22 = .ok (.iload_n 2, 1) := by decide +kernel
theorem d12_23 : decode method_3_code 23 = .ok (.iconst 1, 1) := by decide +kernel
theorem d12_24 : decode method_3_code 24 = .ok (.if_icmp .lt 22, 3) := by decide +kernel
theorem d12_46 : decode method_3_code 46 = .ok (.iload_n 2, 1) := by decide +kernel
theorem d12_47 : decode method_3_code 47 = .ok (.iconst 2, 1) := by decide +kernel
theorem d12_48 : decode method_3_code 48 = .ok (.if_icmp .lt 24, 3) := by decide +kernel
theorem d12_72 : decode method_3_code 72 = .ok (.iconst 1, 1) := by decide +kernel
theorem d12_73 : decode method_3_code 73 = .ok (.ireturn, 1) := by decide +kernel
theorem d12_13 : decode method_3_code 13 = .ok (.iconst 0, 1) := by decide +kernel
theorem d12_14 : decode method_3_code 14 = .ok (.ireturn, 1) := by decide +kernel
theorem d12_27 : decode method_3_code 27 = .ok (.iload_n 0, 1) := by decide +kernel
theorem d12_28 : decode method_3_code 28 = .ok (.iconst 2, 1) := by decide +kernel
theorem d12_29 : decode method_3_code 29 = .ok (.iushr, 1) := by decide +kernel
theorem d12_30 : decode method_3_code 30 = .ok (.sipush 255, 3) := by decide +kernel
theorem d12_33 : decode method_3_code 33 = .ok (.iand, 1) := by decide +kernel
theorem d12_34 : decode method_3_code 34 = .ok (.iload_n 1, 1) := by decide +kernel
theorem d12_35 : decode method_3_code 35 = .ok (.iconst 2, 1) := by decide +kernel
theorem d12_36 : decode method_3_code 36 = .ok (.iushr, 1) := by decide +kernel
theorem d12_37 : decode method_3_code 37 = .ok (.sipush 255, 3) := by decide +kernel
theorem d12_40 : decode method_3_code 40 = .ok (.iand, 1) := by decide +kernel
theorem d12_41 : decode method_3_code 41 = .ok (.if_icmp .eq 5, 3) := by decide +kernel
theorem d12_44 : decode method_3_code 44 = .ok (.iconst 0, 1) := by decide +kernel
theorem d12_45 : decode method_3_code 45 = .ok (.ireturn, 1) := by decide +kernel
theorem d12_51 : decode method_3_code 51 = .ok (.iload_n 0, 1) := by decide +kernel
theorem d12_52 : decode method_3_code 52 = .ok (.bipush 10, 2) := by decide +kernel
theorem d12_54 : decode method_3_code 54 = .ok (.iushr, 1) := by decide +kernel
theorem d12_55 : decode method_3_code 55 = .ok (.sipush 255, 3) := by decide +kernel
theorem d12_58 : decode method_3_code 58 = .ok (.iand, 1) := by decide +kernel
theorem d12_59 : decode method_3_code 59 = .ok (.iload_n 1, 1) := by decide +kernel
theorem d12_60 : decode method_3_code 60 = .ok (.bipush 10, 2) := by decide +kernel
theorem d12_62 : decode method_3_code 62 = .ok (.iushr, 1) := by decide +kernel
theorem d12_63 : decode method_3_code 63 = .ok (.sipush 255, 3) := by decide +kernel
theorem d12_66 : decode method_3_code 66 = .ok (.iand, 1) := by decide +kernel
theorem d12_67 : decode method_3_code 67 = .ok (.if_icmp .eq 5, 3) := by decide +kernel
theorem d12_70 : decode method_3_code 70 = .ok (.iconst 0, 1) := by decide +kernel
theorem d12_71 : decode method_3_code 71 = .ok (.ireturn, 1) := by decide +kernel
theorem d12_20 : decode method_3_code 20 = .ok (.iconst 1, 1) := by decide +kernel
theorem d12_21 : decode method_3_code 21 = .ok (.ireturn, 1) := by decide +kernel
theorem ef_12_II (m : MethodId) (x0 : Int32) (x1 : Int32) : entryFrame m #[(.int x0), (.int x1)] 4 = mkF m 0 #[.val (.int x0), .val (.int x1), .unset, .unset] [] := by first | (simp [entryFrame, mkF, argsToLocals, Value.category]; done) | rfl
-- com/example/rockhopper/rockhopper/model/ValidatorsEqualsPinLaw.same
set_option maxRecDepth 65536 in
set_option maxHeartbeats 4000000 in
theorem au_25 (l : Launch) (Z : State) (a0 : Array Value) (hw : ∀ d ∈ tables_1, d.before a0 Z = true) (p0 : Int32) (p1 : Int32) (h0 : Heap) (n0 : Nat) (Z0 : n0 ≤ h0.size) :
    Ctr l Z (⟨"com/example/rockhopper/rockhopper/model/ValidatorsEqualsPinLaw", "same", "(II)Z"⟩ : MethodName) method_3_code 4 (some .boolean) ({ frames := 0, cells := 0, slots := 0, locals := 0 } : Room) #[(.int p0), (.int p1)] h0 (fun v h L => (own_key p0 = own_key p1 ∧ v = some (.int 1) ∧ Fr n0 L ∧ h = h0) ∨ (¬ (own_key p0 = own_key p1) ∧ v = some (.int 0) ∧ Fr n0 L ∧ h = h0)) := by
  refine Ctr.of (plainFor_of_name pn_c2) ?_
  intro p e s m below meth c T0 hx hZ hby hml hown hnm hret hlk e0 es X0
  refine Go.cast (ef_12_II m p0 p1) ?_
  generalize hFF : EndN s _ _ _ = FF
  refine Go.iloadN X0 hx (pc' := 1) rfl (hb hby d12_0) rfl ?_
  refine Go.iconst X0 hx (pc' := 2) rfl (hb hby d12_1) (v := (3 : Int32)) rfl ?_
  refine Go.iand X0 hx (pc' := 3) rfl (hb hby d12_2) ?_
  generalize hz1 : (p0 &&& (3 : Int32)) = z1
  refine Go.istoreN X0 hx (pc' := 4) rfl (hb hby d12_3) (Ls' := #[.val (.int p0), .val (.int p1), .val (.int z1), .unset]) rfl ?_
  refine Go.iloadN X0 hx (pc' := 5) rfl (hb hby d12_4) rfl ?_
  refine Go.iconst X0 hx (pc' := 6) rfl (hb hby d12_5) (v := (3 : Int32)) rfl ?_
  refine Go.iand X0 hx (pc' := 7) rfl (hb hby d12_6) ?_
  generalize hz2 : (p1 &&& (3 : Int32)) = z2
  refine Go.istoreN X0 hx (pc' := 8) rfl (hb hby d12_7) (Ls' := #[.val (.int p0), .val (.int p1), .val (.int z1), .val (.int z2)]) rfl ?_
  have r3 : 0 ≤ z1.toInt ∧ z1.toInt ≤ 3 := own_rand hz1 (by decide)
  rcases own_cs_0_3 r3 with rfl | rfl | rfl | rfl
  · refine Go.iloadN X0 hx (pc' := 9) rfl (hb hby d12_8) rfl ?_
    have r4 : 0 ≤ z2.toInt ∧ z2.toInt ≤ 3 := own_rand hz2 (by decide)
    rcases own_cs_0_3 r4 with rfl | rfl | rfl | rfl
    · refine Go.iloadN X0 hx (pc' := 10) rfl (hb hby d12_9) rfl ?_
      refine Go.icmpYes X0 hx (pc' := 15) (hb hby d12_10) (by decide) (by decide) (by decide) ?_
      refine Go.iloadN X0 hx (pc' := 16) rfl (hb hby d12_15) rfl ?_
      refine Go.iconst X0 hx (pc' := 17) rfl (hb hby d12_16) (v := (3 : Int32)) rfl ?_
      refine Go.icmpYes X0 hx (pc' := 22) (hb hby d12_17) (by decide) (by decide) (by decide) ?_
      refine Go.iloadN X0 hx (pc' := 23) rfl (hb hby d12_22) rfl ?_
      refine Go.iconst X0 hx (pc' := 24) rfl (hb hby d12_23) (v := (1 : Int32)) rfl ?_
      refine Go.icmpYes X0 hx (pc' := 46) (hb hby d12_24) (by decide) (by decide) (by decide) ?_
      refine Go.iloadN X0 hx (pc' := 47) rfl (hb hby d12_46) rfl ?_
      refine Go.iconst X0 hx (pc' := 48) rfl (hb hby d12_47) (v := (2 : Int32)) rfl ?_
      refine Go.icmpYes X0 hx (pc' := 72) (hb hby d12_48) (by decide) (by decide) (by decide) ?_
      refine Go.iconst X0 hx (pc' := 73) rfl (hb hby d12_72) (v := (1 : Int32)) rfl ?_
      subst hFF
      refine Go.retN X0 hx hlk (t := .boolean) hret (by simp) (hb hby d12_73) (by decide) (by decide) ?_
      rw [e0]
      have k0 : own_key p0 = some [] := (own_key0 hz1)
      have k1 : own_key p1 = some [] := (own_key0 hz2)
      have lk : own_key p0 = own_key p1 := k0.trans (k1.symm)
      exact Or.inl ⟨lk, (congrArg (fun z => some (Value.int z)) (by decide : nar .boolean (1 : Int32) = (1 : Int32))), (Fr.nil n0), rfl⟩
    · refine Go.iloadN X0 hx (pc' := 10) rfl (hb hby d12_9) rfl ?_
      refine Go.icmpNo X0 hx (pc' := 13) rfl (hb hby d12_10) (by decide) ?_
      refine Go.iconst X0 hx (pc' := 14) rfl (hb hby d12_13) (v := (0 : Int32)) rfl ?_
      subst hFF
      refine Go.retN X0 hx hlk (t := .boolean) hret (by simp) (hb hby d12_14) (by decide) (by decide) ?_
      rw [e0]
      obtain ⟨z5, hz5⟩ : ∃ y, ((p1.toUInt32 >>> ((2 : Int32) &&& 31).toUInt32).toInt32) = y := ⟨_, rfl⟩
      obtain ⟨z6, hz6⟩ : ∃ y, (z5 &&& (255 : Int32)) = y := ⟨_, rfl⟩
      obtain ⟨z7, hz7⟩ : ∃ y, (z6.toInt8.toInt32) = y := ⟨_, rfl⟩
      have k0 : own_key p0 = some [] := (own_key0 hz1)
      have k1 : own_key p1 = some [z7] := (own_key1 hz2 hz5 hz6 hz7)
      have lk : ¬ own_key p0 = own_key p1 := fun z => absurd (k0.symm.trans (z.trans k1)) (by simp)
      exact Or.inr (⟨lk, (congrArg (fun z => some (Value.int z)) (by decide : nar .boolean (0 : Int32) = (0 : Int32))), (Fr.nil n0), rfl⟩)
    · refine Go.iloadN X0 hx (pc' := 10) rfl (hb hby d12_9) rfl ?_
      refine Go.icmpNo X0 hx (pc' := 13) rfl (hb hby d12_10) (by decide) ?_
      refine Go.iconst X0 hx (pc' := 14) rfl (hb hby d12_13) (v := (0 : Int32)) rfl ?_
      subst hFF
      refine Go.retN X0 hx hlk (t := .boolean) hret (by simp) (hb hby d12_14) (by decide) (by decide) ?_
      rw [e0]
      obtain ⟨z8, hz8⟩ : ∃ y, ((p1.toUInt32 >>> ((2 : Int32) &&& 31).toUInt32).toInt32) = y := ⟨_, rfl⟩
      obtain ⟨z9, hz9⟩ : ∃ y, (z8 &&& (255 : Int32)) = y := ⟨_, rfl⟩
      obtain ⟨z10, hz10⟩ : ∃ y, (z9.toInt8.toInt32) = y := ⟨_, rfl⟩
      obtain ⟨z11, hz11⟩ : ∃ y, ((p1.toUInt32 >>> ((10 : Int32) &&& 31).toUInt32).toInt32) = y := ⟨_, rfl⟩
      obtain ⟨z12, hz12⟩ : ∃ y, (z11 &&& (255 : Int32)) = y := ⟨_, rfl⟩
      obtain ⟨z13, hz13⟩ : ∃ y, (z12.toInt8.toInt32) = y := ⟨_, rfl⟩
      have k0 : own_key p0 = some [] := (own_key0 hz1)
      have k1 : own_key p1 = some [z10, z13] := (own_key2 hz2 hz8 hz9 hz10 hz11 hz12 hz13)
      have lk : ¬ own_key p0 = own_key p1 := fun z => absurd (k0.symm.trans (z.trans k1)) (by simp)
      exact Or.inr (⟨lk, (congrArg (fun z => some (Value.int z)) (by decide : nar .boolean (0 : Int32) = (0 : Int32))), (Fr.nil n0), rfl⟩)
    · refine Go.iloadN X0 hx (pc' := 10) rfl (hb hby d12_9) rfl ?_
      refine Go.icmpNo X0 hx (pc' := 13) rfl (hb hby d12_10) (by decide) ?_
      refine Go.iconst X0 hx (pc' := 14) rfl (hb hby d12_13) (v := (0 : Int32)) rfl ?_
      subst hFF
      refine Go.retN X0 hx hlk (t := .boolean) hret (by simp) (hb hby d12_14) (by decide) (by decide) ?_
      rw [e0]
      have k0 : own_key p0 = some [] := (own_key0 hz1)
      have k1 : own_key p1 = none := (own_key3 hz2)
      have lk : ¬ own_key p0 = own_key p1 := fun z => absurd (k0.symm.trans (z.trans k1)) (by simp)
      exact Or.inr (⟨lk, (congrArg (fun z => some (Value.int z)) (by decide : nar .boolean (0 : Int32) = (0 : Int32))), (Fr.nil n0), rfl⟩)
  · refine Go.iloadN X0 hx (pc' := 9) rfl (hb hby d12_8) rfl ?_
    have r14 : 0 ≤ z2.toInt ∧ z2.toInt ≤ 3 := own_rand hz2 (by decide)
    rcases own_cs_0_3 r14 with rfl | rfl | rfl | rfl
    · refine Go.iloadN X0 hx (pc' := 10) rfl (hb hby d12_9) rfl ?_
      refine Go.icmpNo X0 hx (pc' := 13) rfl (hb hby d12_10) (by decide) ?_
      refine Go.iconst X0 hx (pc' := 14) rfl (hb hby d12_13) (v := (0 : Int32)) rfl ?_
      subst hFF
      refine Go.retN X0 hx hlk (t := .boolean) hret (by simp) (hb hby d12_14) (by decide) (by decide) ?_
      rw [e0]
      obtain ⟨z15, hz15⟩ : ∃ y, ((p0.toUInt32 >>> ((2 : Int32) &&& 31).toUInt32).toInt32) = y := ⟨_, rfl⟩
      obtain ⟨z16, hz16⟩ : ∃ y, (z15 &&& (255 : Int32)) = y := ⟨_, rfl⟩
      obtain ⟨z17, hz17⟩ : ∃ y, (z16.toInt8.toInt32) = y := ⟨_, rfl⟩
      have k0 : own_key p0 = some [z17] := (own_key1 hz1 hz15 hz16 hz17)
      have k1 : own_key p1 = some [] := (own_key0 hz2)
      have lk : ¬ own_key p0 = own_key p1 := fun z => absurd (k0.symm.trans (z.trans k1)) (by simp)
      exact Or.inr (⟨lk, (congrArg (fun z => some (Value.int z)) (by decide : nar .boolean (0 : Int32) = (0 : Int32))), (Fr.nil n0), rfl⟩)
    · refine Go.iloadN X0 hx (pc' := 10) rfl (hb hby d12_9) rfl ?_
      refine Go.icmpYes X0 hx (pc' := 15) (hb hby d12_10) (by decide) (by decide) (by decide) ?_
      refine Go.iloadN X0 hx (pc' := 16) rfl (hb hby d12_15) rfl ?_
      refine Go.iconst X0 hx (pc' := 17) rfl (hb hby d12_16) (v := (3 : Int32)) rfl ?_
      refine Go.icmpYes X0 hx (pc' := 22) (hb hby d12_17) (by decide) (by decide) (by decide) ?_
      refine Go.iloadN X0 hx (pc' := 23) rfl (hb hby d12_22) rfl ?_
      refine Go.iconst X0 hx (pc' := 24) rfl (hb hby d12_23) (v := (1 : Int32)) rfl ?_
      refine Go.icmpNo X0 hx (pc' := 27) rfl (hb hby d12_24) (by decide) ?_
      refine Go.iloadN X0 hx (pc' := 28) rfl (hb hby d12_27) rfl ?_
      refine Go.iconst X0 hx (pc' := 29) rfl (hb hby d12_28) (v := (2 : Int32)) rfl ?_
      refine Go.iushr X0 hx (pc' := 30) rfl (hb hby d12_29) ?_
      generalize hz18 : ((p0.toUInt32 >>> ((2 : Int32) &&& 31).toUInt32).toInt32) = z18
      refine Go.sipush X0 hx (pc' := 33) rfl (hb hby d12_30) (v := (255 : Int32)) (by decide) ?_
      refine Go.iand X0 hx (pc' := 34) rfl (hb hby d12_33) ?_
      have r19 : 0 ≤ z18.toInt ∧ z18.toInt ≤ 1073741823 := own_rushr hz18 (k := 2) (by decide) (by decide) (by decide)
      generalize hz20 : (z18 &&& (255 : Int32)) = z20
      refine Go.iloadN X0 hx (pc' := 35) rfl (hb hby d12_34) rfl ?_
      refine Go.iconst X0 hx (pc' := 36) rfl (hb hby d12_35) (v := (2 : Int32)) rfl ?_
      refine Go.iushr X0 hx (pc' := 37) rfl (hb hby d12_36) ?_
      generalize hz21 : ((p1.toUInt32 >>> ((2 : Int32) &&& 31).toUInt32).toInt32) = z21
      refine Go.sipush X0 hx (pc' := 40) rfl (hb hby d12_37) (v := (255 : Int32)) (by decide) ?_
      refine Go.iand X0 hx (pc' := 41) rfl (hb hby d12_40) ?_
      have r22 : 0 ≤ z21.toInt ∧ z21.toInt ≤ 1073741823 := own_rushr hz21 (k := 2) (by decide) (by decide) (by decide)
      generalize hz23 : (z21 &&& (255 : Int32)) = z23
      have r24 : 0 ≤ z20.toInt ∧ z20.toInt ≤ 255 := own_rand hz20 (by decide)
      have r25 : 0 ≤ z23.toInt ∧ z23.toInt ≤ 255 := own_rand hz23 (by decide)
      by_cases hc26 : z20 = z23
      · refine Go.icmpYes X0 hx (pc' := 46) (hb hby d12_41) (teq hc26).1 (by decide) (by decide) ?_
        refine Go.iloadN X0 hx (pc' := 47) rfl (hb hby d12_46) rfl ?_
        refine Go.iconst X0 hx (pc' := 48) rfl (hb hby d12_47) (v := (2 : Int32)) rfl ?_
        refine Go.icmpYes X0 hx (pc' := 72) (hb hby d12_48) (by decide) (by decide) (by decide) ?_
        refine Go.iconst X0 hx (pc' := 73) rfl (hb hby d12_72) (v := (1 : Int32)) rfl ?_
        subst hFF
        refine Go.retN X0 hx hlk (t := .boolean) hret (by simp) (hb hby d12_73) (by decide) (by decide) ?_
        rw [e0]
        obtain ⟨z27, hz27⟩ : ∃ y, (z20.toInt8.toInt32) = y := ⟨_, rfl⟩
        obtain ⟨z28, hz28⟩ : ∃ y, (z23.toInt8.toInt32) = y := ⟨_, rfl⟩
        have k0 : own_key p0 = some [z27] := (own_key1 hz1 hz18 hz20 hz27)
        have k1 : own_key p1 = some [z28] := (own_key1 hz2 hz21 hz23 hz28)
        have lk : own_key p0 = own_key p1 := k0.trans ((congrArg some (own_lc (own_lat_eq hz27 hz28 hc26) rfl)).trans k1.symm)
        exact Or.inl ⟨lk, (congrArg (fun z => some (Value.int z)) (by decide : nar .boolean (1 : Int32) = (1 : Int32))), (Fr.nil n0), rfl⟩
      · refine Go.icmpNo X0 hx (pc' := 44) rfl (hb hby d12_41) (feq hc26).1 ?_
        refine Go.iconst X0 hx (pc' := 45) rfl (hb hby d12_44) (v := (0 : Int32)) rfl ?_
        subst hFF
        refine Go.retN X0 hx hlk (t := .boolean) hret (by simp) (hb hby d12_45) (by decide) (by decide) ?_
        rw [e0]
        obtain ⟨z29, hz29⟩ : ∃ y, (z20.toInt8.toInt32) = y := ⟨_, rfl⟩
        obtain ⟨z30, hz30⟩ : ∃ y, (z23.toInt8.toInt32) = y := ⟨_, rfl⟩
        have k0 : own_key p0 = some [z29] := (own_key1 hz1 hz18 hz20 hz29)
        have k1 : own_key p1 = some [z30] := (own_key1 hz2 hz21 hz23 hz30)
        have lk : ¬ own_key p0 = own_key p1 := fun z => (own_l1 (own_lat_ne hz29 hz30 r24 r25 (by decide) hc26)) (Option.some.inj (k0.symm.trans (z.trans k1)))
        exact Or.inr (⟨lk, (congrArg (fun z => some (Value.int z)) (by decide : nar .boolean (0 : Int32) = (0 : Int32))), (Fr.nil n0), rfl⟩)
    · refine Go.iloadN X0 hx (pc' := 10) rfl (hb hby d12_9) rfl ?_
      refine Go.icmpNo X0 hx (pc' := 13) rfl (hb hby d12_10) (by decide) ?_
      refine Go.iconst X0 hx (pc' := 14) rfl (hb hby d12_13) (v := (0 : Int32)) rfl ?_
      subst hFF
      refine Go.retN X0 hx hlk (t := .boolean) hret (by simp) (hb hby d12_14) (by decide) (by decide) ?_
      rw [e0]
      obtain ⟨z31, hz31⟩ : ∃ y, ((p0.toUInt32 >>> ((2 : Int32) &&& 31).toUInt32).toInt32) = y := ⟨_, rfl⟩
      obtain ⟨z32, hz32⟩ : ∃ y, (z31 &&& (255 : Int32)) = y := ⟨_, rfl⟩
      obtain ⟨z33, hz33⟩ : ∃ y, (z32.toInt8.toInt32) = y := ⟨_, rfl⟩
      obtain ⟨z34, hz34⟩ : ∃ y, ((p1.toUInt32 >>> ((2 : Int32) &&& 31).toUInt32).toInt32) = y := ⟨_, rfl⟩
      obtain ⟨z35, hz35⟩ : ∃ y, (z34 &&& (255 : Int32)) = y := ⟨_, rfl⟩
      obtain ⟨z36, hz36⟩ : ∃ y, (z35.toInt8.toInt32) = y := ⟨_, rfl⟩
      obtain ⟨z37, hz37⟩ : ∃ y, ((p1.toUInt32 >>> ((10 : Int32) &&& 31).toUInt32).toInt32) = y := ⟨_, rfl⟩
      obtain ⟨z38, hz38⟩ : ∃ y, (z37 &&& (255 : Int32)) = y := ⟨_, rfl⟩
      obtain ⟨z39, hz39⟩ : ∃ y, (z38.toInt8.toInt32) = y := ⟨_, rfl⟩
      have k0 : own_key p0 = some [z33] := (own_key1 hz1 hz31 hz32 hz33)
      have k1 : own_key p1 = some [z36, z39] := (own_key2 hz2 hz34 hz35 hz36 hz37 hz38 hz39)
      have lk : ¬ own_key p0 = own_key p1 := fun z => absurd (k0.symm.trans (z.trans k1)) (by simp)
      exact Or.inr (⟨lk, (congrArg (fun z => some (Value.int z)) (by decide : nar .boolean (0 : Int32) = (0 : Int32))), (Fr.nil n0), rfl⟩)
    · refine Go.iloadN X0 hx (pc' := 10) rfl (hb hby d12_9) rfl ?_
      refine Go.icmpNo X0 hx (pc' := 13) rfl (hb hby d12_10) (by decide) ?_
      refine Go.iconst X0 hx (pc' := 14) rfl (hb hby d12_13) (v := (0 : Int32)) rfl ?_
      subst hFF
      refine Go.retN X0 hx hlk (t := .boolean) hret (by simp) (hb hby d12_14) (by decide) (by decide) ?_
      rw [e0]
      obtain ⟨z40, hz40⟩ : ∃ y, ((p0.toUInt32 >>> ((2 : Int32) &&& 31).toUInt32).toInt32) = y := ⟨_, rfl⟩
      obtain ⟨z41, hz41⟩ : ∃ y, (z40 &&& (255 : Int32)) = y := ⟨_, rfl⟩
      obtain ⟨z42, hz42⟩ : ∃ y, (z41.toInt8.toInt32) = y := ⟨_, rfl⟩
      have k0 : own_key p0 = some [z42] := (own_key1 hz1 hz40 hz41 hz42)
      have k1 : own_key p1 = none := (own_key3 hz2)
      have lk : ¬ own_key p0 = own_key p1 := fun z => absurd (k0.symm.trans (z.trans k1)) (by simp)
      exact Or.inr (⟨lk, (congrArg (fun z => some (Value.int z)) (by decide : nar .boolean (0 : Int32) = (0 : Int32))), (Fr.nil n0), rfl⟩)
  · refine Go.iloadN X0 hx (pc' := 9) rfl (hb hby d12_8) rfl ?_
    have r43 : 0 ≤ z2.toInt ∧ z2.toInt ≤ 3 := own_rand hz2 (by decide)
    rcases own_cs_0_3 r43 with rfl | rfl | rfl | rfl
    · refine Go.iloadN X0 hx (pc' := 10) rfl (hb hby d12_9) rfl ?_
      refine Go.icmpNo X0 hx (pc' := 13) rfl (hb hby d12_10) (by decide) ?_
      refine Go.iconst X0 hx (pc' := 14) rfl (hb hby d12_13) (v := (0 : Int32)) rfl ?_
      subst hFF
      refine Go.retN X0 hx hlk (t := .boolean) hret (by simp) (hb hby d12_14) (by decide) (by decide) ?_
      rw [e0]
      obtain ⟨z44, hz44⟩ : ∃ y, ((p0.toUInt32 >>> ((2 : Int32) &&& 31).toUInt32).toInt32) = y := ⟨_, rfl⟩
      obtain ⟨z45, hz45⟩ : ∃ y, (z44 &&& (255 : Int32)) = y := ⟨_, rfl⟩
      obtain ⟨z46, hz46⟩ : ∃ y, (z45.toInt8.toInt32) = y := ⟨_, rfl⟩
      obtain ⟨z47, hz47⟩ : ∃ y, ((p0.toUInt32 >>> ((10 : Int32) &&& 31).toUInt32).toInt32) = y := ⟨_, rfl⟩
      obtain ⟨z48, hz48⟩ : ∃ y, (z47 &&& (255 : Int32)) = y := ⟨_, rfl⟩
      obtain ⟨z49, hz49⟩ : ∃ y, (z48.toInt8.toInt32) = y := ⟨_, rfl⟩
      have k0 : own_key p0 = some [z46, z49] := (own_key2 hz1 hz44 hz45 hz46 hz47 hz48 hz49)
      have k1 : own_key p1 = some [] := (own_key0 hz2)
      have lk : ¬ own_key p0 = own_key p1 := fun z => absurd (k0.symm.trans (z.trans k1)) (by simp)
      exact Or.inr (⟨lk, (congrArg (fun z => some (Value.int z)) (by decide : nar .boolean (0 : Int32) = (0 : Int32))), (Fr.nil n0), rfl⟩)
    · refine Go.iloadN X0 hx (pc' := 10) rfl (hb hby d12_9) rfl ?_
      refine Go.icmpNo X0 hx (pc' := 13) rfl (hb hby d12_10) (by decide) ?_
      refine Go.iconst X0 hx (pc' := 14) rfl (hb hby d12_13) (v := (0 : Int32)) rfl ?_
      subst hFF
      refine Go.retN X0 hx hlk (t := .boolean) hret (by simp) (hb hby d12_14) (by decide) (by decide) ?_
      rw [e0]
      obtain ⟨z50, hz50⟩ : ∃ y, ((p0.toUInt32 >>> ((2 : Int32) &&& 31).toUInt32).toInt32) = y := ⟨_, rfl⟩
      obtain ⟨z51, hz51⟩ : ∃ y, (z50 &&& (255 : Int32)) = y := ⟨_, rfl⟩
      obtain ⟨z52, hz52⟩ : ∃ y, (z51.toInt8.toInt32) = y := ⟨_, rfl⟩
      obtain ⟨z53, hz53⟩ : ∃ y, ((p0.toUInt32 >>> ((10 : Int32) &&& 31).toUInt32).toInt32) = y := ⟨_, rfl⟩
      obtain ⟨z54, hz54⟩ : ∃ y, (z53 &&& (255 : Int32)) = y := ⟨_, rfl⟩
      obtain ⟨z55, hz55⟩ : ∃ y, (z54.toInt8.toInt32) = y := ⟨_, rfl⟩
      obtain ⟨z56, hz56⟩ : ∃ y, ((p1.toUInt32 >>> ((2 : Int32) &&& 31).toUInt32).toInt32) = y := ⟨_, rfl⟩
      obtain ⟨z57, hz57⟩ : ∃ y, (z56 &&& (255 : Int32)) = y := ⟨_, rfl⟩
      obtain ⟨z58, hz58⟩ : ∃ y, (z57.toInt8.toInt32) = y := ⟨_, rfl⟩
      have k0 : own_key p0 = some [z52, z55] := (own_key2 hz1 hz50 hz51 hz52 hz53 hz54 hz55)
      have k1 : own_key p1 = some [z58] := (own_key1 hz2 hz56 hz57 hz58)
      have lk : ¬ own_key p0 = own_key p1 := fun z => absurd (k0.symm.trans (z.trans k1)) (by simp)
      exact Or.inr (⟨lk, (congrArg (fun z => some (Value.int z)) (by decide : nar .boolean (0 : Int32) = (0 : Int32))), (Fr.nil n0), rfl⟩)
    · refine Go.iloadN X0 hx (pc' := 10) rfl (hb hby d12_9) rfl ?_
      refine Go.icmpYes X0 hx (pc' := 15) (hb hby d12_10) (by decide) (by decide) (by decide) ?_
      refine Go.iloadN X0 hx (pc' := 16) rfl (hb hby d12_15) rfl ?_
      refine Go.iconst X0 hx (pc' := 17) rfl (hb hby d12_16) (v := (3 : Int32)) rfl ?_
      refine Go.icmpYes X0 hx (pc' := 22) (hb hby d12_17) (by decide) (by decide) (by decide) ?_
      refine Go.iloadN X0 hx (pc' := 23) rfl (hb hby d12_22) rfl ?_
      refine Go.iconst X0 hx (pc' := 24) rfl (hb hby d12_23) (v := (1 : Int32)) rfl ?_
      refine Go.icmpNo X0 hx (pc' := 27) rfl (hb hby d12_24) (by decide) ?_
      refine Go.iloadN X0 hx (pc' := 28) rfl (hb hby d12_27) rfl ?_
      refine Go.iconst X0 hx (pc' := 29) rfl (hb hby d12_28) (v := (2 : Int32)) rfl ?_
      refine Go.iushr X0 hx (pc' := 30) rfl (hb hby d12_29) ?_
      generalize hz59 : ((p0.toUInt32 >>> ((2 : Int32) &&& 31).toUInt32).toInt32) = z59
      refine Go.sipush X0 hx (pc' := 33) rfl (hb hby d12_30) (v := (255 : Int32)) (by decide) ?_
      refine Go.iand X0 hx (pc' := 34) rfl (hb hby d12_33) ?_
      have r60 : 0 ≤ z59.toInt ∧ z59.toInt ≤ 1073741823 := own_rushr hz59 (k := 2) (by decide) (by decide) (by decide)
      generalize hz61 : (z59 &&& (255 : Int32)) = z61
      refine Go.iloadN X0 hx (pc' := 35) rfl (hb hby d12_34) rfl ?_
      refine Go.iconst X0 hx (pc' := 36) rfl (hb hby d12_35) (v := (2 : Int32)) rfl ?_
      refine Go.iushr X0 hx (pc' := 37) rfl (hb hby d12_36) ?_
      generalize hz62 : ((p1.toUInt32 >>> ((2 : Int32) &&& 31).toUInt32).toInt32) = z62
      refine Go.sipush X0 hx (pc' := 40) rfl (hb hby d12_37) (v := (255 : Int32)) (by decide) ?_
      refine Go.iand X0 hx (pc' := 41) rfl (hb hby d12_40) ?_
      have r63 : 0 ≤ z62.toInt ∧ z62.toInt ≤ 1073741823 := own_rushr hz62 (k := 2) (by decide) (by decide) (by decide)
      generalize hz64 : (z62 &&& (255 : Int32)) = z64
      have r65 : 0 ≤ z61.toInt ∧ z61.toInt ≤ 255 := own_rand hz61 (by decide)
      have r66 : 0 ≤ z64.toInt ∧ z64.toInt ≤ 255 := own_rand hz64 (by decide)
      by_cases hc67 : z61 = z64
      · refine Go.icmpYes X0 hx (pc' := 46) (hb hby d12_41) (teq hc67).1 (by decide) (by decide) ?_
        refine Go.iloadN X0 hx (pc' := 47) rfl (hb hby d12_46) rfl ?_
        refine Go.iconst X0 hx (pc' := 48) rfl (hb hby d12_47) (v := (2 : Int32)) rfl ?_
        refine Go.icmpNo X0 hx (pc' := 51) rfl (hb hby d12_48) (by decide) ?_
        refine Go.iloadN X0 hx (pc' := 52) rfl (hb hby d12_51) rfl ?_
        refine Go.bipush X0 hx (pc' := 54) rfl (hb hby d12_52) (v := (10 : Int32)) (by decide) ?_
        refine Go.iushr X0 hx (pc' := 55) rfl (hb hby d12_54) ?_
        generalize hz68 : ((p0.toUInt32 >>> ((10 : Int32) &&& 31).toUInt32).toInt32) = z68
        refine Go.sipush X0 hx (pc' := 58) rfl (hb hby d12_55) (v := (255 : Int32)) (by decide) ?_
        refine Go.iand X0 hx (pc' := 59) rfl (hb hby d12_58) ?_
        have r69 : 0 ≤ z68.toInt ∧ z68.toInt ≤ 4194303 := own_rushr hz68 (k := 10) (by decide) (by decide) (by decide)
        generalize hz70 : (z68 &&& (255 : Int32)) = z70
        refine Go.iloadN X0 hx (pc' := 60) rfl (hb hby d12_59) rfl ?_
        refine Go.bipush X0 hx (pc' := 62) rfl (hb hby d12_60) (v := (10 : Int32)) (by decide) ?_
        refine Go.iushr X0 hx (pc' := 63) rfl (hb hby d12_62) ?_
        generalize hz71 : ((p1.toUInt32 >>> ((10 : Int32) &&& 31).toUInt32).toInt32) = z71
        refine Go.sipush X0 hx (pc' := 66) rfl (hb hby d12_63) (v := (255 : Int32)) (by decide) ?_
        refine Go.iand X0 hx (pc' := 67) rfl (hb hby d12_66) ?_
        have r72 : 0 ≤ z71.toInt ∧ z71.toInt ≤ 4194303 := own_rushr hz71 (k := 10) (by decide) (by decide) (by decide)
        generalize hz73 : (z71 &&& (255 : Int32)) = z73
        have r74 : 0 ≤ z70.toInt ∧ z70.toInt ≤ 255 := own_rand hz70 (by decide)
        have r75 : 0 ≤ z73.toInt ∧ z73.toInt ≤ 255 := own_rand hz73 (by decide)
        by_cases hc76 : z70 = z73
        · refine Go.icmpYes X0 hx (pc' := 72) (hb hby d12_67) (teq hc76).1 (by decide) (by decide) ?_
          refine Go.iconst X0 hx (pc' := 73) rfl (hb hby d12_72) (v := (1 : Int32)) rfl ?_
          subst hFF
          refine Go.retN X0 hx hlk (t := .boolean) hret (by simp) (hb hby d12_73) (by decide) (by decide) ?_
          rw [e0]
          obtain ⟨z77, hz77⟩ : ∃ y, (z61.toInt8.toInt32) = y := ⟨_, rfl⟩
          obtain ⟨z78, hz78⟩ : ∃ y, (z70.toInt8.toInt32) = y := ⟨_, rfl⟩
          obtain ⟨z79, hz79⟩ : ∃ y, (z64.toInt8.toInt32) = y := ⟨_, rfl⟩
          obtain ⟨z80, hz80⟩ : ∃ y, (z73.toInt8.toInt32) = y := ⟨_, rfl⟩
          have k0 : own_key p0 = some [z77, z78] := (own_key2 hz1 hz59 hz61 hz77 hz68 hz70 hz78)
          have k1 : own_key p1 = some [z79, z80] := (own_key2 hz2 hz62 hz64 hz79 hz71 hz73 hz80)
          have lk : own_key p0 = own_key p1 := k0.trans ((congrArg some (own_lc (own_lat_eq hz77 hz79 hc67) (own_lc (own_lat_eq hz78 hz80 hc76) rfl))).trans k1.symm)
          exact Or.inl ⟨lk, (congrArg (fun z => some (Value.int z)) (by decide : nar .boolean (1 : Int32) = (1 : Int32))), (Fr.nil n0), rfl⟩
        · refine Go.icmpNo X0 hx (pc' := 70) rfl (hb hby d12_67) (feq hc76).1 ?_
          refine Go.iconst X0 hx (pc' := 71) rfl (hb hby d12_70) (v := (0 : Int32)) rfl ?_
          subst hFF
          refine Go.retN X0 hx hlk (t := .boolean) hret (by simp) (hb hby d12_71) (by decide) (by decide) ?_
          rw [e0]
          obtain ⟨z81, hz81⟩ : ∃ y, (z61.toInt8.toInt32) = y := ⟨_, rfl⟩
          obtain ⟨z82, hz82⟩ : ∃ y, (z70.toInt8.toInt32) = y := ⟨_, rfl⟩
          obtain ⟨z83, hz83⟩ : ∃ y, (z64.toInt8.toInt32) = y := ⟨_, rfl⟩
          obtain ⟨z84, hz84⟩ : ∃ y, (z73.toInt8.toInt32) = y := ⟨_, rfl⟩
          have k0 : own_key p0 = some [z81, z82] := (own_key2 hz1 hz59 hz61 hz81 hz68 hz70 hz82)
          have k1 : own_key p1 = some [z83, z84] := (own_key2 hz2 hz62 hz64 hz83 hz71 hz73 hz84)
          have lk : ¬ own_key p0 = own_key p1 := fun z => (own_l2 (own_l1 (own_lat_ne hz82 hz84 r74 r75 (by decide) hc76))) (Option.some.inj (k0.symm.trans (z.trans k1)))
          exact Or.inr (⟨lk, (congrArg (fun z => some (Value.int z)) (by decide : nar .boolean (0 : Int32) = (0 : Int32))), (Fr.nil n0), rfl⟩)
      · refine Go.icmpNo X0 hx (pc' := 44) rfl (hb hby d12_41) (feq hc67).1 ?_
        refine Go.iconst X0 hx (pc' := 45) rfl (hb hby d12_44) (v := (0 : Int32)) rfl ?_
        subst hFF
        refine Go.retN X0 hx hlk (t := .boolean) hret (by simp) (hb hby d12_45) (by decide) (by decide) ?_
        rw [e0]
        obtain ⟨z85, hz85⟩ : ∃ y, (z61.toInt8.toInt32) = y := ⟨_, rfl⟩
        obtain ⟨z86, hz86⟩ : ∃ y, ((p0.toUInt32 >>> ((10 : Int32) &&& 31).toUInt32).toInt32) = y := ⟨_, rfl⟩
        obtain ⟨z87, hz87⟩ : ∃ y, (z86 &&& (255 : Int32)) = y := ⟨_, rfl⟩
        obtain ⟨z88, hz88⟩ : ∃ y, (z87.toInt8.toInt32) = y := ⟨_, rfl⟩
        obtain ⟨z89, hz89⟩ : ∃ y, (z64.toInt8.toInt32) = y := ⟨_, rfl⟩
        obtain ⟨z90, hz90⟩ : ∃ y, ((p1.toUInt32 >>> ((10 : Int32) &&& 31).toUInt32).toInt32) = y := ⟨_, rfl⟩
        obtain ⟨z91, hz91⟩ : ∃ y, (z90 &&& (255 : Int32)) = y := ⟨_, rfl⟩
        obtain ⟨z92, hz92⟩ : ∃ y, (z91.toInt8.toInt32) = y := ⟨_, rfl⟩
        have k0 : own_key p0 = some [z85, z88] := (own_key2 hz1 hz59 hz61 hz85 hz86 hz87 hz88)
        have k1 : own_key p1 = some [z89, z92] := (own_key2 hz2 hz62 hz64 hz89 hz90 hz91 hz92)
        have lk : ¬ own_key p0 = own_key p1 := fun z => (own_l1 (own_lat_ne hz85 hz89 r65 r66 (by decide) hc67)) (Option.some.inj (k0.symm.trans (z.trans k1)))
        exact Or.inr (⟨lk, (congrArg (fun z => some (Value.int z)) (by decide : nar .boolean (0 : Int32) = (0 : Int32))), (Fr.nil n0), rfl⟩)
    · refine Go.iloadN X0 hx (pc' := 10) rfl (hb hby d12_9) rfl ?_
      refine Go.icmpNo X0 hx (pc' := 13) rfl (hb hby d12_10) (by decide) ?_
      refine Go.iconst X0 hx (pc' := 14) rfl (hb hby d12_13) (v := (0 : Int32)) rfl ?_
      subst hFF
      refine Go.retN X0 hx hlk (t := .boolean) hret (by simp) (hb hby d12_14) (by decide) (by decide) ?_
      rw [e0]
      obtain ⟨z93, hz93⟩ : ∃ y, ((p0.toUInt32 >>> ((2 : Int32) &&& 31).toUInt32).toInt32) = y := ⟨_, rfl⟩
      obtain ⟨z94, hz94⟩ : ∃ y, (z93 &&& (255 : Int32)) = y := ⟨_, rfl⟩
      obtain ⟨z95, hz95⟩ : ∃ y, (z94.toInt8.toInt32) = y := ⟨_, rfl⟩
      obtain ⟨z96, hz96⟩ : ∃ y, ((p0.toUInt32 >>> ((10 : Int32) &&& 31).toUInt32).toInt32) = y := ⟨_, rfl⟩
      obtain ⟨z97, hz97⟩ : ∃ y, (z96 &&& (255 : Int32)) = y := ⟨_, rfl⟩
      obtain ⟨z98, hz98⟩ : ∃ y, (z97.toInt8.toInt32) = y := ⟨_, rfl⟩
      have k0 : own_key p0 = some [z95, z98] := (own_key2 hz1 hz93 hz94 hz95 hz96 hz97 hz98)
      have k1 : own_key p1 = none := (own_key3 hz2)
      have lk : ¬ own_key p0 = own_key p1 := fun z => absurd (k0.symm.trans (z.trans k1)) (by simp)
      exact Or.inr (⟨lk, (congrArg (fun z => some (Value.int z)) (by decide : nar .boolean (0 : Int32) = (0 : Int32))), (Fr.nil n0), rfl⟩)
  · refine Go.iloadN X0 hx (pc' := 9) rfl (hb hby d12_8) rfl ?_
    have r99 : 0 ≤ z2.toInt ∧ z2.toInt ≤ 3 := own_rand hz2 (by decide)
    rcases own_cs_0_3 r99 with rfl | rfl | rfl | rfl
    · refine Go.iloadN X0 hx (pc' := 10) rfl (hb hby d12_9) rfl ?_
      refine Go.icmpNo X0 hx (pc' := 13) rfl (hb hby d12_10) (by decide) ?_
      refine Go.iconst X0 hx (pc' := 14) rfl (hb hby d12_13) (v := (0 : Int32)) rfl ?_
      subst hFF
      refine Go.retN X0 hx hlk (t := .boolean) hret (by simp) (hb hby d12_14) (by decide) (by decide) ?_
      rw [e0]
      have k0 : own_key p0 = none := (own_key3 hz1)
      have k1 : own_key p1 = some [] := (own_key0 hz2)
      have lk : ¬ own_key p0 = own_key p1 := fun z => absurd (k0.symm.trans (z.trans k1)) (by simp)
      exact Or.inr (⟨lk, (congrArg (fun z => some (Value.int z)) (by decide : nar .boolean (0 : Int32) = (0 : Int32))), (Fr.nil n0), rfl⟩)
    · refine Go.iloadN X0 hx (pc' := 10) rfl (hb hby d12_9) rfl ?_
      refine Go.icmpNo X0 hx (pc' := 13) rfl (hb hby d12_10) (by decide) ?_
      refine Go.iconst X0 hx (pc' := 14) rfl (hb hby d12_13) (v := (0 : Int32)) rfl ?_
      subst hFF
      refine Go.retN X0 hx hlk (t := .boolean) hret (by simp) (hb hby d12_14) (by decide) (by decide) ?_
      rw [e0]
      obtain ⟨z100, hz100⟩ : ∃ y, ((p1.toUInt32 >>> ((2 : Int32) &&& 31).toUInt32).toInt32) = y := ⟨_, rfl⟩
      obtain ⟨z101, hz101⟩ : ∃ y, (z100 &&& (255 : Int32)) = y := ⟨_, rfl⟩
      obtain ⟨z102, hz102⟩ : ∃ y, (z101.toInt8.toInt32) = y := ⟨_, rfl⟩
      have k0 : own_key p0 = none := (own_key3 hz1)
      have k1 : own_key p1 = some [z102] := (own_key1 hz2 hz100 hz101 hz102)
      have lk : ¬ own_key p0 = own_key p1 := fun z => absurd (k0.symm.trans (z.trans k1)) (by simp)
      exact Or.inr (⟨lk, (congrArg (fun z => some (Value.int z)) (by decide : nar .boolean (0 : Int32) = (0 : Int32))), (Fr.nil n0), rfl⟩)
    · refine Go.iloadN X0 hx (pc' := 10) rfl (hb hby d12_9) rfl ?_
      refine Go.icmpNo X0 hx (pc' := 13) rfl (hb hby d12_10) (by decide) ?_
      refine Go.iconst X0 hx (pc' := 14) rfl (hb hby d12_13) (v := (0 : Int32)) rfl ?_
      subst hFF
      refine Go.retN X0 hx hlk (t := .boolean) hret (by simp) (hb hby d12_14) (by decide) (by decide) ?_
      rw [e0]
      obtain ⟨z103, hz103⟩ : ∃ y, ((p1.toUInt32 >>> ((2 : Int32) &&& 31).toUInt32).toInt32) = y := ⟨_, rfl⟩
      obtain ⟨z104, hz104⟩ : ∃ y, (z103 &&& (255 : Int32)) = y := ⟨_, rfl⟩
      obtain ⟨z105, hz105⟩ : ∃ y, (z104.toInt8.toInt32) = y := ⟨_, rfl⟩
      obtain ⟨z106, hz106⟩ : ∃ y, ((p1.toUInt32 >>> ((10 : Int32) &&& 31).toUInt32).toInt32) = y := ⟨_, rfl⟩
      obtain ⟨z107, hz107⟩ : ∃ y, (z106 &&& (255 : Int32)) = y := ⟨_, rfl⟩
      obtain ⟨z108, hz108⟩ : ∃ y, (z107.toInt8.toInt32) = y := ⟨_, rfl⟩
      have k0 : own_key p0 = none := (own_key3 hz1)
      have k1 : own_key p1 = some [z105, z108] := (own_key2 hz2 hz103 hz104 hz105 hz106 hz107 hz108)
      have lk : ¬ own_key p0 = own_key p1 := fun z => absurd (k0.symm.trans (z.trans k1)) (by simp)
      exact Or.inr (⟨lk, (congrArg (fun z => some (Value.int z)) (by decide : nar .boolean (0 : Int32) = (0 : Int32))), (Fr.nil n0), rfl⟩)
    · refine Go.iloadN X0 hx (pc' := 10) rfl (hb hby d12_9) rfl ?_
      refine Go.icmpYes X0 hx (pc' := 15) (hb hby d12_10) (by decide) (by decide) (by decide) ?_
      refine Go.iloadN X0 hx (pc' := 16) rfl (hb hby d12_15) rfl ?_
      refine Go.iconst X0 hx (pc' := 17) rfl (hb hby d12_16) (v := (3 : Int32)) rfl ?_
      refine Go.icmpNo X0 hx (pc' := 20) rfl (hb hby d12_17) (by decide) ?_
      refine Go.iconst X0 hx (pc' := 21) rfl (hb hby d12_20) (v := (1 : Int32)) rfl ?_
      subst hFF
      refine Go.retN X0 hx hlk (t := .boolean) hret (by simp) (hb hby d12_21) (by decide) (by decide) ?_
      rw [e0]
      have k0 : own_key p0 = none := (own_key3 hz1)
      have k1 : own_key p1 = none := (own_key3 hz2)
      have lk : own_key p0 = own_key p1 := k0.trans (k1.symm)
      exact Or.inl ⟨lk, (congrArg (fun z => some (Value.int z)) (by decide : nar .boolean (1 : Int32) = (1 : Int32))), (Fr.nil n0), rfl⟩
theorem pd_12 : parseMethodDescriptor "(II)Z" = some ⟨[.int, .int], some .boolean⟩ := by decide +kernel
theorem d8_5 : decode jdk_31_method_2_code 5 = .ok (.aload_n 0, 1) := by decide +kernel
theorem d8_6 : decode jdk_31_method_2_code 6 = .ok (.ifnull 15, 3) := by decide +kernel
theorem d8_9 : decode jdk_31_method_2_code 9 = .ok (.aload_n 0, 1) := by decide +kernel
theorem d8_10 : decode jdk_31_method_2_code 10 = .ok (.aload_n 1, 1) := by decide +kernel
theorem d13_0 : decode jdk_42_method_66_code 0 = .ok (.aload_n 0, 1) := by decide +kernel
theorem d13_1 : decode jdk_42_method_66_code 1 = .ok (.aload_n 1, 1) := by decide +kernel
theorem d13_2 : decode jdk_42_method_66_code 2 = .ok (.if_acmp .ne 5, 3) := by decide +kernel
theorem d13_7 : decode jdk_42_method_66_code 7 = .ok (.aload_n 1, 1) := by decide +kernel
theorem d13_8 : decode jdk_42_method_66_code 8 = .ok (.instanceof 10, 3) := by decide +kernel
theorem d13_11 : decode jdk_42_method_66_code 11 = .ok (.ifCond .eq 43, 3) := by decide +kernel
theorem d13_14 : decode jdk_42_method_66_code 14 = .ok (.aload_n 1, 1) := by decide +kernel
theorem d13_15 : decode jdk_42_method_66_code 15 = .ok (.checkcast 10, 3) := by decide +kernel
theorem d13_18 : decode jdk_42_method_66_code 18 = .ok (.astore_n 2, 1) := by decide +kernel
theorem d13_19 : decode jdk_42_method_66_code 19 = .ok (.getstatic 38, 3) := by decide +kernel
theorem d13_22 : decode jdk_42_method_66_code 22 = .ok (.ifCond .eq 14, 3) := by decide +kernel
theorem d13_25 : decode jdk_42_method_66_code 25 = .ok (.aload_n 0, 1) := by decide +kernel
theorem d13_26 : decode jdk_42_method_66_code 26 = .ok (.getfield 15, 3) := by decide +kernel
theorem d13_29 : decode jdk_42_method_66_code 29 = .ok (.aload_n 2, 1) := by decide +kernel
theorem d13_30 : decode jdk_42_method_66_code 30 = .ok (.getfield 15, 3) := by decide +kernel
theorem d13_33 : decode jdk_42_method_66_code 33 = .ok (.if_icmp .ne 21, 3) := by decide +kernel
theorem d13_36 : decode jdk_42_method_66_code 36 = .ok (.aload_n 0, 1) := by decide +kernel
theorem d13_37 : decode jdk_42_method_66_code 37 = .ok (.getfield 9, 3) := by decide +kernel
theorem d13_40 : decode jdk_42_method_66_code 40 = .ok (.aload_n 2, 1) := by decide +kernel
theorem d13_41 : decode jdk_42_method_66_code 41 = .ok (.getfield 9, 3) := by decide +kernel
theorem ef_14_RR (m : MethodId) (x0 : Addr) (x1 : Addr) : entryFrame m #[(.ref x0), (.ref x1)] 3 = mkF m 0 #[.val (.ref x0), .val (.ref x1), .unset] [] := by first | (simp [entryFrame, mkF, argsToLocals, Value.category]; done) | rfl
theorem pn_c7 : plainName "java/lang/StringLatin1" = true := by first | (simp [plainName, overriddenIn]; done) | decide +kernel
theorem d14_0 : decode jdk_43_method_13_code 0 = .ok (.aload_n 0, 1) := by decide +kernel
theorem d14_1 : decode jdk_43_method_13_code 1 = .ok (.arraylength, 1) := by decide +kernel
theorem d14_2 : decode jdk_43_method_13_code 2 = .ok (.aload_n 1, 1) := by decide +kernel
theorem d14_3 : decode jdk_43_method_13_code 3 = .ok (.arraylength, 1) := by decide +kernel
theorem d14_4 : decode jdk_43_method_13_code 4 = .ok (.if_icmp .ne 30, 3) := by decide +kernel
theorem d14_7 : decode jdk_43_method_13_code 7 = .ok (.iconst 0, 1) := by decide +kernel
theorem d14_8 : decode jdk_43_method_13_code 8 = .ok (.istore_n 2, 1) := by decide +kernel
theorem d14_9 : decode jdk_43_method_13_code 9 = .ok (.iload_n 2, 1) := by decide +kernel
theorem d14_10 : decode jdk_43_method_13_code 10 = .ok (.aload_n 0, 1) := by decide +kernel
theorem d14_11 : decode jdk_43_method_13_code 11 = .ok (.arraylength, 1) := by decide +kernel
theorem d14_12 : decode jdk_43_method_13_code 12 = .ok (.if_icmp .ge 20, 3) := by decide +kernel
theorem d14_32 : decode jdk_43_method_13_code 32 = .ok (.iconst 1, 1) := by decide +kernel
theorem d14_33 : decode jdk_43_method_13_code 33 = .ok (.ireturn, 1) := by decide +kernel
theorem d14_15 : decode jdk_43_method_13_code 15 = .ok (.aload_n 0, 1) := by decide +kernel
theorem d14_16 : decode jdk_43_method_13_code 16 = .ok (.iload_n 2, 1) := by decide +kernel
theorem d14_17 : decode jdk_43_method_13_code 17 = .ok (.baload, 1) := by decide +kernel
theorem d14_18 : decode jdk_43_method_13_code 18 = .ok (.aload_n 1, 1) := by decide +kernel
theorem d14_19 : decode jdk_43_method_13_code 19 = .ok (.iload_n 2, 1) := by decide +kernel
theorem d14_20 : decode jdk_43_method_13_code 20 = .ok (.baload, 1) := by decide +kernel
theorem d14_21 : decode jdk_43_method_13_code 21 = .ok (.if_icmp .eq 5, 3) := by decide +kernel
theorem d14_26 : decode jdk_43_method_13_code 26 = .ok (.iinc 2 1, 3) := by decide +kernel
theorem d14_29 : decode jdk_43_method_13_code 29 = .ok (.goto (-20), 3) := by decide +kernel
theorem d14_24 : decode jdk_43_method_13_code 24 = .ok (.iconst 0, 1) := by decide +kernel
theorem d14_25 : decode jdk_43_method_13_code 25 = .ok (.ireturn, 1) := by decide +kernel
theorem d14_34 : decode jdk_43_method_13_code 34 = .ok (.iconst 0, 1) := by decide +kernel
theorem d14_35 : decode jdk_43_method_13_code 35 = .ok (.ireturn, 1) := by decide +kernel
set_option maxRecDepth 65536 in
set_option maxHeartbeats 4000000 in
theorem gl_eq (l : Launch) (Z : State) (a0 : Array Value) (hw : ∀ d ∈ tables_1, d.before a0 Z = true) (x0 x1 : Addr) (k0 k1 : ClassId) (za zb : Int32) (us vs : List Int32) (h0 : Heap) (P0 : Arv Z h0 x0 k0 .byte za (us.map Value.int) (.int 0)) (P1 : Arv Z h0 x1 k1 .byte zb (vs.map Value.int) (.int 0)) (ha : za.toInt = us.length) (hv : zb.toInt = vs.length) :
    Ctr l Z (⟨"java/lang/StringLatin1", "equals", "([B[B)Z"⟩ : MethodName) jdk_43_method_13_code 3 (some .boolean) ({ frames := 0, cells := 0, slots := 0, locals := 0 } : Room) #[(.ref x0), (.ref x1)] h0 (fun v h L => v = some (.int (if us = vs then 1 else 0)) ∧ L = [] ∧ h = h0) := by
  refine Ctr.of (plainFor_of_name pn_c7) ?_
  intro p e s m below meth c T0 hx hZ hby hml hown hnm hret hlk e0 es X0
  refine Go.cast (ef_14_RR m x0 x1) ?_
  generalize hFF : EndN s _ _ _ = FF
  have hN := own_ltN ha
  refine Go.aloadN X0 hx (pc' := 1) rfl (hb hby d14_0) rfl rfl ?_
  refine Go.arraylength X0 hx hZ e0 P0 (pc' := 2) rfl (hb hby d14_1) ?_
  refine Go.aloadN X0 hx (pc' := 3) rfl (hb hby d14_2) rfl rfl ?_
  refine Go.arraylength X0 hx hZ e0 P1 (pc' := 4) rfl (hb hby d14_3) ?_
  by_cases hz : za = zb
  · have hl : us.length = vs.length := by subst hz; omega
    refine Go.icmpNo X0 hx (pc' := 7) rfl (hb hby d14_4) (teq hz).2 ?_
    refine Go.iconst X0 hx (pc' := 8) rfl (hb hby d14_7) (v := (0 : Int32)) rfl ?_
    refine Go.istoreN X0 hx (pc' := 9) rfl (hb hby d14_8) (Ls' := #[.val (.ref x0), .val (.ref x1), .val (.int 0)]) rfl ?_
    have loop : ∀ (k i : Nat), i + k = us.length → us.take i = vs.take i → Go p e below FF (T0.setTop (mkF m 9 #[.val (.ref x0), .val (.ref x1), .val (.int (Int32.ofNat i))] [])) := by
      intro k
      induction k with
      | zero =>
        intro i hi ht
        have e1 : us = vs := by rw [List.take_of_length_le (by omega), List.take_of_length_le (by omega)] at ht; exact ht
        refine Go.iloadN X0 hx (pc' := 10) rfl (hb hby d14_9) rfl ?_
        refine Go.aloadN X0 hx (pc' := 11) rfl (hb hby d14_10) rfl rfl ?_
        refine Go.arraylength X0 hx hZ e0 P0 (pc' := 12) rfl (hb hby d14_11) ?_
        refine Go.icmpYes X0 hx (pc' := 32) (hb hby d14_12) (flt (own_ofNge (by omega) (by omega))).2.1 (by decide) (by decide) ?_
        refine Go.iconst X0 hx (pc' := 33) rfl (hb hby d14_32) (v := (1 : Int32)) rfl ?_
        subst hFF
        refine Go.retN X0 hx hlk (t := .boolean) hret (by simp) (hb hby d14_33) (by decide) (by decide) ?_
        rw [e0, if_pos e1]
        exact ⟨rfl, rfl, rfl⟩
      | succ k ih =>
        intro i hi ht
        have hj : ¬ Int32.ofNat i < 0 ∧ Int32.ofNat i < za := ⟨own_ofN0 (by omega), own_ofNlt (by omega) (by omega)⟩
        have hc := own_ofNc (i := i) (by omega)
        refine Go.iloadN X0 hx (pc' := 10) rfl (hb hby d14_9) rfl ?_
        refine Go.aloadN X0 hx (pc' := 11) rfl (hb hby d14_10) rfl rfl ?_
        refine Go.arraylength X0 hx hZ e0 P0 (pc' := 12) rfl (hb hby d14_11) ?_
        refine Go.icmpNo X0 hx (pc' := 15) rfl (hb hby d14_12) (tlt hj.2).2.1 ?_
        refine Go.aloadN X0 hx (pc' := 16) rfl (hb hby d14_15) rfl rfl ?_
        refine Go.iloadN X0 hx (pc' := 17) rfl (hb hby d14_16) rfl ?_
        refine Go.baload X0 hx hZ e0 P0 (v := (.int (us.getD i 0))) hj (by rw [hc]; exact own_getDI' _ _ _) (pc' := 18) rfl (hb hby d14_17) ?_
        refine Go.aloadN X0 hx (pc' := 19) rfl (hb hby d14_18) rfl rfl ?_
        refine Go.iloadN X0 hx (pc' := 20) rfl (hb hby d14_19) rfl ?_
        refine Go.baload X0 hx hZ e0 P1 (v := (.int (vs.getD i 0))) ⟨hj.1, by rw [← hz]; exact hj.2⟩ (by rw [hc]; exact own_getDI' _ _ _) (pc' := 21) rfl (hb hby d14_20) ?_
        by_cases hq : us.getD i 0 = vs.getD i 0
        · refine Go.icmpYes X0 hx (pc' := 26) (hb hby d14_21) (teq hq).1 (by decide) (by decide) ?_
          refine Go.iinc X0 hx (pc' := 29) rfl (hb hby d14_26) rfl (y := Int32.ofNat (i + 1)) (own_ofNs i) (Ls' := #[.val (.ref x0), .val (.ref x1), .val (.int (Int32.ofNat (i + 1)))]) rfl ?_
          refine Go.goto X0 hx (pc' := 9) (hb hby d14_29) (by decide) (by decide) ?_
          exact ih (i + 1) (by omega) (own_takeS (by omega) (by omega) ht hq)
        · refine Go.icmpNo X0 hx (pc' := 24) rfl (hb hby d14_21) (feq hq).1 ?_
          refine Go.iconst X0 hx (pc' := 25) rfl (hb hby d14_24) (v := (0 : Int32)) rfl ?_
          subst hFF
          refine Go.retN X0 hx hlk (t := .boolean) hret (by simp) (hb hby d14_25) (by decide) (by decide) ?_
          rw [e0, if_neg (fun z => hq (by rw [z]))]
          exact ⟨rfl, rfl, rfl⟩
    exact loop us.length 0 (by omega) (by simp)
  · refine Go.icmpYes X0 hx (pc' := 34) (hb hby d14_4) (feq hz).2 (by decide) (by decide) ?_
    refine Go.iconst X0 hx (pc' := 35) rfl (hb hby d14_34) (v := (0 : Int32)) rfl ?_
    subst hFF
    refine Go.retN X0 hx hlk (t := .boolean) hret (by simp) (hb hby d14_35) (by decide) (by decide) ?_
    rw [e0, if_neg (fun z => hz (by apply Int32.toInt_inj.mp; rw [ha, hv, z]))]
    exact ⟨rfl, rfl, rfl⟩
theorem pd_13 : parseMethodDescriptor "([B[B)Z" = some ⟨[(.array .byte), (.array .byte)], some .boolean⟩ := by decide +kernel
theorem d13_44 : decode jdk_42_method_66_code 44 = .ok (.invokestatic 541, 3) := by decide +kernel
theorem d13_47 : decode jdk_42_method_66_code 47 = .ok (.ifCond .eq 7, 3) := by decide +kernel
theorem d13_50 : decode jdk_42_method_66_code 50 = .ok (.iconst 1, 1) := by decide +kernel
theorem d13_51 : decode jdk_42_method_66_code 51 = .ok (.goto 4, 3) := by decide +kernel
theorem d13_55 : decode jdk_42_method_66_code 55 = .ok (.ireturn, 1) := by decide +kernel
theorem d13_54 : decode jdk_42_method_66_code 54 = .ok (.iconst 0, 1) := by decide +kernel
theorem ef_13_RR (m : MethodId) (x0 : Addr) (x1 : Addr) : entryFrame m #[(.ref x0), (.ref x1)] 3 = mkF m 0 #[.val (.ref x0), .val (.ref x1), .unset] [] := by first | (simp [entryFrame, mkF, argsToLocals, Value.category]; done) | rfl
-- java/lang/String.equals
set_option maxRecDepth 65536 in
set_option maxHeartbeats 4000000 in
theorem au_28 (l : Launch) (Z : State) (a0 : Array Value) (hw : ∀ d ∈ tables_1, d.before a0 Z = true) (x0 : Addr) (x1 : Addr) (x2 : Addr) (x3 : Addr) (kk0 : ClassId) (us0 : List Int32) (p1 : Int32) (kk1 : ClassId) (us2 : List Int32) (p3 : Int32) (ga3 : Addr) (gz9 : Int32) (gv13 : Value) (gk17 : ClassId) (gvs18 : List Value) (h0 : Heap) (n0 : Nat) (Z0 : n0 ≤ h0.size) (O0 : Old Z n0 h0) (G : Glob Z ga3 gz9 gv13 gk17 gvs18) (P1 : Fld Z h0 x0 "java/lang/String" "coder" "B" (.int 0)) (P2 : Fld Z h0 x0 "java/lang/String" "value" "[B" (.ref x2)) (P3 : Exa Z h0 x1 "java/lang/String") (P4 : Fld Z h0 x1 "java/lang/String" "coder" "B" (.int 0)) (P5 : Fld Z h0 x1 "java/lang/String" "value" "[B" (.ref x3)) (P6 : Arv Z h0 x2 kk0 .byte p1 (us0.map Value.int) (.int 0)) (P7 : Arv Z h0 x3 kk1 .byte p3 (us2.map Value.int) (.int 0)) (H0 : p1.toInt = us0.length) (H1 : p3.toInt = us2.length) (ne_x0_x1 : x0 ≠ x1) :
    Ctr l Z (⟨"java/lang/String", "equals", "(Ljava/lang/Object;)Z"⟩ : MethodName) jdk_42_method_66_code 3 (some .boolean) ({ frames := 1, cells := 0, slots := 0, locals := 14 } : Room) #[(.ref x0), (.ref x1)] h0 (fun v h L => (us0 = us2 ∧ v = some (.int 1) ∧ Fr n0 L ∧ h = h0) ∨ (¬ (us0 = us2) ∧ v = some (.int 0) ∧ Fr n0 L ∧ h = h0)) := by
  refine Ctr.of (plainFor_of_name pn_c0) ?_
  intro p e s m below meth c T0 hx hZ hby hml hown hnm hret hlk e0 es X0
  have G' := G
  obtain ⟨-, -, -, G3, -, -, G6, -, -⟩ := G'
  refine Go.cast (ef_13_RR m x0 x1) ?_
  generalize hFF : EndN s _ _ _ = FF
  refine Go.aloadN X0 hx (pc' := 1) rfl (hb hby d13_0) rfl rfl ?_
  refine Go.aloadN X0 hx (pc' := 2) rfl (hb hby d13_1) rfl rfl ?_
  refine Go.acmp X0 hx (pc' := 7) (same := false) (hb hby d13_2) rfl rfl (decide_eq_false (fun q => ne_x0_x1 (Value.ref.inj q))) (by decide) (by decide) ?_
  refine Go.aloadN X0 hx (pc' := 8) rfl (hb hby d13_7) rfl rfl ?_
  refine Go.instY X0 hx hZ hown (tw_78 hw) e0 (Ins.self P3) (pc' := 11) rfl (hb hby d13_8) ?_
  intro T1 e1 X1
  refine Go.ifNo X1 hx (pc' := 14) rfl (hb hby d13_11) (by decide) ?_
  refine Go.aloadN X1 hx (pc' := 15) rfl (hb hby d13_14) rfl rfl ?_
  refine Go.castY X1 hx hZ hown (tw_78 hw) e1 (Ins.self P3) (pc' := 18) rfl (hb hby d13_15) ?_
  intro T2 e2 X2
  refine Go.astoreN X2 hx (pc' := 19) rfl (hb hby d13_18) (Ls' := #[.val (.ref x0), .val (.ref x1), .val (.ref x1)]) rfl rfl ?_
  have fk3 : Sta Z h0 "java/lang/String" "COMPACT_STRINGS" "Z" (.int gz9) := G3.ext O0.2
  refine Go.getS X2 hx hZ hown (host := "") (Or.inl (tw_58 hw)) Via.refl e2 fk3 (pc' := 22) rfl (hb hby d13_19) ?_
  intro T4 e4 X4
  refine Go.ifNo X4 hx (pc' := 25) rfl (hb hby d13_22) (feq G6).1 ?_
  refine Go.aloadN X4 hx (pc' := 26) rfl (hb hby d13_25) rfl rfl ?_
  refine Go.getF X4 hx hZ hown (host := "") (Or.inl (tw_28 hw)) Via.refl e4 P1 (pc' := 29) rfl (hb hby d13_26) ?_
  intro T5 e5 X5
  refine Go.aloadN X5 hx (pc' := 30) rfl (hb hby d13_29) rfl rfl ?_
  refine Go.getF X5 hx hZ hown (host := "") (Or.inl (tw_28 hw)) Via.refl e5 P4 (pc' := 33) rfl (hb hby d13_30) ?_
  intro T6 e6 X6
  refine Go.icmpNo X6 hx (pc' := 36) rfl (hb hby d13_33) (by decide) ?_
  refine Go.aloadN X6 hx (pc' := 37) rfl (hb hby d13_36) rfl rfl ?_
  refine Go.getF X6 hx hZ hown (host := "") (Or.inl (tw_27 hw)) Via.refl e6 P2 (pc' := 40) rfl (hb hby d13_37) ?_
  intro T7 e7 X7
  refine Go.aloadN X7 hx (pc' := 41) rfl (hb hby d13_40) rfl rfl ?_
  refine Go.getF X7 hx hZ hown (host := "") (Or.inl (tw_27 hw)) Via.refl e7 P5 (pc' := 44) rfl (hb hby d13_41) ?_
  intro T8 e8 X8
  refine Go.callS X8 hx hZ hown (tw_79 hw) (tw_80 hw) (tw_81 hw) (tw_82 hw) (by decide) (tw_82 hw) (tw_81 hw) (gl_eq l Z a0 hw x2 x3 kk0 kk1 p1 p3 us0 us2 h0 P6 P7 H0 H1) e8 (argsL := [(.ref x2), (.ref x3)]) (rest := []) (pc' := 47) rfl (by rw [hml]; rfl) (lenOf pd_13 rfl) rfl rfl (W := 0) (Nat.le_of_eq rfl) (by decide) (by decide) (by decide) (by decide) (hb hby d13_44) ?_
  intro v9 T9 L9 q9 X9
  obtain ⟨rfl, rfl, e9⟩ := q9
  by_cases hc10 : us0 = us2
  · rw [if_pos hc10]
    show Go _ _ _ _ (T9.setTop (mkF m 47 #[.val (.ref x0), .val (.ref x1), .val (.ref x1)] [(.int 1)]))
    refine Go.ifNo X9 hx (pc' := 50) rfl (hb hby d13_47) (by decide) ?_
    refine Go.iconst X9 hx (pc' := 51) rfl (hb hby d13_50) (v := (1 : Int32)) rfl ?_
    refine Go.goto X9 hx (pc' := 55) (hb hby d13_51) (by decide) (by decide) ?_
    subst hFF
    refine Go.retN X9 hx hlk (t := .boolean) hret (by simp) (hb hby d13_55) (by decide) (by decide) ?_
    rw [e9]
    exact Or.inl ⟨hc10, (congrArg (fun z => some (Value.int z)) (by decide : nar .boolean (1 : Int32) = (1 : Int32))), (Fr.app (Fr.nil n0) (Fr.nil n0)), rfl⟩
  · rw [if_neg hc10]
    show Go _ _ _ _ (T9.setTop (mkF m 47 #[.val (.ref x0), .val (.ref x1), .val (.ref x1)] [(.int 0)]))
    refine Go.ifYes X9 hx (pc' := 54) (hb hby d13_47) (by decide) (by decide) (by decide) ?_
    refine Go.iconst X9 hx (pc' := 55) rfl (hb hby d13_54) (v := (0 : Int32)) rfl ?_
    subst hFF
    refine Go.retN X9 hx hlk (t := .boolean) hret (by simp) (hb hby d13_55) (by decide) (by decide) ?_
    rw [e9]
    exact Or.inr (⟨hc10, (congrArg (fun z => some (Value.int z)) (by decide : nar .boolean (0 : Int32) = (0 : Int32))), (Fr.app (Fr.nil n0) (Fr.nil n0)), rfl⟩)
theorem d8_11 : decode jdk_31_method_2_code 11 = .ok (.invokevirtual 14, 3) := by decide +kernel
theorem d8_14 : decode jdk_31_method_2_code 14 = .ok (.ifCond .eq 7, 3) := by decide +kernel
theorem d8_21 : decode jdk_31_method_2_code 21 = .ok (.iconst 0, 1) := by decide +kernel
-- java/util/Objects.equals
set_option maxRecDepth 65536 in
set_option maxHeartbeats 4000000 in
theorem au_27 (l : Launch) (Z : State) (a0 : Array Value) (hw : ∀ d ∈ tables_1, d.before a0 Z = true) (x0 : Addr) (x1 : Addr) (x2 : Addr) (x3 : Addr) (kk0 : ClassId) (us0 : List Int32) (p1 : Int32) (kk1 : ClassId) (us2 : List Int32) (p3 : Int32) (ga3 : Addr) (gz9 : Int32) (gv13 : Value) (gk17 : ClassId) (gvs18 : List Value) (h0 : Heap) (n0 : Nat) (Z0 : n0 ≤ h0.size) (O0 : Old Z n0 h0) (G : Glob Z ga3 gz9 gv13 gk17 gvs18) (P0 : Exa Z h0 x0 "java/lang/String") (P1 : Fld Z h0 x0 "java/lang/String" "coder" "B" (.int 0)) (P2 : Fld Z h0 x0 "java/lang/String" "value" "[B" (.ref x2)) (P3 : Exa Z h0 x1 "java/lang/String") (P4 : Fld Z h0 x1 "java/lang/String" "coder" "B" (.int 0)) (P5 : Fld Z h0 x1 "java/lang/String" "value" "[B" (.ref x3)) (P6 : Arv Z h0 x2 kk0 .byte p1 (us0.map Value.int) (.int 0)) (P7 : Arv Z h0 x3 kk1 .byte p3 (us2.map Value.int) (.int 0)) (H0 : p1.toInt = us0.length) (H1 : p3.toInt = us2.length) (ne_x0_x1 : x0 ≠ x1) :
    Ctr l Z (⟨"java/util/Objects", "equals", "(Ljava/lang/Object;Ljava/lang/Object;)Z"⟩ : MethodName) jdk_31_method_2_code 2 (some .boolean) ({ frames := 2, cells := 0, slots := 0, locals := 28 } : Room) #[(.ref x0), (.ref x1)] h0 (fun v h L => (us0 = us2 ∧ v = some (.int 1) ∧ Fr n0 L ∧ h = h0) ∨ (¬ (us0 = us2) ∧ v = some (.int 0) ∧ Fr n0 L ∧ h = h0)) := by
  refine Ctr.of (plainFor_of_name pn_c6) ?_
  intro p e s m below meth c T0 hx hZ hby hml hown hnm hret hlk e0 es X0
  refine Go.cast (ef_8_RR m x0 x1) ?_
  generalize hFF : EndN s _ _ _ = FF
  refine Go.aloadN X0 hx (pc' := 1) rfl (hb hby d8_0) rfl rfl ?_
  refine Go.aloadN X0 hx (pc' := 2) rfl (hb hby d8_1) rfl rfl ?_
  refine Go.acmp X0 hx (pc' := 5) (same := false) (hb hby d8_2) rfl rfl (decide_eq_false (fun q => ne_x0_x1 (Value.ref.inj q))) (by decide) (by decide) ?_
  refine Go.aloadN X0 hx (pc' := 6) rfl (hb hby d8_5) rfl rfl ?_
  refine Go.ifnullNo X0 hx (pc' := 9) rfl (hb hby d8_6) ?_
  refine Go.aloadN X0 hx (pc' := 10) rfl (hb hby d8_9) rfl rfl ?_
  refine Go.aloadN X0 hx (pc' := 11) rfl (hb hby d8_10) rfl rfl ?_
  refine Go.callV X0 hx hZ hown (tw_72 hw) (tw_73 hw) (nf_top (args := #[]) (mvT hZ (tw_52 hw))) (tw_75 hw) (tw_76 hw) (by decide) (tw_77 hw) (tw_10 hw) (au_28 l Z a0 hw x0 x1 x2 x3 kk0 us0 p1 kk1 us2 p3 ga3 gz9 gv13 gk17 gvs18 h0 n0 Z0 O0 G P1 P2 P3 P4 P5 P6 P7 H0 H1 ne_x0_x1) e0 P0 (argsL := [(.ref x1)]) (rest := []) (pc' := 14) rfl (by rw [hml]; rfl) (lenOf pd_7 rfl) rfl rfl (W := 0) (Nat.le_of_eq rfl) (by decide) (by decide) (by decide) (by decide) (hb hby d8_11) ?_
  intro v1 T1 L1 q1 X1
  rcases q1 with ⟨c1_0_0, rfl, N1_0, e1_0⟩ | ⟨c1_1_0, rfl, N1_1, e1_1⟩
  · show Go _ _ _ _ (T1.setTop (mkF m 14 #[.val (.ref x0), .val (.ref x1)] [(.int 1)]))
    refine Go.ifNo X1 hx (pc' := 17) rfl (hb hby d8_14) (by decide) ?_
    refine Go.iconst X1 hx (pc' := 18) rfl (hb hby d8_17) (v := (1 : Int32)) rfl ?_
    refine Go.goto X1 hx (pc' := 22) (hb hby d8_18) (by decide) (by decide) ?_
    subst hFF
    refine Go.retN X1 hx hlk (t := .boolean) hret (by simp) (hb hby d8_22) (by decide) (by decide) ?_
    rw [e1_0]
    exact Or.inl ⟨c1_0_0, (congrArg (fun z => some (Value.int z)) (by decide : nar .boolean (1 : Int32) = (1 : Int32))), (Fr.app (Fr.nil n0) N1_0), rfl⟩
  · show Go _ _ _ _ (T1.setTop (mkF m 14 #[.val (.ref x0), .val (.ref x1)] [(.int 0)]))
    refine Go.ifYes X1 hx (pc' := 21) (hb hby d8_14) (by decide) (by decide) (by decide) ?_
    refine Go.iconst X1 hx (pc' := 22) rfl (hb hby d8_21) (v := (0 : Int32)) rfl ?_
    subst hFF
    refine Go.retN X1 hx hlk (t := .boolean) hret (by simp) (hb hby d8_22) (by decide) (by decide) ?_
    rw [e1_1]
    exact Or.inr (⟨c1_1_0, (congrArg (fun z => some (Value.int z)) (by decide : nar .boolean (0 : Int32) = (0 : Int32))), (Fr.app (Fr.nil n0) N1_1), rfl⟩)
-- com/example/rockhopper/rockhopper/model/Validators.equals
set_option maxRecDepth 65536 in
set_option maxHeartbeats 4000000 in
theorem au_26 (l : Launch) (Z : State) (a0 : Array Value) (hw : ∀ d ∈ tables_1, d.before a0 Z = true) (x0 : Addr) (x1 : Addr) (x2 : Addr) (x3 : Addr) (x4 : Addr) (x5 : Addr) (x6 : Addr) (x7 : Addr) (x8 : Addr) (x9 : Addr) (kk0 : ClassId) (us0 : List Int32) (p1 : Int32) (kk1 : ClassId) (us2 : List Int32) (p3 : Int32) (kk2 : ClassId) (us4 : List Int32) (p5 : Int32) (kk3 : ClassId) (us6 : List Int32) (p7 : Int32) (ga3 : Addr) (gz9 : Int32) (gv13 : Value) (gk17 : ClassId) (gvs18 : List Value) (h0 : Heap) (n0 : Nat) (Z0 : n0 ≤ h0.size) (O0 : Old Z n0 h0) (G : Glob Z ga3 gz9 gv13 gk17 gvs18) (P1 : Fld Z h0 x0 "com/example/rockhopper/rockhopper/model/Validators" "etag" "Ljava/lang/String;" (.ref x2)) (P2 : Fld Z h0 x0 "com/example/rockhopper/rockhopper/model/Validators" "lastModified" "Ljava/lang/String;" (.ref x3)) (P3 : Exa Z h0 x1 "com/example/rockhopper/rockhopper/model/Validators") (P4 : Fld Z h0 x1 "com/example/rockhopper/rockhopper/model/Validators" "etag" "Ljava/lang/String;" (.ref x4)) (P5 : Fld Z h0 x1 "com/example/rockhopper/rockhopper/model/Validators" "lastModified" "Ljava/lang/String;" (.ref x5)) (P6 : Exa Z h0 x2 "java/lang/String") (P7 : Fld Z h0 x2 "java/lang/String" "coder" "B" (.int 0)) (P8 : Fld Z h0 x2 "java/lang/String" "value" "[B" (.ref x6)) (P9 : Exa Z h0 x3 "java/lang/String") (P10 : Fld Z h0 x3 "java/lang/String" "coder" "B" (.int 0)) (P11 : Fld Z h0 x3 "java/lang/String" "value" "[B" (.ref x7)) (P12 : Exa Z h0 x4 "java/lang/String") (P13 : Fld Z h0 x4 "java/lang/String" "coder" "B" (.int 0)) (P14 : Fld Z h0 x4 "java/lang/String" "value" "[B" (.ref x8)) (P15 : Exa Z h0 x5 "java/lang/String") (P16 : Fld Z h0 x5 "java/lang/String" "coder" "B" (.int 0)) (P17 : Fld Z h0 x5 "java/lang/String" "value" "[B" (.ref x9)) (P18 : Arv Z h0 x6 kk0 .byte p1 (us0.map Value.int) (.int 0)) (P19 : Arv Z h0 x7 kk1 .byte p3 (us2.map Value.int) (.int 0)) (P20 : Arv Z h0 x8 kk2 .byte p5 (us4.map Value.int) (.int 0)) (P21 : Arv Z h0 x9 kk3 .byte p7 (us6.map Value.int) (.int 0)) (H0 : p1.toInt = us0.length) (H1 : p3.toInt = us2.length) (H2 : p5.toInt = us4.length) (H3 : p7.toInt = us6.length) (ne_x4_x2 : x4 ≠ x2) (ne_x5_x3 : x5 ≠ x3) :
    Ctr l Z (⟨"com/example/rockhopper/rockhopper/model/Validators", "equals", "(Ljava/lang/Object;)Z"⟩ : MethodName) prog_9_method_4_code 2 (some .boolean) ({ frames := 3, cells := 0, slots := 0, locals := 41 } : Room) #[(.ref x0), (.ref x1)] h0 (fun v h L => (us4 = us0 ∧ us6 = us2 ∧ v = some (.int 1) ∧ Fr n0 L ∧ h = h0) ∨ (us4 = us0 ∧ ¬ (us6 = us2) ∧ v = some (.int 0) ∧ Fr n0 L ∧ h = h0) ∨ (¬ (us4 = us0) ∧ v = some (.int 0) ∧ Fr n0 L ∧ h = h0)) := by
  refine Ctr.of (plainFor_of_name pn_c3) ?_
  intro p e s m below meth c T0 hx hZ hby hml hown hnm hret hlk e0 es X0
  refine Go.cast (ef_6_RR m x0 x1) ?_
  generalize hFF : EndN s _ _ _ = FF
  refine Go.aloadN X0 hx (pc' := 1) rfl (hb hby d6_0) rfl rfl ?_
  refine Go.instY X0 hx hZ hown (tw_49 hw) e0 (Ins.self P3) (pc' := 4) rfl (hb hby d6_1) ?_
  intro T1 e1 X1
  refine Go.ifNo X1 hx (pc' := 7) rfl (hb hby d6_4) (by decide) ?_
  refine Go.aloadN X1 hx (pc' := 8) rfl (hb hby d6_7) rfl rfl ?_
  refine Go.castY X1 hx hZ hown (tw_49 hw) e1 (Ins.self P3) (pc' := 11) rfl (hb hby d6_8) ?_
  intro T2 e2 X2
  refine Go.getF X2 hx hZ hown (host := "") (Or.inl (tw_33 hw)) Via.refl e2 P4 (pc' := 14) rfl (hb hby d6_11) ?_
  intro T3 e3 X3
  refine Go.aloadN X3 hx (pc' := 15) rfl (hb hby d6_14) rfl rfl ?_
  refine Go.getF X3 hx hZ hown (host := "") (Or.inl (tw_33 hw)) Via.refl e3 P1 (pc' := 18) rfl (hb hby d6_15) ?_
  intro T4 e4 X4
  refine Go.callS X4 hx hZ hown (tw_54 hw) (tw_55 hw) (tw_56 hw) (tw_57 hw) (by decide) (tw_57 hw) (tw_56 hw) (au_27 l Z a0 hw x4 x2 x8 x6 kk2 us4 p5 kk0 us0 p1 ga3 gz9 gv13 gk17 gvs18 h0 n0 Z0 O0 G P12 P13 P14 P6 P7 P8 P20 P18 H2 H0 ne_x4_x2) e4 (argsL := [(.ref x4), (.ref x2)]) (rest := []) (pc' := 21) rfl (by rw [hml]; rfl) (lenOf pd_11 rfl) rfl rfl (W := 0) (Nat.le_of_eq rfl) (by decide) (by decide) (by decide) (by decide) (hb hby d6_18) ?_
  intro v5 T5 L5 q5 X5
  rcases q5 with ⟨c5_0_0, rfl, N5_0, e5_0⟩ | ⟨c5_1_0, rfl, N5_1, e5_1⟩
  · show Go _ _ _ _ (T5.setTop (mkF m 21 #[.val (.ref x0), .val (.ref x1)] [(.int 1)]))
    refine Go.ifNo X5 hx (pc' := 24) rfl (hb hby d6_21) (by decide) ?_
    refine Go.aloadN X5 hx (pc' := 25) rfl (hb hby d6_24) rfl rfl ?_
    refine Go.castY X5 hx hZ hown (tw_49 hw) e5_0 (Ins.self P3) (pc' := 28) rfl (hb hby d6_25) ?_
    intro T6 e6 X6
    refine Go.getF X6 hx hZ hown (host := "") (Or.inl (tw_35 hw)) Via.refl e6 P5 (pc' := 31) rfl (hb hby d6_28) ?_
    intro T7 e7 X7
    refine Go.aloadN X7 hx (pc' := 32) rfl (hb hby d6_31) rfl rfl ?_
    refine Go.getF X7 hx hZ hown (host := "") (Or.inl (tw_35 hw)) Via.refl e7 P2 (pc' := 35) rfl (hb hby d6_32) ?_
    intro T8 e8 X8
    refine Go.callS X8 hx hZ hown (tw_54 hw) (tw_55 hw) (tw_56 hw) (tw_57 hw) (by decide) (tw_57 hw) (tw_56 hw) (au_27 l Z a0 hw x5 x3 x9 x7 kk3 us6 p7 kk1 us2 p3 ga3 gz9 gv13 gk17 gvs18 h0 n0 Z0 O0 G P15 P16 P17 P9 P10 P11 P21 P19 H3 H1 ne_x5_x3) e8 (argsL := [(.ref x5), (.ref x3)]) (rest := []) (pc' := 38) rfl (by rw [hml]; rfl) (lenOf pd_11 rfl) rfl rfl (W := 0) (Nat.le_of_eq rfl) (by decide) (by decide) (by decide) (by decide) (hb hby d6_35) ?_
    intro v9 T9 L9 q9 X9
    rcases q9 with ⟨c9_0_0, rfl, N9_0, e9_0⟩ | ⟨c9_1_0, rfl, N9_1, e9_1⟩
    · show Go _ _ _ _ (T9.setTop (mkF m 38 #[.val (.ref x0), .val (.ref x1)] [(.int 1)]))
      refine Go.ifNo X9 hx (pc' := 41) rfl (hb hby d6_38) (by decide) ?_
      refine Go.iconst X9 hx (pc' := 42) rfl (hb hby d6_41) (v := (1 : Int32)) rfl ?_
      refine Go.goto X9 hx (pc' := 46) (hb hby d6_42) (by decide) (by decide) ?_
      subst hFF
      refine Go.retN X9 hx hlk (t := .boolean) hret (by simp) (hb hby d6_46) (by decide) (by decide) ?_
      rw [e9_0]
      exact Or.inl ⟨c5_0_0, c9_0_0, (congrArg (fun z => some (Value.int z)) (by decide : nar .boolean (1 : Int32) = (1 : Int32))), (Fr.app (Fr.app (Fr.nil n0) N5_0) N9_0), rfl⟩
    · show Go _ _ _ _ (T9.setTop (mkF m 38 #[.val (.ref x0), .val (.ref x1)] [(.int 0)]))
      refine Go.ifYes X9 hx (pc' := 45) (hb hby d6_38) (by decide) (by decide) (by decide) ?_
      refine Go.iconst X9 hx (pc' := 46) rfl (hb hby d6_45) (v := (0 : Int32)) rfl ?_
      subst hFF
      refine Go.retN X9 hx hlk (t := .boolean) hret (by simp) (hb hby d6_46) (by decide) (by decide) ?_
      rw [e9_1]
      exact Or.inr (Or.inl ⟨c5_0_0, c9_1_0, (congrArg (fun z => some (Value.int z)) (by decide : nar .boolean (0 : Int32) = (0 : Int32))), (Fr.app (Fr.app (Fr.nil n0) N5_0) N9_1), rfl⟩)
  · show Go _ _ _ _ (T5.setTop (mkF m 21 #[.val (.ref x0), .val (.ref x1)] [(.int 0)]))
    refine Go.ifYes X5 hx (pc' := 45) (hb hby d6_21) (by decide) (by decide) (by decide) ?_
    refine Go.iconst X5 hx (pc' := 46) rfl (hb hby d6_45) (v := (0 : Int32)) rfl ?_
    subst hFF
    refine Go.retN X5 hx hlk (t := .boolean) hret (by simp) (hb hby d6_46) (by decide) (by decide) ?_
    rw [e5_1]
    exact Or.inr (Or.inr (⟨c5_1_0, (congrArg (fun z => some (Value.int z)) (by decide : nar .boolean (0 : Int32) = (0 : Int32))), (Fr.app (Fr.nil n0) N5_1), rfl⟩))
theorem ef_5_RRN (m : MethodId) (x0 : Addr) (x1 : Addr)  : entryFrame m #[(.ref x0), (.ref x1), .null] 3 = mkF m 0 #[.val (.ref x0), .val (.ref x1), .val .null] [] := by first | (simp [entryFrame, mkF, argsToLocals, Value.category]; done) | rfl
-- com/example/rockhopper/rockhopper/model/Validators.init
set_option maxRecDepth 65536 in
set_option maxHeartbeats 4000000 in
theorem au_29 (l : Launch) (Z : State) (a0 : Array Value) (hw : ∀ d ∈ tables_1, d.before a0 Z = true) (x0 : Addr) (x1 : Addr) (h0 : Heap) (n0 : Nat) (Z0 : n0 ≤ h0.size) (P0 : Exa Z h0 x0 "com/example/rockhopper/rockhopper/model/Validators") (P1 : Fld Z h0 x0 "com/example/rockhopper/rockhopper/model/Validators" "etag" "Ljava/lang/String;" .null) (P2 : Fld Z h0 x0 "com/example/rockhopper/rockhopper/model/Validators" "lastModified" "Ljava/lang/String;" .null) (g_x0 : n0 ≤ x0) :
    Ctr l Z (⟨"com/example/rockhopper/rockhopper/model/Validators", "<init>", "(Ljava/lang/String;Ljava/lang/String;)V"⟩ : MethodName) prog_9_method_1_code 3 none ({ frames := 1, cells := 0, slots := 0, locals := 12 } : Room) #[(.ref x0), (.ref x1), .null] h0 (fun v h L => v = none ∧ Fr n0 L ∧ Keep h0 h [x0] ∧ Exa Z h x0 "com/example/rockhopper/rockhopper/model/Validators" ∧ Fld Z h x0 "com/example/rockhopper/rockhopper/model/Validators" "etag" "Ljava/lang/String;" (.ref x1) ∧ Fld Z h x0 "com/example/rockhopper/rockhopper/model/Validators" "lastModified" "Ljava/lang/String;" .null) := by
  refine Ctr.of (plainFor_of_name pn_c3) ?_
  intro p e s m below meth c T0 hx hZ hby hml hown hnm hret hlk e0 es X0
  refine Go.cast (ef_5_RRN m x0 x1) ?_
  generalize hFF : EndN s _ _ _ = FF
  refine Go.aloadN X0 hx (pc' := 1) rfl (hb hby d5_0) rfl rfl ?_
  refine Go.initO X0 hx hZ hown (tw_32 hw) (tw_19 hw) (tw_20 hw) e0 (by decide) (W := 0) (by rw [hml]; rfl) (Nat.le_of_eq rfl) (by decide) (pc' := 4) rfl (hb hby d5_1) ?_
  intro T1 e1 X1
  refine Go.aloadN X1 hx (pc' := 5) rfl (hb hby d5_4) rfl rfl ?_
  refine Go.aloadN X1 hx (pc' := 6) rfl (hb hby d5_5) rfl rfl ?_
  refine Go.putF X1 hx hZ hown (host := "") (Or.inl (tw_33 hw)) Via.refl e1 P1 P0 (Or.inr ⟨(tw_34 hw), rfl, hnm⟩) (tw_1 hw) (ty := (.object "java/lang/String")) (by decide) rfl rfl (pc' := 9) rfl (hb hby d5_6) ?_
  intro T2 h2 e2 W2 F2 X2
  have N2 := Fr.snoc X2 (Fr.nil n0) g_x0
  refine Go.aloadN X2 hx (pc' := 10) rfl (hb hby d5_9) rfl rfl ?_
  refine Go.aloadN X2 hx (pc' := 11) rfl (hb hby d5_10) rfl rfl ?_
  have fk3 : Fld Z h2 x0 "com/example/rockhopper/rockhopper/model/Validators" "lastModified" "Ljava/lang/String;" .null := (P2.other W2 (Or.inr (slot_ne (Or.inr (tw_36 hw)) (Or.inr (tw_34 hw)) (by decide) (t := (.object "java/lang/String")) (t' := (.object "java/lang/String")) (by decide) (by decide))))
  have fk4 : Exa Z h2 x0 "com/example/rockhopper/rockhopper/model/Validators" := (P0.wr W2)
  refine Go.putF X2 hx hZ hown (host := "") (Or.inl (tw_35 hw)) Via.refl e2 fk3 fk4 (Or.inr ⟨(tw_36 hw), rfl, hnm⟩) (tw_1 hw) (ty := (.object "java/lang/String")) (by decide) rfl rfl (pc' := 14) rfl (hb hby d5_11) ?_
  intro T5 h5 e5 W5 F5 X5
  have N5 := Fr.snoc X5 N2 g_x0
  subst hFF
  refine Go.ret0 X5 hx hlk hret (hb hby d5_14) (by decide) (by decide) ?_
  rw [e5]
  have fk6 : Exa Z h5 x0 "com/example/rockhopper/rockhopper/model/Validators" := (fk4.wr W5)
  have fk7 : Fld Z h5 x0 "com/example/rockhopper/rockhopper/model/Validators" "etag" "Ljava/lang/String;" (.ref x1) := (F2.other W5 (Or.inr (slot_ne (Or.inr (tw_34 hw)) (Or.inr (tw_36 hw)) (by decide) (t := (.object "java/lang/String")) (t' := (.object "java/lang/String")) (by decide) (by decide))))
  have Kp8 : Keep h0 h2 [x0] := ((Keep.refl h0 [x0]).wr W2 (Or.inl (List.mem_of_getElem? (i := 0) rfl)))
  have Kp9 : Keep h0 h5 [x0] := (Kp8.wr W5 (Or.inl (List.mem_of_getElem? (i := 0) rfl)))
  exact ⟨rfl, N5, Kp9, fk6, fk7, F5⟩
theorem ef_8_NR (m : MethodId)  (x1 : Addr) : entryFrame m #[.null, (.ref x1)] 2 = mkF m 0 #[.val .null, .val (.ref x1)] [] := by first | (simp [entryFrame, mkF, argsToLocals, Value.category]; done) | rfl
-- java/util/Objects.equals
set_option maxRecDepth 65536 in
set_option maxHeartbeats 4000000 in
theorem au_31 (l : Launch) (Z : State) (a0 : Array Value) (hw : ∀ d ∈ tables_1, d.before a0 Z = true) (x0 : Addr) (h0 : Heap) (n0 : Nat) (Z0 : n0 ≤ h0.size) :
    Ctr l Z (⟨"java/util/Objects", "equals", "(Ljava/lang/Object;Ljava/lang/Object;)Z"⟩ : MethodName) jdk_31_method_2_code 2 (some .boolean) ({ frames := 0, cells := 0, slots := 0, locals := 0 } : Room) #[.null, (.ref x0)] h0 (fun v h L => v = some (.int 0) ∧ Fr n0 L ∧ h = h0) := by
  refine Ctr.of (plainFor_of_name pn_c6) ?_
  intro p e s m below meth c T0 hx hZ hby hml hown hnm hret hlk e0 es X0
  refine Go.cast (ef_8_NR m x0) ?_
  generalize hFF : EndN s _ _ _ = FF
  refine Go.aloadN X0 hx (pc' := 1) rfl (hb hby d8_0) rfl rfl ?_
  refine Go.aloadN X0 hx (pc' := 2) rfl (hb hby d8_1) rfl rfl ?_
  refine Go.acmp X0 hx (pc' := 5) (same := false) (hb hby d8_2) rfl rfl (decide_eq_false nofun) (by decide) (by decide) ?_
  refine Go.aloadN X0 hx (pc' := 6) rfl (hb hby d8_5) rfl rfl ?_
  refine Go.ifnullYes X0 hx (pc' := 21) (hb hby d8_6) (by decide) (by decide) ?_
  refine Go.iconst X0 hx (pc' := 22) rfl (hb hby d8_21) (v := (0 : Int32)) rfl ?_
  subst hFF
  refine Go.retN X0 hx hlk (t := .boolean) hret (by simp) (hb hby d8_22) (by decide) (by decide) ?_
  rw [e0]
  exact ⟨(congrArg (fun z => some (Value.int z)) (by decide : nar .boolean (0 : Int32) = (0 : Int32))), (Fr.nil n0), rfl⟩
-- com/example/rockhopper/rockhopper/model/Validators.equals
set_option maxRecDepth 65536 in
set_option maxHeartbeats 4000000 in
theorem au_30 (l : Launch) (Z : State) (a0 : Array Value) (hw : ∀ d ∈ tables_1, d.before a0 Z = true) (x0 : Addr) (x1 : Addr) (x2 : Addr) (x3 : Addr) (x4 : Addr) (x5 : Addr) (x7 : Addr) (kk0 : ClassId) (us0 : List Int32) (p1 : Int32) (kk2 : ClassId) (us4 : List Int32) (p5 : Int32) (ga3 : Addr) (gz9 : Int32) (gv13 : Value) (gk17 : ClassId) (gvs18 : List Value) (h0 : Heap) (n0 : Nat) (Z0 : n0 ≤ h0.size) (O0 : Old Z n0 h0) (G : Glob Z ga3 gz9 gv13 gk17 gvs18) (P1 : Fld Z h0 x0 "com/example/rockhopper/rockhopper/model/Validators" "etag" "Ljava/lang/String;" (.ref x2)) (P2 : Fld Z h0 x0 "com/example/rockhopper/rockhopper/model/Validators" "lastModified" "Ljava/lang/String;" (.ref x3)) (P3 : Exa Z h0 x1 "com/example/rockhopper/rockhopper/model/Validators") (P4 : Fld Z h0 x1 "com/example/rockhopper/rockhopper/model/Validators" "etag" "Ljava/lang/String;" (.ref x4)) (P5 : Fld Z h0 x1 "com/example/rockhopper/rockhopper/model/Validators" "lastModified" "Ljava/lang/String;" .null) (P6 : Exa Z h0 x2 "java/lang/String") (P7 : Fld Z h0 x2 "java/lang/String" "coder" "B" (.int 0)) (P8 : Fld Z h0 x2 "java/lang/String" "value" "[B" (.ref x5)) (P12 : Exa Z h0 x4 "java/lang/String") (P13 : Fld Z h0 x4 "java/lang/String" "coder" "B" (.int 0)) (P14 : Fld Z h0 x4 "java/lang/String" "value" "[B" (.ref x7)) (P15 : Arv Z h0 x5 kk0 .byte p1 (us0.map Value.int) (.int 0)) (P17 : Arv Z h0 x7 kk2 .byte p5 (us4.map Value.int) (.int 0)) (H0 : p1.toInt = us0.length) (H2 : p5.toInt = us4.length) (ne_x4_x2 : x4 ≠ x2) :
    Ctr l Z (⟨"com/example/rockhopper/rockhopper/model/Validators", "equals", "(Ljava/lang/Object;)Z"⟩ : MethodName) prog_9_method_4_code 2 (some .boolean) ({ frames := 3, cells := 0, slots := 0, locals := 41 } : Room) #[(.ref x0), (.ref x1)] h0 (fun v h L => v = some (.int 0) ∧ Fr n0 L ∧ h = h0) := by
  refine Ctr.of (plainFor_of_name pn_c3) ?_
  intro p e s m below meth c T0 hx hZ hby hml hown hnm hret hlk e0 es X0
  refine Go.cast (ef_6_RR m x0 x1) ?_
  generalize hFF : EndN s _ _ _ = FF
  refine Go.aloadN X0 hx (pc' := 1) rfl (hb hby d6_0) rfl rfl ?_
  refine Go.instY X0 hx hZ hown (tw_49 hw) e0 (Ins.self P3) (pc' := 4) rfl (hb hby d6_1) ?_
  intro T1 e1 X1
  refine Go.ifNo X1 hx (pc' := 7) rfl (hb hby d6_4) (by decide) ?_
  refine Go.aloadN X1 hx (pc' := 8) rfl (hb hby d6_7) rfl rfl ?_
  refine Go.castY X1 hx hZ hown (tw_49 hw) e1 (Ins.self P3) (pc' := 11) rfl (hb hby d6_8) ?_
  intro T2 e2 X2
  refine Go.getF X2 hx hZ hown (host := "") (Or.inl (tw_33 hw)) Via.refl e2 P4 (pc' := 14) rfl (hb hby d6_11) ?_
  intro T3 e3 X3
  refine Go.aloadN X3 hx (pc' := 15) rfl (hb hby d6_14) rfl rfl ?_
  refine Go.getF X3 hx hZ hown (host := "") (Or.inl (tw_33 hw)) Via.refl e3 P1 (pc' := 18) rfl (hb hby d6_15) ?_
  intro T4 e4 X4
  refine Go.callS X4 hx hZ hown (tw_54 hw) (tw_55 hw) (tw_56 hw) (tw_57 hw) (by decide) (tw_57 hw) (tw_56 hw) (au_27 l Z a0 hw x4 x2 x7 x5 kk2 us4 p5 kk0 us0 p1 ga3 gz9 gv13 gk17 gvs18 h0 n0 Z0 O0 G P12 P13 P14 P6 P7 P8 P17 P15 H2 H0 ne_x4_x2) e4 (argsL := [(.ref x4), (.ref x2)]) (rest := []) (pc' := 21) rfl (by rw [hml]; rfl) (lenOf pd_11 rfl) rfl rfl (W := 0) (Nat.le_of_eq rfl) (by decide) (by decide) (by decide) (by decide) (hb hby d6_18) ?_
  intro v5 T5 L5 q5 X5
  rcases q5 with ⟨c5_0_0, rfl, N5_0, e5_0⟩ | ⟨c5_1_0, rfl, N5_1, e5_1⟩
  · show Go _ _ _ _ (T5.setTop (mkF m 21 #[.val (.ref x0), .val (.ref x1)] [(.int 1)]))
    refine Go.ifNo X5 hx (pc' := 24) rfl (hb hby d6_21) (by decide) ?_
    refine Go.aloadN X5 hx (pc' := 25) rfl (hb hby d6_24) rfl rfl ?_
    refine Go.castY X5 hx hZ hown (tw_49 hw) e5_0 (Ins.self P3) (pc' := 28) rfl (hb hby d6_25) ?_
    intro T6 e6 X6
    refine Go.getF X6 hx hZ hown (host := "") (Or.inl (tw_35 hw)) Via.refl e6 P5 (pc' := 31) rfl (hb hby d6_28) ?_
    intro T7 e7 X7
    refine Go.aloadN X7 hx (pc' := 32) rfl (hb hby d6_31) rfl rfl ?_
    refine Go.getF X7 hx hZ hown (host := "") (Or.inl (tw_35 hw)) Via.refl e7 P2 (pc' := 35) rfl (hb hby d6_32) ?_
    intro T8 e8 X8
    refine Go.callS X8 hx hZ hown (tw_54 hw) (tw_55 hw) (tw_56 hw) (tw_57 hw) (by decide) (tw_57 hw) (tw_56 hw) (au_31 l Z a0 hw x3 h0 n0 Z0) e8 (argsL := [.null, (.ref x3)]) (rest := []) (pc' := 38) rfl (by rw [hml]; rfl) (lenOf pd_11 rfl) rfl rfl (W := 0) (Nat.le_of_eq rfl) (by decide) (by decide) (by decide) (by decide) (hb hby d6_35) ?_
    intro v9 T9 L9 q9 X9
    obtain ⟨rfl, N9, e9⟩ := q9
    show Go _ _ _ _ (T9.setTop (mkF m 38 #[.val (.ref x0), .val (.ref x1)] [(.int 0)]))
    refine Go.ifYes X9 hx (pc' := 45) (hb hby d6_38) (by decide) (by decide) (by decide) ?_
    refine Go.iconst X9 hx (pc' := 46) rfl (hb hby d6_45) (v := (0 : Int32)) rfl ?_
    subst hFF
    refine Go.retN X9 hx hlk (t := .boolean) hret (by simp) (hb hby d6_46) (by decide) (by decide) ?_
    rw [e9]
    exact ⟨(congrArg (fun z => some (Value.int z)) (by decide : nar .boolean (0 : Int32) = (0 : Int32))), (Fr.app (Fr.app (Fr.nil n0) N5_0) N9), rfl⟩
  · show Go _ _ _ _ (T5.setTop (mkF m 21 #[.val (.ref x0), .val (.ref x1)] [(.int 0)]))
    refine Go.ifYes X5 hx (pc' := 45) (hb hby d6_21) (by decide) (by decide) (by decide) ?_
    refine Go.iconst X5 hx (pc' := 46) rfl (hb hby d6_45) (v := (0 : Int32)) rfl ?_
    subst hFF
    refine Go.retN X5 hx hlk (t := .boolean) hret (by simp) (hb hby d6_46) (by decide) (by decide) ?_
    rw [e5_1]
    exact ⟨(congrArg (fun z => some (Value.int z)) (by decide : nar .boolean (0 : Int32) = (0 : Int32))), (Fr.app (Fr.nil n0) N5_1), rfl⟩
theorem ef_13_RN (m : MethodId) (x0 : Addr)  : entryFrame m #[(.ref x0), .null] 3 = mkF m 0 #[.val (.ref x0), .val .null, .unset] [] := by first | (simp [entryFrame, mkF, argsToLocals, Value.category]; done) | rfl
-- java/lang/String.equals
set_option maxRecDepth 65536 in
set_option maxHeartbeats 4000000 in
theorem au_34 (l : Launch) (Z : State) (a0 : Array Value) (hw : ∀ d ∈ tables_1, d.before a0 Z = true) (x0 : Addr) (h0 : Heap) (n0 : Nat) (Z0 : n0 ≤ h0.size) :
    Ctr l Z (⟨"java/lang/String", "equals", "(Ljava/lang/Object;)Z"⟩ : MethodName) jdk_42_method_66_code 3 (some .boolean) ({ frames := 0, cells := 0, slots := 0, locals := 0 } : Room) #[(.ref x0), .null] h0 (fun v h L => v = some (.int 0) ∧ Fr n0 L ∧ h = h0) := by
  refine Ctr.of (plainFor_of_name pn_c0) ?_
  intro p e s m below meth c T0 hx hZ hby hml hown hnm hret hlk e0 es X0
  refine Go.cast (ef_13_RN m x0) ?_
  generalize hFF : EndN s _ _ _ = FF
  refine Go.aloadN X0 hx (pc' := 1) rfl (hb hby d13_0) rfl rfl ?_
  refine Go.aloadN X0 hx (pc' := 2) rfl (hb hby d13_1) rfl rfl ?_
  refine Go.acmp X0 hx (pc' := 7) (same := false) (hb hby d13_2) rfl rfl (decide_eq_false nofun) (by decide) (by decide) ?_
  refine Go.aloadN X0 hx (pc' := 8) rfl (hb hby d13_7) rfl rfl ?_
  refine Go.step (fun t kt => X0.instanceofNull hx (g := (mkF m 8 #[.val (.ref x0), .val .null, .unset] [.null])) rfl rfl (hb hby d13_8) t kt) ?_
  show Go _ _ _ _ (T0.setTop (mkF m 11 #[.val (.ref x0), .val .null, .unset] [(.int 0)]))
  refine Go.ifYes X0 hx (pc' := 54) (hb hby d13_11) (by decide) (by decide) (by decide) ?_
  refine Go.iconst X0 hx (pc' := 55) rfl (hb hby d13_54) (v := (0 : Int32)) rfl ?_
  subst hFF
  refine Go.retN X0 hx hlk (t := .boolean) hret (by simp) (hb hby d13_55) (by decide) (by decide) ?_
  rw [e0]
  exact ⟨(congrArg (fun z => some (Value.int z)) (by decide : nar .boolean (0 : Int32) = (0 : Int32))), (Fr.nil n0), rfl⟩
theorem ef_8_RN (m : MethodId) (x0 : Addr)  : entryFrame m #[(.ref x0), .null] 2 = mkF m 0 #[.val (.ref x0), .val .null] [] := by first | (simp [entryFrame, mkF, argsToLocals, Value.category]; done) | rfl
-- java/util/Objects.equals
set_option maxRecDepth 65536 in
set_option maxHeartbeats 4000000 in
theorem au_33 (l : Launch) (Z : State) (a0 : Array Value) (hw : ∀ d ∈ tables_1, d.before a0 Z = true) (x0 : Addr) (h0 : Heap) (n0 : Nat) (Z0 : n0 ≤ h0.size) (P0 : Exa Z h0 x0 "java/lang/String") :
    Ctr l Z (⟨"java/util/Objects", "equals", "(Ljava/lang/Object;Ljava/lang/Object;)Z"⟩ : MethodName) jdk_31_method_2_code 2 (some .boolean) ({ frames := 1, cells := 0, slots := 0, locals := 14 } : Room) #[(.ref x0), .null] h0 (fun v h L => v = some (.int 0) ∧ Fr n0 L ∧ h = h0) := by
  refine Ctr.of (plainFor_of_name pn_c6) ?_
  intro p e s m below meth c T0 hx hZ hby hml hown hnm hret hlk e0 es X0
  refine Go.cast (ef_8_RN m x0) ?_
  generalize hFF : EndN s _ _ _ = FF
  refine Go.aloadN X0 hx (pc' := 1) rfl (hb hby d8_0) rfl rfl ?_
  refine Go.aloadN X0 hx (pc' := 2) rfl (hb hby d8_1) rfl rfl ?_
  refine Go.acmp X0 hx (pc' := 5) (same := false) (hb hby d8_2) rfl rfl (decide_eq_false nofun) (by decide) (by decide) ?_
  refine Go.aloadN X0 hx (pc' := 6) rfl (hb hby d8_5) rfl rfl ?_
  refine Go.ifnullNo X0 hx (pc' := 9) rfl (hb hby d8_6) ?_
  refine Go.aloadN X0 hx (pc' := 10) rfl (hb hby d8_9) rfl rfl ?_
  refine Go.aloadN X0 hx (pc' := 11) rfl (hb hby d8_10) rfl rfl ?_
  refine Go.callV X0 hx hZ hown (tw_72 hw) (tw_73 hw) (nf_top (args := #[]) (mvT hZ (tw_52 hw))) (tw_75 hw) (tw_76 hw) (by decide) (tw_77 hw) (tw_10 hw) (au_34 l Z a0 hw x0 h0 n0 Z0) e0 P0 (argsL := [.null]) (rest := []) (pc' := 14) rfl (by rw [hml]; rfl) (lenOf pd_7 rfl) rfl rfl (W := 0) (Nat.le_of_eq rfl) (by decide) (by decide) (by decide) (by decide) (hb hby d8_11) ?_
  intro v1 T1 L1 q1 X1
  obtain ⟨rfl, N1, e1⟩ := q1
  show Go _ _ _ _ (T1.setTop (mkF m 14 #[.val (.ref x0), .val .null] [(.int 0)]))
  refine Go.ifYes X1 hx (pc' := 21) (hb hby d8_14) (by decide) (by decide) (by decide) ?_
  refine Go.iconst X1 hx (pc' := 22) rfl (hb hby d8_21) (v := (0 : Int32)) rfl ?_
  subst hFF
  refine Go.retN X1 hx hlk (t := .boolean) hret (by simp) (hb hby d8_22) (by decide) (by decide) ?_
  rw [e1]
  exact ⟨(congrArg (fun z => some (Value.int z)) (by decide : nar .boolean (0 : Int32) = (0 : Int32))), (Fr.app (Fr.nil n0) N1), rfl⟩
-- com/example/rockhopper/rockhopper/model/Validators.equals
set_option maxRecDepth 65536 in
set_option maxHeartbeats 4000000 in
theorem au_32 (l : Launch) (Z : State) (a0 : Array Value) (hw : ∀ d ∈ tables_1, d.before a0 Z = true) (x0 : Addr) (x1 : Addr) (x2 : Addr) (x3 : Addr) (x4 : Addr) (x5 : Addr) (x6 : Addr) (kk0 : ClassId) (us0 : List Int32) (p1 : Int32) (kk1 : ClassId) (us2 : List Int32) (p3 : Int32) (ga3 : Addr) (gz9 : Int32) (gv13 : Value) (gk17 : ClassId) (gvs18 : List Value) (h0 : Heap) (n0 : Nat) (Z0 : n0 ≤ h0.size) (O0 : Old Z n0 h0) (G : Glob Z ga3 gz9 gv13 gk17 gvs18) (P1 : Fld Z h0 x0 "com/example/rockhopper/rockhopper/model/Validators" "etag" "Ljava/lang/String;" (.ref x2)) (P2 : Fld Z h0 x0 "com/example/rockhopper/rockhopper/model/Validators" "lastModified" "Ljava/lang/String;" .null) (P3 : Exa Z h0 x1 "com/example/rockhopper/rockhopper/model/Validators") (P4 : Fld Z h0 x1 "com/example/rockhopper/rockhopper/model/Validators" "etag" "Ljava/lang/String;" (.ref x3)) (P5 : Fld Z h0 x1 "com/example/rockhopper/rockhopper/model/Validators" "lastModified" "Ljava/lang/String;" (.ref x4)) (P6 : Exa Z h0 x2 "java/lang/String") (P7 : Fld Z h0 x2 "java/lang/String" "coder" "B" (.int 0)) (P8 : Fld Z h0 x2 "java/lang/String" "value" "[B" (.ref x5)) (P9 : Exa Z h0 x3 "java/lang/String") (P10 : Fld Z h0 x3 "java/lang/String" "coder" "B" (.int 0)) (P11 : Fld Z h0 x3 "java/lang/String" "value" "[B" (.ref x6)) (P12 : Exa Z h0 x4 "java/lang/String") (P15 : Arv Z h0 x5 kk0 .byte p1 (us0.map Value.int) (.int 0)) (P16 : Arv Z h0 x6 kk1 .byte p3 (us2.map Value.int) (.int 0)) (H0 : p1.toInt = us0.length) (H1 : p3.toInt = us2.length) (ne_x3_x2 : x3 ≠ x2) :
    Ctr l Z (⟨"com/example/rockhopper/rockhopper/model/Validators", "equals", "(Ljava/lang/Object;)Z"⟩ : MethodName) prog_9_method_4_code 2 (some .boolean) ({ frames := 3, cells := 0, slots := 0, locals := 41 } : Room) #[(.ref x0), (.ref x1)] h0 (fun v h L => v = some (.int 0) ∧ Fr n0 L ∧ h = h0) := by
  refine Ctr.of (plainFor_of_name pn_c3) ?_
  intro p e s m below meth c T0 hx hZ hby hml hown hnm hret hlk e0 es X0
  refine Go.cast (ef_6_RR m x0 x1) ?_
  generalize hFF : EndN s _ _ _ = FF
  refine Go.aloadN X0 hx (pc' := 1) rfl (hb hby d6_0) rfl rfl ?_
  refine Go.instY X0 hx hZ hown (tw_49 hw) e0 (Ins.self P3) (pc' := 4) rfl (hb hby d6_1) ?_
  intro T1 e1 X1
  refine Go.ifNo X1 hx (pc' := 7) rfl (hb hby d6_4) (by decide) ?_
  refine Go.aloadN X1 hx (pc' := 8) rfl (hb hby d6_7) rfl rfl ?_
  refine Go.castY X1 hx hZ hown (tw_49 hw) e1 (Ins.self P3) (pc' := 11) rfl (hb hby d6_8) ?_
  intro T2 e2 X2
  refine Go.getF X2 hx hZ hown (host := "") (Or.inl (tw_33 hw)) Via.refl e2 P4 (pc' := 14) rfl (hb hby d6_11) ?_
  intro T3 e3 X3
  refine Go.aloadN X3 hx (pc' := 15) rfl (hb hby d6_14) rfl rfl ?_
  refine Go.getF X3 hx hZ hown (host := "") (Or.inl (tw_33 hw)) Via.refl e3 P1 (pc' := 18) rfl (hb hby d6_15) ?_
  intro T4 e4 X4
  refine Go.callS X4 hx hZ hown (tw_54 hw) (tw_55 hw) (tw_56 hw) (tw_57 hw) (by decide) (tw_57 hw) (tw_56 hw) (au_27 l Z a0 hw x3 x2 x6 x5 kk1 us2 p3 kk0 us0 p1 ga3 gz9 gv13 gk17 gvs18 h0 n0 Z0 O0 G P9 P10 P11 P6 P7 P8 P16 P15 H1 H0 ne_x3_x2) e4 (argsL := [(.ref x3), (.ref x2)]) (rest := []) (pc' := 21) rfl (by rw [hml]; rfl) (lenOf pd_11 rfl) rfl rfl (W := 0) (Nat.le_of_eq rfl) (by decide) (by decide) (by decide) (by decide) (hb hby d6_18) ?_
  intro v5 T5 L5 q5 X5
  rcases q5 with ⟨c5_0_0, rfl, N5_0, e5_0⟩ | ⟨c5_1_0, rfl, N5_1, e5_1⟩
  · show Go _ _ _ _ (T5.setTop (mkF m 21 #[.val (.ref x0), .val (.ref x1)] [(.int 1)]))
    refine Go.ifNo X5 hx (pc' := 24) rfl (hb hby d6_21) (by decide) ?_
    refine Go.aloadN X5 hx (pc' := 25) rfl (hb hby d6_24) rfl rfl ?_
    refine Go.castY X5 hx hZ hown (tw_49 hw) e5_0 (Ins.self P3) (pc' := 28) rfl (hb hby d6_25) ?_
    intro T6 e6 X6
    refine Go.getF X6 hx hZ hown (host := "") (Or.inl (tw_35 hw)) Via.refl e6 P5 (pc' := 31) rfl (hb hby d6_28) ?_
    intro T7 e7 X7
    refine Go.aloadN X7 hx (pc' := 32) rfl (hb hby d6_31) rfl rfl ?_
    refine Go.getF X7 hx hZ hown (host := "") (Or.inl (tw_35 hw)) Via.refl e7 P2 (pc' := 35) rfl (hb hby d6_32) ?_
    intro T8 e8 X8
    refine Go.callS X8 hx hZ hown (tw_54 hw) (tw_55 hw) (tw_56 hw) (tw_57 hw) (by decide) (tw_57 hw) (tw_56 hw) (au_33 l Z a0 hw x4 h0 n0 Z0 P12) e8 (argsL := [(.ref x4), .null]) (rest := []) (pc' := 38) rfl (by rw [hml]; rfl) (lenOf pd_11 rfl) rfl rfl (W := 0) (Nat.le_of_eq rfl) (by decide) (by decide) (by decide) (by decide) (hb hby d6_35) ?_
    intro v9 T9 L9 q9 X9
    obtain ⟨rfl, N9, e9⟩ := q9
    show Go _ _ _ _ (T9.setTop (mkF m 38 #[.val (.ref x0), .val (.ref x1)] [(.int 0)]))
    refine Go.ifYes X9 hx (pc' := 45) (hb hby d6_38) (by decide) (by decide) (by decide) ?_
    refine Go.iconst X9 hx (pc' := 46) rfl (hb hby d6_45) (v := (0 : Int32)) rfl ?_
    subst hFF
    refine Go.retN X9 hx hlk (t := .boolean) hret (by simp) (hb hby d6_46) (by decide) (by decide) ?_
    rw [e9]
    exact ⟨(congrArg (fun z => some (Value.int z)) (by decide : nar .boolean (0 : Int32) = (0 : Int32))), (Fr.app (Fr.app (Fr.nil n0) N5_0) N9), rfl⟩
  · show Go _ _ _ _ (T5.setTop (mkF m 21 #[.val (.ref x0), .val (.ref x1)] [(.int 0)]))
    refine Go.ifYes X5 hx (pc' := 45) (hb hby d6_21) (by decide) (by decide) (by decide) ?_
    refine Go.iconst X5 hx (pc' := 46) rfl (hb hby d6_45) (v := (0 : Int32)) rfl ?_
    subst hFF
    refine Go.retN X5 hx hlk (t := .boolean) hret (by simp) (hb hby d6_46) (by decide) (by decide) ?_
    rw [e5_1]
    exact ⟨(congrArg (fun z => some (Value.int z)) (by decide : nar .boolean (0 : Int32) = (0 : Int32))), (Fr.app (Fr.nil n0) N5_1), rfl⟩
theorem ef_5_RNR (m : MethodId) (x0 : Addr)  (x2 : Addr) : entryFrame m #[(.ref x0), .null, (.ref x2)] 3 = mkF m 0 #[.val (.ref x0), .val .null, .val (.ref x2)] [] := by first | (simp [entryFrame, mkF, argsToLocals, Value.category]; done) | rfl
-- com/example/rockhopper/rockhopper/model/Validators.init
set_option maxRecDepth 65536 in
set_option maxHeartbeats 4000000 in
theorem au_35 (l : Launch) (Z : State) (a0 : Array Value) (hw : ∀ d ∈ tables_1, d.before a0 Z = true) (x0 : Addr) (x1 : Addr) (h0 : Heap) (n0 : Nat) (Z0 : n0 ≤ h0.size) (P0 : Exa Z h0 x0 "com/example/rockhopper/rockhopper/model/Validators") (P1 : Fld Z h0 x0 "com/example/rockhopper/rockhopper/model/Validators" "etag" "Ljava/lang/String;" .null) (P2 : Fld Z h0 x0 "com/example/rockhopper/rockhopper/model/Validators" "lastModified" "Ljava/lang/String;" .null) (g_x0 : n0 ≤ x0) :
    Ctr l Z (⟨"com/example/rockhopper/rockhopper/model/Validators", "<init>", "(Ljava/lang/String;Ljava/lang/String;)V"⟩ : MethodName) prog_9_method_1_code 3 none ({ frames := 1, cells := 0, slots := 0, locals := 12 } : Room) #[(.ref x0), .null, (.ref x1)] h0 (fun v h L => v = none ∧ Fr n0 L ∧ Keep h0 h [x0] ∧ Exa Z h x0 "com/example/rockhopper/rockhopper/model/Validators" ∧ Fld Z h x0 "com/example/rockhopper/rockhopper/model/Validators" "etag" "Ljava/lang/String;" .null ∧ Fld Z h x0 "com/example/rockhopper/rockhopper/model/Validators" "lastModified" "Ljava/lang/String;" (.ref x1)) := by
  refine Ctr.of (plainFor_of_name pn_c3) ?_
  intro p e s m below meth c T0 hx hZ hby hml hown hnm hret hlk e0 es X0
  refine Go.cast (ef_5_RNR m x0 x1) ?_
  generalize hFF : EndN s _ _ _ = FF
  refine Go.aloadN X0 hx (pc' := 1) rfl (hb hby d5_0) rfl rfl ?_
  refine Go.initO X0 hx hZ hown (tw_32 hw) (tw_19 hw) (tw_20 hw) e0 (by decide) (W := 0) (by rw [hml]; rfl) (Nat.le_of_eq rfl) (by decide) (pc' := 4) rfl (hb hby d5_1) ?_
  intro T1 e1 X1
  refine Go.aloadN X1 hx (pc' := 5) rfl (hb hby d5_4) rfl rfl ?_
  refine Go.aloadN X1 hx (pc' := 6) rfl (hb hby d5_5) rfl rfl ?_
  refine Go.putF X1 hx hZ hown (host := "") (Or.inl (tw_33 hw)) Via.refl e1 P1 P0 (Or.inr ⟨(tw_34 hw), rfl, hnm⟩) (tw_1 hw) (ty := (.object "java/lang/String")) (by decide) rfl rfl (pc' := 9) rfl (hb hby d5_6) ?_
  intro T2 h2 e2 W2 F2 X2
  have N2 := Fr.snoc X2 (Fr.nil n0) g_x0
  refine Go.aloadN X2 hx (pc' := 10) rfl (hb hby d5_9) rfl rfl ?_
  refine Go.aloadN X2 hx (pc' := 11) rfl (hb hby d5_10) rfl rfl ?_
  have fk3 : Fld Z h2 x0 "com/example/rockhopper/rockhopper/model/Validators" "lastModified" "Ljava/lang/String;" .null := (P2.other W2 (Or.inr (slot_ne (Or.inr (tw_36 hw)) (Or.inr (tw_34 hw)) (by decide) (t := (.object "java/lang/String")) (t' := (.object "java/lang/String")) (by decide) (by decide))))
  have fk4 : Exa Z h2 x0 "com/example/rockhopper/rockhopper/model/Validators" := (P0.wr W2)
  refine Go.putF X2 hx hZ hown (host := "") (Or.inl (tw_35 hw)) Via.refl e2 fk3 fk4 (Or.inr ⟨(tw_36 hw), rfl, hnm⟩) (tw_1 hw) (ty := (.object "java/lang/String")) (by decide) rfl rfl (pc' := 14) rfl (hb hby d5_11) ?_
  intro T5 h5 e5 W5 F5 X5
  have N5 := Fr.snoc X5 N2 g_x0
  subst hFF
  refine Go.ret0 X5 hx hlk hret (hb hby d5_14) (by decide) (by decide) ?_
  rw [e5]
  have fk6 : Exa Z h5 x0 "com/example/rockhopper/rockhopper/model/Validators" := (fk4.wr W5)
  have fk7 : Fld Z h5 x0 "com/example/rockhopper/rockhopper/model/Validators" "etag" "Ljava/lang/String;" .null := (F2.other W5 (Or.inr (slot_ne (Or.inr (tw_34 hw)) (Or.inr (tw_36 hw)) (by decide) (t := (.object "java/lang/String")) (t' := (.object "java/lang/String")) (by decide) (by decide))))
  have Kp8 : Keep h0 h2 [x0] := ((Keep.refl h0 [x0]).wr W2 (Or.inl (List.mem_of_getElem? (i := 0) rfl)))
  have Kp9 : Keep h0 h5 [x0] := (Kp8.wr W5 (Or.inl (List.mem_of_getElem? (i := 0) rfl)))
  exact ⟨rfl, N5, Kp9, fk6, fk7, F5⟩
-- com/example/rockhopper/rockhopper/model/Validators.equals
set_option maxRecDepth 65536 in
set_option maxHeartbeats 4000000 in
theorem au_36 (l : Launch) (Z : State) (a0 : Array Value) (hw : ∀ d ∈ tables_1, d.before a0 Z = true) (x0 : Addr) (x1 : Addr) (x2 : Addr) (h0 : Heap) (n0 : Nat) (Z0 : n0 ≤ h0.size) (P1 : Fld Z h0 x0 "com/example/rockhopper/rockhopper/model/Validators" "etag" "Ljava/lang/String;" (.ref x2)) (P3 : Exa Z h0 x1 "com/example/rockhopper/rockhopper/model/Validators") (P4 : Fld Z h0 x1 "com/example/rockhopper/rockhopper/model/Validators" "etag" "Ljava/lang/String;" .null) :
    Ctr l Z (⟨"com/example/rockhopper/rockhopper/model/Validators", "equals", "(Ljava/lang/Object;)Z"⟩ : MethodName) prog_9_method_4_code 2 (some .boolean) ({ frames := 1, cells := 0, slots := 0, locals := 13 } : Room) #[(.ref x0), (.ref x1)] h0 (fun v h L => v = some (.int 0) ∧ Fr n0 L ∧ h = h0) := by
  refine Ctr.of (plainFor_of_name pn_c3) ?_
  intro p e s m below meth c T0 hx hZ hby hml hown hnm hret hlk e0 es X0
  refine Go.cast (ef_6_RR m x0 x1) ?_
  generalize hFF : EndN s _ _ _ = FF
  refine Go.aloadN X0 hx (pc' := 1) rfl (hb hby d6_0) rfl rfl ?_
  refine Go.instY X0 hx hZ hown (tw_49 hw) e0 (Ins.self P3) (pc' := 4) rfl (hb hby d6_1) ?_
  intro T1 e1 X1
  refine Go.ifNo X1 hx (pc' := 7) rfl (hb hby d6_4) (by decide) ?_
  refine Go.aloadN X1 hx (pc' := 8) rfl (hb hby d6_7) rfl rfl ?_
  refine Go.castY X1 hx hZ hown (tw_49 hw) e1 (Ins.self P3) (pc' := 11) rfl (hb hby d6_8) ?_
  intro T2 e2 X2
  refine Go.getF X2 hx hZ hown (host := "") (Or.inl (tw_33 hw)) Via.refl e2 P4 (pc' := 14) rfl (hb hby d6_11) ?_
  intro T3 e3 X3
  refine Go.aloadN X3 hx (pc' := 15) rfl (hb hby d6_14) rfl rfl ?_
  refine Go.getF X3 hx hZ hown (host := "") (Or.inl (tw_33 hw)) Via.refl e3 P1 (pc' := 18) rfl (hb hby d6_15) ?_
  intro T4 e4 X4
  refine Go.callS X4 hx hZ hown (tw_54 hw) (tw_55 hw) (tw_56 hw) (tw_57 hw) (by decide) (tw_57 hw) (tw_56 hw) (au_31 l Z a0 hw x2 h0 n0 Z0) e4 (argsL := [.null, (.ref x2)]) (rest := []) (pc' := 21) rfl (by rw [hml]; rfl) (lenOf pd_11 rfl) rfl rfl (W := 0) (Nat.le_of_eq rfl) (by decide) (by decide) (by decide) (by decide) (hb hby d6_18) ?_
  intro v5 T5 L5 q5 X5
  obtain ⟨rfl, N5, e5⟩ := q5
  show Go _ _ _ _ (T5.setTop (mkF m 21 #[.val (.ref x0), .val (.ref x1)] [(.int 0)]))
  refine Go.ifYes X5 hx (pc' := 45) (hb hby d6_21) (by decide) (by decide) (by decide) ?_
  refine Go.iconst X5 hx (pc' := 46) rfl (hb hby d6_45) (v := (0 : Int32)) rfl ?_
  subst hFF
  refine Go.retN X5 hx hlk (t := .boolean) hret (by simp) (hb hby d6_46) (by decide) (by decide) ?_
  rw [e5]
  exact ⟨(congrArg (fun z => some (Value.int z)) (by decide : nar .boolean (0 : Int32) = (0 : Int32))), (Fr.app (Fr.nil n0) N5), rfl⟩
-- com/example/rockhopper/rockhopper/model/Validators.equals
set_option maxRecDepth 65536 in
set_option maxHeartbeats 4000000 in
theorem au_37 (l : Launch) (Z : State) (a0 : Array Value) (hw : ∀ d ∈ tables_1, d.before a0 Z = true) (x0 : Addr) (x1 : Addr) (x3 : Addr) (h0 : Heap) (n0 : Nat) (Z0 : n0 ≤ h0.size) (P1 : Fld Z h0 x0 "com/example/rockhopper/rockhopper/model/Validators" "etag" "Ljava/lang/String;" .null) (P3 : Exa Z h0 x1 "com/example/rockhopper/rockhopper/model/Validators") (P4 : Fld Z h0 x1 "com/example/rockhopper/rockhopper/model/Validators" "etag" "Ljava/lang/String;" (.ref x3)) (P9 : Exa Z h0 x3 "java/lang/String") :
    Ctr l Z (⟨"com/example/rockhopper/rockhopper/model/Validators", "equals", "(Ljava/lang/Object;)Z"⟩ : MethodName) prog_9_method_4_code 2 (some .boolean) ({ frames := 2, cells := 0, slots := 0, locals := 27 } : Room) #[(.ref x0), (.ref x1)] h0 (fun v h L => v = some (.int 0) ∧ Fr n0 L ∧ h = h0) := by
  refine Ctr.of (plainFor_of_name pn_c3) ?_
  intro p e s m below meth c T0 hx hZ hby hml hown hnm hret hlk e0 es X0
  refine Go.cast (ef_6_RR m x0 x1) ?_
  generalize hFF : EndN s _ _ _ = FF
  refine Go.aloadN X0 hx (pc' := 1) rfl (hb hby d6_0) rfl rfl ?_
  refine Go.instY X0 hx hZ hown (tw_49 hw) e0 (Ins.self P3) (pc' := 4) rfl (hb hby d6_1) ?_
  intro T1 e1 X1
  refine Go.ifNo X1 hx (pc' := 7) rfl (hb hby d6_4) (by decide) ?_
  refine Go.aloadN X1 hx (pc' := 8) rfl (hb hby d6_7) rfl rfl ?_
  refine Go.castY X1 hx hZ hown (tw_49 hw) e1 (Ins.self P3) (pc' := 11) rfl (hb hby d6_8) ?_
  intro T2 e2 X2
  refine Go.getF X2 hx hZ hown (host := "") (Or.inl (tw_33 hw)) Via.refl e2 P4 (pc' := 14) rfl (hb hby d6_11) ?_
  intro T3 e3 X3
  refine Go.aloadN X3 hx (pc' := 15) rfl (hb hby d6_14) rfl rfl ?_
  refine Go.getF X3 hx hZ hown (host := "") (Or.inl (tw_33 hw)) Via.refl e3 P1 (pc' := 18) rfl (hb hby d6_15) ?_
  intro T4 e4 X4
  refine Go.callS X4 hx hZ hown (tw_54 hw) (tw_55 hw) (tw_56 hw) (tw_57 hw) (by decide) (tw_57 hw) (tw_56 hw) (au_33 l Z a0 hw x3 h0 n0 Z0 P9) e4 (argsL := [(.ref x3), .null]) (rest := []) (pc' := 21) rfl (by rw [hml]; rfl) (lenOf pd_11 rfl) rfl rfl (W := 0) (Nat.le_of_eq rfl) (by decide) (by decide) (by decide) (by decide) (hb hby d6_18) ?_
  intro v5 T5 L5 q5 X5
  obtain ⟨rfl, N5, e5⟩ := q5
  show Go _ _ _ _ (T5.setTop (mkF m 21 #[.val (.ref x0), .val (.ref x1)] [(.int 0)]))
  refine Go.ifYes X5 hx (pc' := 45) (hb hby d6_21) (by decide) (by decide) (by decide) ?_
  refine Go.iconst X5 hx (pc' := 46) rfl (hb hby d6_45) (v := (0 : Int32)) rfl ?_
  subst hFF
  refine Go.retN X5 hx hlk (t := .boolean) hret (by simp) (hb hby d6_46) (by decide) (by decide) ?_
  rw [e5]
  exact ⟨(congrArg (fun z => some (Value.int z)) (by decide : nar .boolean (0 : Int32) = (0 : Int32))), (Fr.app (Fr.nil n0) N5), rfl⟩
theorem ef_5_RNN (m : MethodId) (x0 : Addr)   : entryFrame m #[(.ref x0), .null, .null] 3 = mkF m 0 #[.val (.ref x0), .val .null, .val .null] [] := by first | (simp [entryFrame, mkF, argsToLocals, Value.category]; done) | rfl
-- com/example/rockhopper/rockhopper/model/Validators.init
set_option maxRecDepth 65536 in
set_option maxHeartbeats 4000000 in
theorem au_38 (l : Launch) (Z : State) (a0 : Array Value) (hw : ∀ d ∈ tables_1, d.before a0 Z = true) (x0 : Addr) (h0 : Heap) (n0 : Nat) (Z0 : n0 ≤ h0.size) (P0 : Exa Z h0 x0 "com/example/rockhopper/rockhopper/model/Validators") (P1 : Fld Z h0 x0 "com/example/rockhopper/rockhopper/model/Validators" "etag" "Ljava/lang/String;" .null) (P2 : Fld Z h0 x0 "com/example/rockhopper/rockhopper/model/Validators" "lastModified" "Ljava/lang/String;" .null) (g_x0 : n0 ≤ x0) :
    Ctr l Z (⟨"com/example/rockhopper/rockhopper/model/Validators", "<init>", "(Ljava/lang/String;Ljava/lang/String;)V"⟩ : MethodName) prog_9_method_1_code 3 none ({ frames := 1, cells := 0, slots := 0, locals := 12 } : Room) #[(.ref x0), .null, .null] h0 (fun v h L => v = none ∧ Fr n0 L ∧ Keep h0 h [x0] ∧ Exa Z h x0 "com/example/rockhopper/rockhopper/model/Validators" ∧ Fld Z h x0 "com/example/rockhopper/rockhopper/model/Validators" "etag" "Ljava/lang/String;" .null ∧ Fld Z h x0 "com/example/rockhopper/rockhopper/model/Validators" "lastModified" "Ljava/lang/String;" .null) := by
  refine Ctr.of (plainFor_of_name pn_c3) ?_
  intro p e s m below meth c T0 hx hZ hby hml hown hnm hret hlk e0 es X0
  refine Go.cast (ef_5_RNN m x0) ?_
  generalize hFF : EndN s _ _ _ = FF
  refine Go.aloadN X0 hx (pc' := 1) rfl (hb hby d5_0) rfl rfl ?_
  refine Go.initO X0 hx hZ hown (tw_32 hw) (tw_19 hw) (tw_20 hw) e0 (by decide) (W := 0) (by rw [hml]; rfl) (Nat.le_of_eq rfl) (by decide) (pc' := 4) rfl (hb hby d5_1) ?_
  intro T1 e1 X1
  refine Go.aloadN X1 hx (pc' := 5) rfl (hb hby d5_4) rfl rfl ?_
  refine Go.aloadN X1 hx (pc' := 6) rfl (hb hby d5_5) rfl rfl ?_
  refine Go.putF X1 hx hZ hown (host := "") (Or.inl (tw_33 hw)) Via.refl e1 P1 P0 (Or.inr ⟨(tw_34 hw), rfl, hnm⟩) (tw_1 hw) (ty := (.object "java/lang/String")) (by decide) rfl rfl (pc' := 9) rfl (hb hby d5_6) ?_
  intro T2 h2 e2 W2 F2 X2
  have N2 := Fr.snoc X2 (Fr.nil n0) g_x0
  refine Go.aloadN X2 hx (pc' := 10) rfl (hb hby d5_9) rfl rfl ?_
  refine Go.aloadN X2 hx (pc' := 11) rfl (hb hby d5_10) rfl rfl ?_
  have fk3 : Fld Z h2 x0 "com/example/rockhopper/rockhopper/model/Validators" "lastModified" "Ljava/lang/String;" .null := (P2.other W2 (Or.inr (slot_ne (Or.inr (tw_36 hw)) (Or.inr (tw_34 hw)) (by decide) (t := (.object "java/lang/String")) (t' := (.object "java/lang/String")) (by decide) (by decide))))
  have fk4 : Exa Z h2 x0 "com/example/rockhopper/rockhopper/model/Validators" := (P0.wr W2)
  refine Go.putF X2 hx hZ hown (host := "") (Or.inl (tw_35 hw)) Via.refl e2 fk3 fk4 (Or.inr ⟨(tw_36 hw), rfl, hnm⟩) (tw_1 hw) (ty := (.object "java/lang/String")) (by decide) rfl rfl (pc' := 14) rfl (hb hby d5_11) ?_
  intro T5 h5 e5 W5 F5 X5
  have N5 := Fr.snoc X5 N2 g_x0
  subst hFF
  refine Go.ret0 X5 hx hlk hret (hb hby d5_14) (by decide) (by decide) ?_
  rw [e5]
  have fk6 : Exa Z h5 x0 "com/example/rockhopper/rockhopper/model/Validators" := (fk4.wr W5)
  have fk7 : Fld Z h5 x0 "com/example/rockhopper/rockhopper/model/Validators" "etag" "Ljava/lang/String;" .null := (F2.other W5 (Or.inr (slot_ne (Or.inr (tw_34 hw)) (Or.inr (tw_36 hw)) (by decide) (t := (.object "java/lang/String")) (t' := (.object "java/lang/String")) (by decide) (by decide))))
  have Kp8 : Keep h0 h2 [x0] := ((Keep.refl h0 [x0]).wr W2 (Or.inl (List.mem_of_getElem? (i := 0) rfl)))
  have Kp9 : Keep h0 h5 [x0] := (Kp8.wr W5 (Or.inl (List.mem_of_getElem? (i := 0) rfl)))
  exact ⟨rfl, N5, Kp9, fk6, fk7, F5⟩
-- com/example/rockhopper/rockhopper/model/Validators.equals
set_option maxRecDepth 65536 in
set_option maxHeartbeats 4000000 in
theorem au_39 (l : Launch) (Z : State) (a0 : Array Value) (hw : ∀ d ∈ tables_1, d.before a0 Z = true) (x0 : Addr) (x1 : Addr) (x2 : Addr) (h0 : Heap) (n0 : Nat) (Z0 : n0 ≤ h0.size) (P1 : Fld Z h0 x0 "com/example/rockhopper/rockhopper/model/Validators" "etag" "Ljava/lang/String;" (.ref x2)) (P3 : Exa Z h0 x1 "com/example/rockhopper/rockhopper/model/Validators") (P4 : Fld Z h0 x1 "com/example/rockhopper/rockhopper/model/Validators" "etag" "Ljava/lang/String;" .null) :
    Ctr l Z (⟨"com/example/rockhopper/rockhopper/model/Validators", "equals", "(Ljava/lang/Object;)Z"⟩ : MethodName) prog_9_method_4_code 2 (some .boolean) ({ frames := 1, cells := 0, slots := 0, locals := 13 } : Room) #[(.ref x0), (.ref x1)] h0 (fun v h L => v = some (.int 0) ∧ Fr n0 L ∧ h = h0) := by
  refine Ctr.of (plainFor_of_name pn_c3) ?_
  intro p e s m below meth c T0 hx hZ hby hml hown hnm hret hlk e0 es X0
  refine Go.cast (ef_6_RR m x0 x1) ?_
  generalize hFF : EndN s _ _ _ = FF
  refine Go.aloadN X0 hx (pc' := 1) rfl (hb hby d6_0) rfl rfl ?_
  refine Go.instY X0 hx hZ hown (tw_49 hw) e0 (Ins.self P3) (pc' := 4) rfl (hb hby d6_1) ?_
  intro T1 e1 X1
  refine Go.ifNo X1 hx (pc' := 7) rfl (hb hby d6_4) (by decide) ?_
  refine Go.aloadN X1 hx (pc' := 8) rfl (hb hby d6_7) rfl rfl ?_
  refine Go.castY X1 hx hZ hown (tw_49 hw) e1 (Ins.self P3) (pc' := 11) rfl (hb hby d6_8) ?_
  intro T2 e2 X2
  refine Go.getF X2 hx hZ hown (host := "") (Or.inl (tw_33 hw)) Via.refl e2 P4 (pc' := 14) rfl (hb hby d6_11) ?_
  intro T3 e3 X3
  refine Go.aloadN X3 hx (pc' := 15) rfl (hb hby d6_14) rfl rfl ?_
  refine Go.getF X3 hx hZ hown (host := "") (Or.inl (tw_33 hw)) Via.refl e3 P1 (pc' := 18) rfl (hb hby d6_15) ?_
  intro T4 e4 X4
  refine Go.callS X4 hx hZ hown (tw_54 hw) (tw_55 hw) (tw_56 hw) (tw_57 hw) (by decide) (tw_57 hw) (tw_56 hw) (au_31 l Z a0 hw x2 h0 n0 Z0) e4 (argsL := [.null, (.ref x2)]) (rest := []) (pc' := 21) rfl (by rw [hml]; rfl) (lenOf pd_11 rfl) rfl rfl (W := 0) (Nat.le_of_eq rfl) (by decide) (by decide) (by decide) (by decide) (hb hby d6_18) ?_
  intro v5 T5 L5 q5 X5
  obtain ⟨rfl, N5, e5⟩ := q5
  show Go _ _ _ _ (T5.setTop (mkF m 21 #[.val (.ref x0), .val (.ref x1)] [(.int 0)]))
  refine Go.ifYes X5 hx (pc' := 45) (hb hby d6_21) (by decide) (by decide) (by decide) ?_
  refine Go.iconst X5 hx (pc' := 46) rfl (hb hby d6_45) (v := (0 : Int32)) rfl ?_
  subst hFF
  refine Go.retN X5 hx hlk (t := .boolean) hret (by simp) (hb hby d6_46) (by decide) (by decide) ?_
  rw [e5]
  exact ⟨(congrArg (fun z => some (Value.int z)) (by decide : nar .boolean (0 : Int32) = (0 : Int32))), (Fr.app (Fr.nil n0) N5), rfl⟩
-- com/example/rockhopper/rockhopper/model/Validators.equals
set_option maxRecDepth 65536 in
set_option maxHeartbeats 4000000 in
theorem au_40 (l : Launch) (Z : State) (a0 : Array Value) (hw : ∀ d ∈ tables_1, d.before a0 Z = true) (x0 : Addr) (x1 : Addr) (x2 : Addr) (h0 : Heap) (n0 : Nat) (Z0 : n0 ≤ h0.size) (P1 : Fld Z h0 x0 "com/example/rockhopper/rockhopper/model/Validators" "etag" "Ljava/lang/String;" .null) (P3 : Exa Z h0 x1 "com/example/rockhopper/rockhopper/model/Validators") (P4 : Fld Z h0 x1 "com/example/rockhopper/rockhopper/model/Validators" "etag" "Ljava/lang/String;" (.ref x2)) (P6 : Exa Z h0 x2 "java/lang/String") :
    Ctr l Z (⟨"com/example/rockhopper/rockhopper/model/Validators", "equals", "(Ljava/lang/Object;)Z"⟩ : MethodName) prog_9_method_4_code 2 (some .boolean) ({ frames := 2, cells := 0, slots := 0, locals := 27 } : Room) #[(.ref x0), (.ref x1)] h0 (fun v h L => v = some (.int 0) ∧ Fr n0 L ∧ h = h0) := by
  refine Ctr.of (plainFor_of_name pn_c3) ?_
  intro p e s m below meth c T0 hx hZ hby hml hown hnm hret hlk e0 es X0
  refine Go.cast (ef_6_RR m x0 x1) ?_
  generalize hFF : EndN s _ _ _ = FF
  refine Go.aloadN X0 hx (pc' := 1) rfl (hb hby d6_0) rfl rfl ?_
  refine Go.instY X0 hx hZ hown (tw_49 hw) e0 (Ins.self P3) (pc' := 4) rfl (hb hby d6_1) ?_
  intro T1 e1 X1
  refine Go.ifNo X1 hx (pc' := 7) rfl (hb hby d6_4) (by decide) ?_
  refine Go.aloadN X1 hx (pc' := 8) rfl (hb hby d6_7) rfl rfl ?_
  refine Go.castY X1 hx hZ hown (tw_49 hw) e1 (Ins.self P3) (pc' := 11) rfl (hb hby d6_8) ?_
  intro T2 e2 X2
  refine Go.getF X2 hx hZ hown (host := "") (Or.inl (tw_33 hw)) Via.refl e2 P4 (pc' := 14) rfl (hb hby d6_11) ?_
  intro T3 e3 X3
  refine Go.aloadN X3 hx (pc' := 15) rfl (hb hby d6_14) rfl rfl ?_
  refine Go.getF X3 hx hZ hown (host := "") (Or.inl (tw_33 hw)) Via.refl e3 P1 (pc' := 18) rfl (hb hby d6_15) ?_
  intro T4 e4 X4
  refine Go.callS X4 hx hZ hown (tw_54 hw) (tw_55 hw) (tw_56 hw) (tw_57 hw) (by decide) (tw_57 hw) (tw_56 hw) (au_33 l Z a0 hw x2 h0 n0 Z0 P6) e4 (argsL := [(.ref x2), .null]) (rest := []) (pc' := 21) rfl (by rw [hml]; rfl) (lenOf pd_11 rfl) rfl rfl (W := 0) (Nat.le_of_eq rfl) (by decide) (by decide) (by decide) (by decide) (hb hby d6_18) ?_
  intro v5 T5 L5 q5 X5
  obtain ⟨rfl, N5, e5⟩ := q5
  show Go _ _ _ _ (T5.setTop (mkF m 21 #[.val (.ref x0), .val (.ref x1)] [(.int 0)]))
  refine Go.ifYes X5 hx (pc' := 45) (hb hby d6_21) (by decide) (by decide) (by decide) ?_
  refine Go.iconst X5 hx (pc' := 46) rfl (hb hby d6_45) (v := (0 : Int32)) rfl ?_
  subst hFF
  refine Go.retN X5 hx hlk (t := .boolean) hret (by simp) (hb hby d6_46) (by decide) (by decide) ?_
  rw [e5]
  exact ⟨(congrArg (fun z => some (Value.int z)) (by decide : nar .boolean (0 : Int32) = (0 : Int32))), (Fr.app (Fr.nil n0) N5), rfl⟩
-- com/example/rockhopper/rockhopper/model/Validators.equals
set_option maxRecDepth 65536 in
set_option maxHeartbeats 4000000 in
theorem au_41 (l : Launch) (Z : State) (a0 : Array Value) (hw : ∀ d ∈ tables_1, d.before a0 Z = true) (x0 : Addr) (h0 : Heap) (n0 : Nat) (Z0 : n0 ≤ h0.size) :
    Ctr l Z (⟨"com/example/rockhopper/rockhopper/model/Validators", "equals", "(Ljava/lang/Object;)Z"⟩ : MethodName) prog_9_method_4_code 2 (some .boolean) ({ frames := 0, cells := 0, slots := 0, locals := 0 } : Room) #[(.ref x0), .null] h0 (fun v h L => v = some (.int 0) ∧ Fr n0 L ∧ h = h0) := by
  refine Ctr.of (plainFor_of_name pn_c3) ?_
  intro p e s m below meth c T0 hx hZ hby hml hown hnm hret hlk e0 es X0
  refine Go.cast (ef_6_RN m x0) ?_
  generalize hFF : EndN s _ _ _ = FF
  refine Go.aloadN X0 hx (pc' := 1) rfl (hb hby d6_0) rfl rfl ?_
  refine Go.step (fun t kt => X0.instanceofNull hx (g := (mkF m 1 #[.val (.ref x0), .val .null] [.null])) rfl rfl (hb hby d6_1) t kt) ?_
  show Go _ _ _ _ (T0.setTop (mkF m 4 #[.val (.ref x0), .val .null] [(.int 0)]))
  refine Go.ifYes X0 hx (pc' := 45) (hb hby d6_4) (by decide) (by decide) (by decide) ?_
  refine Go.iconst X0 hx (pc' := 46) rfl (hb hby d6_45) (v := (0 : Int32)) rfl ?_
  subst hFF
  refine Go.retN X0 hx hlk (t := .boolean) hret (by simp) (hb hby d6_46) (by decide) (by decide) ?_
  rw [e0]
  exact ⟨(congrArg (fun z => some (Value.int z)) (by decide : nar .boolean (0 : Int32) = (0 : Int32))), (Fr.nil n0), rfl⟩
-- com/example/rockhopper/rockhopper/model/Validators.equals
set_option maxRecDepth 65536 in
set_option maxHeartbeats 4000000 in
theorem au_42 (l : Launch) (Z : State) (a0 : Array Value) (hw : ∀ d ∈ tables_1, d.before a0 Z = true) (x0 : Addr) (x1 : Addr) (h0 : Heap) (n0 : Nat) (Z0 : n0 ≤ h0.size) (P3 : Exa Z h0 x1 "java/lang/Integer") :
    Ctr l Z (⟨"com/example/rockhopper/rockhopper/model/Validators", "equals", "(Ljava/lang/Object;)Z"⟩ : MethodName) prog_9_method_4_code 2 (some .boolean) ({ frames := 0, cells := 0, slots := 0, locals := 0 } : Room) #[(.ref x0), (.ref x1)] h0 (fun v h L => v = some (.int 0) ∧ Fr n0 L ∧ h = h0) := by
  refine Ctr.of (plainFor_of_name pn_c3) ?_
  intro p e s m below meth c T0 hx hZ hby hml hown hnm hret hlk e0 es X0
  refine Go.cast (ef_6_RR m x0 x1) ?_
  generalize hFF : EndN s _ _ _ = FF
  refine Go.aloadN X0 hx (pc' := 1) rfl (hb hby d6_0) rfl rfl ?_
  refine Go.instN X0 hx hZ hown (tw_49 hw) e0 P3 (own_NSno (tw_50 hw) (tw_1 hw) (NS.step (tw_50 hw) (NS.step (tw_51 hw) (own_NSroot (tw_52 hw) (tw_1 hw) (by decide)) (by decide)) (by decide)) (by decide)) (pc' := 4) rfl (hb hby d6_1) ?_
  intro T1 e1 X1
  refine Go.ifYes X1 hx (pc' := 45) (hb hby d6_4) (by decide) (by decide) (by decide) ?_
  refine Go.iconst X1 hx (pc' := 46) rfl (hb hby d6_45) (v := (0 : Int32)) rfl ?_
  subst hFF
  refine Go.retN X1 hx hlk (t := .boolean) hret (by simp) (hb hby d6_46) (by decide) (by decide) ?_
  rw [e1]
  exact ⟨(congrArg (fun z => some (Value.int z)) (by decide : nar .boolean (0 : Int32) = (0 : Int32))), (Fr.nil n0), rfl⟩
theorem ef_8_NN (m : MethodId)   : entryFrame m #[.null, .null] 2 = mkF m 0 #[.val .null, .val .null] [] := by first | (simp [entryFrame, mkF, argsToLocals, Value.category]; done) | rfl
-- java/util/Objects.equals
set_option maxRecDepth 65536 in
set_option maxHeartbeats 4000000 in
theorem au_44 (l : Launch) (Z : State) (a0 : Array Value) (hw : ∀ d ∈ tables_1, d.before a0 Z = true)  (h0 : Heap) (n0 : Nat) (Z0 : n0 ≤ h0.size) :
    Ctr l Z (⟨"java/util/Objects", "equals", "(Ljava/lang/Object;Ljava/lang/Object;)Z"⟩ : MethodName) jdk_31_method_2_code 2 (some .boolean) ({ frames := 0, cells := 0, slots := 0, locals := 0 } : Room) #[.null, .null] h0 (fun v h L => v = some (.int 1) ∧ Fr n0 L ∧ h = h0) := by
  refine Ctr.of (plainFor_of_name pn_c6) ?_
  intro p e s m below meth c T0 hx hZ hby hml hown hnm hret hlk e0 es X0
  refine Go.cast (ef_8_NN m ) ?_
  generalize hFF : EndN s _ _ _ = FF
  refine Go.aloadN X0 hx (pc' := 1) rfl (hb hby d8_0) rfl rfl ?_
  refine Go.aloadN X0 hx (pc' := 2) rfl (hb hby d8_1) rfl rfl ?_
  refine Go.acmp X0 hx (pc' := 17) (same := true) (hb hby d8_2) rfl rfl (decide_eq_true rfl) (by decide) (by decide) ?_
  refine Go.iconst X0 hx (pc' := 18) rfl (hb hby d8_17) (v := (1 : Int32)) rfl ?_
  refine Go.goto X0 hx (pc' := 22) (hb hby d8_18) (by decide) (by decide) ?_
  subst hFF
  refine Go.retN X0 hx hlk (t := .boolean) hret (by simp) (hb hby d8_22) (by decide) (by decide) ?_
  rw [e0]
  exact ⟨(congrArg (fun z => some (Value.int z)) (by decide : nar .boolean (1 : Int32) = (1 : Int32))), (Fr.nil n0), rfl⟩
-- com/example/rockhopper/rockhopper/model/Validators.equals
set_option maxRecDepth 65536 in
set_option maxHeartbeats 4000000 in
theorem au_43 (l : Launch) (Z : State) (a0 : Array Value) (hw : ∀ d ∈ tables_1, d.before a0 Z = true) (x0 : Addr) (x1 : Addr) (h0 : Heap) (n0 : Nat) (Z0 : n0 ≤ h0.size) (P0 : Exa Z h0 x0 "com/example/rockhopper/rockhopper/model/Validators") (P1 : Fld Z h0 x0 "com/example/rockhopper/rockhopper/model/Validators" "etag" "Ljava/lang/String;" (.ref x1)) (P2 : Fld Z h0 x0 "com/example/rockhopper/rockhopper/model/Validators" "lastModified" "Ljava/lang/String;" .null) :
    Ctr l Z (⟨"com/example/rockhopper/rockhopper/model/Validators", "equals", "(Ljava/lang/Object;)Z"⟩ : MethodName) prog_9_method_4_code 2 (some .boolean) ({ frames := 1, cells := 0, slots := 0, locals := 13 } : Room) #[(.ref x0), (.ref x0)] h0 (fun v h L => v = some (.int 1) ∧ Fr n0 L ∧ h = h0) := by
  refine Ctr.of (plainFor_of_name pn_c3) ?_
  intro p e s m below meth c T0 hx hZ hby hml hown hnm hret hlk e0 es X0
  refine Go.cast (ef_6_RR m x0 x0) ?_
  generalize hFF : EndN s _ _ _ = FF
  refine Go.aloadN X0 hx (pc' := 1) rfl (hb hby d6_0) rfl rfl ?_
  refine Go.instY X0 hx hZ hown (tw_49 hw) e0 (Ins.self P0) (pc' := 4) rfl (hb hby d6_1) ?_
  intro T1 e1 X1
  refine Go.ifNo X1 hx (pc' := 7) rfl (hb hby d6_4) (by decide) ?_
  refine Go.aloadN X1 hx (pc' := 8) rfl (hb hby d6_7) rfl rfl ?_
  refine Go.castY X1 hx hZ hown (tw_49 hw) e1 (Ins.self P0) (pc' := 11) rfl (hb hby d6_8) ?_
  intro T2 e2 X2
  refine Go.getF X2 hx hZ hown (host := "") (Or.inl (tw_33 hw)) Via.refl e2 P1 (pc' := 14) rfl (hb hby d6_11) ?_
  intro T3 e3 X3
  refine Go.aloadN X3 hx (pc' := 15) rfl (hb hby d6_14) rfl rfl ?_
  refine Go.getF X3 hx hZ hown (host := "") (Or.inl (tw_33 hw)) Via.refl e3 P1 (pc' := 18) rfl (hb hby d6_15) ?_
  intro T4 e4 X4
  refine Go.callS X4 hx hZ hown (tw_54 hw) (tw_55 hw) (tw_56 hw) (tw_57 hw) (by decide) (tw_57 hw) (tw_56 hw) (au_24 l Z a0 hw x1 h0 n0 Z0) e4 (argsL := [(.ref x1), (.ref x1)]) (rest := []) (pc' := 21) rfl (by rw [hml]; rfl) (lenOf pd_11 rfl) rfl rfl (W := 0) (Nat.le_of_eq rfl) (by decide) (by decide) (by decide) (by decide) (hb hby d6_18) ?_
  intro v5 T5 L5 q5 X5
  obtain ⟨rfl, N5, e5⟩ := q5
  show Go _ _ _ _ (T5.setTop (mkF m 21 #[.val (.ref x0), .val (.ref x0)] [(.int 1)]))
  refine Go.ifNo X5 hx (pc' := 24) rfl (hb hby d6_21) (by decide) ?_
  refine Go.aloadN X5 hx (pc' := 25) rfl (hb hby d6_24) rfl rfl ?_
  refine Go.castY X5 hx hZ hown (tw_49 hw) e5 (Ins.self P0) (pc' := 28) rfl (hb hby d6_25) ?_
  intro T6 e6 X6
  refine Go.getF X6 hx hZ hown (host := "") (Or.inl (tw_35 hw)) Via.refl e6 P2 (pc' := 31) rfl (hb hby d6_28) ?_
  intro T7 e7 X7
  refine Go.aloadN X7 hx (pc' := 32) rfl (hb hby d6_31) rfl rfl ?_
  refine Go.getF X7 hx hZ hown (host := "") (Or.inl (tw_35 hw)) Via.refl e7 P2 (pc' := 35) rfl (hb hby d6_32) ?_
  intro T8 e8 X8
  refine Go.callS X8 hx hZ hown (tw_54 hw) (tw_55 hw) (tw_56 hw) (tw_57 hw) (by decide) (tw_57 hw) (tw_56 hw) (au_44 l Z a0 hw h0 n0 Z0) e8 (argsL := [.null, .null]) (rest := []) (pc' := 38) rfl (by rw [hml]; rfl) (lenOf pd_11 rfl) rfl rfl (W := 0) (Nat.le_of_eq rfl) (by decide) (by decide) (by decide) (by decide) (hb hby d6_35) ?_
  intro v9 T9 L9 q9 X9
  obtain ⟨rfl, N9, e9⟩ := q9
  show Go _ _ _ _ (T9.setTop (mkF m 38 #[.val (.ref x0), .val (.ref x0)] [(.int 1)]))
  refine Go.ifNo X9 hx (pc' := 41) rfl (hb hby d6_38) (by decide) ?_
  refine Go.iconst X9 hx (pc' := 42) rfl (hb hby d6_41) (v := (1 : Int32)) rfl ?_
  refine Go.goto X9 hx (pc' := 46) (hb hby d6_42) (by decide) (by decide) ?_
  subst hFF
  refine Go.retN X9 hx hlk (t := .boolean) hret (by simp) (hb hby d6_46) (by decide) (by decide) ?_
  rw [e9]
  exact ⟨(congrArg (fun z => some (Value.int z)) (by decide : nar .boolean (1 : Int32) = (1 : Int32))), (Fr.app (Fr.app (Fr.nil n0) N5) N9), rfl⟩
-- com/example/rockhopper/rockhopper/model/Validators.equals
set_option maxRecDepth 65536 in
set_option maxHeartbeats 4000000 in
theorem au_45 (l : Launch) (Z : State) (a0 : Array Value) (hw : ∀ d ∈ tables_1, d.before a0 Z = true) (x0 : Addr) (x1 : Addr) (x2 : Addr) (x3 : Addr) (x4 : Addr) (x5 : Addr) (kk0 : ClassId) (us0 : List Int32) (p1 : Int32) (kk1 : ClassId) (us2 : List Int32) (p3 : Int32) (ga3 : Addr) (gz9 : Int32) (gv13 : Value) (gk17 : ClassId) (gvs18 : List Value) (h0 : Heap) (n0 : Nat) (Z0 : n0 ≤ h0.size) (O0 : Old Z n0 h0) (G : Glob Z ga3 gz9 gv13 gk17 gvs18) (P1 : Fld Z h0 x0 "com/example/rockhopper/rockhopper/model/Validators" "etag" "Ljava/lang/String;" (.ref x2)) (P2 : Fld Z h0 x0 "com/example/rockhopper/rockhopper/model/Validators" "lastModified" "Ljava/lang/String;" .null) (P3 : Exa Z h0 x1 "com/example/rockhopper/rockhopper/model/Validators") (P4 : Fld Z h0 x1 "com/example/rockhopper/rockhopper/model/Validators" "etag" "Ljava/lang/String;" (.ref x3)) (P5 : Fld Z h0 x1 "com/example/rockhopper/rockhopper/model/Validators" "lastModified" "Ljava/lang/String;" .null) (P6 : Exa Z h0 x2 "java/lang/String") (P7 : Fld Z h0 x2 "java/lang/String" "coder" "B" (.int 0)) (P8 : Fld Z h0 x2 "java/lang/String" "value" "[B" (.ref x4)) (P9 : Exa Z h0 x3 "java/lang/String") (P10 : Fld Z h0 x3 "java/lang/String" "coder" "B" (.int 0)) (P11 : Fld Z h0 x3 "java/lang/String" "value" "[B" (.ref x5)) (P12 : Arv Z h0 x4 kk0 .byte p1 (us0.map Value.int) (.int 0)) (P13 : Arv Z h0 x5 kk1 .byte p3 (us2.map Value.int) (.int 0)) (H0 : p1.toInt = us0.length) (H1 : p3.toInt = us2.length) (ne_x3_x2 : x3 ≠ x2) :
    Ctr l Z (⟨"com/example/rockhopper/rockhopper/model/Validators", "equals", "(Ljava/lang/Object;)Z"⟩ : MethodName) prog_9_method_4_code 2 (some .boolean) ({ frames := 3, cells := 0, slots := 0, locals := 41 } : Room) #[(.ref x0), (.ref x1)] h0 (fun v h L => (us2 = us0 ∧ v = some (.int 1) ∧ Fr n0 L ∧ h = h0) ∨ (¬ (us2 = us0) ∧ v = some (.int 0) ∧ Fr n0 L ∧ h = h0)) := by
  refine Ctr.of (plainFor_of_name pn_c3) ?_
  intro p e s m below meth c T0 hx hZ hby hml hown hnm hret hlk e0 es X0
  refine Go.cast (ef_6_RR m x0 x1) ?_
  generalize hFF : EndN s _ _ _ = FF
  refine Go.aloadN X0 hx (pc' := 1) rfl (hb hby d6_0) rfl rfl ?_
  refine Go.instY X0 hx hZ hown (tw_49 hw) e0 (Ins.self P3) (pc' := 4) rfl (hb hby d6_1) ?_
  intro T1 e1 X1
  refine Go.ifNo X1 hx (pc' := 7) rfl (hb hby d6_4) (by decide) ?_
  refine Go.aloadN X1 hx (pc' := 8) rfl (hb hby d6_7) rfl rfl ?_
  refine Go.castY X1 hx hZ hown (tw_49 hw) e1 (Ins.self P3) (pc' := 11) rfl (hb hby d6_8) ?_
  intro T2 e2 X2
  refine Go.getF X2 hx hZ hown (host := "") (Or.inl (tw_33 hw)) Via.refl e2 P4 (pc' := 14) rfl (hb hby d6_11) ?_
  intro T3 e3 X3
  refine Go.aloadN X3 hx (pc' := 15) rfl (hb hby d6_14) rfl rfl ?_
  refine Go.getF X3 hx hZ hown (host := "") (Or.inl (tw_33 hw)) Via.refl e3 P1 (pc' := 18) rfl (hb hby d6_15) ?_
  intro T4 e4 X4
  refine Go.callS X4 hx hZ hown (tw_54 hw) (tw_55 hw) (tw_56 hw) (tw_57 hw) (by decide) (tw_57 hw) (tw_56 hw) (au_27 l Z a0 hw x3 x2 x5 x4 kk1 us2 p3 kk0 us0 p1 ga3 gz9 gv13 gk17 gvs18 h0 n0 Z0 O0 G P9 P10 P11 P6 P7 P8 P13 P12 H1 H0 ne_x3_x2) e4 (argsL := [(.ref x3), (.ref x2)]) (rest := []) (pc' := 21) rfl (by rw [hml]; rfl) (lenOf pd_11 rfl) rfl rfl (W := 0) (Nat.le_of_eq rfl) (by decide) (by decide) (by decide) (by decide) (hb hby d6_18) ?_
  intro v5 T5 L5 q5 X5
  rcases q5 with ⟨c5_0_0, rfl, N5_0, e5_0⟩ | ⟨c5_1_0, rfl, N5_1, e5_1⟩
  · show Go _ _ _ _ (T5.setTop (mkF m 21 #[.val (.ref x0), .val (.ref x1)] [(.int 1)]))
    refine Go.ifNo X5 hx (pc' := 24) rfl (hb hby d6_21) (by decide) ?_
    refine Go.aloadN X5 hx (pc' := 25) rfl (hb hby d6_24) rfl rfl ?_
    refine Go.castY X5 hx hZ hown (tw_49 hw) e5_0 (Ins.self P3) (pc' := 28) rfl (hb hby d6_25) ?_
    intro T6 e6 X6
    refine Go.getF X6 hx hZ hown (host := "") (Or.inl (tw_35 hw)) Via.refl e6 P5 (pc' := 31) rfl (hb hby d6_28) ?_
    intro T7 e7 X7
    refine Go.aloadN X7 hx (pc' := 32) rfl (hb hby d6_31) rfl rfl ?_
    refine Go.getF X7 hx hZ hown (host := "") (Or.inl (tw_35 hw)) Via.refl e7 P2 (pc' := 35) rfl (hb hby d6_32) ?_
    intro T8 e8 X8
    refine Go.callS X8 hx hZ hown (tw_54 hw) (tw_55 hw) (tw_56 hw) (tw_57 hw) (by decide) (tw_57 hw) (tw_56 hw) (au_44 l Z a0 hw h0 n0 Z0) e8 (argsL := [.null, .null]) (rest := []) (pc' := 38) rfl (by rw [hml]; rfl) (lenOf pd_11 rfl) rfl rfl (W := 0) (Nat.le_of_eq rfl) (by decide) (by decide) (by decide) (by decide) (hb hby d6_35) ?_
    intro v9 T9 L9 q9 X9
    obtain ⟨rfl, N9, e9⟩ := q9
    show Go _ _ _ _ (T9.setTop (mkF m 38 #[.val (.ref x0), .val (.ref x1)] [(.int 1)]))
    refine Go.ifNo X9 hx (pc' := 41) rfl (hb hby d6_38) (by decide) ?_
    refine Go.iconst X9 hx (pc' := 42) rfl (hb hby d6_41) (v := (1 : Int32)) rfl ?_
    refine Go.goto X9 hx (pc' := 46) (hb hby d6_42) (by decide) (by decide) ?_
    subst hFF
    refine Go.retN X9 hx hlk (t := .boolean) hret (by simp) (hb hby d6_46) (by decide) (by decide) ?_
    rw [e9]
    exact Or.inl ⟨c5_0_0, (congrArg (fun z => some (Value.int z)) (by decide : nar .boolean (1 : Int32) = (1 : Int32))), (Fr.app (Fr.app (Fr.nil n0) N5_0) N9), rfl⟩
  · show Go _ _ _ _ (T5.setTop (mkF m 21 #[.val (.ref x0), .val (.ref x1)] [(.int 0)]))
    refine Go.ifYes X5 hx (pc' := 45) (hb hby d6_21) (by decide) (by decide) (by decide) ?_
    refine Go.iconst X5 hx (pc' := 46) rfl (hb hby d6_45) (v := (0 : Int32)) rfl ?_
    subst hFF
    refine Go.retN X5 hx hlk (t := .boolean) hret (by simp) (hb hby d6_46) (by decide) (by decide) ?_
    rw [e5_1]
    exact Or.inr (⟨c5_1_0, (congrArg (fun z => some (Value.int z)) (by decide : nar .boolean (0 : Int32) = (0 : Int32))), (Fr.app (Fr.nil n0) N5_1), rfl⟩)
-- com/example/rockhopper/rockhopper/model/Validators.equals
set_option maxRecDepth 65536 in
set_option maxHeartbeats 4000000 in
theorem au_46 (l : Launch) (Z : State) (a0 : Array Value) (hw : ∀ d ∈ tables_1, d.before a0 Z = true) (x0 : Addr) (x1 : Addr) (x2 : Addr) (h0 : Heap) (n0 : Nat) (Z0 : n0 ≤ h0.size) (P1 : Fld Z h0 x0 "com/example/rockhopper/rockhopper/model/Validators" "etag" "Ljava/lang/String;" (.ref x2)) (P3 : Exa Z h0 x1 "com/example/rockhopper/rockhopper/model/Validators") (P4 : Fld Z h0 x1 "com/example/rockhopper/rockhopper/model/Validators" "etag" "Ljava/lang/String;" .null) :
    Ctr l Z (⟨"com/example/rockhopper/rockhopper/model/Validators", "equals", "(Ljava/lang/Object;)Z"⟩ : MethodName) prog_9_method_4_code 2 (some .boolean) ({ frames := 1, cells := 0, slots := 0, locals := 13 } : Room) #[(.ref x0), (.ref x1)] h0 (fun v h L => v = some (.int 0) ∧ Fr n0 L ∧ h = h0) := by
  refine Ctr.of (plainFor_of_name pn_c3) ?_
  intro p e s m below meth c T0 hx hZ hby hml hown hnm hret hlk e0 es X0
  refine Go.cast (ef_6_RR m x0 x1) ?_
  generalize hFF : EndN s _ _ _ = FF
  refine Go.aloadN X0 hx (pc' := 1) rfl (hb hby d6_0) rfl rfl ?_
  refine Go.instY X0 hx hZ hown (tw_49 hw) e0 (Ins.self P3) (pc' := 4) rfl (hb hby d6_1) ?_
  intro T1 e1 X1
  refine Go.ifNo X1 hx (pc' := 7) rfl (hb hby d6_4) (by decide) ?_
  refine Go.aloadN X1 hx (pc' := 8) rfl (hb hby d6_7) rfl rfl ?_
  refine Go.castY X1 hx hZ hown (tw_49 hw) e1 (Ins.self P3) (pc' := 11) rfl (hb hby d6_8) ?_
  intro T2 e2 X2
  refine Go.getF X2 hx hZ hown (host := "") (Or.inl (tw_33 hw)) Via.refl e2 P4 (pc' := 14) rfl (hb hby d6_11) ?_
  intro T3 e3 X3
  refine Go.aloadN X3 hx (pc' := 15) rfl (hb hby d6_14) rfl rfl ?_
  refine Go.getF X3 hx hZ hown (host := "") (Or.inl (tw_33 hw)) Via.refl e3 P1 (pc' := 18) rfl (hb hby d6_15) ?_
  intro T4 e4 X4
  refine Go.callS X4 hx hZ hown (tw_54 hw) (tw_55 hw) (tw_56 hw) (tw_57 hw) (by decide) (tw_57 hw) (tw_56 hw) (au_31 l Z a0 hw x2 h0 n0 Z0) e4 (argsL := [.null, (.ref x2)]) (rest := []) (pc' := 21) rfl (by rw [hml]; rfl) (lenOf pd_11 rfl) rfl rfl (W := 0) (Nat.le_of_eq rfl) (by decide) (by decide) (by decide) (by decide) (hb hby d6_18) ?_
  intro v5 T5 L5 q5 X5
  obtain ⟨rfl, N5, e5⟩ := q5
  show Go _ _ _ _ (T5.setTop (mkF m 21 #[.val (.ref x0), .val (.ref x1)] [(.int 0)]))
  refine Go.ifYes X5 hx (pc' := 45) (hb hby d6_21) (by decide) (by decide) (by decide) ?_
  refine Go.iconst X5 hx (pc' := 46) rfl (hb hby d6_45) (v := (0 : Int32)) rfl ?_
  subst hFF
  refine Go.retN X5 hx hlk (t := .boolean) hret (by simp) (hb hby d6_46) (by decide) (by decide) ?_
  rw [e5]
  exact ⟨(congrArg (fun z => some (Value.int z)) (by decide : nar .boolean (0 : Int32) = (0 : Int32))), (Fr.app (Fr.nil n0) N5), rfl⟩
-- com/example/rockhopper/rockhopper/model/Validators.equals
set_option maxRecDepth 65536 in
set_option maxHeartbeats 4000000 in
theorem au_47 (l : Launch) (Z : State) (a0 : Array Value) (hw : ∀ d ∈ tables_1, d.before a0 Z = true) (x0 : Addr) (x1 : Addr) (x3 : Addr) (h0 : Heap) (n0 : Nat) (Z0 : n0 ≤ h0.size) (P1 : Fld Z h0 x0 "com/example/rockhopper/rockhopper/model/Validators" "etag" "Ljava/lang/String;" .null) (P3 : Exa Z h0 x1 "com/example/rockhopper/rockhopper/model/Validators") (P4 : Fld Z h0 x1 "com/example/rockhopper/rockhopper/model/Validators" "etag" "Ljava/lang/String;" (.ref x3)) (P9 : Exa Z h0 x3 "java/lang/String") :
    Ctr l Z (⟨"com/example/rockhopper/rockhopper/model/Validators", "equals", "(Ljava/lang/Object;)Z"⟩ : MethodName) prog_9_method_4_code 2 (some .boolean) ({ frames := 2, cells := 0, slots := 0, locals := 27 } : Room) #[(.ref x0), (.ref x1)] h0 (fun v h L => v = some (.int 0) ∧ Fr n0 L ∧ h = h0) := by
  refine Ctr.of (plainFor_of_name pn_c3) ?_
  intro p e s m below meth c T0 hx hZ hby hml hown hnm hret hlk e0 es X0
  refine Go.cast (ef_6_RR m x0 x1) ?_
  generalize hFF : EndN s _ _ _ = FF
  refine Go.aloadN X0 hx (pc' := 1) rfl (hb hby d6_0) rfl rfl ?_
  refine Go.instY X0 hx hZ hown (tw_49 hw) e0 (Ins.self P3) (pc' := 4) rfl (hb hby d6_1) ?_
  intro T1 e1 X1
  refine Go.ifNo X1 hx (pc' := 7) rfl (hb hby d6_4) (by decide) ?_
  refine Go.aloadN X1 hx (pc' := 8) rfl (hb hby d6_7) rfl rfl ?_
  refine Go.castY X1 hx hZ hown (tw_49 hw) e1 (Ins.self P3) (pc' := 11) rfl (hb hby d6_8) ?_
  intro T2 e2 X2
  refine Go.getF X2 hx hZ hown (host := "") (Or.inl (tw_33 hw)) Via.refl e2 P4 (pc' := 14) rfl (hb hby d6_11) ?_
  intro T3 e3 X3
  refine Go.aloadN X3 hx (pc' := 15) rfl (hb hby d6_14) rfl rfl ?_
  refine Go.getF X3 hx hZ hown (host := "") (Or.inl (tw_33 hw)) Via.refl e3 P1 (pc' := 18) rfl (hb hby d6_15) ?_
  intro T4 e4 X4
  refine Go.callS X4 hx hZ hown (tw_54 hw) (tw_55 hw) (tw_56 hw) (tw_57 hw) (by decide) (tw_57 hw) (tw_56 hw) (au_33 l Z a0 hw x3 h0 n0 Z0 P9) e4 (argsL := [(.ref x3), .null]) (rest := []) (pc' := 21) rfl (by rw [hml]; rfl) (lenOf pd_11 rfl) rfl rfl (W := 0) (Nat.le_of_eq rfl) (by decide) (by decide) (by decide) (by decide) (hb hby d6_18) ?_
  intro v5 T5 L5 q5 X5
  obtain ⟨rfl, N5, e5⟩ := q5
  show Go _ _ _ _ (T5.setTop (mkF m 21 #[.val (.ref x0), .val (.ref x1)] [(.int 0)]))
  refine Go.ifYes X5 hx (pc' := 45) (hb hby d6_21) (by decide) (by decide) (by decide) ?_
  refine Go.iconst X5 hx (pc' := 46) rfl (hb hby d6_45) (v := (0 : Int32)) rfl ?_
  subst hFF
  refine Go.retN X5 hx hlk (t := .boolean) hret (by simp) (hb hby d6_46) (by decide) (by decide) ?_
  rw [e5]
  exact ⟨(congrArg (fun z => some (Value.int z)) (by decide : nar .boolean (0 : Int32) = (0 : Int32))), (Fr.app (Fr.nil n0) N5), rfl⟩
-- com/example/rockhopper/rockhopper/model/Validators.equals
set_option maxRecDepth 65536 in
set_option maxHeartbeats 4000000 in
theorem au_48 (l : Launch) (Z : State) (a0 : Array Value) (hw : ∀ d ∈ tables_1, d.before a0 Z = true) (x0 : Addr) (x1 : Addr) (x2 : Addr) (h0 : Heap) (n0 : Nat) (Z0 : n0 ≤ h0.size) (P1 : Fld Z h0 x0 "com/example/rockhopper/rockhopper/model/Validators" "etag" "Ljava/lang/String;" (.ref x2)) (P3 : Exa Z h0 x1 "com/example/rockhopper/rockhopper/model/Validators") (P4 : Fld Z h0 x1 "com/example/rockhopper/rockhopper/model/Validators" "etag" "Ljava/lang/String;" .null) :
    Ctr l Z (⟨"com/example/rockhopper/rockhopper/model/Validators", "equals", "(Ljava/lang/Object;)Z"⟩ : MethodName) prog_9_method_4_code 2 (some .boolean) ({ frames := 1, cells := 0, slots := 0, locals := 13 } : Room) #[(.ref x0), (.ref x1)] h0 (fun v h L => v = some (.int 0) ∧ Fr n0 L ∧ h = h0) := by
  refine Ctr.of (plainFor_of_name pn_c3) ?_
  intro p e s m below meth c T0 hx hZ hby hml hown hnm hret hlk e0 es X0
  refine Go.cast (ef_6_RR m x0 x1) ?_
  generalize hFF : EndN s _ _ _ = FF
  refine Go.aloadN X0 hx (pc' := 1) rfl (hb hby d6_0) rfl rfl ?_
  refine Go.instY X0 hx hZ hown (tw_49 hw) e0 (Ins.self P3) (pc' := 4) rfl (hb hby d6_1) ?_
  intro T1 e1 X1
  refine Go.ifNo X1 hx (pc' := 7) rfl (hb hby d6_4) (by decide) ?_
  refine Go.aloadN X1 hx (pc' := 8) rfl (hb hby d6_7) rfl rfl ?_
  refine Go.castY X1 hx hZ hown (tw_49 hw) e1 (Ins.self P3) (pc' := 11) rfl (hb hby d6_8) ?_
  intro T2 e2 X2
  refine Go.getF X2 hx hZ hown (host := "") (Or.inl (tw_33 hw)) Via.refl e2 P4 (pc' := 14) rfl (hb hby d6_11) ?_
  intro T3 e3 X3
  refine Go.aloadN X3 hx (pc' := 15) rfl (hb hby d6_14) rfl rfl ?_
  refine Go.getF X3 hx hZ hown (host := "") (Or.inl (tw_33 hw)) Via.refl e3 P1 (pc' := 18) rfl (hb hby d6_15) ?_
  intro T4 e4 X4
  refine Go.callS X4 hx hZ hown (tw_54 hw) (tw_55 hw) (tw_56 hw) (tw_57 hw) (by decide) (tw_57 hw) (tw_56 hw) (au_31 l Z a0 hw x2 h0 n0 Z0) e4 (argsL := [.null, (.ref x2)]) (rest := []) (pc' := 21) rfl (by rw [hml]; rfl) (lenOf pd_11 rfl) rfl rfl (W := 0) (Nat.le_of_eq rfl) (by decide) (by decide) (by decide) (by decide) (hb hby d6_18) ?_
  intro v5 T5 L5 q5 X5
  obtain ⟨rfl, N5, e5⟩ := q5
  show Go _ _ _ _ (T5.setTop (mkF m 21 #[.val (.ref x0), .val (.ref x1)] [(.int 0)]))
  refine Go.ifYes X5 hx (pc' := 45) (hb hby d6_21) (by decide) (by decide) (by decide) ?_
  refine Go.iconst X5 hx (pc' := 46) rfl (hb hby d6_45) (v := (0 : Int32)) rfl ?_
  subst hFF
  refine Go.retN X5 hx hlk (t := .boolean) hret (by simp) (hb hby d6_46) (by decide) (by decide) ?_
  rw [e5]
  exact ⟨(congrArg (fun z => some (Value.int z)) (by decide : nar .boolean (0 : Int32) = (0 : Int32))), (Fr.app (Fr.nil n0) N5), rfl⟩
-- com/example/rockhopper/rockhopper/model/Validators.equals
set_option maxRecDepth 65536 in
set_option maxHeartbeats 4000000 in
theorem au_49 (l : Launch) (Z : State) (a0 : Array Value) (hw : ∀ d ∈ tables_1, d.before a0 Z = true) (x0 : Addr) (x1 : Addr) (x2 : Addr) (h0 : Heap) (n0 : Nat) (Z0 : n0 ≤ h0.size) (P1 : Fld Z h0 x0 "com/example/rockhopper/rockhopper/model/Validators" "etag" "Ljava/lang/String;" .null) (P3 : Exa Z h0 x1 "com/example/rockhopper/rockhopper/model/Validators") (P4 : Fld Z h0 x1 "com/example/rockhopper/rockhopper/model/Validators" "etag" "Ljava/lang/String;" (.ref x2)) (P6 : Exa Z h0 x2 "java/lang/String") :
    Ctr l Z (⟨"com/example/rockhopper/rockhopper/model/Validators", "equals", "(Ljava/lang/Object;)Z"⟩ : MethodName) prog_9_method_4_code 2 (some .boolean) ({ frames := 2, cells := 0, slots := 0, locals := 27 } : Room) #[(.ref x0), (.ref x1)] h0 (fun v h L => v = some (.int 0) ∧ Fr n0 L ∧ h = h0) := by
  refine Ctr.of (plainFor_of_name pn_c3) ?_
  intro p e s m below meth c T0 hx hZ hby hml hown hnm hret hlk e0 es X0
  refine Go.cast (ef_6_RR m x0 x1) ?_
  generalize hFF : EndN s _ _ _ = FF
  refine Go.aloadN X0 hx (pc' := 1) rfl (hb hby d6_0) rfl rfl ?_
  refine Go.instY X0 hx hZ hown (tw_49 hw) e0 (Ins.self P3) (pc' := 4) rfl (hb hby d6_1) ?_
  intro T1 e1 X1
  refine Go.ifNo X1 hx (pc' := 7) rfl (hb hby d6_4) (by decide) ?_
  refine Go.aloadN X1 hx (pc' := 8) rfl (hb hby d6_7) rfl rfl ?_
  refine Go.castY X1 hx hZ hown (tw_49 hw) e1 (Ins.self P3) (pc' := 11) rfl (hb hby d6_8) ?_
  intro T2 e2 X2
  refine Go.getF X2 hx hZ hown (host := "") (Or.inl (tw_33 hw)) Via.refl e2 P4 (pc' := 14) rfl (hb hby d6_11) ?_
  intro T3 e3 X3
  refine Go.aloadN X3 hx (pc' := 15) rfl (hb hby d6_14) rfl rfl ?_
  refine Go.getF X3 hx hZ hown (host := "") (Or.inl (tw_33 hw)) Via.refl e3 P1 (pc' := 18) rfl (hb hby d6_15) ?_
  intro T4 e4 X4
  refine Go.callS X4 hx hZ hown (tw_54 hw) (tw_55 hw) (tw_56 hw) (tw_57 hw) (by decide) (tw_57 hw) (tw_56 hw) (au_33 l Z a0 hw x2 h0 n0 Z0 P6) e4 (argsL := [(.ref x2), .null]) (rest := []) (pc' := 21) rfl (by rw [hml]; rfl) (lenOf pd_11 rfl) rfl rfl (W := 0) (Nat.le_of_eq rfl) (by decide) (by decide) (by decide) (by decide) (hb hby d6_18) ?_
  intro v5 T5 L5 q5 X5
  obtain ⟨rfl, N5, e5⟩ := q5
  show Go _ _ _ _ (T5.setTop (mkF m 21 #[.val (.ref x0), .val (.ref x1)] [(.int 0)]))
  refine Go.ifYes X5 hx (pc' := 45) (hb hby d6_21) (by decide) (by decide) (by decide) ?_
  refine Go.iconst X5 hx (pc' := 46) rfl (hb hby d6_45) (v := (0 : Int32)) rfl ?_
  subst hFF
  refine Go.retN X5 hx hlk (t := .boolean) hret (by simp) (hb hby d6_46) (by decide) (by decide) ?_
  rw [e5]
  exact ⟨(congrArg (fun z => some (Value.int z)) (by decide : nar .boolean (0 : Int32) = (0 : Int32))), (Fr.app (Fr.nil n0) N5), rfl⟩
-- com/example/rockhopper/rockhopper/model/Validators.equals
set_option maxRecDepth 65536 in
set_option maxHeartbeats 4000000 in
theorem au_50 (l : Launch) (Z : State) (a0 : Array Value) (hw : ∀ d ∈ tables_1, d.before a0 Z = true) (x0 : Addr) (h0 : Heap) (n0 : Nat) (Z0 : n0 ≤ h0.size) :
    Ctr l Z (⟨"com/example/rockhopper/rockhopper/model/Validators", "equals", "(Ljava/lang/Object;)Z"⟩ : MethodName) prog_9_method_4_code 2 (some .boolean) ({ frames := 0, cells := 0, slots := 0, locals := 0 } : Room) #[(.ref x0), .null] h0 (fun v h L => v = some (.int 0) ∧ Fr n0 L ∧ h = h0) := by
  refine Ctr.of (plainFor_of_name pn_c3) ?_
  intro p e s m below meth c T0 hx hZ hby hml hown hnm hret hlk e0 es X0
  refine Go.cast (ef_6_RN m x0) ?_
  generalize hFF : EndN s _ _ _ = FF
  refine Go.aloadN X0 hx (pc' := 1) rfl (hb hby d6_0) rfl rfl ?_
  refine Go.step (fun t kt => X0.instanceofNull hx (g := (mkF m 1 #[.val (.ref x0), .val .null] [.null])) rfl rfl (hb hby d6_1) t kt) ?_
  show Go _ _ _ _ (T0.setTop (mkF m 4 #[.val (.ref x0), .val .null] [(.int 0)]))
  refine Go.ifYes X0 hx (pc' := 45) (hb hby d6_4) (by decide) (by decide) (by decide) ?_
  refine Go.iconst X0 hx (pc' := 46) rfl (hb hby d6_45) (v := (0 : Int32)) rfl ?_
  subst hFF
  refine Go.retN X0 hx hlk (t := .boolean) hret (by simp) (hb hby d6_46) (by decide) (by decide) ?_
  rw [e0]
  exact ⟨(congrArg (fun z => some (Value.int z)) (by decide : nar .boolean (0 : Int32) = (0 : Int32))), (Fr.nil n0), rfl⟩
-- com/example/rockhopper/rockhopper/model/Validators.equals
set_option maxRecDepth 65536 in
set_option maxHeartbeats 4000000 in
theorem au_51 (l : Launch) (Z : State) (a0 : Array Value) (hw : ∀ d ∈ tables_1, d.before a0 Z = true) (x0 : Addr) (x1 : Addr) (h0 : Heap) (n0 : Nat) (Z0 : n0 ≤ h0.size) (P3 : Exa Z h0 x1 "java/lang/Integer") :
    Ctr l Z (⟨"com/example/rockhopper/rockhopper/model/Validators", "equals", "(Ljava/lang/Object;)Z"⟩ : MethodName) prog_9_method_4_code 2 (some .boolean) ({ frames := 0, cells := 0, slots := 0, locals := 0 } : Room) #[(.ref x0), (.ref x1)] h0 (fun v h L => v = some (.int 0) ∧ Fr n0 L ∧ h = h0) := by
  refine Ctr.of (plainFor_of_name pn_c3) ?_
  intro p e s m below meth c T0 hx hZ hby hml hown hnm hret hlk e0 es X0
  refine Go.cast (ef_6_RR m x0 x1) ?_
  generalize hFF : EndN s _ _ _ = FF
  refine Go.aloadN X0 hx (pc' := 1) rfl (hb hby d6_0) rfl rfl ?_
  refine Go.instN X0 hx hZ hown (tw_49 hw) e0 P3 (own_NSno (tw_50 hw) (tw_1 hw) (NS.step (tw_50 hw) (NS.step (tw_51 hw) (own_NSroot (tw_52 hw) (tw_1 hw) (by decide)) (by decide)) (by decide)) (by decide)) (pc' := 4) rfl (hb hby d6_1) ?_
  intro T1 e1 X1
  refine Go.ifYes X1 hx (pc' := 45) (hb hby d6_4) (by decide) (by decide) (by decide) ?_
  refine Go.iconst X1 hx (pc' := 46) rfl (hb hby d6_45) (v := (0 : Int32)) rfl ?_
  subst hFF
  refine Go.retN X1 hx hlk (t := .boolean) hret (by simp) (hb hby d6_46) (by decide) (by decide) ?_
  rw [e1]
  exact ⟨(congrArg (fun z => some (Value.int z)) (by decide : nar .boolean (0 : Int32) = (0 : Int32))), (Fr.nil n0), rfl⟩
-- com/example/rockhopper/rockhopper/model/Validators.equals
set_option maxRecDepth 65536 in
set_option maxHeartbeats 4000000 in
theorem au_52 (l : Launch) (Z : State) (a0 : Array Value) (hw : ∀ d ∈ tables_1, d.before a0 Z = true) (x0 : Addr) (x1 : Addr) (h0 : Heap) (n0 : Nat) (Z0 : n0 ≤ h0.size) (P0 : Exa Z h0 x0 "com/example/rockhopper/rockhopper/model/Validators") (P1 : Fld Z h0 x0 "com/example/rockhopper/rockhopper/model/Validators" "etag" "Ljava/lang/String;" .null) (P2 : Fld Z h0 x0 "com/example/rockhopper/rockhopper/model/Validators" "lastModified" "Ljava/lang/String;" (.ref x1)) :
    Ctr l Z (⟨"com/example/rockhopper/rockhopper/model/Validators", "equals", "(Ljava/lang/Object;)Z"⟩ : MethodName) prog_9_method_4_code 2 (some .boolean) ({ frames := 1, cells := 0, slots := 0, locals := 13 } : Room) #[(.ref x0), (.ref x0)] h0 (fun v h L => v = some (.int 1) ∧ Fr n0 L ∧ h = h0) := by
  refine Ctr.of (plainFor_of_name pn_c3) ?_
  intro p e s m below meth c T0 hx hZ hby hml hown hnm hret hlk e0 es X0
  refine Go.cast (ef_6_RR m x0 x0) ?_
  generalize hFF : EndN s _ _ _ = FF
  refine Go.aloadN X0 hx (pc' := 1) rfl (hb hby d6_0) rfl rfl ?_
  refine Go.instY X0 hx hZ hown (tw_49 hw) e0 (Ins.self P0) (pc' := 4) rfl (hb hby d6_1) ?_
  intro T1 e1 X1
  refine Go.ifNo X1 hx (pc' := 7) rfl (hb hby d6_4) (by decide) ?_
  refine Go.aloadN X1 hx (pc' := 8) rfl (hb hby d6_7) rfl rfl ?_
  refine Go.castY X1 hx hZ hown (tw_49 hw) e1 (Ins.self P0) (pc' := 11) rfl (hb hby d6_8) ?_
  intro T2 e2 X2
  refine Go.getF X2 hx hZ hown (host := "") (Or.inl (tw_33 hw)) Via.refl e2 P1 (pc' := 14) rfl (hb hby d6_11) ?_
  intro T3 e3 X3
  refine Go.aloadN X3 hx (pc' := 15) rfl (hb hby d6_14) rfl rfl ?_
  refine Go.getF X3 hx hZ hown (host := "") (Or.inl (tw_33 hw)) Via.refl e3 P1 (pc' := 18) rfl (hb hby d6_15) ?_
  intro T4 e4 X4
  refine Go.callS X4 hx hZ hown (tw_54 hw) (tw_55 hw) (tw_56 hw) (tw_57 hw) (by decide) (tw_57 hw) (tw_56 hw) (au_44 l Z a0 hw h0 n0 Z0) e4 (argsL := [.null, .null]) (rest := []) (pc' := 21) rfl (by rw [hml]; rfl) (lenOf pd_11 rfl) rfl rfl (W := 0) (Nat.le_of_eq rfl) (by decide) (by decide) (by decide) (by decide) (hb hby d6_18) ?_
  intro v5 T5 L5 q5 X5
  obtain ⟨rfl, N5, e5⟩ := q5
  show Go _ _ _ _ (T5.setTop (mkF m 21 #[.val (.ref x0), .val (.ref x0)] [(.int 1)]))
  refine Go.ifNo X5 hx (pc' := 24) rfl (hb hby d6_21) (by decide) ?_
  refine Go.aloadN X5 hx (pc' := 25) rfl (hb hby d6_24) rfl rfl ?_
  refine Go.castY X5 hx hZ hown (tw_49 hw) e5 (Ins.self P0) (pc' := 28) rfl (hb hby d6_25) ?_
  intro T6 e6 X6
  refine Go.getF X6 hx hZ hown (host := "") (Or.inl (tw_35 hw)) Via.refl e6 P2 (pc' := 31) rfl (hb hby d6_28) ?_
  intro T7 e7 X7
  refine Go.aloadN X7 hx (pc' := 32) rfl (hb hby d6_31) rfl rfl ?_
  refine Go.getF X7 hx hZ hown (host := "") (Or.inl (tw_35 hw)) Via.refl e7 P2 (pc' := 35) rfl (hb hby d6_32) ?_
  intro T8 e8 X8
  refine Go.callS X8 hx hZ hown (tw_54 hw) (tw_55 hw) (tw_56 hw) (tw_57 hw) (by decide) (tw_57 hw) (tw_56 hw) (au_24 l Z a0 hw x1 h0 n0 Z0) e8 (argsL := [(.ref x1), (.ref x1)]) (rest := []) (pc' := 38) rfl (by rw [hml]; rfl) (lenOf pd_11 rfl) rfl rfl (W := 0) (Nat.le_of_eq rfl) (by decide) (by decide) (by decide) (by decide) (hb hby d6_35) ?_
  intro v9 T9 L9 q9 X9
  obtain ⟨rfl, N9, e9⟩ := q9
  show Go _ _ _ _ (T9.setTop (mkF m 38 #[.val (.ref x0), .val (.ref x0)] [(.int 1)]))
  refine Go.ifNo X9 hx (pc' := 41) rfl (hb hby d6_38) (by decide) ?_
  refine Go.iconst X9 hx (pc' := 42) rfl (hb hby d6_41) (v := (1 : Int32)) rfl ?_
  refine Go.goto X9 hx (pc' := 46) (hb hby d6_42) (by decide) (by decide) ?_
  subst hFF
  refine Go.retN X9 hx hlk (t := .boolean) hret (by simp) (hb hby d6_46) (by decide) (by decide) ?_
  rw [e9]
  exact ⟨(congrArg (fun z => some (Value.int z)) (by decide : nar .boolean (1 : Int32) = (1 : Int32))), (Fr.app (Fr.app (Fr.nil n0) N5) N9), rfl⟩
-- com/example/rockhopper/rockhopper/model/Validators.equals
set_option maxRecDepth 65536 in
set_option maxHeartbeats 4000000 in
theorem au_53 (l : Launch) (Z : State) (a0 : Array Value) (hw : ∀ d ∈ tables_1, d.before a0 Z = true) (x0 : Addr) (x1 : Addr) (x2 : Addr) (x3 : Addr) (x4 : Addr) (x5 : Addr) (kk0 : ClassId) (us0 : List Int32) (p1 : Int32) (kk1 : ClassId) (us2 : List Int32) (p3 : Int32) (ga3 : Addr) (gz9 : Int32) (gv13 : Value) (gk17 : ClassId) (gvs18 : List Value) (h0 : Heap) (n0 : Nat) (Z0 : n0 ≤ h0.size) (O0 : Old Z n0 h0) (G : Glob Z ga3 gz9 gv13 gk17 gvs18) (P1 : Fld Z h0 x0 "com/example/rockhopper/rockhopper/model/Validators" "etag" "Ljava/lang/String;" .null) (P2 : Fld Z h0 x0 "com/example/rockhopper/rockhopper/model/Validators" "lastModified" "Ljava/lang/String;" (.ref x2)) (P3 : Exa Z h0 x1 "com/example/rockhopper/rockhopper/model/Validators") (P4 : Fld Z h0 x1 "com/example/rockhopper/rockhopper/model/Validators" "etag" "Ljava/lang/String;" .null) (P5 : Fld Z h0 x1 "com/example/rockhopper/rockhopper/model/Validators" "lastModified" "Ljava/lang/String;" (.ref x3)) (P6 : Exa Z h0 x2 "java/lang/String") (P7 : Fld Z h0 x2 "java/lang/String" "coder" "B" (.int 0)) (P8 : Fld Z h0 x2 "java/lang/String" "value" "[B" (.ref x4)) (P9 : Exa Z h0 x3 "java/lang/String") (P10 : Fld Z h0 x3 "java/lang/String" "coder" "B" (.int 0)) (P11 : Fld Z h0 x3 "java/lang/String" "value" "[B" (.ref x5)) (P12 : Arv Z h0 x4 kk0 .byte p1 (us0.map Value.int) (.int 0)) (P13 : Arv Z h0 x5 kk1 .byte p3 (us2.map Value.int) (.int 0)) (H0 : p1.toInt = us0.length) (H1 : p3.toInt = us2.length) (ne_x3_x2 : x3 ≠ x2) :
    Ctr l Z (⟨"com/example/rockhopper/rockhopper/model/Validators", "equals", "(Ljava/lang/Object;)Z"⟩ : MethodName) prog_9_method_4_code 2 (some .boolean) ({ frames := 3, cells := 0, slots := 0, locals := 41 } : Room) #[(.ref x0), (.ref x1)] h0 (fun v h L => (us2 = us0 ∧ v = some (.int 1) ∧ Fr n0 L ∧ h = h0) ∨ (¬ (us2 = us0) ∧ v = some (.int 0) ∧ Fr n0 L ∧ h = h0)) := by
  refine Ctr.of (plainFor_of_name pn_c3) ?_
  intro p e s m below meth c T0 hx hZ hby hml hown hnm hret hlk e0 es X0
  refine Go.cast (ef_6_RR m x0 x1) ?_
  generalize hFF : EndN s _ _ _ = FF
  refine Go.aloadN X0 hx (pc' := 1) rfl (hb hby d6_0) rfl rfl ?_
  refine Go.instY X0 hx hZ hown (tw_49 hw) e0 (Ins.self P3) (pc' := 4) rfl (hb hby d6_1) ?_
  intro T1 e1 X1
  refine Go.ifNo X1 hx (pc' := 7) rfl (hb hby d6_4) (by decide) ?_
  refine Go.aloadN X1 hx (pc' := 8) rfl (hb hby d6_7) rfl rfl ?_
  refine Go.castY X1 hx hZ hown (tw_49 hw) e1 (Ins.self P3) (pc' := 11) rfl (hb hby d6_8) ?_
  intro T2 e2 X2
  refine Go.getF X2 hx hZ hown (host := "") (Or.inl (tw_33 hw)) Via.refl e2 P4 (pc' := 14) rfl (hb hby d6_11) ?_
  intro T3 e3 X3
  refine Go.aloadN X3 hx (pc' := 15) rfl (hb hby d6_14) rfl rfl ?_
  refine Go.getF X3 hx hZ hown (host := "") (Or.inl (tw_33 hw)) Via.refl e3 P1 (pc' := 18) rfl (hb hby d6_15) ?_
  intro T4 e4 X4
  refine Go.callS X4 hx hZ hown (tw_54 hw) (tw_55 hw) (tw_56 hw) (tw_57 hw) (by decide) (tw_57 hw) (tw_56 hw) (au_44 l Z a0 hw h0 n0 Z0) e4 (argsL := [.null, .null]) (rest := []) (pc' := 21) rfl (by rw [hml]; rfl) (lenOf pd_11 rfl) rfl rfl (W := 0) (Nat.le_of_eq rfl) (by decide) (by decide) (by decide) (by decide) (hb hby d6_18) ?_
  intro v5 T5 L5 q5 X5
  obtain ⟨rfl, N5, e5⟩ := q5
  show Go _ _ _ _ (T5.setTop (mkF m 21 #[.val (.ref x0), .val (.ref x1)] [(.int 1)]))
  refine Go.ifNo X5 hx (pc' := 24) rfl (hb hby d6_21) (by decide) ?_
  refine Go.aloadN X5 hx (pc' := 25) rfl (hb hby d6_24) rfl rfl ?_
  refine Go.castY X5 hx hZ hown (tw_49 hw) e5 (Ins.self P3) (pc' := 28) rfl (hb hby d6_25) ?_
  intro T6 e6 X6
  refine Go.getF X6 hx hZ hown (host := "") (Or.inl (tw_35 hw)) Via.refl e6 P5 (pc' := 31) rfl (hb hby d6_28) ?_
  intro T7 e7 X7
  refine Go.aloadN X7 hx (pc' := 32) rfl (hb hby d6_31) rfl rfl ?_
  refine Go.getF X7 hx hZ hown (host := "") (Or.inl (tw_35 hw)) Via.refl e7 P2 (pc' := 35) rfl (hb hby d6_32) ?_
  intro T8 e8 X8
  refine Go.callS X8 hx hZ hown (tw_54 hw) (tw_55 hw) (tw_56 hw) (tw_57 hw) (by decide) (tw_57 hw) (tw_56 hw) (au_27 l Z a0 hw x3 x2 x5 x4 kk1 us2 p3 kk0 us0 p1 ga3 gz9 gv13 gk17 gvs18 h0 n0 Z0 O0 G P9 P10 P11 P6 P7 P8 P13 P12 H1 H0 ne_x3_x2) e8 (argsL := [(.ref x3), (.ref x2)]) (rest := []) (pc' := 38) rfl (by rw [hml]; rfl) (lenOf pd_11 rfl) rfl rfl (W := 0) (Nat.le_of_eq rfl) (by decide) (by decide) (by decide) (by decide) (hb hby d6_35) ?_
  intro v9 T9 L9 q9 X9
  rcases q9 with ⟨c9_0_0, rfl, N9_0, e9_0⟩ | ⟨c9_1_0, rfl, N9_1, e9_1⟩
  · show Go _ _ _ _ (T9.setTop (mkF m 38 #[.val (.ref x0), .val (.ref x1)] [(.int 1)]))
    refine Go.ifNo X9 hx (pc' := 41) rfl (hb hby d6_38) (by decide) ?_
    refine Go.iconst X9 hx (pc' := 42) rfl (hb hby d6_41) (v := (1 : Int32)) rfl ?_
    refine Go.goto X9 hx (pc' := 46) (hb hby d6_42) (by decide) (by decide) ?_
    subst hFF
    refine Go.retN X9 hx hlk (t := .boolean) hret (by simp) (hb hby d6_46) (by decide) (by decide) ?_
    rw [e9_0]
    exact Or.inl ⟨c9_0_0, (congrArg (fun z => some (Value.int z)) (by decide : nar .boolean (1 : Int32) = (1 : Int32))), (Fr.app (Fr.app (Fr.nil n0) N5) N9_0), rfl⟩
  · show Go _ _ _ _ (T9.setTop (mkF m 38 #[.val (.ref x0), .val (.ref x1)] [(.int 0)]))
    refine Go.ifYes X9 hx (pc' := 45) (hb hby d6_38) (by decide) (by decide) (by decide) ?_
    refine Go.iconst X9 hx (pc' := 46) rfl (hb hby d6_45) (v := (0 : Int32)) rfl ?_
    subst hFF
    refine Go.retN X9 hx hlk (t := .boolean) hret (by simp) (hb hby d6_46) (by decide) (by decide) ?_
    rw [e9_1]
    exact Or.inr (⟨c9_1_0, (congrArg (fun z => some (Value.int z)) (by decide : nar .boolean (0 : Int32) = (0 : Int32))), (Fr.app (Fr.app (Fr.nil n0) N5) N9_1), rfl⟩)
-- com/example/rockhopper/rockhopper/model/Validators.equals
set_option maxRecDepth 65536 in
set_option maxHeartbeats 4000000 in
theorem au_54 (l : Launch) (Z : State) (a0 : Array Value) (hw : ∀ d ∈ tables_1, d.before a0 Z = true) (x0 : Addr) (x1 : Addr) (x2 : Addr) (h0 : Heap) (n0 : Nat) (Z0 : n0 ≤ h0.size) (P1 : Fld Z h0 x0 "com/example/rockhopper/rockhopper/model/Validators" "etag" "Ljava/lang/String;" .null) (P2 : Fld Z h0 x0 "com/example/rockhopper/rockhopper/model/Validators" "lastModified" "Ljava/lang/String;" (.ref x2)) (P3 : Exa Z h0 x1 "com/example/rockhopper/rockhopper/model/Validators") (P4 : Fld Z h0 x1 "com/example/rockhopper/rockhopper/model/Validators" "etag" "Ljava/lang/String;" .null) (P5 : Fld Z h0 x1 "com/example/rockhopper/rockhopper/model/Validators" "lastModified" "Ljava/lang/String;" .null) :
    Ctr l Z (⟨"com/example/rockhopper/rockhopper/model/Validators", "equals", "(Ljava/lang/Object;)Z"⟩ : MethodName) prog_9_method_4_code 2 (some .boolean) ({ frames := 1, cells := 0, slots := 0, locals := 13 } : Room) #[(.ref x0), (.ref x1)] h0 (fun v h L => v = some (.int 0) ∧ Fr n0 L ∧ h = h0) := by
  refine Ctr.of (plainFor_of_name pn_c3) ?_
  intro p e s m below meth c T0 hx hZ hby hml hown hnm hret hlk e0 es X0
  refine Go.cast (ef_6_RR m x0 x1) ?_
  generalize hFF : EndN s _ _ _ = FF
  refine Go.aloadN X0 hx (pc' := 1) rfl (hb hby d6_0) rfl rfl ?_
  refine Go.instY X0 hx hZ hown (tw_49 hw) e0 (Ins.self P3) (pc' := 4) rfl (hb hby d6_1) ?_
  intro T1 e1 X1
  refine Go.ifNo X1 hx (pc' := 7) rfl (hb hby d6_4) (by decide) ?_
  refine Go.aloadN X1 hx (pc' := 8) rfl (hb hby d6_7) rfl rfl ?_
  refine Go.castY X1 hx hZ hown (tw_49 hw) e1 (Ins.self P3) (pc' := 11) rfl (hb hby d6_8) ?_
  intro T2 e2 X2
  refine Go.getF X2 hx hZ hown (host := "") (Or.inl (tw_33 hw)) Via.refl e2 P4 (pc' := 14) rfl (hb hby d6_11) ?_
  intro T3 e3 X3
  refine Go.aloadN X3 hx (pc' := 15) rfl (hb hby d6_14) rfl rfl ?_
  refine Go.getF X3 hx hZ hown (host := "") (Or.inl (tw_33 hw)) Via.refl e3 P1 (pc' := 18) rfl (hb hby d6_15) ?_
  intro T4 e4 X4
  refine Go.callS X4 hx hZ hown (tw_54 hw) (tw_55 hw) (tw_56 hw) (tw_57 hw) (by decide) (tw_57 hw) (tw_56 hw) (au_44 l Z a0 hw h0 n0 Z0) e4 (argsL := [.null, .null]) (rest := []) (pc' := 21) rfl (by rw [hml]; rfl) (lenOf pd_11 rfl) rfl rfl (W := 0) (Nat.le_of_eq rfl) (by decide) (by decide) (by decide) (by decide) (hb hby d6_18) ?_
  intro v5 T5 L5 q5 X5
  obtain ⟨rfl, N5, e5⟩ := q5
  show Go _ _ _ _ (T5.setTop (mkF m 21 #[.val (.ref x0), .val (.ref x1)] [(.int 1)]))
  refine Go.ifNo X5 hx (pc' := 24) rfl (hb hby d6_21) (by decide) ?_
  refine Go.aloadN X5 hx (pc' := 25) rfl (hb hby d6_24) rfl rfl ?_
  refine Go.castY X5 hx hZ hown (tw_49 hw) e5 (Ins.self P3) (pc' := 28) rfl (hb hby d6_25) ?_
  intro T6 e6 X6
  refine Go.getF X6 hx hZ hown (host := "") (Or.inl (tw_35 hw)) Via.refl e6 P5 (pc' := 31) rfl (hb hby d6_28) ?_
  intro T7 e7 X7
  refine Go.aloadN X7 hx (pc' := 32) rfl (hb hby d6_31) rfl rfl ?_
  refine Go.getF X7 hx hZ hown (host := "") (Or.inl (tw_35 hw)) Via.refl e7 P2 (pc' := 35) rfl (hb hby d6_32) ?_
  intro T8 e8 X8
  refine Go.callS X8 hx hZ hown (tw_54 hw) (tw_55 hw) (tw_56 hw) (tw_57 hw) (by decide) (tw_57 hw) (tw_56 hw) (au_31 l Z a0 hw x2 h0 n0 Z0) e8 (argsL := [.null, (.ref x2)]) (rest := []) (pc' := 38) rfl (by rw [hml]; rfl) (lenOf pd_11 rfl) rfl rfl (W := 0) (Nat.le_of_eq rfl) (by decide) (by decide) (by decide) (by decide) (hb hby d6_35) ?_
  intro v9 T9 L9 q9 X9
  obtain ⟨rfl, N9, e9⟩ := q9
  show Go _ _ _ _ (T9.setTop (mkF m 38 #[.val (.ref x0), .val (.ref x1)] [(.int 0)]))
  refine Go.ifYes X9 hx (pc' := 45) (hb hby d6_38) (by decide) (by decide) (by decide) ?_
  refine Go.iconst X9 hx (pc' := 46) rfl (hb hby d6_45) (v := (0 : Int32)) rfl ?_
  subst hFF
  refine Go.retN X9 hx hlk (t := .boolean) hret (by simp) (hb hby d6_46) (by decide) (by decide) ?_
  rw [e9]
  exact ⟨(congrArg (fun z => some (Value.int z)) (by decide : nar .boolean (0 : Int32) = (0 : Int32))), (Fr.app (Fr.app (Fr.nil n0) N5) N9), rfl⟩
-- com/example/rockhopper/rockhopper/model/Validators.equals
set_option maxRecDepth 65536 in
set_option maxHeartbeats 4000000 in
theorem au_55 (l : Launch) (Z : State) (a0 : Array Value) (hw : ∀ d ∈ tables_1, d.before a0 Z = true) (x0 : Addr) (x1 : Addr) (x2 : Addr) (h0 : Heap) (n0 : Nat) (Z0 : n0 ≤ h0.size) (P1 : Fld Z h0 x0 "com/example/rockhopper/rockhopper/model/Validators" "etag" "Ljava/lang/String;" .null) (P2 : Fld Z h0 x0 "com/example/rockhopper/rockhopper/model/Validators" "lastModified" "Ljava/lang/String;" .null) (P3 : Exa Z h0 x1 "com/example/rockhopper/rockhopper/model/Validators") (P4 : Fld Z h0 x1 "com/example/rockhopper/rockhopper/model/Validators" "etag" "Ljava/lang/String;" .null) (P5 : Fld Z h0 x1 "com/example/rockhopper/rockhopper/model/Validators" "lastModified" "Ljava/lang/String;" (.ref x2)) (P6 : Exa Z h0 x2 "java/lang/String") :
    Ctr l Z (⟨"com/example/rockhopper/rockhopper/model/Validators", "equals", "(Ljava/lang/Object;)Z"⟩ : MethodName) prog_9_method_4_code 2 (some .boolean) ({ frames := 2, cells := 0, slots := 0, locals := 27 } : Room) #[(.ref x0), (.ref x1)] h0 (fun v h L => v = some (.int 0) ∧ Fr n0 L ∧ h = h0) := by
  refine Ctr.of (plainFor_of_name pn_c3) ?_
  intro p e s m below meth c T0 hx hZ hby hml hown hnm hret hlk e0 es X0
  refine Go.cast (ef_6_RR m x0 x1) ?_
  generalize hFF : EndN s _ _ _ = FF
  refine Go.aloadN X0 hx (pc' := 1) rfl (hb hby d6_0) rfl rfl ?_
  refine Go.instY X0 hx hZ hown (tw_49 hw) e0 (Ins.self P3) (pc' := 4) rfl (hb hby d6_1) ?_
  intro T1 e1 X1
  refine Go.ifNo X1 hx (pc' := 7) rfl (hb hby d6_4) (by decide) ?_
  refine Go.aloadN X1 hx (pc' := 8) rfl (hb hby d6_7) rfl rfl ?_
  refine Go.castY X1 hx hZ hown (tw_49 hw) e1 (Ins.self P3) (pc' := 11) rfl (hb hby d6_8) ?_
  intro T2 e2 X2
  refine Go.getF X2 hx hZ hown (host := "") (Or.inl (tw_33 hw)) Via.refl e2 P4 (pc' := 14) rfl (hb hby d6_11) ?_
  intro T3 e3 X3
  refine Go.aloadN X3 hx (pc' := 15) rfl (hb hby d6_14) rfl rfl ?_
  refine Go.getF X3 hx hZ hown (host := "") (Or.inl (tw_33 hw)) Via.refl e3 P1 (pc' := 18) rfl (hb hby d6_15) ?_
  intro T4 e4 X4
  refine Go.callS X4 hx hZ hown (tw_54 hw) (tw_55 hw) (tw_56 hw) (tw_57 hw) (by decide) (tw_57 hw) (tw_56 hw) (au_44 l Z a0 hw h0 n0 Z0) e4 (argsL := [.null, .null]) (rest := []) (pc' := 21) rfl (by rw [hml]; rfl) (lenOf pd_11 rfl) rfl rfl (W := 0) (Nat.le_of_eq rfl) (by decide) (by decide) (by decide) (by decide) (hb hby d6_18) ?_
  intro v5 T5 L5 q5 X5
  obtain ⟨rfl, N5, e5⟩ := q5
  show Go _ _ _ _ (T5.setTop (mkF m 21 #[.val (.ref x0), .val (.ref x1)] [(.int 1)]))
  refine Go.ifNo X5 hx (pc' := 24) rfl (hb hby d6_21) (by decide) ?_
  refine Go.aloadN X5 hx (pc' := 25) rfl (hb hby d6_24) rfl rfl ?_
  refine Go.castY X5 hx hZ hown (tw_49 hw) e5 (Ins.self P3) (pc' := 28) rfl (hb hby d6_25) ?_
  intro T6 e6 X6
  refine Go.getF X6 hx hZ hown (host := "") (Or.inl (tw_35 hw)) Via.refl e6 P5 (pc' := 31) rfl (hb hby d6_28) ?_
  intro T7 e7 X7
  refine Go.aloadN X7 hx (pc' := 32) rfl (hb hby d6_31) rfl rfl ?_
  refine Go.getF X7 hx hZ hown (host := "") (Or.inl (tw_35 hw)) Via.refl e7 P2 (pc' := 35) rfl (hb hby d6_32) ?_
  intro T8 e8 X8
  refine Go.callS X8 hx hZ hown (tw_54 hw) (tw_55 hw) (tw_56 hw) (tw_57 hw) (by decide) (tw_57 hw) (tw_56 hw) (au_33 l Z a0 hw x2 h0 n0 Z0 P6) e8 (argsL := [(.ref x2), .null]) (rest := []) (pc' := 38) rfl (by rw [hml]; rfl) (lenOf pd_11 rfl) rfl rfl (W := 0) (Nat.le_of_eq rfl) (by decide) (by decide) (by decide) (by decide) (hb hby d6_35) ?_
  intro v9 T9 L9 q9 X9
  obtain ⟨rfl, N9, e9⟩ := q9
  show Go _ _ _ _ (T9.setTop (mkF m 38 #[.val (.ref x0), .val (.ref x1)] [(.int 0)]))
  refine Go.ifYes X9 hx (pc' := 45) (hb hby d6_38) (by decide) (by decide) (by decide) ?_
  refine Go.iconst X9 hx (pc' := 46) rfl (hb hby d6_45) (v := (0 : Int32)) rfl ?_
  subst hFF
  refine Go.retN X9 hx hlk (t := .boolean) hret (by simp) (hb hby d6_46) (by decide) (by decide) ?_
  rw [e9]
  exact ⟨(congrArg (fun z => some (Value.int z)) (by decide : nar .boolean (0 : Int32) = (0 : Int32))), (Fr.app (Fr.app (Fr.nil n0) N5) N9), rfl⟩
-- com/example/rockhopper/rockhopper/model/Validators.equals
set_option maxRecDepth 65536 in
set_option maxHeartbeats 4000000 in
theorem au_56 (l : Launch) (Z : State) (a0 : Array Value) (hw : ∀ d ∈ tables_1, d.before a0 Z = true) (x0 : Addr) (h0 : Heap) (n0 : Nat) (Z0 : n0 ≤ h0.size) :
    Ctr l Z (⟨"com/example/rockhopper/rockhopper/model/Validators", "equals", "(Ljava/lang/Object;)Z"⟩ : MethodName) prog_9_method_4_code 2 (some .boolean) ({ frames := 0, cells := 0, slots := 0, locals := 0 } : Room) #[(.ref x0), .null] h0 (fun v h L => v = some (.int 0) ∧ Fr n0 L ∧ h = h0) := by
  refine Ctr.of (plainFor_of_name pn_c3) ?_
  intro p e s m below meth c T0 hx hZ hby hml hown hnm hret hlk e0 es X0
  refine Go.cast (ef_6_RN m x0) ?_
  generalize hFF : EndN s _ _ _ = FF
  refine Go.aloadN X0 hx (pc' := 1) rfl (hb hby d6_0) rfl rfl ?_
  refine Go.step (fun t kt => X0.instanceofNull hx (g := (mkF m 1 #[.val (.ref x0), .val .null] [.null])) rfl rfl (hb hby d6_1) t kt) ?_
  show Go _ _ _ _ (T0.setTop (mkF m 4 #[.val (.ref x0), .val .null] [(.int 0)]))
  refine Go.ifYes X0 hx (pc' := 45) (hb hby d6_4) (by decide) (by decide) (by decide) ?_
  refine Go.iconst X0 hx (pc' := 46) rfl (hb hby d6_45) (v := (0 : Int32)) rfl ?_
  subst hFF
  refine Go.retN X0 hx hlk (t := .boolean) hret (by simp) (hb hby d6_46) (by decide) (by decide) ?_
  rw [e0]
  exact ⟨(congrArg (fun z => some (Value.int z)) (by decide : nar .boolean (0 : Int32) = (0 : Int32))), (Fr.nil n0), rfl⟩
-- com/example/rockhopper/rockhopper/model/Validators.equals
set_option maxRecDepth 65536 in
set_option maxHeartbeats 4000000 in
theorem au_57 (l : Launch) (Z : State) (a0 : Array Value) (hw : ∀ d ∈ tables_1, d.before a0 Z = true) (x0 : Addr) (x1 : Addr) (h0 : Heap) (n0 : Nat) (Z0 : n0 ≤ h0.size) (P3 : Exa Z h0 x1 "java/lang/Integer") :
    Ctr l Z (⟨"com/example/rockhopper/rockhopper/model/Validators", "equals", "(Ljava/lang/Object;)Z"⟩ : MethodName) prog_9_method_4_code 2 (some .boolean) ({ frames := 0, cells := 0, slots := 0, locals := 0 } : Room) #[(.ref x0), (.ref x1)] h0 (fun v h L => v = some (.int 0) ∧ Fr n0 L ∧ h = h0) := by
  refine Ctr.of (plainFor_of_name pn_c3) ?_
  intro p e s m below meth c T0 hx hZ hby hml hown hnm hret hlk e0 es X0
  refine Go.cast (ef_6_RR m x0 x1) ?_
  generalize hFF : EndN s _ _ _ = FF
  refine Go.aloadN X0 hx (pc' := 1) rfl (hb hby d6_0) rfl rfl ?_
  refine Go.instN X0 hx hZ hown (tw_49 hw) e0 P3 (own_NSno (tw_50 hw) (tw_1 hw) (NS.step (tw_50 hw) (NS.step (tw_51 hw) (own_NSroot (tw_52 hw) (tw_1 hw) (by decide)) (by decide)) (by decide)) (by decide)) (pc' := 4) rfl (hb hby d6_1) ?_
  intro T1 e1 X1
  refine Go.ifYes X1 hx (pc' := 45) (hb hby d6_4) (by decide) (by decide) (by decide) ?_
  refine Go.iconst X1 hx (pc' := 46) rfl (hb hby d6_45) (v := (0 : Int32)) rfl ?_
  subst hFF
  refine Go.retN X1 hx hlk (t := .boolean) hret (by simp) (hb hby d6_46) (by decide) (by decide) ?_
  rw [e1]
  exact ⟨(congrArg (fun z => some (Value.int z)) (by decide : nar .boolean (0 : Int32) = (0 : Int32))), (Fr.nil n0), rfl⟩
-- com/example/rockhopper/rockhopper/model/Validators.equals
set_option maxRecDepth 65536 in
set_option maxHeartbeats 4000000 in
theorem au_58 (l : Launch) (Z : State) (a0 : Array Value) (hw : ∀ d ∈ tables_1, d.before a0 Z = true) (x0 : Addr) (h0 : Heap) (n0 : Nat) (Z0 : n0 ≤ h0.size) (P0 : Exa Z h0 x0 "com/example/rockhopper/rockhopper/model/Validators") (P1 : Fld Z h0 x0 "com/example/rockhopper/rockhopper/model/Validators" "etag" "Ljava/lang/String;" .null) (P2 : Fld Z h0 x0 "com/example/rockhopper/rockhopper/model/Validators" "lastModified" "Ljava/lang/String;" .null) :
    Ctr l Z (⟨"com/example/rockhopper/rockhopper/model/Validators", "equals", "(Ljava/lang/Object;)Z"⟩ : MethodName) prog_9_method_4_code 2 (some .boolean) ({ frames := 1, cells := 0, slots := 0, locals := 13 } : Room) #[(.ref x0), (.ref x0)] h0 (fun v h L => v = some (.int 1) ∧ Fr n0 L ∧ h = h0) := by
  refine Ctr.of (plainFor_of_name pn_c3) ?_
  intro p e s m below meth c T0 hx hZ hby hml hown hnm hret hlk e0 es X0
  refine Go.cast (ef_6_RR m x0 x0) ?_
  generalize hFF : EndN s _ _ _ = FF
  refine Go.aloadN X0 hx (pc' := 1) rfl (hb hby d6_0) rfl rfl ?_
  refine Go.instY X0 hx hZ hown (tw_49 hw) e0 (Ins.self P0) (pc' := 4) rfl (hb hby d6_1) ?_
  intro T1 e1 X1
  refine Go.ifNo X1 hx (pc' := 7) rfl (hb hby d6_4) (by decide) ?_
  refine Go.aloadN X1 hx (pc' := 8) rfl (hb hby d6_7) rfl rfl ?_
  refine Go.castY X1 hx hZ hown (tw_49 hw) e1 (Ins.self P0) (pc' := 11) rfl (hb hby d6_8) ?_
  intro T2 e2 X2
  refine Go.getF X2 hx hZ hown (host := "") (Or.inl (tw_33 hw)) Via.refl e2 P1 (pc' := 14) rfl (hb hby d6_11) ?_
  intro T3 e3 X3
  refine Go.aloadN X3 hx (pc' := 15) rfl (hb hby d6_14) rfl rfl ?_
  refine Go.getF X3 hx hZ hown (host := "") (Or.inl (tw_33 hw)) Via.refl e3 P1 (pc' := 18) rfl (hb hby d6_15) ?_
  intro T4 e4 X4
  refine Go.callS X4 hx hZ hown (tw_54 hw) (tw_55 hw) (tw_56 hw) (tw_57 hw) (by decide) (tw_57 hw) (tw_56 hw) (au_44 l Z a0 hw h0 n0 Z0) e4 (argsL := [.null, .null]) (rest := []) (pc' := 21) rfl (by rw [hml]; rfl) (lenOf pd_11 rfl) rfl rfl (W := 0) (Nat.le_of_eq rfl) (by decide) (by decide) (by decide) (by decide) (hb hby d6_18) ?_
  intro v5 T5 L5 q5 X5
  obtain ⟨rfl, N5, e5⟩ := q5
  show Go _ _ _ _ (T5.setTop (mkF m 21 #[.val (.ref x0), .val (.ref x0)] [(.int 1)]))
  refine Go.ifNo X5 hx (pc' := 24) rfl (hb hby d6_21) (by decide) ?_
  refine Go.aloadN X5 hx (pc' := 25) rfl (hb hby d6_24) rfl rfl ?_
  refine Go.castY X5 hx hZ hown (tw_49 hw) e5 (Ins.self P0) (pc' := 28) rfl (hb hby d6_25) ?_
  intro T6 e6 X6
  refine Go.getF X6 hx hZ hown (host := "") (Or.inl (tw_35 hw)) Via.refl e6 P2 (pc' := 31) rfl (hb hby d6_28) ?_
  intro T7 e7 X7
  refine Go.aloadN X7 hx (pc' := 32) rfl (hb hby d6_31) rfl rfl ?_
  refine Go.getF X7 hx hZ hown (host := "") (Or.inl (tw_35 hw)) Via.refl e7 P2 (pc' := 35) rfl (hb hby d6_32) ?_
  intro T8 e8 X8
  refine Go.callS X8 hx hZ hown (tw_54 hw) (tw_55 hw) (tw_56 hw) (tw_57 hw) (by decide) (tw_57 hw) (tw_56 hw) (au_44 l Z a0 hw h0 n0 Z0) e8 (argsL := [.null, .null]) (rest := []) (pc' := 38) rfl (by rw [hml]; rfl) (lenOf pd_11 rfl) rfl rfl (W := 0) (Nat.le_of_eq rfl) (by decide) (by decide) (by decide) (by decide) (hb hby d6_35) ?_
  intro v9 T9 L9 q9 X9
  obtain ⟨rfl, N9, e9⟩ := q9
  show Go _ _ _ _ (T9.setTop (mkF m 38 #[.val (.ref x0), .val (.ref x0)] [(.int 1)]))
  refine Go.ifNo X9 hx (pc' := 41) rfl (hb hby d6_38) (by decide) ?_
  refine Go.iconst X9 hx (pc' := 42) rfl (hb hby d6_41) (v := (1 : Int32)) rfl ?_
  refine Go.goto X9 hx (pc' := 46) (hb hby d6_42) (by decide) (by decide) ?_
  subst hFF
  refine Go.retN X9 hx hlk (t := .boolean) hret (by simp) (hb hby d6_46) (by decide) (by decide) ?_
  rw [e9]
  exact ⟨(congrArg (fun z => some (Value.int z)) (by decide : nar .boolean (1 : Int32) = (1 : Int32))), (Fr.app (Fr.app (Fr.nil n0) N5) N9), rfl⟩
-- com/example/rockhopper/rockhopper/model/Validators.equals
set_option maxRecDepth 65536 in
set_option maxHeartbeats 4000000 in
theorem au_59 (l : Launch) (Z : State) (a0 : Array Value) (hw : ∀ d ∈ tables_1, d.before a0 Z = true) (x0 : Addr) (x1 : Addr) (h0 : Heap) (n0 : Nat) (Z0 : n0 ≤ h0.size) (P1 : Fld Z h0 x0 "com/example/rockhopper/rockhopper/model/Validators" "etag" "Ljava/lang/String;" .null) (P2 : Fld Z h0 x0 "com/example/rockhopper/rockhopper/model/Validators" "lastModified" "Ljava/lang/String;" .null) (P3 : Exa Z h0 x1 "com/example/rockhopper/rockhopper/model/Validators") (P4 : Fld Z h0 x1 "com/example/rockhopper/rockhopper/model/Validators" "etag" "Ljava/lang/String;" .null) (P5 : Fld Z h0 x1 "com/example/rockhopper/rockhopper/model/Validators" "lastModified" "Ljava/lang/String;" .null) :
    Ctr l Z (⟨"com/example/rockhopper/rockhopper/model/Validators", "equals", "(Ljava/lang/Object;)Z"⟩ : MethodName) prog_9_method_4_code 2 (some .boolean) ({ frames := 1, cells := 0, slots := 0, locals := 13 } : Room) #[(.ref x0), (.ref x1)] h0 (fun v h L => v = some (.int 1) ∧ Fr n0 L ∧ h = h0) := by
  refine Ctr.of (plainFor_of_name pn_c3) ?_
  intro p e s m below meth c T0 hx hZ hby hml hown hnm hret hlk e0 es X0
  refine Go.cast (ef_6_RR m x0 x1) ?_
  generalize hFF : EndN s _ _ _ = FF
  refine Go.aloadN X0 hx (pc' := 1) rfl (hb hby d6_0) rfl rfl ?_
  refine Go.instY X0 hx hZ hown (tw_49 hw) e0 (Ins.self P3) (pc' := 4) rfl (hb hby d6_1) ?_
  intro T1 e1 X1
  refine Go.ifNo X1 hx (pc' := 7) rfl (hb hby d6_4) (by decide) ?_
  refine Go.aloadN X1 hx (pc' := 8) rfl (hb hby d6_7) rfl rfl ?_
  refine Go.castY X1 hx hZ hown (tw_49 hw) e1 (Ins.self P3) (pc' := 11) rfl (hb hby d6_8) ?_
  intro T2 e2 X2
  refine Go.getF X2 hx hZ hown (host := "") (Or.inl (tw_33 hw)) Via.refl e2 P4 (pc' := 14) rfl (hb hby d6_11) ?_
  intro T3 e3 X3
  refine Go.aloadN X3 hx (pc' := 15) rfl (hb hby d6_14) rfl rfl ?_
  refine Go.getF X3 hx hZ hown (host := "") (Or.inl (tw_33 hw)) Via.refl e3 P1 (pc' := 18) rfl (hb hby d6_15) ?_
  intro T4 e4 X4
  refine Go.callS X4 hx hZ hown (tw_54 hw) (tw_55 hw) (tw_56 hw) (tw_57 hw) (by decide) (tw_57 hw) (tw_56 hw) (au_44 l Z a0 hw h0 n0 Z0) e4 (argsL := [.null, .null]) (rest := []) (pc' := 21) rfl (by rw [hml]; rfl) (lenOf pd_11 rfl) rfl rfl (W := 0) (Nat.le_of_eq rfl) (by decide) (by decide) (by decide) (by decide) (hb hby d6_18) ?_
  intro v5 T5 L5 q5 X5
  obtain ⟨rfl, N5, e5⟩ := q5
  show Go _ _ _ _ (T5.setTop (mkF m 21 #[.val (.ref x0), .val (.ref x1)] [(.int 1)]))
  refine Go.ifNo X5 hx (pc' := 24) rfl (hb hby d6_21) (by decide) ?_
  refine Go.aloadN X5 hx (pc' := 25) rfl (hb hby d6_24) rfl rfl ?_
  refine Go.castY X5 hx hZ hown (tw_49 hw) e5 (Ins.self P3) (pc' := 28) rfl (hb hby d6_25) ?_
  intro T6 e6 X6
  refine Go.getF X6 hx hZ hown (host := "") (Or.inl (tw_35 hw)) Via.refl e6 P5 (pc' := 31) rfl (hb hby d6_28) ?_
  intro T7 e7 X7
  refine Go.aloadN X7 hx (pc' := 32) rfl (hb hby d6_31) rfl rfl ?_
  refine Go.getF X7 hx hZ hown (host := "") (Or.inl (tw_35 hw)) Via.refl e7 P2 (pc' := 35) rfl (hb hby d6_32) ?_
  intro T8 e8 X8
  refine Go.callS X8 hx hZ hown (tw_54 hw) (tw_55 hw) (tw_56 hw) (tw_57 hw) (by decide) (tw_57 hw) (tw_56 hw) (au_44 l Z a0 hw h0 n0 Z0) e8 (argsL := [.null, .null]) (rest := []) (pc' := 38) rfl (by rw [hml]; rfl) (lenOf pd_11 rfl) rfl rfl (W := 0) (Nat.le_of_eq rfl) (by decide) (by decide) (by decide) (by decide) (hb hby d6_35) ?_
  intro v9 T9 L9 q9 X9
  obtain ⟨rfl, N9, e9⟩ := q9
  show Go _ _ _ _ (T9.setTop (mkF m 38 #[.val (.ref x0), .val (.ref x1)] [(.int 1)]))
  refine Go.ifNo X9 hx (pc' := 41) rfl (hb hby d6_38) (by decide) ?_
  refine Go.iconst X9 hx (pc' := 42) rfl (hb hby d6_41) (v := (1 : Int32)) rfl ?_
  refine Go.goto X9 hx (pc' := 46) (hb hby d6_42) (by decide) (by decide) ?_
  subst hFF
  refine Go.retN X9 hx hlk (t := .boolean) hret (by simp) (hb hby d6_46) (by decide) (by decide) ?_
  rw [e9]
  exact ⟨(congrArg (fun z => some (Value.int z)) (by decide : nar .boolean (1 : Int32) = (1 : Int32))), (Fr.app (Fr.app (Fr.nil n0) N5) N9), rfl⟩
theorem ef_0_IIIII (m : MethodId) (x0 : Int32) (x1 : Int32) (x2 : Int32) (x3 : Int32) (x4 : Int32) : entryFrame m #[(.int x0), (.int x1), (.int x2), (.int x3), (.int x4)] maxLocals = mkF m 0 #[.val (.int x0), .val (.int x1), .val (.int x2), .val (.int x3), .val (.int x4), .unset, .unset, .unset, .unset, .unset, .unset] [] := by first | (simp [entryFrame, mkF, argsToLocals, Value.category, maxLocals]; done) | rfl
set_option maxRecDepth 65536 in
set_option maxHeartbeats 40000000 in
theorem rm0 (l : Launch) (Z : State) (a0 : Array Value) (hw : ∀ d ∈ tables_1, d.before a0 Z = true) (p0 : Int32) (p1 : Int32) (p2 : Int32) (p3 : Int32) (p4 : Int32) (ga3 : Addr) (gz9 : Int32) (gv13 : Value) (gk17 : ClassId) (gvs18 : List Value) (h0 : Heap) (n0 : Nat) (Z0 : n0 ≤ h0.size) (O0 : Old Z n0 h0) (G : Glob Z ga3 gz9 gv13 gk17 gvs18) :
    CtrW l Z EL0 x code maxLocals ret room_1 #[(.int p0), (.int p1), (.int p2), (.int p3), (.int p4)] h0 [] (fun v vm h L => v = some (.int (1 : Int32)) ∧ Fr n0 L) := by
  refine CtrW.of (plainFor_of_name pn_c2) ?_
  intro p e s m below meth c T0 hx hZ hby hml hown hnm hret hlk e0 es hS0 C0 hsf X0
  refine Go.cast (ef_0_IIIII m p0 p1 p2 p3 p4) ?_
  have J1 : ∀ (jv1_5 : Int32),  Go p e below (EndW Z EL0 s (fun v vm h L => v = some (.int (1 : Int32)) ∧ Fr n0 L) room_1.cells room_1.slots) (T0.setTop (mkF m 14 #[.val (.int p0), .val (.int p1), .val (.int p2), .val (.int p3), .val (.int p4), .val (.int jv1_5), .unset, .unset, .unset, .unset, .unset] [])) := by
    intro jv1_5 
    have J2 : ∀ (jv2_6 : Int32),  Go p e below (EndW Z EL0 s (fun v vm h L => v = some (.int (1 : Int32)) ∧ Fr n0 L) room_1.cells room_1.slots) (T0.setTop (mkF m 28 #[.val (.int p0), .val (.int p1), .val (.int p2), .val (.int p3), .val (.int p4), .val (.int jv1_5), .val (.int jv2_6), .unset, .unset, .unset, .unset] [])) := by
      intro jv2_6 
      refine Go.new X0 hx hZ hown (tw_0 hw) (tw_1 hw) (tw_2 hw) e0 (by decide) (by decide) (pc' := 31) rfl (hb hby at_28) ?_
      intro T3 h3 b3 e3 E3 g3 A3 D3 X3
      have b3_etag : Fld Z h3 b3 "com/example/rockhopper/rockhopper/model/Validators" "etag" "Ljava/lang/String;" .null := D3 (Or.inr (tw_34 hw)) (ty := (.object "java/lang/String")) (by decide)
      have b3_lastModified : Fld Z h3 b3 "com/example/rockhopper/rockhopper/model/Validators" "lastModified" "Ljava/lang/String;" .null := D3 (Or.inr (tw_36 hw)) (ty := (.object "java/lang/String")) (by decide)
      refine Go.dup X3 hx (pc' := 32) rfl (hb hby at_31) rfl ?_
      refine Go.iloadN X3 hx (pc' := 33) rfl (hb hby at_32) rfl ?_
      have Kp5 : Keep h0 h3 [] := ((Keep.refl h0 []).ext E3)
      have Zn4 : n0 ≤ h3.size := Nat.le_trans Z0 Kp5.1
      have O6 := (O0.ext E3)
      have C7 : CHr Z EL0 s.vm s.heap s.vm h3 := (C0.trans (CHr.ext E3 C0.1))
      have fk8 : Safe Z EL0 s.vm h3 b3 := (Safe.ext E3 C0.1 (Safe.new (Nat.le_of_eq g3.symm) : Safe Z EL0 s.vm h0 b3))
      have hk9 := (Nat.le_trans (Nat.le_refl _) E3.1)
      refine Go.callSW X3 hx hZ hown (tw_3 hw) (tw_4 hw) (tw_5 hw) (tw_6 hw) (by decide) (tw_6 hw) (tw_5 hw) (au_6 l Z a0 hw p0 b3 ga3 gz9 gv13 gk17 gvs18 h3 n0 Zn4 O6 G A3) (own_EW hw) C7.1 (allS ⟨A3.lt, fk8⟩ all0) hS0 hk9 e3 (argsL := [(.int p0)]) (rest := [(.ref b3), (.ref b3)]) (pc' := 36) rfl (by rw [hml]; rfl) (lenOf pd_5 rfl) rfl rfl (W := 2) (Nat.le_of_eq rfl) (by decide) (by decide) (by decide) (by decide) (hb hby at_33) ?_
      intro v10 T10 L10 h10 e10 q10 C10 S10 Z10 O10 X10
      rcases q10 with ⟨z10_0_0, z10_0_1, b10_0_0, b10_0_1, k10_0_0, c10_0_0, c10_0_1, rfl, N10_0, K10_0, s10_0_0, n10_0_0, y10_0_0, F10_0_0, F10_0_1, F10_0_2, F10_0_3⟩ | ⟨c10_1_0, rfl, N10_1, K10_1⟩
      · show Go _ _ _ _ (T10.setTop (mkF m 36 #[.val (.int p0), .val (.int p1), .val (.int p2), .val (.int p3), .val (.int p4), .val (.int jv1_5), .val (.int jv2_6), .unset, .unset, .unset, .unset] [(.ref b10_0_0), (.ref b3), (.ref b3)]))
        refine Go.iloadN X10 hx (pc' := 37) rfl (hb hby at_36) rfl ?_
        have Kp12 : Keep h0 h10 [] := (Kp5.trans K10_0 all0)
        have Zn11 : n0 ≤ h10.size := Nat.le_trans Z0 Kp12.1
        have O13 := (O6.keep K10_0 all0)
        have fk14 : Exa Z h10 b3 "com/example/rockhopper/rockhopper/model/Validators" := (A3.keep K10_0)
        have C15 : CHr Z EL0 s.vm s.heap T10.vm h10 := (C7.trans C10)
        have fk16 : Safe Z EL0 T10.vm h10 b3 := (C10.safe A3.lt fk8)
        refine Go.callSW X10 hx Z10 O10 (tw_3 hw) (tw_4 hw) (tw_5 hw) (tw_6 hw) (by decide) (tw_6 hw) (tw_5 hw) (au_6 l Z a0 hw p1 b3 ga3 gz9 gv13 gk17 gvs18 h10 n0 Zn11 O13 G fk14) (own_EW hw) C15.1 (allS ⟨fk14.lt, fk16⟩ all0) S10 (Nat.le_refl _) e10 (argsL := [(.int p1)]) (rest := [(.ref b10_0_0), (.ref b3), (.ref b3)]) (pc' := 40) rfl (by rw [hml]; rfl) (lenOf pd_5 rfl) rfl rfl (W := 3) (Nat.le_of_eq rfl) (by decide) (by decide) (by decide) (by decide) (hb hby at_37) ?_
        intro v17 T17 L17 h17 e17 q17 C17 S17 Z17 O17 X17
        rcases q17 with ⟨z17_0_0, z17_0_1, b17_0_0, b17_0_1, k17_0_0, c17_0_0, c17_0_1, rfl, N17_0, K17_0, s17_0_0, n17_0_0, y17_0_0, F17_0_0, F17_0_1, F17_0_2, F17_0_3⟩ | ⟨c17_1_0, rfl, N17_1, K17_1⟩
        · show Go _ _ _ _ (T17.setTop (mkF m 40 #[.val (.int p0), .val (.int p1), .val (.int p2), .val (.int p3), .val (.int p4), .val (.int jv1_5), .val (.int jv2_6), .unset, .unset, .unset, .unset] [(.ref b17_0_0), (.ref b10_0_0), (.ref b3), (.ref b3)]))
          have Kp19 : Keep h0 h17 [] := (Kp12.trans K17_0 all0)
          have Zn18 : n0 ≤ h17.size := Nat.le_trans Z0 Kp19.1
          have fk20 : Exa Z h17 b3 "com/example/rockhopper/rockhopper/model/Validators" := (fk14.keep K17_0)
          have fk21 : Fld Z h17 b3 "com/example/rockhopper/rockhopper/model/Validators" "etag" "Ljava/lang/String;" .null := ((b3_etag.keep K10_0 nin0).keep K17_0 nin0)
          have fk22 : Fld Z h17 b3 "com/example/rockhopper/rockhopper/model/Validators" "lastModified" "Ljava/lang/String;" .null := ((b3_lastModified.keep K10_0 nin0).keep K17_0 nin0)
          have sz24 : h0.size ≤ b3 := Nat.le_trans (Keep.refl h0 []).1 (Nat.le_of_eq g3.symm)
          have ge23 : n0 ≤ b3 := Nat.le_trans Z0 sz24
          refine Go.callN X17 hx Z17 O17 rfl (tw_29 hw) (tw_30 hw) (tw_31 hw) (by decide) (tw_31 hw) (tw_2 hw) (au_17 l Z a0 hw b3 b10_0_0 b17_0_0 h17 n0 Zn18 fk20 fk21 fk22 ge23) e17 (a := b3) (argsL := [(.ref b10_0_0), (.ref b17_0_0)]) (rest := [(.ref b3)]) (pc' := 43) rfl (by rw [hml]; rfl) (lenOf pd_6 rfl) rfl rfl (W := 1) (Nat.le_of_eq rfl) (by decide) (by decide) (by decide) (by decide) (hb hby at_40) ?_
          intro v25 T25 L25 q25 X25
          obtain ⟨h25, e25⟩ : ∃ z, T25.heap = z := ⟨_, rfl⟩
          rw [e25] at q25
          obtain ⟨rfl, N25, K25, F25_0, F25_1, F25_2⟩ := q25
          show Go _ _ _ _ (T25.setTop (mkF m 43 #[.val (.int p0), .val (.int p1), .val (.int p2), .val (.int p3), .val (.int p4), .val (.int jv1_5), .val (.int jv2_6), .unset, .unset, .unset, .unset] [(.ref b3)]))
          refine Go.astore X25 hx (pc' := 45) rfl (hb hby at_43) (Ls' := #[.val (.int p0), .val (.int p1), .val (.int p2), .val (.int p3), .val (.int p4), .val (.int jv1_5), .val (.int jv2_6), .val (.ref b3), .unset, .unset, .unset]) rfl rfl ?_
          refine Go.iload X25 hx (pc' := 47) rfl (hb hby at_45) rfl ?_
          refine Go.iconst X25 hx (pc' := 48) rfl (hb hby at_47) (v := (2 : Int32)) rfl ?_
          refine Go.iushr X25 hx (pc' := 49) rfl (hb hby at_48) ?_
          generalize hz26 : ((p4.toUInt32 >>> ((2 : Int32) &&& 31).toUInt32).toInt32) = z26
          refine Go.iconst X25 hx (pc' := 50) rfl (hb hby at_49) (v := (3 : Int32)) rfl ?_
          refine Go.iand X25 hx (pc' := 51) rfl (hb hby at_50) ?_
          have r27 : 0 ≤ z26.toInt ∧ z26.toInt ≤ 1073741823 := own_rushr hz26 (k := 2) (by decide) (by decide) (by decide)
          generalize hz28 : (z26 &&& (3 : Int32)) = z28
          refine Go.istore X25 hx (pc' := 53) rfl (hb hby at_51) (Ls' := #[.val (.int p0), .val (.int p1), .val (.int p2), .val (.int p3), .val (.int p4), .val (.int jv1_5), .val (.int jv2_6), .val (.ref b3), .val (.int z28), .unset, .unset]) rfl ?_
          refine Go.iload X25 hx (pc' := 55) rfl (hb hby at_53) rfl ?_
          have r29 : 0 ≤ z28.toInt ∧ z28.toInt ≤ 3 := own_rand hz28 (by decide)
          by_cases hc30 : z28 = (0 : Int32)
          · refine Go.ifNo X25 hx (pc' := 58) rfl (hb hby at_55) (teq hc30).2 ?_
            refine Go.aload X25 hx (pc' := 60) rfl (hb hby at_58) rfl rfl ?_
            refine Go.anull X25 hx (pc' := 61) rfl (hb hby at_60) ?_
            have Kp32 : Keep h0 h25 [] := (Kp19.trans K25 (allS (Or.inr sz24) all0))
            have Zn31 : n0 ≤ h25.size := Nat.le_trans Z0 Kp32.1
            refine Go.callV X25 hx Z17 O17 (tw_37 hw) (tw_38 hw) (notFace_of_selects (args := #[]) (mvT Z17 (tw_40 hw))) (tw_40 hw) (tw_39 hw) (by decide) (tw_41 hw) (tw_2 hw) (au_18 l Z a0 hw b3 h25 n0 Zn31) e25 F25_0 (argsL := [.null]) (rest := []) (pc' := 64) rfl (by rw [hml]; rfl) (lenOf pd_7 rfl) rfl rfl (W := 0) (Nat.le_of_eq rfl) (by decide) (by decide) (by decide) (by decide) (hb hby at_61) ?_
            intro v33 T33 L33 q33 X33
            obtain ⟨rfl, N33, e33⟩ := q33
            show Go _ _ _ _ (T33.setTop (mkF m 64 #[.val (.int p0), .val (.int p1), .val (.int p2), .val (.int p3), .val (.int p4), .val (.int jv1_5), .val (.int jv2_6), .val (.ref b3), .val (.int z28), .unset, .unset] [(.int 0)]))
            refine Go.ifNo X33 hx (pc' := 67) rfl (hb hby at_64) (by decide) ?_
            refine Go.iconst X33 hx (pc' := 68) rfl (hb hby at_67) (v := (1 : Int32)) rfl ?_
            refine Go.goto X33 hx (pc' := 72) (hb hby at_68) (by decide) (by decide) ?_
            have C34 : CHr Z EL0 s.vm s.heap T17.vm h17 := (C15.trans C17)
            have fk35 : Safe Z EL0 T17.vm h17 b3 := (C17.safe fk14.lt fk16)
            have C36 : CHr Z EL0 s.vm s.heap T17.vm h25 := (C34.trans (CHr.keep K25 (sfS fk35 sf0) C34.1))
            have hk37 := (Nat.le_trans (Nat.le_refl _) K25.1)
            refine Go.retNW X33 hx hlk Z17 (own_EW hw) e33 S17 hk37 C36 (t := .boolean) hret (by simp) (hb hby at_72) (by decide) (by decide) (fun hat => ?_)
            exact ⟨rfl, (Fr.app (Fr.app (Fr.app (Fr.app (Fr.nil n0) N10_0) N17_0) N25) N33)⟩
          · refine Go.ifYes X25 hx (pc' := 73) (hb hby at_55) (feq hc30).2 (by decide) (by decide) ?_
            refine Go.iload X25 hx (pc' := 75) rfl (hb hby at_73) rfl ?_
            refine Go.iconst X25 hx (pc' := 76) rfl (hb hby at_75) (v := (1 : Int32)) rfl ?_
            by_cases hc38 : z28 = (1 : Int32)
            · refine Go.icmpNo X25 hx (pc' := 79) rfl (hb hby at_76) (teq hc38).2 ?_
              refine Go.aload X25 hx (pc' := 81) rfl (hb hby at_79) rfl rfl ?_
              refine Go.iloadN X25 hx (pc' := 82) rfl (hb hby at_81) rfl ?_
              have Kp40 : Keep h0 h25 [] := (Kp19.trans K25 (allS (Or.inr sz24) all0))
              have Zn39 : n0 ≤ h25.size := Nat.le_trans Z0 Kp40.1
              have O41 := (O13.keep K17_0 all0)
              have O42 := (O41.keep K25 (allS ge23 all0))
              refine Go.callS X25 hx Z17 O17 (tw_42 hw) (tw_43 hw) (tw_44 hw) (tw_45 hw) (by decide) (tw_45 hw) (tw_44 hw) (au_19 l Z a0 hw p0 ga3 gz9 gv13 gk17 gvs18 h25 n0 Zn39 O42 G) e25 (argsL := [(.int p0)]) (rest := [(.ref b3)]) (pc' := 85) rfl (by rw [hml]; rfl) (lenOf pd_10 rfl) rfl rfl (W := 1) (Nat.le_of_eq rfl) (by decide) (by decide) (by decide) (by decide) (hb hby at_82) ?_
              intro v43 T43 L43 q43 X43
              obtain ⟨h43, e43⟩ : ∃ z, T43.heap = z := ⟨_, rfl⟩
              rw [e43] at q43
              obtain ⟨b43_0, rfl, N43, K43, F43_0⟩ := q43
              show Go _ _ _ _ (T43.setTop (mkF m 85 #[.val (.int p0), .val (.int p1), .val (.int p2), .val (.int p3), .val (.int p4), .val (.int jv1_5), .val (.int jv2_6), .val (.ref b3), .val (.int z28), .unset, .unset] [(.ref b43_0), (.ref b3)]))
              have Kp45 : Keep h0 h43 [] := (Kp40.trans K43 all0)
              have Zn44 : n0 ≤ h43.size := Nat.le_trans Z0 Kp45.1
              have fk46 : Exa Z h43 b3 "com/example/rockhopper/rockhopper/model/Validators" := (F25_0.keep K43)
              refine Go.callV X43 hx Z17 O17 (tw_37 hw) (tw_38 hw) (notFace_of_selects (args := #[]) (mvT Z17 (tw_40 hw))) (tw_40 hw) (tw_39 hw) (by decide) (tw_41 hw) (tw_2 hw) (au_22 l Z a0 hw b3 b43_0 h43 n0 Zn44 F43_0) e43 fk46 (argsL := [(.ref b43_0)]) (rest := []) (pc' := 88) rfl (by rw [hml]; rfl) (lenOf pd_7 rfl) rfl rfl (W := 0) (Nat.le_of_eq rfl) (by decide) (by decide) (by decide) (by decide) (hb hby at_85) ?_
              intro v47 T47 L47 q47 X47
              obtain ⟨rfl, N47, e47⟩ := q47
              show Go _ _ _ _ (T47.setTop (mkF m 88 #[.val (.int p0), .val (.int p1), .val (.int p2), .val (.int p3), .val (.int p4), .val (.int jv1_5), .val (.int jv2_6), .val (.ref b3), .val (.int z28), .unset, .unset] [(.int 0)]))
              refine Go.ifNo X47 hx (pc' := 91) rfl (hb hby at_88) (by decide) ?_
              refine Go.aload X47 hx (pc' := 93) rfl (hb hby at_91) rfl rfl ?_
              refine Go.aload X47 hx (pc' := 95) rfl (hb hby at_93) rfl rfl ?_
              have fk48 : Fld Z h43 b3 "com/example/rockhopper/rockhopper/model/Validators" "etag" "Ljava/lang/String;" (.ref b10_0_0) := (F25_1.keep K43 nin0)
              have fk49 : Fld Z h43 b3 "com/example/rockhopper/rockhopper/model/Validators" "lastModified" "Ljava/lang/String;" (.ref b17_0_0) := (F25_2.keep K43 nin0)
              refine Go.callV X47 hx Z17 O17 (tw_37 hw) (tw_38 hw) (notFace_of_selects (args := #[]) (mvT Z17 (tw_40 hw))) (tw_40 hw) (tw_39 hw) (by decide) (tw_41 hw) (tw_2 hw) (au_23 l Z a0 hw b3 b10_0_0 b17_0_0 h43 n0 Zn44 fk46 fk48 fk49) e47 fk46 (argsL := [(.ref b3)]) (rest := []) (pc' := 98) rfl (by rw [hml]; rfl) (lenOf pd_7 rfl) rfl rfl (W := 0) (Nat.le_of_eq rfl) (by decide) (by decide) (by decide) (by decide) (hb hby at_95) ?_
              intro v50 T50 L50 q50 X50
              obtain ⟨rfl, N50, e50⟩ := q50
              show Go _ _ _ _ (T50.setTop (mkF m 98 #[.val (.int p0), .val (.int p1), .val (.int p2), .val (.int p3), .val (.int p4), .val (.int jv1_5), .val (.int jv2_6), .val (.ref b3), .val (.int z28), .unset, .unset] [(.int 1)]))
              refine Go.ifNo X50 hx (pc' := 101) rfl (hb hby at_98) (by decide) ?_
              refine Go.iconst X50 hx (pc' := 102) rfl (hb hby at_101) (v := (1 : Int32)) rfl ?_
              refine Go.goto X50 hx (pc' := 106) (hb hby at_102) (by decide) (by decide) ?_
              have C51 : CHr Z EL0 s.vm s.heap T17.vm h17 := (C15.trans C17)
              have fk52 : Safe Z EL0 T17.vm h17 b3 := (C17.safe fk14.lt fk16)
              have C53 : CHr Z EL0 s.vm s.heap T17.vm h25 := (C51.trans (CHr.keep K25 (sfS fk52 sf0) C51.1))
              have C54 : CHr Z EL0 s.vm s.heap T17.vm h43 := (C53.trans (CHr.keep K43 sf0 C53.1))
              have hk55 := (Nat.le_trans (Nat.le_trans (Nat.le_refl _) K25.1) K43.1)
              refine Go.retNW X50 hx hlk Z17 (own_EW hw) e50 S17 hk55 C54 (t := .boolean) hret (by simp) (hb hby at_106) (by decide) (by decide) (fun hat => ?_)
              exact ⟨rfl, (Fr.app (Fr.app (Fr.app (Fr.app (Fr.app (Fr.app (Fr.nil n0) N10_0) N17_0) N25) N43) N47) N50)⟩
            · refine Go.icmpYes X25 hx (pc' := 107) (hb hby at_76) (feq hc38).2 (by decide) (by decide) ?_
              refine Go.new X25 hx Z17 O17 (tw_0 hw) (tw_1 hw) (tw_2 hw) e25 (by decide) (by decide) (pc' := 110) rfl (hb hby at_107) ?_
              intro T56 h56 b56 e56 E56 g56 A56 D56 X56
              have b56_etag : Fld Z h56 b56 "com/example/rockhopper/rockhopper/model/Validators" "etag" "Ljava/lang/String;" .null := D56 (Or.inr (tw_34 hw)) (ty := (.object "java/lang/String")) (by decide)
              have b56_lastModified : Fld Z h56 b56 "com/example/rockhopper/rockhopper/model/Validators" "lastModified" "Ljava/lang/String;" .null := D56 (Or.inr (tw_36 hw)) (ty := (.object "java/lang/String")) (by decide)
              refine Go.dup X56 hx (pc' := 111) rfl (hb hby at_110) rfl ?_
              refine Go.iload X56 hx (pc' := 113) rfl (hb hby at_111) rfl ?_
              have Kp58 : Keep h0 h25 [] := (Kp19.trans K25 (allS (Or.inr sz24) all0))
              have Kp59 : Keep h0 h56 [] := (Kp58.ext E56)
              have Zn57 : n0 ≤ h56.size := Nat.le_trans Z0 Kp59.1
              have O60 := (O13.keep K17_0 all0)
              have O61 := (O60.keep K25 (allS ge23 all0))
              have O62 := (O61.ext E56)
              have C63 : CHr Z EL0 s.vm s.heap T17.vm h17 := (C15.trans C17)
              have fk64 : Safe Z EL0 T17.vm h17 b3 := (C17.safe fk14.lt fk16)
              have C65 : CHr Z EL0 s.vm s.heap T17.vm h25 := (C63.trans (CHr.keep K25 (sfS fk64 sf0) C63.1))
              have C66 : CHr Z EL0 s.vm s.heap T17.vm h56 := (C65.trans (CHr.ext E56 C65.1))
              have fk67 : Safe Z EL0 T17.vm h56 b56 := (Safe.ext E56 C65.1 (Safe.new (Nat.le_of_eq g56.symm) : Safe Z EL0 T17.vm h25 b56))
              have hk68 := (Nat.le_trans (Nat.le_trans (Nat.le_refl _) K25.1) E56.1)
              refine Go.callSW X56 hx Z17 O17 (tw_3 hw) (tw_4 hw) (tw_5 hw) (tw_6 hw) (by decide) (tw_6 hw) (tw_5 hw) (au_6 l Z a0 hw jv1_5 b56 ga3 gz9 gv13 gk17 gvs18 h56 n0 Zn57 O62 G A56) (own_EW hw) C66.1 (allS ⟨A56.lt, fk67⟩ all0) S17 hk68 e56 (argsL := [(.int jv1_5)]) (rest := [(.ref b56), (.ref b56)]) (pc' := 116) rfl (by rw [hml]; rfl) (lenOf pd_5 rfl) rfl rfl (W := 2) (Nat.le_of_eq rfl) (by decide) (by decide) (by decide) (by decide) (hb hby at_113) ?_
              intro v69 T69 L69 h69 e69 q69 C69 S69 Z69 O69 X69
              rcases q69 with ⟨z69_0_0, z69_0_1, b69_0_0, b69_0_1, k69_0_0, c69_0_0, c69_0_1, rfl, N69_0, K69_0, s69_0_0, n69_0_0, y69_0_0, F69_0_0, F69_0_1, F69_0_2, F69_0_3⟩ | ⟨c69_1_0, rfl, N69_1, K69_1⟩
              · show Go _ _ _ _ (T69.setTop (mkF m 116 #[.val (.int p0), .val (.int p1), .val (.int p2), .val (.int p3), .val (.int p4), .val (.int jv1_5), .val (.int jv2_6), .val (.ref b3), .val (.int z28), .unset, .unset] [(.ref b69_0_0), (.ref b56), (.ref b56)]))
                refine Go.iload X69 hx (pc' := 118) rfl (hb hby at_116) rfl ?_
                have Kp71 : Keep h0 h69 [] := (Kp59.trans K69_0 all0)
                have Zn70 : n0 ≤ h69.size := Nat.le_trans Z0 Kp71.1
                have O72 := (O62.keep K69_0 all0)
                have fk73 : Exa Z h69 b56 "com/example/rockhopper/rockhopper/model/Validators" := (A56.keep K69_0)
                have C74 : CHr Z EL0 s.vm s.heap T69.vm h69 := (C66.trans C69)
                have fk75 : Safe Z EL0 T69.vm h69 b56 := (C69.safe A56.lt fk67)
                refine Go.callSW X69 hx Z69 O69 (tw_3 hw) (tw_4 hw) (tw_5 hw) (tw_6 hw) (by decide) (tw_6 hw) (tw_5 hw) (au_6 l Z a0 hw jv2_6 b56 ga3 gz9 gv13 gk17 gvs18 h69 n0 Zn70 O72 G fk73) (own_EW hw) C74.1 (allS ⟨fk73.lt, fk75⟩ all0) S69 (Nat.le_refl _) e69 (argsL := [(.int jv2_6)]) (rest := [(.ref b69_0_0), (.ref b56), (.ref b56)]) (pc' := 121) rfl (by rw [hml]; rfl) (lenOf pd_5 rfl) rfl rfl (W := 3) (Nat.le_of_eq rfl) (by decide) (by decide) (by decide) (by decide) (hb hby at_118) ?_
                intro v76 T76 L76 h76 e76 q76 C76 S76 Z76 O76 X76
                rcases q76 with ⟨z76_0_0, z76_0_1, b76_0_0, b76_0_1, k76_0_0, c76_0_0, c76_0_1, rfl, N76_0, K76_0, s76_0_0, n76_0_0, y76_0_0, F76_0_0, F76_0_1, F76_0_2, F76_0_3⟩ | ⟨c76_1_0, rfl, N76_1, K76_1⟩
                · show Go _ _ _ _ (T76.setTop (mkF m 121 #[.val (.int p0), .val (.int p1), .val (.int p2), .val (.int p3), .val (.int p4), .val (.int jv1_5), .val (.int jv2_6), .val (.ref b3), .val (.int z28), .unset, .unset] [(.ref b76_0_0), (.ref b69_0_0), (.ref b56), (.ref b56)]))
                  have Kp78 : Keep h0 h76 [] := (Kp71.trans K76_0 all0)
                  have Zn77 : n0 ≤ h76.size := Nat.le_trans Z0 Kp78.1
                  have fk79 : Exa Z h76 b56 "com/example/rockhopper/rockhopper/model/Validators" := (fk73.keep K76_0)
                  have fk80 : Fld Z h76 b56 "com/example/rockhopper/rockhopper/model/Validators" "etag" "Ljava/lang/String;" .null := ((b56_etag.keep K69_0 nin0).keep K76_0 nin0)
                  have fk81 : Fld Z h76 b56 "com/example/rockhopper/rockhopper/model/Validators" "lastModified" "Ljava/lang/String;" .null := ((b56_lastModified.keep K69_0 nin0).keep K76_0 nin0)
                  have sz83 : h0.size ≤ b56 := Nat.le_trans Kp58.1 (Nat.le_of_eq g56.symm)
                  have ge82 : n0 ≤ b56 := Nat.le_trans Z0 sz83
                  refine Go.callN X76 hx Z76 O76 rfl (tw_29 hw) (tw_30 hw) (tw_31 hw) (by decide) (tw_31 hw) (tw_2 hw) (au_17 l Z a0 hw b56 b69_0_0 b76_0_0 h76 n0 Zn77 fk79 fk80 fk81 ge82) e76 (a := b56) (argsL := [(.ref b69_0_0), (.ref b76_0_0)]) (rest := [(.ref b56)]) (pc' := 124) rfl (by rw [hml]; rfl) (lenOf pd_6 rfl) rfl rfl (W := 1) (Nat.le_of_eq rfl) (by decide) (by decide) (by decide) (by decide) (hb hby at_121) ?_
                  intro v84 T84 L84 q84 X84
                  obtain ⟨h84, e84⟩ : ∃ z, T84.heap = z := ⟨_, rfl⟩
                  rw [e84] at q84
                  obtain ⟨rfl, N84, K84, F84_0, F84_1, F84_2⟩ := q84
                  show Go _ _ _ _ (T84.setTop (mkF m 124 #[.val (.int p0), .val (.int p1), .val (.int p2), .val (.int p3), .val (.int p4), .val (.int jv1_5), .val (.int jv2_6), .val (.ref b3), .val (.int z28), .unset, .unset] [(.ref b56)]))
                  refine Go.astore X84 hx (pc' := 126) rfl (hb hby at_124) (Ls' := #[.val (.int p0), .val (.int p1), .val (.int p2), .val (.int p3), .val (.int p4), .val (.int jv1_5), .val (.int jv2_6), .val (.ref b3), .val (.int z28), .val (.ref b56), .unset]) rfl rfl ?_
                  refine Go.iloadN X84 hx (pc' := 127) rfl (hb hby at_126) rfl ?_
                  refine Go.iload X84 hx (pc' := 129) rfl (hb hby at_127) rfl ?_
                  have Kp86 : Keep h0 h84 [] := (Kp78.trans K84 (allS (Or.inr sz83) all0))
                  have Zn85 : n0 ≤ h84.size := Nat.le_trans Z0 Kp86.1
                  refine Go.callS X84 hx Z76 O76 (tw_69 hw) (tw_70 hw) (tw_5 hw) (tw_71 hw) (by decide) (tw_71 hw) (tw_5 hw) (au_25 l Z a0 hw p0 jv1_5 h84 n0 Zn85) e84 (argsL := [(.int p0), (.int jv1_5)]) (rest := []) (pc' := 132) rfl (by rw [hml]; rfl) (lenOf pd_12 rfl) rfl rfl (W := 0) (Nat.le_of_eq rfl) (by decide) (by decide) (by decide) (by decide) (hb hby at_129) ?_
                  intro v87 T87 L87 q87 X87
                  rcases q87 with ⟨c87_0_0, rfl, N87_0, e87_0⟩ | ⟨c87_1_0, rfl, N87_1, e87_1⟩
                  · have hk88 : z10_0_0 = z69_0_0 := Option.some.inj (c10_0_0.symm.trans (c87_0_0.trans c69_0_0))
                    show Go _ _ _ _ (T87.setTop (mkF m 132 #[.val (.int p0), .val (.int p1), .val (.int p2), .val (.int p3), .val (.int p4), .val (.int jv1_5), .val (.int jv2_6), .val (.ref b3), .val (.int z28), .val (.ref b56), .unset] [(.int 1)]))
                    refine Go.ifNo X87 hx (pc' := 135) rfl (hb hby at_132) (by decide) ?_
                    refine Go.iloadN X87 hx (pc' := 136) rfl (hb hby at_135) rfl ?_
                    refine Go.iload X87 hx (pc' := 138) rfl (hb hby at_136) rfl ?_
                    refine Go.callS X87 hx Z76 O76 (tw_69 hw) (tw_70 hw) (tw_5 hw) (tw_71 hw) (by decide) (tw_71 hw) (tw_5 hw) (au_25 l Z a0 hw p1 jv2_6 h84 n0 Zn85) e87_0 (argsL := [(.int p1), (.int jv2_6)]) (rest := []) (pc' := 141) rfl (by rw [hml]; rfl) (lenOf pd_12 rfl) rfl rfl (W := 0) (Nat.le_of_eq rfl) (by decide) (by decide) (by decide) (by decide) (hb hby at_138) ?_
                    intro v89 T89 L89 q89 X89
                    rcases q89 with ⟨c89_0_0, rfl, N89_0, e89_0⟩ | ⟨c89_1_0, rfl, N89_1, e89_1⟩
                    · have hk90 : z17_0_0 = z76_0_0 := Option.some.inj (c17_0_0.symm.trans (c89_0_0.trans c76_0_0))
                      show Go _ _ _ _ (T89.setTop (mkF m 141 #[.val (.int p0), .val (.int p1), .val (.int p2), .val (.int p3), .val (.int p4), .val (.int jv1_5), .val (.int jv2_6), .val (.ref b3), .val (.int z28), .val (.ref b56), .unset] [(.int 1)]))
                      refine Go.ifNo X89 hx (pc' := 144) rfl (hb hby at_141) (by decide) ?_
                      refine Go.iconst X89 hx (pc' := 145) rfl (hb hby at_144) (v := (1 : Int32)) rfl ?_
                      refine Go.goto X89 hx (pc' := 149) (hb hby at_145) (by decide) (by decide) ?_
                      refine Go.istore X89 hx (pc' := 151) rfl (hb hby at_149) (Ls' := #[.val (.int p0), .val (.int p1), .val (.int p2), .val (.int p3), .val (.int p4), .val (.int jv1_5), .val (.int jv2_6), .val (.ref b3), .val (.int z28), .val (.ref b56), .val (.int 1)]) rfl ?_
                      refine Go.aload X89 hx (pc' := 153) rfl (hb hby at_151) rfl rfl ?_
                      refine Go.aload X89 hx (pc' := 155) rfl (hb hby at_153) rfl rfl ?_
                      have O91 := (O72.keep K76_0 all0)
                      have O92 := (O91.keep K84 (allS ge82 all0))
                      have ne93 : b3 ≠ b56 := Nat.ne_of_lt (Nat.lt_of_lt_of_le F25_0.lt (Nat.le_of_eq g56.symm))
                      have fk94 : Fld Z h84 b3 "com/example/rockhopper/rockhopper/model/Validators" "etag" "Ljava/lang/String;" (.ref b10_0_0) := ((((F25_1.ext E56).keep K69_0 nin0).keep K76_0 nin0).keep K84 (ninS ne93 nin0))
                      have fk95 : Fld Z h84 b3 "com/example/rockhopper/rockhopper/model/Validators" "lastModified" "Ljava/lang/String;" (.ref b17_0_0) := ((((F25_2.ext E56).keep K69_0 nin0).keep K76_0 nin0).keep K84 (ninS ne93 nin0))
                      have fk96 : Exa Z h84 b10_0_0 "java/lang/String" := ((((((F10_0_0.keep K17_0).keep K25).ext E56).keep K69_0).keep K76_0).keep K84)
                      have ne97 : b3 ≠ b10_0_0 := Nat.ne_of_lt (Nat.lt_of_lt_of_le A3.lt s10_0_0)
                      have fk99 : Exa Z h25 b10_0_0 "java/lang/String" := ((F10_0_0.keep K17_0).keep K25)
                      have ne98 : b10_0_0 ≠ b56 := Nat.ne_of_lt (Nat.lt_of_lt_of_le fk99.lt (Nat.le_of_eq g56.symm))
                      have fk100 : Fld Z h84 b10_0_0 "java/lang/String" "coder" "B" (.int 0) := ((((((F10_0_1.keep K17_0 nin0).keep K25 (ninS (Ne.symm ne97) nin0)).ext E56).keep K69_0 nin0).keep K76_0 nin0).keep K84 (ninS ne98 nin0))
                      have fk101 : Fld Z h84 b10_0_0 "java/lang/String" "value" "[B" (.ref b10_0_1) := ((((((F10_0_2.keep K17_0 nin0).keep K25 (ninS (Ne.symm ne97) nin0)).ext E56).keep K69_0 nin0).keep K76_0 nin0).keep K84 (ninS ne98 nin0))
                      have fk102 : Exa Z h84 b17_0_0 "java/lang/String" := (((((F17_0_0.keep K25).ext E56).keep K69_0).keep K76_0).keep K84)
                      have ne103 : b3 ≠ b17_0_0 := Nat.ne_of_lt (Nat.lt_of_lt_of_le fk14.lt s17_0_0)
                      have fk105 : Exa Z h25 b17_0_0 "java/lang/String" := (F17_0_0.keep K25)
                      have ne104 : b17_0_0 ≠ b56 := Nat.ne_of_lt (Nat.lt_of_lt_of_le fk105.lt (Nat.le_of_eq g56.symm))
                      have fk106 : Fld Z h84 b17_0_0 "java/lang/String" "coder" "B" (.int 0) := (((((F17_0_1.keep K25 (ninS (Ne.symm ne103) nin0)).ext E56).keep K69_0 nin0).keep K76_0 nin0).keep K84 (ninS ne104 nin0))
                      have fk107 : Fld Z h84 b17_0_0 "java/lang/String" "value" "[B" (.ref b17_0_1) := (((((F17_0_2.keep K25 (ninS (Ne.symm ne103) nin0)).ext E56).keep K69_0 nin0).keep K76_0 nin0).keep K84 (ninS ne104 nin0))
                      have fk108 : Exa Z h84 b69_0_0 "java/lang/String" := ((F69_0_0.keep K76_0).keep K84)
                      have ne109 : b56 ≠ b69_0_0 := Nat.ne_of_lt (Nat.lt_of_lt_of_le A56.lt s69_0_0)
                      have fk110 : Fld Z h84 b69_0_0 "java/lang/String" "coder" "B" (.int 0) := ((F69_0_1.keep K76_0 nin0).keep K84 (ninS (Ne.symm ne109) nin0))
                      have fk111 : Fld Z h84 b69_0_0 "java/lang/String" "value" "[B" (.ref b69_0_1) := ((F69_0_2.keep K76_0 nin0).keep K84 (ninS (Ne.symm ne109) nin0))
                      have fk112 : Exa Z h84 b76_0_0 "java/lang/String" := (F76_0_0.keep K84)
                      have ne113 : b56 ≠ b76_0_0 := Nat.ne_of_lt (Nat.lt_of_lt_of_le fk73.lt s76_0_0)
                      have fk114 : Fld Z h84 b76_0_0 "java/lang/String" "coder" "B" (.int 0) := (F76_0_1.keep K84 (ninS (Ne.symm ne113) nin0))
                      have fk115 : Fld Z h84 b76_0_0 "java/lang/String" "value" "[B" (.ref b76_0_1) := (F76_0_2.keep K84 (ninS (Ne.symm ne113) nin0))
                      have fk117 := ((F10_0_3.keep K17_0 nin0).keep K25 (ninS n10_0_0 nin0))
                      have ne116 : b10_0_1 ≠ b56 := Nat.ne_of_lt (Nat.lt_of_lt_of_le fk117.lt (Nat.le_of_eq g56.symm))
                      have fk118 := ((((((F10_0_3.keep K17_0 nin0).keep K25 (ninS n10_0_0 nin0)).ext E56).keep K69_0 nin0).keep K76_0 nin0).keep K84 (ninS ne116 nin0))
                      have fk120 := (F17_0_3.keep K25 (ninS n17_0_0 nin0))
                      have ne119 : b17_0_1 ≠ b56 := Nat.ne_of_lt (Nat.lt_of_lt_of_le fk120.lt (Nat.le_of_eq g56.symm))
                      have fk121 := (((((F17_0_3.keep K25 (ninS n17_0_0 nin0)).ext E56).keep K69_0 nin0).keep K76_0 nin0).keep K84 (ninS ne119 nin0))
                      have fk122 := ((F69_0_3.keep K76_0 nin0).keep K84 (ninS n69_0_0 nin0))
                      have fk123 := (F76_0_3.keep K84 (ninS n76_0_0 nin0))
                      have fk125 : Exa Z h56 b10_0_0 "java/lang/String" := (fk99.ext E56)
                      have ne124 : b10_0_0 ≠ b69_0_0 := Nat.ne_of_lt (Nat.lt_of_lt_of_le fk125.lt s69_0_0)
                      have fk127 : Exa Z h69 b17_0_0 "java/lang/String" := ((fk105.ext E56).keep K69_0)
                      have ne126 : b17_0_0 ≠ b76_0_0 := Nat.ne_of_lt (Nat.lt_of_lt_of_le fk127.lt s76_0_0)
                      have fk128 : Exa Z h84 b3 "com/example/rockhopper/rockhopper/model/Validators" := ((((F25_0.ext E56).keep K69_0).keep K76_0).keep K84)
                      refine Go.callV X89 hx Z76 O76 (tw_37 hw) (tw_38 hw) (notFace_of_selects (args := #[]) (mvT Z76 (tw_40 hw))) (tw_40 hw) (tw_39 hw) (by decide) (tw_41 hw) (tw_2 hw) (au_26 l Z a0 hw b3 b56 b10_0_0 b17_0_0 b69_0_0 b76_0_0 b10_0_1 b17_0_1 b69_0_1 b76_0_1 k10_0_0 z10_0_0 z10_0_1 k17_0_0 z17_0_0 z17_0_1 k69_0_0 z69_0_0 z69_0_1 k76_0_0 z76_0_0 z76_0_1 ga3 gz9 gv13 gk17 gvs18 h84 n0 Zn85 O92 G fk94 fk95 F84_0 F84_1 F84_2 fk96 fk100 fk101 fk102 fk106 fk107 fk108 fk110 fk111 fk112 fk114 fk115 fk118 fk121 fk122 fk123 c10_0_1 c17_0_1 c69_0_1 c76_0_1 (Ne.symm ne124) (Ne.symm ne126)) e89_0 fk128 (argsL := [(.ref b56)]) (rest := []) (pc' := 158) rfl (by rw [hml]; rfl) (lenOf pd_7 rfl) rfl rfl (W := 0) (Nat.le_of_eq rfl) (by decide) (by decide) (by decide) (by decide) (hb hby at_155) ?_
                      intro v129 T129 L129 q129 X129
                      rcases q129 with ⟨c129_0_0, c129_0_1, rfl, N129_0, e129_0⟩ | ⟨c129_1_0, c129_1_1, rfl, N129_1, e129_1⟩ | ⟨c129_2_0, rfl, N129_2, e129_2⟩
                      · show Go _ _ _ _ (T129.setTop (mkF m 158 #[.val (.int p0), .val (.int p1), .val (.int p2), .val (.int p3), .val (.int p4), .val (.int jv1_5), .val (.int jv2_6), .val (.ref b3), .val (.int z28), .val (.ref b56), .val (.int 1)] [(.int 1)]))
                        refine Go.iload X129 hx (pc' := 160) rfl (hb hby at_158) rfl ?_
                        refine Go.icmpNo X129 hx (pc' := 163) rfl (hb hby at_160) (by decide) ?_
                        refine Go.aload X129 hx (pc' := 165) rfl (hb hby at_163) rfl rfl ?_
                        refine Go.aload X129 hx (pc' := 167) rfl (hb hby at_165) rfl rfl ?_
                        refine Go.callV X129 hx Z76 O76 (tw_37 hw) (tw_38 hw) (notFace_of_selects (args := #[]) (mvT Z76 (tw_40 hw))) (tw_40 hw) (tw_39 hw) (by decide) (tw_41 hw) (tw_2 hw) (au_26 l Z a0 hw b56 b3 b69_0_0 b76_0_0 b10_0_0 b17_0_0 b69_0_1 b76_0_1 b10_0_1 b17_0_1 k69_0_0 z69_0_0 z69_0_1 k76_0_0 z76_0_0 z76_0_1 k10_0_0 z10_0_0 z10_0_1 k17_0_0 z17_0_0 z17_0_1 ga3 gz9 gv13 gk17 gvs18 h84 n0 Zn85 O92 G F84_1 F84_2 fk128 fk94 fk95 fk108 fk110 fk111 fk112 fk114 fk115 fk96 fk100 fk101 fk102 fk106 fk107 fk122 fk123 fk118 fk121 c69_0_1 c76_0_1 c10_0_1 c17_0_1 ne124 ne126) e129_0 F84_0 (argsL := [(.ref b3)]) (rest := []) (pc' := 170) rfl (by rw [hml]; rfl) (lenOf pd_7 rfl) rfl rfl (W := 0) (Nat.le_of_eq rfl) (by decide) (by decide) (by decide) (by decide) (hb hby at_167) ?_
                        intro v130 T130 L130 q130 X130
                        rcases q130 with ⟨c130_0_0, c130_0_1, rfl, N130_0, e130_0⟩ | ⟨c130_1_0, c130_1_1, rfl, N130_1, e130_1⟩ | ⟨c130_2_0, rfl, N130_2, e130_2⟩
                        · show Go _ _ _ _ (T130.setTop (mkF m 170 #[.val (.int p0), .val (.int p1), .val (.int p2), .val (.int p3), .val (.int p4), .val (.int jv1_5), .val (.int jv2_6), .val (.ref b3), .val (.int z28), .val (.ref b56), .val (.int 1)] [(.int 1)]))
                          refine Go.iload X130 hx (pc' := 172) rfl (hb hby at_170) rfl ?_
                          refine Go.icmpNo X130 hx (pc' := 175) rfl (hb hby at_172) (by decide) ?_
                          refine Go.iconst X130 hx (pc' := 176) rfl (hb hby at_175) (v := (1 : Int32)) rfl ?_
                          refine Go.goto X130 hx (pc' := 180) (hb hby at_176) (by decide) (by decide) ?_
                          have C131 : CHr Z EL0 s.vm s.heap T76.vm h76 := (C74.trans C76)
                          have fk132 : Safe Z EL0 T76.vm h76 b56 := (C76.safe fk73.lt fk75)
                          have C133 : CHr Z EL0 s.vm s.heap T76.vm h84 := (C131.trans (CHr.keep K84 (sfS fk132 sf0) C131.1))
                          have hk134 := (Nat.le_trans (Nat.le_refl _) K84.1)
                          refine Go.retNW X130 hx hlk Z76 (own_EW hw) e130_0 S76 hk134 C133 (t := .boolean) hret (by simp) (hb hby at_180) (by decide) (by decide) (fun hat => ?_)
                          exact ⟨rfl, (Fr.app (Fr.app (Fr.app (Fr.app (Fr.app (Fr.app (Fr.app (Fr.app (Fr.app (Fr.app (Fr.nil n0) N10_0) N17_0) N25) N69_0) N76_0) N84) N87_0) N89_0) N129_0) N130_0)⟩
                        · exact absurd hk90 c130_1_1
                        · exact absurd hk88 c130_2_0
                      · exact absurd hk90.symm c129_1_1
                      · exact absurd hk88.symm c129_2_0
                    · have hk135 : ¬ z17_0_0 = z76_0_0 := fun z => c89_1_0 (c17_0_0.trans ((congrArg some z).trans c76_0_0.symm))
                      show Go _ _ _ _ (T89.setTop (mkF m 141 #[.val (.int p0), .val (.int p1), .val (.int p2), .val (.int p3), .val (.int p4), .val (.int jv1_5), .val (.int jv2_6), .val (.ref b3), .val (.int z28), .val (.ref b56), .unset] [(.int 0)]))
                      refine Go.ifYes X89 hx (pc' := 148) (hb hby at_141) (by decide) (by decide) (by decide) ?_
                      refine Go.iconst X89 hx (pc' := 149) rfl (hb hby at_148) (v := (0 : Int32)) rfl ?_
                      refine Go.istore X89 hx (pc' := 151) rfl (hb hby at_149) (Ls' := #[.val (.int p0), .val (.int p1), .val (.int p2), .val (.int p3), .val (.int p4), .val (.int jv1_5), .val (.int jv2_6), .val (.ref b3), .val (.int z28), .val (.ref b56), .val (.int 0)]) rfl ?_
                      refine Go.aload X89 hx (pc' := 153) rfl (hb hby at_151) rfl rfl ?_
                      refine Go.aload X89 hx (pc' := 155) rfl (hb hby at_153) rfl rfl ?_
                      have O136 := (O72.keep K76_0 all0)
                      have O137 := (O136.keep K84 (allS ge82 all0))
                      have ne138 : b3 ≠ b56 := Nat.ne_of_lt (Nat.lt_of_lt_of_le F25_0.lt (Nat.le_of_eq g56.symm))
                      have fk139 : Fld Z h84 b3 "com/example/rockhopper/rockhopper/model/Validators" "etag" "Ljava/lang/String;" (.ref b10_0_0) := ((((F25_1.ext E56).keep K69_0 nin0).keep K76_0 nin0).keep K84 (ninS ne138 nin0))
                      have fk140 : Fld Z h84 b3 "com/example/rockhopper/rockhopper/model/Validators" "lastModified" "Ljava/lang/String;" (.ref b17_0_0) := ((((F25_2.ext E56).keep K69_0 nin0).keep K76_0 nin0).keep K84 (ninS ne138 nin0))
                      have fk141 : Exa Z h84 b10_0_0 "java/lang/String" := ((((((F10_0_0.keep K17_0).keep K25).ext E56).keep K69_0).keep K76_0).keep K84)
                      have ne142 : b3 ≠ b10_0_0 := Nat.ne_of_lt (Nat.lt_of_lt_of_le A3.lt s10_0_0)
                      have fk144 : Exa Z h25 b10_0_0 "java/lang/String" := ((F10_0_0.keep K17_0).keep K25)
                      have ne143 : b10_0_0 ≠ b56 := Nat.ne_of_lt (Nat.lt_of_lt_of_le fk144.lt (Nat.le_of_eq g56.symm))
                      have fk145 : Fld Z h84 b10_0_0 "java/lang/String" "coder" "B" (.int 0) := ((((((F10_0_1.keep K17_0 nin0).keep K25 (ninS (Ne.symm ne142) nin0)).ext E56).keep K69_0 nin0).keep K76_0 nin0).keep K84 (ninS ne143 nin0))
                      have fk146 : Fld Z h84 b10_0_0 "java/lang/String" "value" "[B" (.ref b10_0_1) := ((((((F10_0_2.keep K17_0 nin0).keep K25 (ninS (Ne.symm ne142) nin0)).ext E56).keep K69_0 nin0).keep K76_0 nin0).keep K84 (ninS ne143 nin0))
                      have fk147 : Exa Z h84 b17_0_0 "java/lang/String" := (((((F17_0_0.keep K25).ext E56).keep K69_0).keep K76_0).keep K84)
                      have ne148 : b3 ≠ b17_0_0 := Nat.ne_of_lt (Nat.lt_of_lt_of_le fk14.lt s17_0_0)
                      have fk150 : Exa Z h25 b17_0_0 "java/lang/String" := (F17_0_0.keep K25)
                      have ne149 : b17_0_0 ≠ b56 := Nat.ne_of_lt (Nat.lt_of_lt_of_le fk150.lt (Nat.le_of_eq g56.symm))
                      have fk151 : Fld Z h84 b17_0_0 "java/lang/String" "coder" "B" (.int 0) := (((((F17_0_1.keep K25 (ninS (Ne.symm ne148) nin0)).ext E56).keep K69_0 nin0).keep K76_0 nin0).keep K84 (ninS ne149 nin0))
                      have fk152 : Fld Z h84 b17_0_0 "java/lang/String" "value" "[B" (.ref b17_0_1) := (((((F17_0_2.keep K25 (ninS (Ne.symm ne148) nin0)).ext E56).keep K69_0 nin0).keep K76_0 nin0).keep K84 (ninS ne149 nin0))
                      have fk153 : Exa Z h84 b69_0_0 "java/lang/String" := ((F69_0_0.keep K76_0).keep K84)
                      have ne154 : b56 ≠ b69_0_0 := Nat.ne_of_lt (Nat.lt_of_lt_of_le A56.lt s69_0_0)
                      have fk155 : Fld Z h84 b69_0_0 "java/lang/String" "coder" "B" (.int 0) := ((F69_0_1.keep K76_0 nin0).keep K84 (ninS (Ne.symm ne154) nin0))
                      have fk156 : Fld Z h84 b69_0_0 "java/lang/String" "value" "[B" (.ref b69_0_1) := ((F69_0_2.keep K76_0 nin0).keep K84 (ninS (Ne.symm ne154) nin0))
                      have fk157 : Exa Z h84 b76_0_0 "java/lang/String" := (F76_0_0.keep K84)
                      have ne158 : b56 ≠ b76_0_0 := Nat.ne_of_lt (Nat.lt_of_lt_of_le fk73.lt s76_0_0)
                      have fk159 : Fld Z h84 b76_0_0 "java/lang/String" "coder" "B" (.int 0) := (F76_0_1.keep K84 (ninS (Ne.symm ne158) nin0))
                      have fk160 : Fld Z h84 b76_0_0 "java/lang/String" "value" "[B" (.ref b76_0_1) := (F76_0_2.keep K84 (ninS (Ne.symm ne158) nin0))
                      have fk162 := ((F10_0_3.keep K17_0 nin0).keep K25 (ninS n10_0_0 nin0))
                      have ne161 : b10_0_1 ≠ b56 := Nat.ne_of_lt (Nat.lt_of_lt_of_le fk162.lt (Nat.le_of_eq g56.symm))
                      have fk163 := ((((((F10_0_3.keep K17_0 nin0).keep K25 (ninS n10_0_0 nin0)).ext E56).keep K69_0 nin0).keep K76_0 nin0).keep K84 (ninS ne161 nin0))
                      have fk165 := (F17_0_3.keep K25 (ninS n17_0_0 nin0))
                      have ne164 : b17_0_1 ≠ b56 := Nat.ne_of_lt (Nat.lt_of_lt_of_le fk165.lt (Nat.le_of_eq g56.symm))
                      have fk166 := (((((F17_0_3.keep K25 (ninS n17_0_0 nin0)).ext E56).keep K69_0 nin0).keep K76_0 nin0).keep K84 (ninS ne164 nin0))
                      have fk167 := ((F69_0_3.keep K76_0 nin0).keep K84 (ninS n69_0_0 nin0))
                      have fk168 := (F76_0_3.keep K84 (ninS n76_0_0 nin0))
                      have fk170 : Exa Z h56 b10_0_0 "java/lang/String" := (fk144.ext E56)
                      have ne169 : b10_0_0 ≠ b69_0_0 := Nat.ne_of_lt (Nat.lt_of_lt_of_le fk170.lt s69_0_0)
                      have fk172 : Exa Z h69 b17_0_0 "java/lang/String" := ((fk150.ext E56).keep K69_0)
                      have ne171 : b17_0_0 ≠ b76_0_0 := Nat.ne_of_lt (Nat.lt_of_lt_of_le fk172.lt s76_0_0)
                      have fk173 : Exa Z h84 b3 "com/example/rockhopper/rockhopper/model/Validators" := ((((F25_0.ext E56).keep K69_0).keep K76_0).keep K84)
                      refine Go.callV X89 hx Z76 O76 (tw_37 hw) (tw_38 hw) (notFace_of_selects (args := #[]) (mvT Z76 (tw_40 hw))) (tw_40 hw) (tw_39 hw) (by decide) (tw_41 hw) (tw_2 hw) (au_26 l Z a0 hw b3 b56 b10_0_0 b17_0_0 b69_0_0 b76_0_0 b10_0_1 b17_0_1 b69_0_1 b76_0_1 k10_0_0 z10_0_0 z10_0_1 k17_0_0 z17_0_0 z17_0_1 k69_0_0 z69_0_0 z69_0_1 k76_0_0 z76_0_0 z76_0_1 ga3 gz9 gv13 gk17 gvs18 h84 n0 Zn85 O137 G fk139 fk140 F84_0 F84_1 F84_2 fk141 fk145 fk146 fk147 fk151 fk152 fk153 fk155 fk156 fk157 fk159 fk160 fk163 fk166 fk167 fk168 c10_0_1 c17_0_1 c69_0_1 c76_0_1 (Ne.symm ne169) (Ne.symm ne171)) e89_1 fk173 (argsL := [(.ref b56)]) (rest := []) (pc' := 158) rfl (by rw [hml]; rfl) (lenOf pd_7 rfl) rfl rfl (W := 0) (Nat.le_of_eq rfl) (by decide) (by decide) (by decide) (by decide) (hb hby at_155) ?_
                      intro v174 T174 L174 q174 X174
                      rcases q174 with ⟨c174_0_0, c174_0_1, rfl, N174_0, e174_0⟩ | ⟨c174_1_0, c174_1_1, rfl, N174_1, e174_1⟩ | ⟨c174_2_0, rfl, N174_2, e174_2⟩
                      · exact absurd c174_0_1 (Ne.symm hk135)
                      · show Go _ _ _ _ (T174.setTop (mkF m 158 #[.val (.int p0), .val (.int p1), .val (.int p2), .val (.int p3), .val (.int p4), .val (.int jv1_5), .val (.int jv2_6), .val (.ref b3), .val (.int z28), .val (.ref b56), .val (.int 0)] [(.int 0)]))
                        refine Go.iload X174 hx (pc' := 160) rfl (hb hby at_158) rfl ?_
                        refine Go.icmpNo X174 hx (pc' := 163) rfl (hb hby at_160) (by decide) ?_
                        refine Go.aload X174 hx (pc' := 165) rfl (hb hby at_163) rfl rfl ?_
                        refine Go.aload X174 hx (pc' := 167) rfl (hb hby at_165) rfl rfl ?_
                        refine Go.callV X174 hx Z76 O76 (tw_37 hw) (tw_38 hw) (notFace_of_selects (args := #[]) (mvT Z76 (tw_40 hw))) (tw_40 hw) (tw_39 hw) (by decide) (tw_41 hw) (tw_2 hw) (au_26 l Z a0 hw b56 b3 b69_0_0 b76_0_0 b10_0_0 b17_0_0 b69_0_1 b76_0_1 b10_0_1 b17_0_1 k69_0_0 z69_0_0 z69_0_1 k76_0_0 z76_0_0 z76_0_1 k10_0_0 z10_0_0 z10_0_1 k17_0_0 z17_0_0 z17_0_1 ga3 gz9 gv13 gk17 gvs18 h84 n0 Zn85 O137 G F84_1 F84_2 fk173 fk139 fk140 fk153 fk155 fk156 fk157 fk159 fk160 fk141 fk145 fk146 fk147 fk151 fk152 fk167 fk168 fk163 fk166 c69_0_1 c76_0_1 c10_0_1 c17_0_1 ne169 ne171) e174_1 F84_0 (argsL := [(.ref b3)]) (rest := []) (pc' := 170) rfl (by rw [hml]; rfl) (lenOf pd_7 rfl) rfl rfl (W := 0) (Nat.le_of_eq rfl) (by decide) (by decide) (by decide) (by decide) (hb hby at_167) ?_
                        intro v175 T175 L175 q175 X175
                        rcases q175 with ⟨c175_0_0, c175_0_1, rfl, N175_0, e175_0⟩ | ⟨c175_1_0, c175_1_1, rfl, N175_1, e175_1⟩ | ⟨c175_2_0, rfl, N175_2, e175_2⟩
                        · exact absurd c175_0_1 hk135
                        · show Go _ _ _ _ (T175.setTop (mkF m 170 #[.val (.int p0), .val (.int p1), .val (.int p2), .val (.int p3), .val (.int p4), .val (.int jv1_5), .val (.int jv2_6), .val (.ref b3), .val (.int z28), .val (.ref b56), .val (.int 0)] [(.int 0)]))
                          refine Go.iload X175 hx (pc' := 172) rfl (hb hby at_170) rfl ?_
                          refine Go.icmpNo X175 hx (pc' := 175) rfl (hb hby at_172) (by decide) ?_
                          refine Go.iconst X175 hx (pc' := 176) rfl (hb hby at_175) (v := (1 : Int32)) rfl ?_
                          refine Go.goto X175 hx (pc' := 180) (hb hby at_176) (by decide) (by decide) ?_
                          have C176 : CHr Z EL0 s.vm s.heap T76.vm h76 := (C74.trans C76)
                          have fk177 : Safe Z EL0 T76.vm h76 b56 := (C76.safe fk73.lt fk75)
                          have C178 : CHr Z EL0 s.vm s.heap T76.vm h84 := (C176.trans (CHr.keep K84 (sfS fk177 sf0) C176.1))
                          have hk179 := (Nat.le_trans (Nat.le_refl _) K84.1)
                          refine Go.retNW X175 hx hlk Z76 (own_EW hw) e175_1 S76 hk179 C178 (t := .boolean) hret (by simp) (hb hby at_180) (by decide) (by decide) (fun hat => ?_)
                          exact ⟨rfl, (Fr.app (Fr.app (Fr.app (Fr.app (Fr.app (Fr.app (Fr.app (Fr.app (Fr.app (Fr.app (Fr.nil n0) N10_0) N17_0) N25) N69_0) N76_0) N84) N87_0) N89_1) N174_1) N175_1)⟩
                        · exact absurd hk88 c175_2_0
                      · exact absurd hk88.symm c174_2_0
                  · have hk180 : ¬ z10_0_0 = z69_0_0 := fun z => c87_1_0 (c10_0_0.trans ((congrArg some z).trans c69_0_0.symm))
                    show Go _ _ _ _ (T87.setTop (mkF m 132 #[.val (.int p0), .val (.int p1), .val (.int p2), .val (.int p3), .val (.int p4), .val (.int jv1_5), .val (.int jv2_6), .val (.ref b3), .val (.int z28), .val (.ref b56), .unset] [(.int 0)]))
                    refine Go.ifYes X87 hx (pc' := 148) (hb hby at_132) (by decide) (by decide) (by decide) ?_
                    refine Go.iconst X87 hx (pc' := 149) rfl (hb hby at_148) (v := (0 : Int32)) rfl ?_
                    refine Go.istore X87 hx (pc' := 151) rfl (hb hby at_149) (Ls' := #[.val (.int p0), .val (.int p1), .val (.int p2), .val (.int p3), .val (.int p4), .val (.int jv1_5), .val (.int jv2_6), .val (.ref b3), .val (.int z28), .val (.ref b56), .val (.int 0)]) rfl ?_
                    refine Go.aload X87 hx (pc' := 153) rfl (hb hby at_151) rfl rfl ?_
                    refine Go.aload X87 hx (pc' := 155) rfl (hb hby at_153) rfl rfl ?_
                    have O181 := (O72.keep K76_0 all0)
                    have O182 := (O181.keep K84 (allS ge82 all0))
                    have ne183 : b3 ≠ b56 := Nat.ne_of_lt (Nat.lt_of_lt_of_le F25_0.lt (Nat.le_of_eq g56.symm))
                    have fk184 : Fld Z h84 b3 "com/example/rockhopper/rockhopper/model/Validators" "etag" "Ljava/lang/String;" (.ref b10_0_0) := ((((F25_1.ext E56).keep K69_0 nin0).keep K76_0 nin0).keep K84 (ninS ne183 nin0))
                    have fk185 : Fld Z h84 b3 "com/example/rockhopper/rockhopper/model/Validators" "lastModified" "Ljava/lang/String;" (.ref b17_0_0) := ((((F25_2.ext E56).keep K69_0 nin0).keep K76_0 nin0).keep K84 (ninS ne183 nin0))
                    have fk186 : Exa Z h84 b10_0_0 "java/lang/String" := ((((((F10_0_0.keep K17_0).keep K25).ext E56).keep K69_0).keep K76_0).keep K84)
                    have ne187 : b3 ≠ b10_0_0 := Nat.ne_of_lt (Nat.lt_of_lt_of_le A3.lt s10_0_0)
                    have fk189 : Exa Z h25 b10_0_0 "java/lang/String" := ((F10_0_0.keep K17_0).keep K25)
                    have ne188 : b10_0_0 ≠ b56 := Nat.ne_of_lt (Nat.lt_of_lt_of_le fk189.lt (Nat.le_of_eq g56.symm))
                    have fk190 : Fld Z h84 b10_0_0 "java/lang/String" "coder" "B" (.int 0) := ((((((F10_0_1.keep K17_0 nin0).keep K25 (ninS (Ne.symm ne187) nin0)).ext E56).keep K69_0 nin0).keep K76_0 nin0).keep K84 (ninS ne188 nin0))
                    have fk191 : Fld Z h84 b10_0_0 "java/lang/String" "value" "[B" (.ref b10_0_1) := ((((((F10_0_2.keep K17_0 nin0).keep K25 (ninS (Ne.symm ne187) nin0)).ext E56).keep K69_0 nin0).keep K76_0 nin0).keep K84 (ninS ne188 nin0))
                    have fk192 : Exa Z h84 b17_0_0 "java/lang/String" := (((((F17_0_0.keep K25).ext E56).keep K69_0).keep K76_0).keep K84)
                    have ne193 : b3 ≠ b17_0_0 := Nat.ne_of_lt (Nat.lt_of_lt_of_le fk14.lt s17_0_0)
                    have fk195 : Exa Z h25 b17_0_0 "java/lang/String" := (F17_0_0.keep K25)
                    have ne194 : b17_0_0 ≠ b56 := Nat.ne_of_lt (Nat.lt_of_lt_of_le fk195.lt (Nat.le_of_eq g56.symm))
                    have fk196 : Fld Z h84 b17_0_0 "java/lang/String" "coder" "B" (.int 0) := (((((F17_0_1.keep K25 (ninS (Ne.symm ne193) nin0)).ext E56).keep K69_0 nin0).keep K76_0 nin0).keep K84 (ninS ne194 nin0))
                    have fk197 : Fld Z h84 b17_0_0 "java/lang/String" "value" "[B" (.ref b17_0_1) := (((((F17_0_2.keep K25 (ninS (Ne.symm ne193) nin0)).ext E56).keep K69_0 nin0).keep K76_0 nin0).keep K84 (ninS ne194 nin0))
                    have fk198 : Exa Z h84 b69_0_0 "java/lang/String" := ((F69_0_0.keep K76_0).keep K84)
                    have ne199 : b56 ≠ b69_0_0 := Nat.ne_of_lt (Nat.lt_of_lt_of_le A56.lt s69_0_0)
                    have fk200 : Fld Z h84 b69_0_0 "java/lang/String" "coder" "B" (.int 0) := ((F69_0_1.keep K76_0 nin0).keep K84 (ninS (Ne.symm ne199) nin0))
                    have fk201 : Fld Z h84 b69_0_0 "java/lang/String" "value" "[B" (.ref b69_0_1) := ((F69_0_2.keep K76_0 nin0).keep K84 (ninS (Ne.symm ne199) nin0))
                    have fk202 : Exa Z h84 b76_0_0 "java/lang/String" := (F76_0_0.keep K84)
                    have ne203 : b56 ≠ b76_0_0 := Nat.ne_of_lt (Nat.lt_of_lt_of_le fk73.lt s76_0_0)
                    have fk204 : Fld Z h84 b76_0_0 "java/lang/String" "coder" "B" (.int 0) := (F76_0_1.keep K84 (ninS (Ne.symm ne203) nin0))
                    have fk205 : Fld Z h84 b76_0_0 "java/lang/String" "value" "[B" (.ref b76_0_1) := (F76_0_2.keep K84 (ninS (Ne.symm ne203) nin0))
                    have fk207 := ((F10_0_3.keep K17_0 nin0).keep K25 (ninS n10_0_0 nin0))
                    have ne206 : b10_0_1 ≠ b56 := Nat.ne_of_lt (Nat.lt_of_lt_of_le fk207.lt (Nat.le_of_eq g56.symm))
                    have fk208 := ((((((F10_0_3.keep K17_0 nin0).keep K25 (ninS n10_0_0 nin0)).ext E56).keep K69_0 nin0).keep K76_0 nin0).keep K84 (ninS ne206 nin0))
                    have fk210 := (F17_0_3.keep K25 (ninS n17_0_0 nin0))
                    have ne209 : b17_0_1 ≠ b56 := Nat.ne_of_lt (Nat.lt_of_lt_of_le fk210.lt (Nat.le_of_eq g56.symm))
                    have fk211 := (((((F17_0_3.keep K25 (ninS n17_0_0 nin0)).ext E56).keep K69_0 nin0).keep K76_0 nin0).keep K84 (ninS ne209 nin0))
                    have fk212 := ((F69_0_3.keep K76_0 nin0).keep K84 (ninS n69_0_0 nin0))
                    have fk213 := (F76_0_3.keep K84 (ninS n76_0_0 nin0))
                    have fk215 : Exa Z h56 b10_0_0 "java/lang/String" := (fk189.ext E56)
                    have ne214 : b10_0_0 ≠ b69_0_0 := Nat.ne_of_lt (Nat.lt_of_lt_of_le fk215.lt s69_0_0)
                    have fk217 : Exa Z h69 b17_0_0 "java/lang/String" := ((fk195.ext E56).keep K69_0)
                    have ne216 : b17_0_0 ≠ b76_0_0 := Nat.ne_of_lt (Nat.lt_of_lt_of_le fk217.lt s76_0_0)
                    have fk218 : Exa Z h84 b3 "com/example/rockhopper/rockhopper/model/Validators" := ((((F25_0.ext E56).keep K69_0).keep K76_0).keep K84)
                    refine Go.callV X87 hx Z76 O76 (tw_37 hw) (tw_38 hw) (notFace_of_selects (args := #[]) (mvT Z76 (tw_40 hw))) (tw_40 hw) (tw_39 hw) (by decide) (tw_41 hw) (tw_2 hw) (au_26 l Z a0 hw b3 b56 b10_0_0 b17_0_0 b69_0_0 b76_0_0 b10_0_1 b17_0_1 b69_0_1 b76_0_1 k10_0_0 z10_0_0 z10_0_1 k17_0_0 z17_0_0 z17_0_1 k69_0_0 z69_0_0 z69_0_1 k76_0_0 z76_0_0 z76_0_1 ga3 gz9 gv13 gk17 gvs18 h84 n0 Zn85 O182 G fk184 fk185 F84_0 F84_1 F84_2 fk186 fk190 fk191 fk192 fk196 fk197 fk198 fk200 fk201 fk202 fk204 fk205 fk208 fk211 fk212 fk213 c10_0_1 c17_0_1 c69_0_1 c76_0_1 (Ne.symm ne214) (Ne.symm ne216)) e87_1 fk218 (argsL := [(.ref b56)]) (rest := []) (pc' := 158) rfl (by rw [hml]; rfl) (lenOf pd_7 rfl) rfl rfl (W := 0) (Nat.le_of_eq rfl) (by decide) (by decide) (by decide) (by decide) (hb hby at_155) ?_
                    intro v219 T219 L219 q219 X219
                    rcases q219 with ⟨c219_0_0, c219_0_1, rfl, N219_0, e219_0⟩ | ⟨c219_1_0, c219_1_1, rfl, N219_1, e219_1⟩ | ⟨c219_2_0, rfl, N219_2, e219_2⟩
                    · exact absurd c219_0_0 (Ne.symm hk180)
                    · exact absurd c219_1_0 (Ne.symm hk180)
                    · show Go _ _ _ _ (T219.setTop (mkF m 158 #[.val (.int p0), .val (.int p1), .val (.int p2), .val (.int p3), .val (.int p4), .val (.int jv1_5), .val (.int jv2_6), .val (.ref b3), .val (.int z28), .val (.ref b56), .val (.int 0)] [(.int 0)]))
                      refine Go.iload X219 hx (pc' := 160) rfl (hb hby at_158) rfl ?_
                      refine Go.icmpNo X219 hx (pc' := 163) rfl (hb hby at_160) (by decide) ?_
                      refine Go.aload X219 hx (pc' := 165) rfl (hb hby at_163) rfl rfl ?_
                      refine Go.aload X219 hx (pc' := 167) rfl (hb hby at_165) rfl rfl ?_
                      refine Go.callV X219 hx Z76 O76 (tw_37 hw) (tw_38 hw) (notFace_of_selects (args := #[]) (mvT Z76 (tw_40 hw))) (tw_40 hw) (tw_39 hw) (by decide) (tw_41 hw) (tw_2 hw) (au_26 l Z a0 hw b56 b3 b69_0_0 b76_0_0 b10_0_0 b17_0_0 b69_0_1 b76_0_1 b10_0_1 b17_0_1 k69_0_0 z69_0_0 z69_0_1 k76_0_0 z76_0_0 z76_0_1 k10_0_0 z10_0_0 z10_0_1 k17_0_0 z17_0_0 z17_0_1 ga3 gz9 gv13 gk17 gvs18 h84 n0 Zn85 O182 G F84_1 F84_2 fk218 fk184 fk185 fk198 fk200 fk201 fk202 fk204 fk205 fk186 fk190 fk191 fk192 fk196 fk197 fk212 fk213 fk208 fk211 c69_0_1 c76_0_1 c10_0_1 c17_0_1 ne214 ne216) e219_2 F84_0 (argsL := [(.ref b3)]) (rest := []) (pc' := 170) rfl (by rw [hml]; rfl) (lenOf pd_7 rfl) rfl rfl (W := 0) (Nat.le_of_eq rfl) (by decide) (by decide) (by decide) (by decide) (hb hby at_167) ?_
                      intro v220 T220 L220 q220 X220
                      rcases q220 with ⟨c220_0_0, c220_0_1, rfl, N220_0, e220_0⟩ | ⟨c220_1_0, c220_1_1, rfl, N220_1, e220_1⟩ | ⟨c220_2_0, rfl, N220_2, e220_2⟩
                      · exact absurd c220_0_0 hk180
                      · exact absurd c220_1_0 hk180
                      · show Go _ _ _ _ (T220.setTop (mkF m 170 #[.val (.int p0), .val (.int p1), .val (.int p2), .val (.int p3), .val (.int p4), .val (.int jv1_5), .val (.int jv2_6), .val (.ref b3), .val (.int z28), .val (.ref b56), .val (.int 0)] [(.int 0)]))
                        refine Go.iload X220 hx (pc' := 172) rfl (hb hby at_170) rfl ?_
                        refine Go.icmpNo X220 hx (pc' := 175) rfl (hb hby at_172) (by decide) ?_
                        refine Go.iconst X220 hx (pc' := 176) rfl (hb hby at_175) (v := (1 : Int32)) rfl ?_
                        refine Go.goto X220 hx (pc' := 180) (hb hby at_176) (by decide) (by decide) ?_
                        have C221 : CHr Z EL0 s.vm s.heap T76.vm h76 := (C74.trans C76)
                        have fk222 : Safe Z EL0 T76.vm h76 b56 := (C76.safe fk73.lt fk75)
                        have C223 : CHr Z EL0 s.vm s.heap T76.vm h84 := (C221.trans (CHr.keep K84 (sfS fk222 sf0) C221.1))
                        have hk224 := (Nat.le_trans (Nat.le_refl _) K84.1)
                        refine Go.retNW X220 hx hlk Z76 (own_EW hw) e220_2 S76 hk224 C223 (t := .boolean) hret (by simp) (hb hby at_180) (by decide) (by decide) (fun hat => ?_)
                        exact ⟨rfl, (Fr.app (Fr.app (Fr.app (Fr.app (Fr.app (Fr.app (Fr.app (Fr.app (Fr.app (Fr.nil n0) N10_0) N17_0) N25) N69_0) N76_0) N84) N87_1) N219_2) N220_2)⟩
                · show Go _ _ _ _ (T76.setTop (mkF m 121 #[.val (.int p0), .val (.int p1), .val (.int p2), .val (.int p3), .val (.int p4), .val (.int jv1_5), .val (.int jv2_6), .val (.ref b3), .val (.int z28), .unset, .unset] [.null, (.ref b69_0_0), (.ref b56), (.ref b56)]))
                  have Kp226 : Keep h0 h76 [] := (Kp71.trans K76_1 all0)
                  have Zn225 : n0 ≤ h76.size := Nat.le_trans Z0 Kp226.1
                  have fk227 : Exa Z h76 b56 "com/example/rockhopper/rockhopper/model/Validators" := (fk73.keep K76_1)
                  have fk228 : Fld Z h76 b56 "com/example/rockhopper/rockhopper/model/Validators" "etag" "Ljava/lang/String;" .null := ((b56_etag.keep K69_0 nin0).keep K76_1 nin0)
                  have fk229 : Fld Z h76 b56 "com/example/rockhopper/rockhopper/model/Validators" "lastModified" "Ljava/lang/String;" .null := ((b56_lastModified.keep K69_0 nin0).keep K76_1 nin0)
                  have sz231 : h0.size ≤ b56 := Nat.le_trans Kp58.1 (Nat.le_of_eq g56.symm)
                  have ge230 : n0 ≤ b56 := Nat.le_trans Z0 sz231
                  refine Go.callN X76 hx Z76 O76 rfl (tw_29 hw) (tw_30 hw) (tw_31 hw) (by decide) (tw_31 hw) (tw_2 hw) (au_29 l Z a0 hw b56 b69_0_0 h76 n0 Zn225 fk227 fk228 fk229 ge230) e76 (a := b56) (argsL := [(.ref b69_0_0), .null]) (rest := [(.ref b56)]) (pc' := 124) rfl (by rw [hml]; rfl) (lenOf pd_6 rfl) rfl rfl (W := 1) (Nat.le_of_eq rfl) (by decide) (by decide) (by decide) (by decide) (hb hby at_121) ?_
                  intro v232 T232 L232 q232 X232
                  obtain ⟨h232, e232⟩ : ∃ z, T232.heap = z := ⟨_, rfl⟩
                  rw [e232] at q232
                  obtain ⟨rfl, N232, K232, F232_0, F232_1, F232_2⟩ := q232
                  show Go _ _ _ _ (T232.setTop (mkF m 124 #[.val (.int p0), .val (.int p1), .val (.int p2), .val (.int p3), .val (.int p4), .val (.int jv1_5), .val (.int jv2_6), .val (.ref b3), .val (.int z28), .unset, .unset] [(.ref b56)]))
                  refine Go.astore X232 hx (pc' := 126) rfl (hb hby at_124) (Ls' := #[.val (.int p0), .val (.int p1), .val (.int p2), .val (.int p3), .val (.int p4), .val (.int jv1_5), .val (.int jv2_6), .val (.ref b3), .val (.int z28), .val (.ref b56), .unset]) rfl rfl ?_
                  refine Go.iloadN X232 hx (pc' := 127) rfl (hb hby at_126) rfl ?_
                  refine Go.iload X232 hx (pc' := 129) rfl (hb hby at_127) rfl ?_
                  have Kp234 : Keep h0 h232 [] := (Kp226.trans K232 (allS (Or.inr sz231) all0))
                  have Zn233 : n0 ≤ h232.size := Nat.le_trans Z0 Kp234.1
                  refine Go.callS X232 hx Z76 O76 (tw_69 hw) (tw_70 hw) (tw_5 hw) (tw_71 hw) (by decide) (tw_71 hw) (tw_5 hw) (au_25 l Z a0 hw p0 jv1_5 h232 n0 Zn233) e232 (argsL := [(.int p0), (.int jv1_5)]) (rest := []) (pc' := 132) rfl (by rw [hml]; rfl) (lenOf pd_12 rfl) rfl rfl (W := 0) (Nat.le_of_eq rfl) (by decide) (by decide) (by decide) (by decide) (hb hby at_129) ?_
                  intro v235 T235 L235 q235 X235
                  rcases q235 with ⟨c235_0_0, rfl, N235_0, e235_0⟩ | ⟨c235_1_0, rfl, N235_1, e235_1⟩
                  · have hk236 : z10_0_0 = z69_0_0 := Option.some.inj (c10_0_0.symm.trans (c235_0_0.trans c69_0_0))
                    show Go _ _ _ _ (T235.setTop (mkF m 132 #[.val (.int p0), .val (.int p1), .val (.int p2), .val (.int p3), .val (.int p4), .val (.int jv1_5), .val (.int jv2_6), .val (.ref b3), .val (.int z28), .val (.ref b56), .unset] [(.int 1)]))
                    refine Go.ifNo X235 hx (pc' := 135) rfl (hb hby at_132) (by decide) ?_
                    refine Go.iloadN X235 hx (pc' := 136) rfl (hb hby at_135) rfl ?_
                    refine Go.iload X235 hx (pc' := 138) rfl (hb hby at_136) rfl ?_
                    refine Go.callS X235 hx Z76 O76 (tw_69 hw) (tw_70 hw) (tw_5 hw) (tw_71 hw) (by decide) (tw_71 hw) (tw_5 hw) (au_25 l Z a0 hw p1 jv2_6 h232 n0 Zn233) e235_0 (argsL := [(.int p1), (.int jv2_6)]) (rest := []) (pc' := 141) rfl (by rw [hml]; rfl) (lenOf pd_12 rfl) rfl rfl (W := 0) (Nat.le_of_eq rfl) (by decide) (by decide) (by decide) (by decide) (hb hby at_138) ?_
                    intro v237 T237 L237 q237 X237
                    rcases q237 with ⟨c237_0_0, rfl, N237_0, e237_0⟩ | ⟨c237_1_0, rfl, N237_1, e237_1⟩
                    · exact absurd c237_0_0 (fun z => absurd (c17_0_0.symm.trans (z.trans c76_1_0)) (by simp))
                    · show Go _ _ _ _ (T237.setTop (mkF m 141 #[.val (.int p0), .val (.int p1), .val (.int p2), .val (.int p3), .val (.int p4), .val (.int jv1_5), .val (.int jv2_6), .val (.ref b3), .val (.int z28), .val (.ref b56), .unset] [(.int 0)]))
                      refine Go.ifYes X237 hx (pc' := 148) (hb hby at_141) (by decide) (by decide) (by decide) ?_
                      refine Go.iconst X237 hx (pc' := 149) rfl (hb hby at_148) (v := (0 : Int32)) rfl ?_
                      refine Go.istore X237 hx (pc' := 151) rfl (hb hby at_149) (Ls' := #[.val (.int p0), .val (.int p1), .val (.int p2), .val (.int p3), .val (.int p4), .val (.int jv1_5), .val (.int jv2_6), .val (.ref b3), .val (.int z28), .val (.ref b56), .val (.int 0)]) rfl ?_
                      refine Go.aload X237 hx (pc' := 153) rfl (hb hby at_151) rfl rfl ?_
                      refine Go.aload X237 hx (pc' := 155) rfl (hb hby at_153) rfl rfl ?_
                      have O238 := (O72.keep K76_1 all0)
                      have O239 := (O238.keep K232 (allS ge230 all0))
                      have ne240 : b3 ≠ b56 := Nat.ne_of_lt (Nat.lt_of_lt_of_le F25_0.lt (Nat.le_of_eq g56.symm))
                      have fk241 : Fld Z h232 b3 "com/example/rockhopper/rockhopper/model/Validators" "etag" "Ljava/lang/String;" (.ref b10_0_0) := ((((F25_1.ext E56).keep K69_0 nin0).keep K76_1 nin0).keep K232 (ninS ne240 nin0))
                      have fk242 : Fld Z h232 b3 "com/example/rockhopper/rockhopper/model/Validators" "lastModified" "Ljava/lang/String;" (.ref b17_0_0) := ((((F25_2.ext E56).keep K69_0 nin0).keep K76_1 nin0).keep K232 (ninS ne240 nin0))
                      have fk243 : Exa Z h232 b10_0_0 "java/lang/String" := ((((((F10_0_0.keep K17_0).keep K25).ext E56).keep K69_0).keep K76_1).keep K232)
                      have ne244 : b3 ≠ b10_0_0 := Nat.ne_of_lt (Nat.lt_of_lt_of_le A3.lt s10_0_0)
                      have fk246 : Exa Z h25 b10_0_0 "java/lang/String" := ((F10_0_0.keep K17_0).keep K25)
                      have ne245 : b10_0_0 ≠ b56 := Nat.ne_of_lt (Nat.lt_of_lt_of_le fk246.lt (Nat.le_of_eq g56.symm))
                      have fk247 : Fld Z h232 b10_0_0 "java/lang/String" "coder" "B" (.int 0) := ((((((F10_0_1.keep K17_0 nin0).keep K25 (ninS (Ne.symm ne244) nin0)).ext E56).keep K69_0 nin0).keep K76_1 nin0).keep K232 (ninS ne245 nin0))
                      have fk248 : Fld Z h232 b10_0_0 "java/lang/String" "value" "[B" (.ref b10_0_1) := ((((((F10_0_2.keep K17_0 nin0).keep K25 (ninS (Ne.symm ne244) nin0)).ext E56).keep K69_0 nin0).keep K76_1 nin0).keep K232 (ninS ne245 nin0))
                      have fk249 : Exa Z h232 b69_0_0 "java/lang/String" := ((F69_0_0.keep K76_1).keep K232)
                      have ne250 : b56 ≠ b69_0_0 := Nat.ne_of_lt (Nat.lt_of_lt_of_le A56.lt s69_0_0)
                      have fk251 : Fld Z h232 b69_0_0 "java/lang/String" "coder" "B" (.int 0) := ((F69_0_1.keep K76_1 nin0).keep K232 (ninS (Ne.symm ne250) nin0))
                      have fk252 : Fld Z h232 b69_0_0 "java/lang/String" "value" "[B" (.ref b69_0_1) := ((F69_0_2.keep K76_1 nin0).keep K232 (ninS (Ne.symm ne250) nin0))
                      have fk254 := ((F10_0_3.keep K17_0 nin0).keep K25 (ninS n10_0_0 nin0))
                      have ne253 : b10_0_1 ≠ b56 := Nat.ne_of_lt (Nat.lt_of_lt_of_le fk254.lt (Nat.le_of_eq g56.symm))
                      have fk255 := ((((((F10_0_3.keep K17_0 nin0).keep K25 (ninS n10_0_0 nin0)).ext E56).keep K69_0 nin0).keep K76_1 nin0).keep K232 (ninS ne253 nin0))
                      have fk256 := ((F69_0_3.keep K76_1 nin0).keep K232 (ninS n69_0_0 nin0))
                      have fk258 : Exa Z h56 b10_0_0 "java/lang/String" := (fk246.ext E56)
                      have ne257 : b10_0_0 ≠ b69_0_0 := Nat.ne_of_lt (Nat.lt_of_lt_of_le fk258.lt s69_0_0)
                      have fk259 : Exa Z h232 b3 "com/example/rockhopper/rockhopper/model/Validators" := ((((F25_0.ext E56).keep K69_0).keep K76_1).keep K232)
                      refine Go.callV X237 hx Z76 O76 (tw_37 hw) (tw_38 hw) (notFace_of_selects (args := #[]) (mvT Z76 (tw_40 hw))) (tw_40 hw) (tw_39 hw) (by decide) (tw_41 hw) (tw_2 hw) (au_30 l Z a0 hw b3 b56 b10_0_0 b17_0_0 b69_0_0 b10_0_1 b69_0_1 k10_0_0 z10_0_0 z10_0_1 k69_0_0 z69_0_0 z69_0_1 ga3 gz9 gv13 gk17 gvs18 h232 n0 Zn233 O239 G fk241 fk242 F232_0 F232_1 F232_2 fk243 fk247 fk248 fk249 fk251 fk252 fk255 fk256 c10_0_1 c69_0_1 (Ne.symm ne257)) e237_1 fk259 (argsL := [(.ref b56)]) (rest := []) (pc' := 158) rfl (by rw [hml]; rfl) (lenOf pd_7 rfl) rfl rfl (W := 0) (Nat.le_of_eq rfl) (by decide) (by decide) (by decide) (by decide) (hb hby at_155) ?_
                      intro v260 T260 L260 q260 X260
                      obtain ⟨rfl, N260, e260⟩ := q260
                      show Go _ _ _ _ (T260.setTop (mkF m 158 #[.val (.int p0), .val (.int p1), .val (.int p2), .val (.int p3), .val (.int p4), .val (.int jv1_5), .val (.int jv2_6), .val (.ref b3), .val (.int z28), .val (.ref b56), .val (.int 0)] [(.int 0)]))
                      refine Go.iload X260 hx (pc' := 160) rfl (hb hby at_158) rfl ?_
                      refine Go.icmpNo X260 hx (pc' := 163) rfl (hb hby at_160) (by decide) ?_
                      refine Go.aload X260 hx (pc' := 165) rfl (hb hby at_163) rfl rfl ?_
                      refine Go.aload X260 hx (pc' := 167) rfl (hb hby at_165) rfl rfl ?_
                      have fk261 : Exa Z h232 b17_0_0 "java/lang/String" := (((((F17_0_0.keep K25).ext E56).keep K69_0).keep K76_1).keep K232)
                      refine Go.callV X260 hx Z76 O76 (tw_37 hw) (tw_38 hw) (notFace_of_selects (args := #[]) (mvT Z76 (tw_40 hw))) (tw_40 hw) (tw_39 hw) (by decide) (tw_41 hw) (tw_2 hw) (au_32 l Z a0 hw b56 b3 b69_0_0 b10_0_0 b17_0_0 b69_0_1 b10_0_1 k69_0_0 z69_0_0 z69_0_1 k10_0_0 z10_0_0 z10_0_1 ga3 gz9 gv13 gk17 gvs18 h232 n0 Zn233 O239 G F232_1 F232_2 fk259 fk241 fk242 fk249 fk251 fk252 fk243 fk247 fk248 fk261 fk256 fk255 c69_0_1 c10_0_1 ne257) e260 F232_0 (argsL := [(.ref b3)]) (rest := []) (pc' := 170) rfl (by rw [hml]; rfl) (lenOf pd_7 rfl) rfl rfl (W := 0) (Nat.le_of_eq rfl) (by decide) (by decide) (by decide) (by decide) (hb hby at_167) ?_
                      intro v262 T262 L262 q262 X262
                      obtain ⟨rfl, N262, e262⟩ := q262
                      show Go _ _ _ _ (T262.setTop (mkF m 170 #[.val (.int p0), .val (.int p1), .val (.int p2), .val (.int p3), .val (.int p4), .val (.int jv1_5), .val (.int jv2_6), .val (.ref b3), .val (.int z28), .val (.ref b56), .val (.int 0)] [(.int 0)]))
                      refine Go.iload X262 hx (pc' := 172) rfl (hb hby at_170) rfl ?_
                      refine Go.icmpNo X262 hx (pc' := 175) rfl (hb hby at_172) (by decide) ?_
                      refine Go.iconst X262 hx (pc' := 176) rfl (hb hby at_175) (v := (1 : Int32)) rfl ?_
                      refine Go.goto X262 hx (pc' := 180) (hb hby at_176) (by decide) (by decide) ?_
                      have C263 : CHr Z EL0 s.vm s.heap T76.vm h76 := (C74.trans C76)
                      have fk264 : Safe Z EL0 T76.vm h76 b56 := (C76.safe fk73.lt fk75)
                      have C265 : CHr Z EL0 s.vm s.heap T76.vm h232 := (C263.trans (CHr.keep K232 (sfS fk264 sf0) C263.1))
                      have hk266 := (Nat.le_trans (Nat.le_refl _) K232.1)
                      refine Go.retNW X262 hx hlk Z76 (own_EW hw) e262 S76 hk266 C265 (t := .boolean) hret (by simp) (hb hby at_180) (by decide) (by decide) (fun hat => ?_)
                      exact ⟨rfl, (Fr.app (Fr.app (Fr.app (Fr.app (Fr.app (Fr.app (Fr.app (Fr.app (Fr.app (Fr.app (Fr.nil n0) N10_0) N17_0) N25) N69_0) N76_1) N232) N235_0) N237_1) N260) N262)⟩
                  · have hk267 : ¬ z10_0_0 = z69_0_0 := fun z => c235_1_0 (c10_0_0.trans ((congrArg some z).trans c69_0_0.symm))
                    show Go _ _ _ _ (T235.setTop (mkF m 132 #[.val (.int p0), .val (.int p1), .val (.int p2), .val (.int p3), .val (.int p4), .val (.int jv1_5), .val (.int jv2_6), .val (.ref b3), .val (.int z28), .val (.ref b56), .unset] [(.int 0)]))
                    refine Go.ifYes X235 hx (pc' := 148) (hb hby at_132) (by decide) (by decide) (by decide) ?_
                    refine Go.iconst X235 hx (pc' := 149) rfl (hb hby at_148) (v := (0 : Int32)) rfl ?_
                    refine Go.istore X235 hx (pc' := 151) rfl (hb hby at_149) (Ls' := #[.val (.int p0), .val (.int p1), .val (.int p2), .val (.int p3), .val (.int p4), .val (.int jv1_5), .val (.int jv2_6), .val (.ref b3), .val (.int z28), .val (.ref b56), .val (.int 0)]) rfl ?_
                    refine Go.aload X235 hx (pc' := 153) rfl (hb hby at_151) rfl rfl ?_
                    refine Go.aload X235 hx (pc' := 155) rfl (hb hby at_153) rfl rfl ?_
                    have O268 := (O72.keep K76_1 all0)
                    have O269 := (O268.keep K232 (allS ge230 all0))
                    have ne270 : b3 ≠ b56 := Nat.ne_of_lt (Nat.lt_of_lt_of_le F25_0.lt (Nat.le_of_eq g56.symm))
                    have fk271 : Fld Z h232 b3 "com/example/rockhopper/rockhopper/model/Validators" "etag" "Ljava/lang/String;" (.ref b10_0_0) := ((((F25_1.ext E56).keep K69_0 nin0).keep K76_1 nin0).keep K232 (ninS ne270 nin0))
                    have fk272 : Fld Z h232 b3 "com/example/rockhopper/rockhopper/model/Validators" "lastModified" "Ljava/lang/String;" (.ref b17_0_0) := ((((F25_2.ext E56).keep K69_0 nin0).keep K76_1 nin0).keep K232 (ninS ne270 nin0))
                    have fk273 : Exa Z h232 b10_0_0 "java/lang/String" := ((((((F10_0_0.keep K17_0).keep K25).ext E56).keep K69_0).keep K76_1).keep K232)
                    have ne274 : b3 ≠ b10_0_0 := Nat.ne_of_lt (Nat.lt_of_lt_of_le A3.lt s10_0_0)
                    have fk276 : Exa Z h25 b10_0_0 "java/lang/String" := ((F10_0_0.keep K17_0).keep K25)
                    have ne275 : b10_0_0 ≠ b56 := Nat.ne_of_lt (Nat.lt_of_lt_of_le fk276.lt (Nat.le_of_eq g56.symm))
                    have fk277 : Fld Z h232 b10_0_0 "java/lang/String" "coder" "B" (.int 0) := ((((((F10_0_1.keep K17_0 nin0).keep K25 (ninS (Ne.symm ne274) nin0)).ext E56).keep K69_0 nin0).keep K76_1 nin0).keep K232 (ninS ne275 nin0))
                    have fk278 : Fld Z h232 b10_0_0 "java/lang/String" "value" "[B" (.ref b10_0_1) := ((((((F10_0_2.keep K17_0 nin0).keep K25 (ninS (Ne.symm ne274) nin0)).ext E56).keep K69_0 nin0).keep K76_1 nin0).keep K232 (ninS ne275 nin0))
                    have fk279 : Exa Z h232 b69_0_0 "java/lang/String" := ((F69_0_0.keep K76_1).keep K232)
                    have ne280 : b56 ≠ b69_0_0 := Nat.ne_of_lt (Nat.lt_of_lt_of_le A56.lt s69_0_0)
                    have fk281 : Fld Z h232 b69_0_0 "java/lang/String" "coder" "B" (.int 0) := ((F69_0_1.keep K76_1 nin0).keep K232 (ninS (Ne.symm ne280) nin0))
                    have fk282 : Fld Z h232 b69_0_0 "java/lang/String" "value" "[B" (.ref b69_0_1) := ((F69_0_2.keep K76_1 nin0).keep K232 (ninS (Ne.symm ne280) nin0))
                    have fk284 := ((F10_0_3.keep K17_0 nin0).keep K25 (ninS n10_0_0 nin0))
                    have ne283 : b10_0_1 ≠ b56 := Nat.ne_of_lt (Nat.lt_of_lt_of_le fk284.lt (Nat.le_of_eq g56.symm))
                    have fk285 := ((((((F10_0_3.keep K17_0 nin0).keep K25 (ninS n10_0_0 nin0)).ext E56).keep K69_0 nin0).keep K76_1 nin0).keep K232 (ninS ne283 nin0))
                    have fk286 := ((F69_0_3.keep K76_1 nin0).keep K232 (ninS n69_0_0 nin0))
                    have fk288 : Exa Z h56 b10_0_0 "java/lang/String" := (fk276.ext E56)
                    have ne287 : b10_0_0 ≠ b69_0_0 := Nat.ne_of_lt (Nat.lt_of_lt_of_le fk288.lt s69_0_0)
                    have fk289 : Exa Z h232 b3 "com/example/rockhopper/rockhopper/model/Validators" := ((((F25_0.ext E56).keep K69_0).keep K76_1).keep K232)
                    refine Go.callV X235 hx Z76 O76 (tw_37 hw) (tw_38 hw) (notFace_of_selects (args := #[]) (mvT Z76 (tw_40 hw))) (tw_40 hw) (tw_39 hw) (by decide) (tw_41 hw) (tw_2 hw) (au_30 l Z a0 hw b3 b56 b10_0_0 b17_0_0 b69_0_0 b10_0_1 b69_0_1 k10_0_0 z10_0_0 z10_0_1 k69_0_0 z69_0_0 z69_0_1 ga3 gz9 gv13 gk17 gvs18 h232 n0 Zn233 O269 G fk271 fk272 F232_0 F232_1 F232_2 fk273 fk277 fk278 fk279 fk281 fk282 fk285 fk286 c10_0_1 c69_0_1 (Ne.symm ne287)) e235_1 fk289 (argsL := [(.ref b56)]) (rest := []) (pc' := 158) rfl (by rw [hml]; rfl) (lenOf pd_7 rfl) rfl rfl (W := 0) (Nat.le_of_eq rfl) (by decide) (by decide) (by decide) (by decide) (hb hby at_155) ?_
                    intro v290 T290 L290 q290 X290
                    obtain ⟨rfl, N290, e290⟩ := q290
                    show Go _ _ _ _ (T290.setTop (mkF m 158 #[.val (.int p0), .val (.int p1), .val (.int p2), .val (.int p3), .val (.int p4), .val (.int jv1_5), .val (.int jv2_6), .val (.ref b3), .val (.int z28), .val (.ref b56), .val (.int 0)] [(.int 0)]))
                    refine Go.iload X290 hx (pc' := 160) rfl (hb hby at_158) rfl ?_
                    refine Go.icmpNo X290 hx (pc' := 163) rfl (hb hby at_160) (by decide) ?_
                    refine Go.aload X290 hx (pc' := 165) rfl (hb hby at_163) rfl rfl ?_
                    refine Go.aload X290 hx (pc' := 167) rfl (hb hby at_165) rfl rfl ?_
                    have fk291 : Exa Z h232 b17_0_0 "java/lang/String" := (((((F17_0_0.keep K25).ext E56).keep K69_0).keep K76_1).keep K232)
                    refine Go.callV X290 hx Z76 O76 (tw_37 hw) (tw_38 hw) (notFace_of_selects (args := #[]) (mvT Z76 (tw_40 hw))) (tw_40 hw) (tw_39 hw) (by decide) (tw_41 hw) (tw_2 hw) (au_32 l Z a0 hw b56 b3 b69_0_0 b10_0_0 b17_0_0 b69_0_1 b10_0_1 k69_0_0 z69_0_0 z69_0_1 k10_0_0 z10_0_0 z10_0_1 ga3 gz9 gv13 gk17 gvs18 h232 n0 Zn233 O269 G F232_1 F232_2 fk289 fk271 fk272 fk279 fk281 fk282 fk273 fk277 fk278 fk291 fk286 fk285 c69_0_1 c10_0_1 ne287) e290 F232_0 (argsL := [(.ref b3)]) (rest := []) (pc' := 170) rfl (by rw [hml]; rfl) (lenOf pd_7 rfl) rfl rfl (W := 0) (Nat.le_of_eq rfl) (by decide) (by decide) (by decide) (by decide) (hb hby at_167) ?_
                    intro v292 T292 L292 q292 X292
                    obtain ⟨rfl, N292, e292⟩ := q292
                    show Go _ _ _ _ (T292.setTop (mkF m 170 #[.val (.int p0), .val (.int p1), .val (.int p2), .val (.int p3), .val (.int p4), .val (.int jv1_5), .val (.int jv2_6), .val (.ref b3), .val (.int z28), .val (.ref b56), .val (.int 0)] [(.int 0)]))
                    refine Go.iload X292 hx (pc' := 172) rfl (hb hby at_170) rfl ?_
                    refine Go.icmpNo X292 hx (pc' := 175) rfl (hb hby at_172) (by decide) ?_
                    refine Go.iconst X292 hx (pc' := 176) rfl (hb hby at_175) (v := (1 : Int32)) rfl ?_
                    refine Go.goto X292 hx (pc' := 180) (hb hby at_176) (by decide) (by decide) ?_
                    have C293 : CHr Z EL0 s.vm s.heap T76.vm h76 := (C74.trans C76)
                    have fk294 : Safe Z EL0 T76.vm h76 b56 := (C76.safe fk73.lt fk75)
                    have C295 : CHr Z EL0 s.vm s.heap T76.vm h232 := (C293.trans (CHr.keep K232 (sfS fk294 sf0) C293.1))
                    have hk296 := (Nat.le_trans (Nat.le_refl _) K232.1)
                    refine Go.retNW X292 hx hlk Z76 (own_EW hw) e292 S76 hk296 C295 (t := .boolean) hret (by simp) (hb hby at_180) (by decide) (by decide) (fun hat => ?_)
                    exact ⟨rfl, (Fr.app (Fr.app (Fr.app (Fr.app (Fr.app (Fr.app (Fr.app (Fr.app (Fr.app (Fr.nil n0) N10_0) N17_0) N25) N69_0) N76_1) N232) N235_1) N290) N292)⟩
              · show Go _ _ _ _ (T69.setTop (mkF m 116 #[.val (.int p0), .val (.int p1), .val (.int p2), .val (.int p3), .val (.int p4), .val (.int jv1_5), .val (.int jv2_6), .val (.ref b3), .val (.int z28), .unset, .unset] [.null, (.ref b56), (.ref b56)]))
                refine Go.iload X69 hx (pc' := 118) rfl (hb hby at_116) rfl ?_
                have Kp298 : Keep h0 h69 [] := (Kp59.trans K69_1 all0)
                have Zn297 : n0 ≤ h69.size := Nat.le_trans Z0 Kp298.1
                have O299 := (O62.keep K69_1 all0)
                have fk300 : Exa Z h69 b56 "com/example/rockhopper/rockhopper/model/Validators" := (A56.keep K69_1)
                have C301 : CHr Z EL0 s.vm s.heap T69.vm h69 := (C66.trans C69)
                have fk302 : Safe Z EL0 T69.vm h69 b56 := (C69.safe A56.lt fk67)
                refine Go.callSW X69 hx Z69 O69 (tw_3 hw) (tw_4 hw) (tw_5 hw) (tw_6 hw) (by decide) (tw_6 hw) (tw_5 hw) (au_6 l Z a0 hw jv2_6 b56 ga3 gz9 gv13 gk17 gvs18 h69 n0 Zn297 O299 G fk300) (own_EW hw) C301.1 (allS ⟨fk300.lt, fk302⟩ all0) S69 (Nat.le_refl _) e69 (argsL := [(.int jv2_6)]) (rest := [.null, (.ref b56), (.ref b56)]) (pc' := 121) rfl (by rw [hml]; rfl) (lenOf pd_5 rfl) rfl rfl (W := 3) (Nat.le_of_eq rfl) (by decide) (by decide) (by decide) (by decide) (hb hby at_118) ?_
                intro v303 T303 L303 h303 e303 q303 C303 S303 Z303 O303 X303
                rcases q303 with ⟨z303_0_0, z303_0_1, b303_0_0, b303_0_1, k303_0_0, c303_0_0, c303_0_1, rfl, N303_0, K303_0, s303_0_0, n303_0_0, y303_0_0, F303_0_0, F303_0_1, F303_0_2, F303_0_3⟩ | ⟨c303_1_0, rfl, N303_1, K303_1⟩
                · show Go _ _ _ _ (T303.setTop (mkF m 121 #[.val (.int p0), .val (.int p1), .val (.int p2), .val (.int p3), .val (.int p4), .val (.int jv1_5), .val (.int jv2_6), .val (.ref b3), .val (.int z28), .unset, .unset] [(.ref b303_0_0), .null, (.ref b56), (.ref b56)]))
                  have Kp305 : Keep h0 h303 [] := (Kp298.trans K303_0 all0)
                  have Zn304 : n0 ≤ h303.size := Nat.le_trans Z0 Kp305.1
                  have fk306 : Exa Z h303 b56 "com/example/rockhopper/rockhopper/model/Validators" := (fk300.keep K303_0)
                  have fk307 : Fld Z h303 b56 "com/example/rockhopper/rockhopper/model/Validators" "etag" "Ljava/lang/String;" .null := ((b56_etag.keep K69_1 nin0).keep K303_0 nin0)
                  have fk308 : Fld Z h303 b56 "com/example/rockhopper/rockhopper/model/Validators" "lastModified" "Ljava/lang/String;" .null := ((b56_lastModified.keep K69_1 nin0).keep K303_0 nin0)
                  have sz310 : h0.size ≤ b56 := Nat.le_trans Kp58.1 (Nat.le_of_eq g56.symm)
                  have ge309 : n0 ≤ b56 := Nat.le_trans Z0 sz310
                  refine Go.callN X303 hx Z303 O303 rfl (tw_29 hw) (tw_30 hw) (tw_31 hw) (by decide) (tw_31 hw) (tw_2 hw) (au_35 l Z a0 hw b56 b303_0_0 h303 n0 Zn304 fk306 fk307 fk308 ge309) e303 (a := b56) (argsL := [.null, (.ref b303_0_0)]) (rest := [(.ref b56)]) (pc' := 124) rfl (by rw [hml]; rfl) (lenOf pd_6 rfl) rfl rfl (W := 1) (Nat.le_of_eq rfl) (by decide) (by decide) (by decide) (by decide) (hb hby at_121) ?_
                  intro v311 T311 L311 q311 X311
                  obtain ⟨h311, e311⟩ : ∃ z, T311.heap = z := ⟨_, rfl⟩
                  rw [e311] at q311
                  obtain ⟨rfl, N311, K311, F311_0, F311_1, F311_2⟩ := q311
                  show Go _ _ _ _ (T311.setTop (mkF m 124 #[.val (.int p0), .val (.int p1), .val (.int p2), .val (.int p3), .val (.int p4), .val (.int jv1_5), .val (.int jv2_6), .val (.ref b3), .val (.int z28), .unset, .unset] [(.ref b56)]))
                  refine Go.astore X311 hx (pc' := 126) rfl (hb hby at_124) (Ls' := #[.val (.int p0), .val (.int p1), .val (.int p2), .val (.int p3), .val (.int p4), .val (.int jv1_5), .val (.int jv2_6), .val (.ref b3), .val (.int z28), .val (.ref b56), .unset]) rfl rfl ?_
                  refine Go.iloadN X311 hx (pc' := 127) rfl (hb hby at_126) rfl ?_
                  refine Go.iload X311 hx (pc' := 129) rfl (hb hby at_127) rfl ?_
                  have Kp313 : Keep h0 h311 [] := (Kp305.trans K311 (allS (Or.inr sz310) all0))
                  have Zn312 : n0 ≤ h311.size := Nat.le_trans Z0 Kp313.1
                  refine Go.callS X311 hx Z303 O303 (tw_69 hw) (tw_70 hw) (tw_5 hw) (tw_71 hw) (by decide) (tw_71 hw) (tw_5 hw) (au_25 l Z a0 hw p0 jv1_5 h311 n0 Zn312) e311 (argsL := [(.int p0), (.int jv1_5)]) (rest := []) (pc' := 132) rfl (by rw [hml]; rfl) (lenOf pd_12 rfl) rfl rfl (W := 0) (Nat.le_of_eq rfl) (by decide) (by decide) (by decide) (by decide) (hb hby at_129) ?_
                  intro v314 T314 L314 q314 X314
                  rcases q314 with ⟨c314_0_0, rfl, N314_0, e314_0⟩ | ⟨c314_1_0, rfl, N314_1, e314_1⟩
                  · exact absurd c314_0_0 (fun z => absurd (c10_0_0.symm.trans (z.trans c69_1_0)) (by simp))
                  · show Go _ _ _ _ (T314.setTop (mkF m 132 #[.val (.int p0), .val (.int p1), .val (.int p2), .val (.int p3), .val (.int p4), .val (.int jv1_5), .val (.int jv2_6), .val (.ref b3), .val (.int z28), .val (.ref b56), .unset] [(.int 0)]))
                    refine Go.ifYes X314 hx (pc' := 148) (hb hby at_132) (by decide) (by decide) (by decide) ?_
                    refine Go.iconst X314 hx (pc' := 149) rfl (hb hby at_148) (v := (0 : Int32)) rfl ?_
                    refine Go.istore X314 hx (pc' := 151) rfl (hb hby at_149) (Ls' := #[.val (.int p0), .val (.int p1), .val (.int p2), .val (.int p3), .val (.int p4), .val (.int jv1_5), .val (.int jv2_6), .val (.ref b3), .val (.int z28), .val (.ref b56), .val (.int 0)]) rfl ?_
                    refine Go.aload X314 hx (pc' := 153) rfl (hb hby at_151) rfl rfl ?_
                    refine Go.aload X314 hx (pc' := 155) rfl (hb hby at_153) rfl rfl ?_
                    have ne315 : b3 ≠ b56 := Nat.ne_of_lt (Nat.lt_of_lt_of_le F25_0.lt (Nat.le_of_eq g56.symm))
                    have fk316 : Fld Z h311 b3 "com/example/rockhopper/rockhopper/model/Validators" "etag" "Ljava/lang/String;" (.ref b10_0_0) := ((((F25_1.ext E56).keep K69_1 nin0).keep K303_0 nin0).keep K311 (ninS ne315 nin0))
                    have fk317 : Exa Z h311 b3 "com/example/rockhopper/rockhopper/model/Validators" := ((((F25_0.ext E56).keep K69_1).keep K303_0).keep K311)
                    refine Go.callV X314 hx Z303 O303 (tw_37 hw) (tw_38 hw) (notFace_of_selects (args := #[]) (mvT Z303 (tw_40 hw))) (tw_40 hw) (tw_39 hw) (by decide) (tw_41 hw) (tw_2 hw) (au_36 l Z a0 hw b3 b56 b10_0_0 h311 n0 Zn312 fk316 F311_0 F311_1) e314_1 fk317 (argsL := [(.ref b56)]) (rest := []) (pc' := 158) rfl (by rw [hml]; rfl) (lenOf pd_7 rfl) rfl rfl (W := 0) (Nat.le_of_eq rfl) (by decide) (by decide) (by decide) (by decide) (hb hby at_155) ?_
                    intro v318 T318 L318 q318 X318
                    obtain ⟨rfl, N318, e318⟩ := q318
                    show Go _ _ _ _ (T318.setTop (mkF m 158 #[.val (.int p0), .val (.int p1), .val (.int p2), .val (.int p3), .val (.int p4), .val (.int jv1_5), .val (.int jv2_6), .val (.ref b3), .val (.int z28), .val (.ref b56), .val (.int 0)] [(.int 0)]))
                    refine Go.iload X318 hx (pc' := 160) rfl (hb hby at_158) rfl ?_
                    refine Go.icmpNo X318 hx (pc' := 163) rfl (hb hby at_160) (by decide) ?_
                    refine Go.aload X318 hx (pc' := 165) rfl (hb hby at_163) rfl rfl ?_
                    refine Go.aload X318 hx (pc' := 167) rfl (hb hby at_165) rfl rfl ?_
                    have fk319 : Exa Z h311 b10_0_0 "java/lang/String" := ((((((F10_0_0.keep K17_0).keep K25).ext E56).keep K69_1).keep K303_0).keep K311)
                    refine Go.callV X318 hx Z303 O303 (tw_37 hw) (tw_38 hw) (notFace_of_selects (args := #[]) (mvT Z303 (tw_40 hw))) (tw_40 hw) (tw_39 hw) (by decide) (tw_41 hw) (tw_2 hw) (au_37 l Z a0 hw b56 b3 b10_0_0 h311 n0 Zn312 F311_1 fk317 fk316 fk319) e318 F311_0 (argsL := [(.ref b3)]) (rest := []) (pc' := 170) rfl (by rw [hml]; rfl) (lenOf pd_7 rfl) rfl rfl (W := 0) (Nat.le_of_eq rfl) (by decide) (by decide) (by decide) (by decide) (hb hby at_167) ?_
                    intro v320 T320 L320 q320 X320
                    obtain ⟨rfl, N320, e320⟩ := q320
                    show Go _ _ _ _ (T320.setTop (mkF m 170 #[.val (.int p0), .val (.int p1), .val (.int p2), .val (.int p3), .val (.int p4), .val (.int jv1_5), .val (.int jv2_6), .val (.ref b3), .val (.int z28), .val (.ref b56), .val (.int 0)] [(.int 0)]))
                    refine Go.iload X320 hx (pc' := 172) rfl (hb hby at_170) rfl ?_
                    refine Go.icmpNo X320 hx (pc' := 175) rfl (hb hby at_172) (by decide) ?_
                    refine Go.iconst X320 hx (pc' := 176) rfl (hb hby at_175) (v := (1 : Int32)) rfl ?_
                    refine Go.goto X320 hx (pc' := 180) (hb hby at_176) (by decide) (by decide) ?_
                    have C321 : CHr Z EL0 s.vm s.heap T303.vm h303 := (C301.trans C303)
                    have fk322 : Safe Z EL0 T303.vm h303 b56 := (C303.safe fk300.lt fk302)
                    have C323 : CHr Z EL0 s.vm s.heap T303.vm h311 := (C321.trans (CHr.keep K311 (sfS fk322 sf0) C321.1))
                    have hk324 := (Nat.le_trans (Nat.le_refl _) K311.1)
                    refine Go.retNW X320 hx hlk Z303 (own_EW hw) e320 S303 hk324 C323 (t := .boolean) hret (by simp) (hb hby at_180) (by decide) (by decide) (fun hat => ?_)
                    exact ⟨rfl, (Fr.app (Fr.app (Fr.app (Fr.app (Fr.app (Fr.app (Fr.app (Fr.app (Fr.app (Fr.nil n0) N10_0) N17_0) N25) N69_1) N303_0) N311) N314_1) N318) N320)⟩
                · show Go _ _ _ _ (T303.setTop (mkF m 121 #[.val (.int p0), .val (.int p1), .val (.int p2), .val (.int p3), .val (.int p4), .val (.int jv1_5), .val (.int jv2_6), .val (.ref b3), .val (.int z28), .unset, .unset] [.null, .null, (.ref b56), (.ref b56)]))
                  have Kp326 : Keep h0 h303 [] := (Kp298.trans K303_1 all0)
                  have Zn325 : n0 ≤ h303.size := Nat.le_trans Z0 Kp326.1
                  have fk327 : Exa Z h303 b56 "com/example/rockhopper/rockhopper/model/Validators" := (fk300.keep K303_1)
                  have fk328 : Fld Z h303 b56 "com/example/rockhopper/rockhopper/model/Validators" "etag" "Ljava/lang/String;" .null := ((b56_etag.keep K69_1 nin0).keep K303_1 nin0)
                  have fk329 : Fld Z h303 b56 "com/example/rockhopper/rockhopper/model/Validators" "lastModified" "Ljava/lang/String;" .null := ((b56_lastModified.keep K69_1 nin0).keep K303_1 nin0)
                  have sz331 : h0.size ≤ b56 := Nat.le_trans Kp58.1 (Nat.le_of_eq g56.symm)
                  have ge330 : n0 ≤ b56 := Nat.le_trans Z0 sz331
                  refine Go.callN X303 hx Z303 O303 rfl (tw_29 hw) (tw_30 hw) (tw_31 hw) (by decide) (tw_31 hw) (tw_2 hw) (au_38 l Z a0 hw b56 h303 n0 Zn325 fk327 fk328 fk329 ge330) e303 (a := b56) (argsL := [.null, .null]) (rest := [(.ref b56)]) (pc' := 124) rfl (by rw [hml]; rfl) (lenOf pd_6 rfl) rfl rfl (W := 1) (Nat.le_of_eq rfl) (by decide) (by decide) (by decide) (by decide) (hb hby at_121) ?_
                  intro v332 T332 L332 q332 X332
                  obtain ⟨h332, e332⟩ : ∃ z, T332.heap = z := ⟨_, rfl⟩
                  rw [e332] at q332
                  obtain ⟨rfl, N332, K332, F332_0, F332_1, F332_2⟩ := q332
                  show Go _ _ _ _ (T332.setTop (mkF m 124 #[.val (.int p0), .val (.int p1), .val (.int p2), .val (.int p3), .val (.int p4), .val (.int jv1_5), .val (.int jv2_6), .val (.ref b3), .val (.int z28), .unset, .unset] [(.ref b56)]))
                  refine Go.astore X332 hx (pc' := 126) rfl (hb hby at_124) (Ls' := #[.val (.int p0), .val (.int p1), .val (.int p2), .val (.int p3), .val (.int p4), .val (.int jv1_5), .val (.int jv2_6), .val (.ref b3), .val (.int z28), .val (.ref b56), .unset]) rfl rfl ?_
                  refine Go.iloadN X332 hx (pc' := 127) rfl (hb hby at_126) rfl ?_
                  refine Go.iload X332 hx (pc' := 129) rfl (hb hby at_127) rfl ?_
                  have Kp334 : Keep h0 h332 [] := (Kp326.trans K332 (allS (Or.inr sz331) all0))
                  have Zn333 : n0 ≤ h332.size := Nat.le_trans Z0 Kp334.1
                  refine Go.callS X332 hx Z303 O303 (tw_69 hw) (tw_70 hw) (tw_5 hw) (tw_71 hw) (by decide) (tw_71 hw) (tw_5 hw) (au_25 l Z a0 hw p0 jv1_5 h332 n0 Zn333) e332 (argsL := [(.int p0), (.int jv1_5)]) (rest := []) (pc' := 132) rfl (by rw [hml]; rfl) (lenOf pd_12 rfl) rfl rfl (W := 0) (Nat.le_of_eq rfl) (by decide) (by decide) (by decide) (by decide) (hb hby at_129) ?_
                  intro v335 T335 L335 q335 X335
                  rcases q335 with ⟨c335_0_0, rfl, N335_0, e335_0⟩ | ⟨c335_1_0, rfl, N335_1, e335_1⟩
                  · exact absurd c335_0_0 (fun z => absurd (c10_0_0.symm.trans (z.trans c69_1_0)) (by simp))
                  · show Go _ _ _ _ (T335.setTop (mkF m 132 #[.val (.int p0), .val (.int p1), .val (.int p2), .val (.int p3), .val (.int p4), .val (.int jv1_5), .val (.int jv2_6), .val (.ref b3), .val (.int z28), .val (.ref b56), .unset] [(.int 0)]))
                    refine Go.ifYes X335 hx (pc' := 148) (hb hby at_132) (by decide) (by decide) (by decide) ?_
                    refine Go.iconst X335 hx (pc' := 149) rfl (hb hby at_148) (v := (0 : Int32)) rfl ?_
                    refine Go.istore X335 hx (pc' := 151) rfl (hb hby at_149) (Ls' := #[.val (.int p0), .val (.int p1), .val (.int p2), .val (.int p3), .val (.int p4), .val (.int jv1_5), .val (.int jv2_6), .val (.ref b3), .val (.int z28), .val (.ref b56), .val (.int 0)]) rfl ?_
                    refine Go.aload X335 hx (pc' := 153) rfl (hb hby at_151) rfl rfl ?_
                    refine Go.aload X335 hx (pc' := 155) rfl (hb hby at_153) rfl rfl ?_
                    have ne336 : b3 ≠ b56 := Nat.ne_of_lt (Nat.lt_of_lt_of_le F25_0.lt (Nat.le_of_eq g56.symm))
                    have fk337 : Fld Z h332 b3 "com/example/rockhopper/rockhopper/model/Validators" "etag" "Ljava/lang/String;" (.ref b10_0_0) := ((((F25_1.ext E56).keep K69_1 nin0).keep K303_1 nin0).keep K332 (ninS ne336 nin0))
                    have fk338 : Exa Z h332 b3 "com/example/rockhopper/rockhopper/model/Validators" := ((((F25_0.ext E56).keep K69_1).keep K303_1).keep K332)
                    refine Go.callV X335 hx Z303 O303 (tw_37 hw) (tw_38 hw) (notFace_of_selects (args := #[]) (mvT Z303 (tw_40 hw))) (tw_40 hw) (tw_39 hw) (by decide) (tw_41 hw) (tw_2 hw) (au_39 l Z a0 hw b3 b56 b10_0_0 h332 n0 Zn333 fk337 F332_0 F332_1) e335_1 fk338 (argsL := [(.ref b56)]) (rest := []) (pc' := 158) rfl (by rw [hml]; rfl) (lenOf pd_7 rfl) rfl rfl (W := 0) (Nat.le_of_eq rfl) (by decide) (by decide) (by decide) (by decide) (hb hby at_155) ?_
                    intro v339 T339 L339 q339 X339
                    obtain ⟨rfl, N339, e339⟩ := q339
                    show Go _ _ _ _ (T339.setTop (mkF m 158 #[.val (.int p0), .val (.int p1), .val (.int p2), .val (.int p3), .val (.int p4), .val (.int jv1_5), .val (.int jv2_6), .val (.ref b3), .val (.int z28), .val (.ref b56), .val (.int 0)] [(.int 0)]))
                    refine Go.iload X339 hx (pc' := 160) rfl (hb hby at_158) rfl ?_
                    refine Go.icmpNo X339 hx (pc' := 163) rfl (hb hby at_160) (by decide) ?_
                    refine Go.aload X339 hx (pc' := 165) rfl (hb hby at_163) rfl rfl ?_
                    refine Go.aload X339 hx (pc' := 167) rfl (hb hby at_165) rfl rfl ?_
                    have fk340 : Exa Z h332 b10_0_0 "java/lang/String" := ((((((F10_0_0.keep K17_0).keep K25).ext E56).keep K69_1).keep K303_1).keep K332)
                    refine Go.callV X339 hx Z303 O303 (tw_37 hw) (tw_38 hw) (notFace_of_selects (args := #[]) (mvT Z303 (tw_40 hw))) (tw_40 hw) (tw_39 hw) (by decide) (tw_41 hw) (tw_2 hw) (au_40 l Z a0 hw b56 b3 b10_0_0 h332 n0 Zn333 F332_1 fk338 fk337 fk340) e339 F332_0 (argsL := [(.ref b3)]) (rest := []) (pc' := 170) rfl (by rw [hml]; rfl) (lenOf pd_7 rfl) rfl rfl (W := 0) (Nat.le_of_eq rfl) (by decide) (by decide) (by decide) (by decide) (hb hby at_167) ?_
                    intro v341 T341 L341 q341 X341
                    obtain ⟨rfl, N341, e341⟩ := q341
                    show Go _ _ _ _ (T341.setTop (mkF m 170 #[.val (.int p0), .val (.int p1), .val (.int p2), .val (.int p3), .val (.int p4), .val (.int jv1_5), .val (.int jv2_6), .val (.ref b3), .val (.int z28), .val (.ref b56), .val (.int 0)] [(.int 0)]))
                    refine Go.iload X341 hx (pc' := 172) rfl (hb hby at_170) rfl ?_
                    refine Go.icmpNo X341 hx (pc' := 175) rfl (hb hby at_172) (by decide) ?_
                    refine Go.iconst X341 hx (pc' := 176) rfl (hb hby at_175) (v := (1 : Int32)) rfl ?_
                    refine Go.goto X341 hx (pc' := 180) (hb hby at_176) (by decide) (by decide) ?_
                    have C342 : CHr Z EL0 s.vm s.heap T303.vm h303 := (C301.trans C303)
                    have fk343 : Safe Z EL0 T303.vm h303 b56 := (C303.safe fk300.lt fk302)
                    have C344 : CHr Z EL0 s.vm s.heap T303.vm h332 := (C342.trans (CHr.keep K332 (sfS fk343 sf0) C342.1))
                    have hk345 := (Nat.le_trans (Nat.le_refl _) K332.1)
                    refine Go.retNW X341 hx hlk Z303 (own_EW hw) e341 S303 hk345 C344 (t := .boolean) hret (by simp) (hb hby at_180) (by decide) (by decide) (fun hat => ?_)
                    exact ⟨rfl, (Fr.app (Fr.app (Fr.app (Fr.app (Fr.app (Fr.app (Fr.app (Fr.app (Fr.app (Fr.nil n0) N10_0) N17_0) N25) N69_1) N303_1) N332) N335_1) N339) N341)⟩
        · show Go _ _ _ _ (T17.setTop (mkF m 40 #[.val (.int p0), .val (.int p1), .val (.int p2), .val (.int p3), .val (.int p4), .val (.int jv1_5), .val (.int jv2_6), .unset, .unset, .unset, .unset] [.null, (.ref b10_0_0), (.ref b3), (.ref b3)]))
          have Kp347 : Keep h0 h17 [] := (Kp12.trans K17_1 all0)
          have Zn346 : n0 ≤ h17.size := Nat.le_trans Z0 Kp347.1
          have fk348 : Exa Z h17 b3 "com/example/rockhopper/rockhopper/model/Validators" := (fk14.keep K17_1)
          have fk349 : Fld Z h17 b3 "com/example/rockhopper/rockhopper/model/Validators" "etag" "Ljava/lang/String;" .null := ((b3_etag.keep K10_0 nin0).keep K17_1 nin0)
          have fk350 : Fld Z h17 b3 "com/example/rockhopper/rockhopper/model/Validators" "lastModified" "Ljava/lang/String;" .null := ((b3_lastModified.keep K10_0 nin0).keep K17_1 nin0)
          have sz352 : h0.size ≤ b3 := Nat.le_trans (Keep.refl h0 []).1 (Nat.le_of_eq g3.symm)
          have ge351 : n0 ≤ b3 := Nat.le_trans Z0 sz352
          refine Go.callN X17 hx Z17 O17 rfl (tw_29 hw) (tw_30 hw) (tw_31 hw) (by decide) (tw_31 hw) (tw_2 hw) (au_29 l Z a0 hw b3 b10_0_0 h17 n0 Zn346 fk348 fk349 fk350 ge351) e17 (a := b3) (argsL := [(.ref b10_0_0), .null]) (rest := [(.ref b3)]) (pc' := 43) rfl (by rw [hml]; rfl) (lenOf pd_6 rfl) rfl rfl (W := 1) (Nat.le_of_eq rfl) (by decide) (by decide) (by decide) (by decide) (hb hby at_40) ?_
          intro v353 T353 L353 q353 X353
          obtain ⟨h353, e353⟩ : ∃ z, T353.heap = z := ⟨_, rfl⟩
          rw [e353] at q353
          obtain ⟨rfl, N353, K353, F353_0, F353_1, F353_2⟩ := q353
          show Go _ _ _ _ (T353.setTop (mkF m 43 #[.val (.int p0), .val (.int p1), .val (.int p2), .val (.int p3), .val (.int p4), .val (.int jv1_5), .val (.int jv2_6), .unset, .unset, .unset, .unset] [(.ref b3)]))
          refine Go.astore X353 hx (pc' := 45) rfl (hb hby at_43) (Ls' := #[.val (.int p0), .val (.int p1), .val (.int p2), .val (.int p3), .val (.int p4), .val (.int jv1_5), .val (.int jv2_6), .val (.ref b3), .unset, .unset, .unset]) rfl rfl ?_
          refine Go.iload X353 hx (pc' := 47) rfl (hb hby at_45) rfl ?_
          refine Go.iconst X353 hx (pc' := 48) rfl (hb hby at_47) (v := (2 : Int32)) rfl ?_
          refine Go.iushr X353 hx (pc' := 49) rfl (hb hby at_48) ?_
          generalize hz354 : ((p4.toUInt32 >>> ((2 : Int32) &&& 31).toUInt32).toInt32) = z354
          refine Go.iconst X353 hx (pc' := 50) rfl (hb hby at_49) (v := (3 : Int32)) rfl ?_
          refine Go.iand X353 hx (pc' := 51) rfl (hb hby at_50) ?_
          have r355 : 0 ≤ z354.toInt ∧ z354.toInt ≤ 1073741823 := own_rushr hz354 (k := 2) (by decide) (by decide) (by decide)
          generalize hz356 : (z354 &&& (3 : Int32)) = z356
          refine Go.istore X353 hx (pc' := 53) rfl (hb hby at_51) (Ls' := #[.val (.int p0), .val (.int p1), .val (.int p2), .val (.int p3), .val (.int p4), .val (.int jv1_5), .val (.int jv2_6), .val (.ref b3), .val (.int z356), .unset, .unset]) rfl ?_
          refine Go.iload X353 hx (pc' := 55) rfl (hb hby at_53) rfl ?_
          have r357 : 0 ≤ z356.toInt ∧ z356.toInt ≤ 3 := own_rand hz356 (by decide)
          by_cases hc358 : z356 = (0 : Int32)
          · refine Go.ifNo X353 hx (pc' := 58) rfl (hb hby at_55) (teq hc358).2 ?_
            refine Go.aload X353 hx (pc' := 60) rfl (hb hby at_58) rfl rfl ?_
            refine Go.anull X353 hx (pc' := 61) rfl (hb hby at_60) ?_
            have Kp360 : Keep h0 h353 [] := (Kp347.trans K353 (allS (Or.inr sz352) all0))
            have Zn359 : n0 ≤ h353.size := Nat.le_trans Z0 Kp360.1
            refine Go.callV X353 hx Z17 O17 (tw_37 hw) (tw_38 hw) (notFace_of_selects (args := #[]) (mvT Z17 (tw_40 hw))) (tw_40 hw) (tw_39 hw) (by decide) (tw_41 hw) (tw_2 hw) (au_41 l Z a0 hw b3 h353 n0 Zn359) e353 F353_0 (argsL := [.null]) (rest := []) (pc' := 64) rfl (by rw [hml]; rfl) (lenOf pd_7 rfl) rfl rfl (W := 0) (Nat.le_of_eq rfl) (by decide) (by decide) (by decide) (by decide) (hb hby at_61) ?_
            intro v361 T361 L361 q361 X361
            obtain ⟨rfl, N361, e361⟩ := q361
            show Go _ _ _ _ (T361.setTop (mkF m 64 #[.val (.int p0), .val (.int p1), .val (.int p2), .val (.int p3), .val (.int p4), .val (.int jv1_5), .val (.int jv2_6), .val (.ref b3), .val (.int z356), .unset, .unset] [(.int 0)]))
            refine Go.ifNo X361 hx (pc' := 67) rfl (hb hby at_64) (by decide) ?_
            refine Go.iconst X361 hx (pc' := 68) rfl (hb hby at_67) (v := (1 : Int32)) rfl ?_
            refine Go.goto X361 hx (pc' := 72) (hb hby at_68) (by decide) (by decide) ?_
            have C362 : CHr Z EL0 s.vm s.heap T17.vm h17 := (C15.trans C17)
            have fk363 : Safe Z EL0 T17.vm h17 b3 := (C17.safe fk14.lt fk16)
            have C364 : CHr Z EL0 s.vm s.heap T17.vm h353 := (C362.trans (CHr.keep K353 (sfS fk363 sf0) C362.1))
            have hk365 := (Nat.le_trans (Nat.le_refl _) K353.1)
            refine Go.retNW X361 hx hlk Z17 (own_EW hw) e361 S17 hk365 C364 (t := .boolean) hret (by simp) (hb hby at_72) (by decide) (by decide) (fun hat => ?_)
            exact ⟨rfl, (Fr.app (Fr.app (Fr.app (Fr.app (Fr.nil n0) N10_0) N17_1) N353) N361)⟩
          · refine Go.ifYes X353 hx (pc' := 73) (hb hby at_55) (feq hc358).2 (by decide) (by decide) ?_
            refine Go.iload X353 hx (pc' := 75) rfl (hb hby at_73) rfl ?_
            refine Go.iconst X353 hx (pc' := 76) rfl (hb hby at_75) (v := (1 : Int32)) rfl ?_
            by_cases hc366 : z356 = (1 : Int32)
            · refine Go.icmpNo X353 hx (pc' := 79) rfl (hb hby at_76) (teq hc366).2 ?_
              refine Go.aload X353 hx (pc' := 81) rfl (hb hby at_79) rfl rfl ?_
              refine Go.iloadN X353 hx (pc' := 82) rfl (hb hby at_81) rfl ?_
              have Kp368 : Keep h0 h353 [] := (Kp347.trans K353 (allS (Or.inr sz352) all0))
              have Zn367 : n0 ≤ h353.size := Nat.le_trans Z0 Kp368.1
              have O369 := (O13.keep K17_1 all0)
              have O370 := (O369.keep K353 (allS ge351 all0))
              refine Go.callS X353 hx Z17 O17 (tw_42 hw) (tw_43 hw) (tw_44 hw) (tw_45 hw) (by decide) (tw_45 hw) (tw_44 hw) (au_19 l Z a0 hw p0 ga3 gz9 gv13 gk17 gvs18 h353 n0 Zn367 O370 G) e353 (argsL := [(.int p0)]) (rest := [(.ref b3)]) (pc' := 85) rfl (by rw [hml]; rfl) (lenOf pd_10 rfl) rfl rfl (W := 1) (Nat.le_of_eq rfl) (by decide) (by decide) (by decide) (by decide) (hb hby at_82) ?_
              intro v371 T371 L371 q371 X371
              obtain ⟨h371, e371⟩ : ∃ z, T371.heap = z := ⟨_, rfl⟩
              rw [e371] at q371
              obtain ⟨b371_0, rfl, N371, K371, F371_0⟩ := q371
              show Go _ _ _ _ (T371.setTop (mkF m 85 #[.val (.int p0), .val (.int p1), .val (.int p2), .val (.int p3), .val (.int p4), .val (.int jv1_5), .val (.int jv2_6), .val (.ref b3), .val (.int z356), .unset, .unset] [(.ref b371_0), (.ref b3)]))
              have Kp373 : Keep h0 h371 [] := (Kp368.trans K371 all0)
              have Zn372 : n0 ≤ h371.size := Nat.le_trans Z0 Kp373.1
              have fk374 : Exa Z h371 b3 "com/example/rockhopper/rockhopper/model/Validators" := (F353_0.keep K371)
              refine Go.callV X371 hx Z17 O17 (tw_37 hw) (tw_38 hw) (notFace_of_selects (args := #[]) (mvT Z17 (tw_40 hw))) (tw_40 hw) (tw_39 hw) (by decide) (tw_41 hw) (tw_2 hw) (au_42 l Z a0 hw b3 b371_0 h371 n0 Zn372 F371_0) e371 fk374 (argsL := [(.ref b371_0)]) (rest := []) (pc' := 88) rfl (by rw [hml]; rfl) (lenOf pd_7 rfl) rfl rfl (W := 0) (Nat.le_of_eq rfl) (by decide) (by decide) (by decide) (by decide) (hb hby at_85) ?_
              intro v375 T375 L375 q375 X375
              obtain ⟨rfl, N375, e375⟩ := q375
              show Go _ _ _ _ (T375.setTop (mkF m 88 #[.val (.int p0), .val (.int p1), .val (.int p2), .val (.int p3), .val (.int p4), .val (.int jv1_5), .val (.int jv2_6), .val (.ref b3), .val (.int z356), .unset, .unset] [(.int 0)]))
              refine Go.ifNo X375 hx (pc' := 91) rfl (hb hby at_88) (by decide) ?_
              refine Go.aload X375 hx (pc' := 93) rfl (hb hby at_91) rfl rfl ?_
              refine Go.aload X375 hx (pc' := 95) rfl (hb hby at_93) rfl rfl ?_
              have fk376 : Fld Z h371 b3 "com/example/rockhopper/rockhopper/model/Validators" "etag" "Ljava/lang/String;" (.ref b10_0_0) := (F353_1.keep K371 nin0)
              have fk377 : Fld Z h371 b3 "com/example/rockhopper/rockhopper/model/Validators" "lastModified" "Ljava/lang/String;" .null := (F353_2.keep K371 nin0)
              refine Go.callV X375 hx Z17 O17 (tw_37 hw) (tw_38 hw) (notFace_of_selects (args := #[]) (mvT Z17 (tw_40 hw))) (tw_40 hw) (tw_39 hw) (by decide) (tw_41 hw) (tw_2 hw) (au_43 l Z a0 hw b3 b10_0_0 h371 n0 Zn372 fk374 fk376 fk377) e375 fk374 (argsL := [(.ref b3)]) (rest := []) (pc' := 98) rfl (by rw [hml]; rfl) (lenOf pd_7 rfl) rfl rfl (W := 0) (Nat.le_of_eq rfl) (by decide) (by decide) (by decide) (by decide) (hb hby at_95) ?_
              intro v378 T378 L378 q378 X378
              obtain ⟨rfl, N378, e378⟩ := q378
              show Go _ _ _ _ (T378.setTop (mkF m 98 #[.val (.int p0), .val (.int p1), .val (.int p2), .val (.int p3), .val (.int p4), .val (.int jv1_5), .val (.int jv2_6), .val (.ref b3), .val (.int z356), .unset, .unset] [(.int 1)]))
              refine Go.ifNo X378 hx (pc' := 101) rfl (hb hby at_98) (by decide) ?_
              refine Go.iconst X378 hx (pc' := 102) rfl (hb hby at_101) (v := (1 : Int32)) rfl ?_
              refine Go.goto X378 hx (pc' := 106) (hb hby at_102) (by decide) (by decide) ?_
              have C379 : CHr Z EL0 s.vm s.heap T17.vm h17 := (C15.trans C17)
              have fk380 : Safe Z EL0 T17.vm h17 b3 := (C17.safe fk14.lt fk16)
              have C381 : CHr Z EL0 s.vm s.heap T17.vm h353 := (C379.trans (CHr.keep K353 (sfS fk380 sf0) C379.1))
              have C382 : CHr Z EL0 s.vm s.heap T17.vm h371 := (C381.trans (CHr.keep K371 sf0 C381.1))
              have hk383 := (Nat.le_trans (Nat.le_trans (Nat.le_refl _) K353.1) K371.1)
              refine Go.retNW X378 hx hlk Z17 (own_EW hw) e378 S17 hk383 C382 (t := .boolean) hret (by simp) (hb hby at_106) (by decide) (by decide) (fun hat => ?_)
              exact ⟨rfl, (Fr.app (Fr.app (Fr.app (Fr.app (Fr.app (Fr.app (Fr.nil n0) N10_0) N17_1) N353) N371) N375) N378)⟩
            · refine Go.icmpYes X353 hx (pc' := 107) (hb hby at_76) (feq hc366).2 (by decide) (by decide) ?_
              refine Go.new X353 hx Z17 O17 (tw_0 hw) (tw_1 hw) (tw_2 hw) e353 (by decide) (by decide) (pc' := 110) rfl (hb hby at_107) ?_
              intro T384 h384 b384 e384 E384 g384 A384 D384 X384
              have b384_etag : Fld Z h384 b384 "com/example/rockhopper/rockhopper/model/Validators" "etag" "Ljava/lang/String;" .null := D384 (Or.inr (tw_34 hw)) (ty := (.object "java/lang/String")) (by decide)
              have b384_lastModified : Fld Z h384 b384 "com/example/rockhopper/rockhopper/model/Validators" "lastModified" "Ljava/lang/String;" .null := D384 (Or.inr (tw_36 hw)) (ty := (.object "java/lang/String")) (by decide)
              refine Go.dup X384 hx (pc' := 111) rfl (hb hby at_110) rfl ?_
              refine Go.iload X384 hx (pc' := 113) rfl (hb hby at_111) rfl ?_
              have Kp386 : Keep h0 h353 [] := (Kp347.trans K353 (allS (Or.inr sz352) all0))
              have Kp387 : Keep h0 h384 [] := (Kp386.ext E384)
              have Zn385 : n0 ≤ h384.size := Nat.le_trans Z0 Kp387.1
              have O388 := (O13.keep K17_1 all0)
              have O389 := (O388.keep K353 (allS ge351 all0))
              have O390 := (O389.ext E384)
              have C391 : CHr Z EL0 s.vm s.heap T17.vm h17 := (C15.trans C17)
              have fk392 : Safe Z EL0 T17.vm h17 b3 := (C17.safe fk14.lt fk16)
              have C393 : CHr Z EL0 s.vm s.heap T17.vm h353 := (C391.trans (CHr.keep K353 (sfS fk392 sf0) C391.1))
              have C394 : CHr Z EL0 s.vm s.heap T17.vm h384 := (C393.trans (CHr.ext E384 C393.1))
              have fk395 : Safe Z EL0 T17.vm h384 b384 := (Safe.ext E384 C393.1 (Safe.new (Nat.le_of_eq g384.symm) : Safe Z EL0 T17.vm h353 b384))
              have hk396 := (Nat.le_trans (Nat.le_trans (Nat.le_refl _) K353.1) E384.1)
              refine Go.callSW X384 hx Z17 O17 (tw_3 hw) (tw_4 hw) (tw_5 hw) (tw_6 hw) (by decide) (tw_6 hw) (tw_5 hw) (au_6 l Z a0 hw jv1_5 b384 ga3 gz9 gv13 gk17 gvs18 h384 n0 Zn385 O390 G A384) (own_EW hw) C394.1 (allS ⟨A384.lt, fk395⟩ all0) S17 hk396 e384 (argsL := [(.int jv1_5)]) (rest := [(.ref b384), (.ref b384)]) (pc' := 116) rfl (by rw [hml]; rfl) (lenOf pd_5 rfl) rfl rfl (W := 2) (Nat.le_of_eq rfl) (by decide) (by decide) (by decide) (by decide) (hb hby at_113) ?_
              intro v397 T397 L397 h397 e397 q397 C397 S397 Z397 O397 X397
              rcases q397 with ⟨z397_0_0, z397_0_1, b397_0_0, b397_0_1, k397_0_0, c397_0_0, c397_0_1, rfl, N397_0, K397_0, s397_0_0, n397_0_0, y397_0_0, F397_0_0, F397_0_1, F397_0_2, F397_0_3⟩ | ⟨c397_1_0, rfl, N397_1, K397_1⟩
              · show Go _ _ _ _ (T397.setTop (mkF m 116 #[.val (.int p0), .val (.int p1), .val (.int p2), .val (.int p3), .val (.int p4), .val (.int jv1_5), .val (.int jv2_6), .val (.ref b3), .val (.int z356), .unset, .unset] [(.ref b397_0_0), (.ref b384), (.ref b384)]))
                refine Go.iload X397 hx (pc' := 118) rfl (hb hby at_116) rfl ?_
                have Kp399 : Keep h0 h397 [] := (Kp387.trans K397_0 all0)
                have Zn398 : n0 ≤ h397.size := Nat.le_trans Z0 Kp399.1
                have O400 := (O390.keep K397_0 all0)
                have fk401 : Exa Z h397 b384 "com/example/rockhopper/rockhopper/model/Validators" := (A384.keep K397_0)
                have C402 : CHr Z EL0 s.vm s.heap T397.vm h397 := (C394.trans C397)
                have fk403 : Safe Z EL0 T397.vm h397 b384 := (C397.safe A384.lt fk395)
                refine Go.callSW X397 hx Z397 O397 (tw_3 hw) (tw_4 hw) (tw_5 hw) (tw_6 hw) (by decide) (tw_6 hw) (tw_5 hw) (au_6 l Z a0 hw jv2_6 b384 ga3 gz9 gv13 gk17 gvs18 h397 n0 Zn398 O400 G fk401) (own_EW hw) C402.1 (allS ⟨fk401.lt, fk403⟩ all0) S397 (Nat.le_refl _) e397 (argsL := [(.int jv2_6)]) (rest := [(.ref b397_0_0), (.ref b384), (.ref b384)]) (pc' := 121) rfl (by rw [hml]; rfl) (lenOf pd_5 rfl) rfl rfl (W := 3) (Nat.le_of_eq rfl) (by decide) (by decide) (by decide) (by decide) (hb hby at_118) ?_
                intro v404 T404 L404 h404 e404 q404 C404 S404 Z404 O404 X404
                rcases q404 with ⟨z404_0_0, z404_0_1, b404_0_0, b404_0_1, k404_0_0, c404_0_0, c404_0_1, rfl, N404_0, K404_0, s404_0_0, n404_0_0, y404_0_0, F404_0_0, F404_0_1, F404_0_2, F404_0_3⟩ | ⟨c404_1_0, rfl, N404_1, K404_1⟩
                · show Go _ _ _ _ (T404.setTop (mkF m 121 #[.val (.int p0), .val (.int p1), .val (.int p2), .val (.int p3), .val (.int p4), .val (.int jv1_5), .val (.int jv2_6), .val (.ref b3), .val (.int z356), .unset, .unset] [(.ref b404_0_0), (.ref b397_0_0), (.ref b384), (.ref b384)]))
                  have Kp406 : Keep h0 h404 [] := (Kp399.trans K404_0 all0)
                  have Zn405 : n0 ≤ h404.size := Nat.le_trans Z0 Kp406.1
                  have fk407 : Exa Z h404 b384 "com/example/rockhopper/rockhopper/model/Validators" := (fk401.keep K404_0)
                  have fk408 : Fld Z h404 b384 "com/example/rockhopper/rockhopper/model/Validators" "etag" "Ljava/lang/String;" .null := ((b384_etag.keep K397_0 nin0).keep K404_0 nin0)
                  have fk409 : Fld Z h404 b384 "com/example/rockhopper/rockhopper/model/Validators" "lastModified" "Ljava/lang/String;" .null := ((b384_lastModified.keep K397_0 nin0).keep K404_0 nin0)
                  have sz411 : h0.size ≤ b384 := Nat.le_trans Kp386.1 (Nat.le_of_eq g384.symm)
                  have ge410 : n0 ≤ b384 := Nat.le_trans Z0 sz411
                  refine Go.callN X404 hx Z404 O404 rfl (tw_29 hw) (tw_30 hw) (tw_31 hw) (by decide) (tw_31 hw) (tw_2 hw) (au_17 l Z a0 hw b384 b397_0_0 b404_0_0 h404 n0 Zn405 fk407 fk408 fk409 ge410) e404 (a := b384) (argsL := [(.ref b397_0_0), (.ref b404_0_0)]) (rest := [(.ref b384)]) (pc' := 124) rfl (by rw [hml]; rfl) (lenOf pd_6 rfl) rfl rfl (W := 1) (Nat.le_of_eq rfl) (by decide) (by decide) (by decide) (by decide) (hb hby at_121) ?_
                  intro v412 T412 L412 q412 X412
                  obtain ⟨h412, e412⟩ : ∃ z, T412.heap = z := ⟨_, rfl⟩
                  rw [e412] at q412
                  obtain ⟨rfl, N412, K412, F412_0, F412_1, F412_2⟩ := q412
                  show Go _ _ _ _ (T412.setTop (mkF m 124 #[.val (.int p0), .val (.int p1), .val (.int p2), .val (.int p3), .val (.int p4), .val (.int jv1_5), .val (.int jv2_6), .val (.ref b3), .val (.int z356), .unset, .unset] [(.ref b384)]))
                  refine Go.astore X412 hx (pc' := 126) rfl (hb hby at_124) (Ls' := #[.val (.int p0), .val (.int p1), .val (.int p2), .val (.int p3), .val (.int p4), .val (.int jv1_5), .val (.int jv2_6), .val (.ref b3), .val (.int z356), .val (.ref b384), .unset]) rfl rfl ?_
                  refine Go.iloadN X412 hx (pc' := 127) rfl (hb hby at_126) rfl ?_
                  refine Go.iload X412 hx (pc' := 129) rfl (hb hby at_127) rfl ?_
                  have Kp414 : Keep h0 h412 [] := (Kp406.trans K412 (allS (Or.inr sz411) all0))
                  have Zn413 : n0 ≤ h412.size := Nat.le_trans Z0 Kp414.1
                  refine Go.callS X412 hx Z404 O404 (tw_69 hw) (tw_70 hw) (tw_5 hw) (tw_71 hw) (by decide) (tw_71 hw) (tw_5 hw) (au_25 l Z a0 hw p0 jv1_5 h412 n0 Zn413) e412 (argsL := [(.int p0), (.int jv1_5)]) (rest := []) (pc' := 132) rfl (by rw [hml]; rfl) (lenOf pd_12 rfl) rfl rfl (W := 0) (Nat.le_of_eq rfl) (by decide) (by decide) (by decide) (by decide) (hb hby at_129) ?_
                  intro v415 T415 L415 q415 X415
                  rcases q415 with ⟨c415_0_0, rfl, N415_0, e415_0⟩ | ⟨c415_1_0, rfl, N415_1, e415_1⟩
                  · have hk416 : z10_0_0 = z397_0_0 := Option.some.inj (c10_0_0.symm.trans (c415_0_0.trans c397_0_0))
                    show Go _ _ _ _ (T415.setTop (mkF m 132 #[.val (.int p0), .val (.int p1), .val (.int p2), .val (.int p3), .val (.int p4), .val (.int jv1_5), .val (.int jv2_6), .val (.ref b3), .val (.int z356), .val (.ref b384), .unset] [(.int 1)]))
                    refine Go.ifNo X415 hx (pc' := 135) rfl (hb hby at_132) (by decide) ?_
                    refine Go.iloadN X415 hx (pc' := 136) rfl (hb hby at_135) rfl ?_
                    refine Go.iload X415 hx (pc' := 138) rfl (hb hby at_136) rfl ?_
                    refine Go.callS X415 hx Z404 O404 (tw_69 hw) (tw_70 hw) (tw_5 hw) (tw_71 hw) (by decide) (tw_71 hw) (tw_5 hw) (au_25 l Z a0 hw p1 jv2_6 h412 n0 Zn413) e415_0 (argsL := [(.int p1), (.int jv2_6)]) (rest := []) (pc' := 141) rfl (by rw [hml]; rfl) (lenOf pd_12 rfl) rfl rfl (W := 0) (Nat.le_of_eq rfl) (by decide) (by decide) (by decide) (by decide) (hb hby at_138) ?_
                    intro v417 T417 L417 q417 X417
                    rcases q417 with ⟨c417_0_0, rfl, N417_0, e417_0⟩ | ⟨c417_1_0, rfl, N417_1, e417_1⟩
                    · exact absurd c417_0_0 (fun z => absurd (c17_1_0.symm.trans (z.trans c404_0_0)) (by simp))
                    · show Go _ _ _ _ (T417.setTop (mkF m 141 #[.val (.int p0), .val (.int p1), .val (.int p2), .val (.int p3), .val (.int p4), .val (.int jv1_5), .val (.int jv2_6), .val (.ref b3), .val (.int z356), .val (.ref b384), .unset] [(.int 0)]))
                      refine Go.ifYes X417 hx (pc' := 148) (hb hby at_141) (by decide) (by decide) (by decide) ?_
                      refine Go.iconst X417 hx (pc' := 149) rfl (hb hby at_148) (v := (0 : Int32)) rfl ?_
                      refine Go.istore X417 hx (pc' := 151) rfl (hb hby at_149) (Ls' := #[.val (.int p0), .val (.int p1), .val (.int p2), .val (.int p3), .val (.int p4), .val (.int jv1_5), .val (.int jv2_6), .val (.ref b3), .val (.int z356), .val (.ref b384), .val (.int 0)]) rfl ?_
                      refine Go.aload X417 hx (pc' := 153) rfl (hb hby at_151) rfl rfl ?_
                      refine Go.aload X417 hx (pc' := 155) rfl (hb hby at_153) rfl rfl ?_
                      have O418 := (O400.keep K404_0 all0)
                      have O419 := (O418.keep K412 (allS ge410 all0))
                      have ne420 : b3 ≠ b384 := Nat.ne_of_lt (Nat.lt_of_lt_of_le F353_0.lt (Nat.le_of_eq g384.symm))
                      have fk421 : Fld Z h412 b3 "com/example/rockhopper/rockhopper/model/Validators" "etag" "Ljava/lang/String;" (.ref b10_0_0) := ((((F353_1.ext E384).keep K397_0 nin0).keep K404_0 nin0).keep K412 (ninS ne420 nin0))
                      have fk422 : Fld Z h412 b3 "com/example/rockhopper/rockhopper/model/Validators" "lastModified" "Ljava/lang/String;" .null := ((((F353_2.ext E384).keep K397_0 nin0).keep K404_0 nin0).keep K412 (ninS ne420 nin0))
                      have fk423 : Exa Z h412 b10_0_0 "java/lang/String" := ((((((F10_0_0.keep K17_1).keep K353).ext E384).keep K397_0).keep K404_0).keep K412)
                      have ne424 : b3 ≠ b10_0_0 := Nat.ne_of_lt (Nat.lt_of_lt_of_le A3.lt s10_0_0)
                      have fk426 : Exa Z h353 b10_0_0 "java/lang/String" := ((F10_0_0.keep K17_1).keep K353)
                      have ne425 : b10_0_0 ≠ b384 := Nat.ne_of_lt (Nat.lt_of_lt_of_le fk426.lt (Nat.le_of_eq g384.symm))
                      have fk427 : Fld Z h412 b10_0_0 "java/lang/String" "coder" "B" (.int 0) := ((((((F10_0_1.keep K17_1 nin0).keep K353 (ninS (Ne.symm ne424) nin0)).ext E384).keep K397_0 nin0).keep K404_0 nin0).keep K412 (ninS ne425 nin0))
                      have fk428 : Fld Z h412 b10_0_0 "java/lang/String" "value" "[B" (.ref b10_0_1) := ((((((F10_0_2.keep K17_1 nin0).keep K353 (ninS (Ne.symm ne424) nin0)).ext E384).keep K397_0 nin0).keep K404_0 nin0).keep K412 (ninS ne425 nin0))
                      have fk429 : Exa Z h412 b397_0_0 "java/lang/String" := ((F397_0_0.keep K404_0).keep K412)
                      have ne430 : b384 ≠ b397_0_0 := Nat.ne_of_lt (Nat.lt_of_lt_of_le A384.lt s397_0_0)
                      have fk431 : Fld Z h412 b397_0_0 "java/lang/String" "coder" "B" (.int 0) := ((F397_0_1.keep K404_0 nin0).keep K412 (ninS (Ne.symm ne430) nin0))
                      have fk432 : Fld Z h412 b397_0_0 "java/lang/String" "value" "[B" (.ref b397_0_1) := ((F397_0_2.keep K404_0 nin0).keep K412 (ninS (Ne.symm ne430) nin0))
                      have fk433 : Exa Z h412 b404_0_0 "java/lang/String" := (F404_0_0.keep K412)
                      have fk435 := ((F10_0_3.keep K17_1 nin0).keep K353 (ninS n10_0_0 nin0))
                      have ne434 : b10_0_1 ≠ b384 := Nat.ne_of_lt (Nat.lt_of_lt_of_le fk435.lt (Nat.le_of_eq g384.symm))
                      have fk436 := ((((((F10_0_3.keep K17_1 nin0).keep K353 (ninS n10_0_0 nin0)).ext E384).keep K397_0 nin0).keep K404_0 nin0).keep K412 (ninS ne434 nin0))
                      have fk437 := ((F397_0_3.keep K404_0 nin0).keep K412 (ninS n397_0_0 nin0))
                      have fk439 : Exa Z h384 b10_0_0 "java/lang/String" := (fk426.ext E384)
                      have ne438 : b10_0_0 ≠ b397_0_0 := Nat.ne_of_lt (Nat.lt_of_lt_of_le fk439.lt s397_0_0)
                      have fk440 : Exa Z h412 b3 "com/example/rockhopper/rockhopper/model/Validators" := ((((F353_0.ext E384).keep K397_0).keep K404_0).keep K412)
                      refine Go.callV X417 hx Z404 O404 (tw_37 hw) (tw_38 hw) (notFace_of_selects (args := #[]) (mvT Z404 (tw_40 hw))) (tw_40 hw) (tw_39 hw) (by decide) (tw_41 hw) (tw_2 hw) (au_32 l Z a0 hw b3 b384 b10_0_0 b397_0_0 b404_0_0 b10_0_1 b397_0_1 k10_0_0 z10_0_0 z10_0_1 k397_0_0 z397_0_0 z397_0_1 ga3 gz9 gv13 gk17 gvs18 h412 n0 Zn413 O419 G fk421 fk422 F412_0 F412_1 F412_2 fk423 fk427 fk428 fk429 fk431 fk432 fk433 fk436 fk437 c10_0_1 c397_0_1 (Ne.symm ne438)) e417_1 fk440 (argsL := [(.ref b384)]) (rest := []) (pc' := 158) rfl (by rw [hml]; rfl) (lenOf pd_7 rfl) rfl rfl (W := 0) (Nat.le_of_eq rfl) (by decide) (by decide) (by decide) (by decide) (hb hby at_155) ?_
                      intro v441 T441 L441 q441 X441
                      obtain ⟨rfl, N441, e441⟩ := q441
                      show Go _ _ _ _ (T441.setTop (mkF m 158 #[.val (.int p0), .val (.int p1), .val (.int p2), .val (.int p3), .val (.int p4), .val (.int jv1_5), .val (.int jv2_6), .val (.ref b3), .val (.int z356), .val (.ref b384), .val (.int 0)] [(.int 0)]))
                      refine Go.iload X441 hx (pc' := 160) rfl (hb hby at_158) rfl ?_
                      refine Go.icmpNo X441 hx (pc' := 163) rfl (hb hby at_160) (by decide) ?_
                      refine Go.aload X441 hx (pc' := 165) rfl (hb hby at_163) rfl rfl ?_
                      refine Go.aload X441 hx (pc' := 167) rfl (hb hby at_165) rfl rfl ?_
                      refine Go.callV X441 hx Z404 O404 (tw_37 hw) (tw_38 hw) (notFace_of_selects (args := #[]) (mvT Z404 (tw_40 hw))) (tw_40 hw) (tw_39 hw) (by decide) (tw_41 hw) (tw_2 hw) (au_30 l Z a0 hw b384 b3 b397_0_0 b404_0_0 b10_0_0 b397_0_1 b10_0_1 k397_0_0 z397_0_0 z397_0_1 k10_0_0 z10_0_0 z10_0_1 ga3 gz9 gv13 gk17 gvs18 h412 n0 Zn413 O419 G F412_1 F412_2 fk440 fk421 fk422 fk429 fk431 fk432 fk423 fk427 fk428 fk437 fk436 c397_0_1 c10_0_1 ne438) e441 F412_0 (argsL := [(.ref b3)]) (rest := []) (pc' := 170) rfl (by rw [hml]; rfl) (lenOf pd_7 rfl) rfl rfl (W := 0) (Nat.le_of_eq rfl) (by decide) (by decide) (by decide) (by decide) (hb hby at_167) ?_
                      intro v442 T442 L442 q442 X442
                      obtain ⟨rfl, N442, e442⟩ := q442
                      show Go _ _ _ _ (T442.setTop (mkF m 170 #[.val (.int p0), .val (.int p1), .val (.int p2), .val (.int p3), .val (.int p4), .val (.int jv1_5), .val (.int jv2_6), .val (.ref b3), .val (.int z356), .val (.ref b384), .val (.int 0)] [(.int 0)]))
                      refine Go.iload X442 hx (pc' := 172) rfl (hb hby at_170) rfl ?_
                      refine Go.icmpNo X442 hx (pc' := 175) rfl (hb hby at_172) (by decide) ?_
                      refine Go.iconst X442 hx (pc' := 176) rfl (hb hby at_175) (v := (1 : Int32)) rfl ?_
                      refine Go.goto X442 hx (pc' := 180) (hb hby at_176) (by decide) (by decide) ?_
                      have C443 : CHr Z EL0 s.vm s.heap T404.vm h404 := (C402.trans C404)
                      have fk444 : Safe Z EL0 T404.vm h404 b384 := (C404.safe fk401.lt fk403)
                      have C445 : CHr Z EL0 s.vm s.heap T404.vm h412 := (C443.trans (CHr.keep K412 (sfS fk444 sf0) C443.1))
                      have hk446 := (Nat.le_trans (Nat.le_refl _) K412.1)
                      refine Go.retNW X442 hx hlk Z404 (own_EW hw) e442 S404 hk446 C445 (t := .boolean) hret (by simp) (hb hby at_180) (by decide) (by decide) (fun hat => ?_)
                      exact ⟨rfl, (Fr.app (Fr.app (Fr.app (Fr.app (Fr.app (Fr.app (Fr.app (Fr.app (Fr.app (Fr.app (Fr.nil n0) N10_0) N17_1) N353) N397_0) N404_0) N412) N415_0) N417_1) N441) N442)⟩
                  · have hk447 : ¬ z10_0_0 = z397_0_0 := fun z => c415_1_0 (c10_0_0.trans ((congrArg some z).trans c397_0_0.symm))
                    show Go _ _ _ _ (T415.setTop (mkF m 132 #[.val (.int p0), .val (.int p1), .val (.int p2), .val (.int p3), .val (.int p4), .val (.int jv1_5), .val (.int jv2_6), .val (.ref b3), .val (.int z356), .val (.ref b384), .unset] [(.int 0)]))
                    refine Go.ifYes X415 hx (pc' := 148) (hb hby at_132) (by decide) (by decide) (by decide) ?_
                    refine Go.iconst X415 hx (pc' := 149) rfl (hb hby at_148) (v := (0 : Int32)) rfl ?_
                    refine Go.istore X415 hx (pc' := 151) rfl (hb hby at_149) (Ls' := #[.val (.int p0), .val (.int p1), .val (.int p2), .val (.int p3), .val (.int p4), .val (.int jv1_5), .val (.int jv2_6), .val (.ref b3), .val (.int z356), .val (.ref b384), .val (.int 0)]) rfl ?_
                    refine Go.aload X415 hx (pc' := 153) rfl (hb hby at_151) rfl rfl ?_
                    refine Go.aload X415 hx (pc' := 155) rfl (hb hby at_153) rfl rfl ?_
                    have O448 := (O400.keep K404_0 all0)
                    have O449 := (O448.keep K412 (allS ge410 all0))
                    have ne450 : b3 ≠ b384 := Nat.ne_of_lt (Nat.lt_of_lt_of_le F353_0.lt (Nat.le_of_eq g384.symm))
                    have fk451 : Fld Z h412 b3 "com/example/rockhopper/rockhopper/model/Validators" "etag" "Ljava/lang/String;" (.ref b10_0_0) := ((((F353_1.ext E384).keep K397_0 nin0).keep K404_0 nin0).keep K412 (ninS ne450 nin0))
                    have fk452 : Fld Z h412 b3 "com/example/rockhopper/rockhopper/model/Validators" "lastModified" "Ljava/lang/String;" .null := ((((F353_2.ext E384).keep K397_0 nin0).keep K404_0 nin0).keep K412 (ninS ne450 nin0))
                    have fk453 : Exa Z h412 b10_0_0 "java/lang/String" := ((((((F10_0_0.keep K17_1).keep K353).ext E384).keep K397_0).keep K404_0).keep K412)
                    have ne454 : b3 ≠ b10_0_0 := Nat.ne_of_lt (Nat.lt_of_lt_of_le A3.lt s10_0_0)
                    have fk456 : Exa Z h353 b10_0_0 "java/lang/String" := ((F10_0_0.keep K17_1).keep K353)
                    have ne455 : b10_0_0 ≠ b384 := Nat.ne_of_lt (Nat.lt_of_lt_of_le fk456.lt (Nat.le_of_eq g384.symm))
                    have fk457 : Fld Z h412 b10_0_0 "java/lang/String" "coder" "B" (.int 0) := ((((((F10_0_1.keep K17_1 nin0).keep K353 (ninS (Ne.symm ne454) nin0)).ext E384).keep K397_0 nin0).keep K404_0 nin0).keep K412 (ninS ne455 nin0))
                    have fk458 : Fld Z h412 b10_0_0 "java/lang/String" "value" "[B" (.ref b10_0_1) := ((((((F10_0_2.keep K17_1 nin0).keep K353 (ninS (Ne.symm ne454) nin0)).ext E384).keep K397_0 nin0).keep K404_0 nin0).keep K412 (ninS ne455 nin0))
                    have fk459 : Exa Z h412 b397_0_0 "java/lang/String" := ((F397_0_0.keep K404_0).keep K412)
                    have ne460 : b384 ≠ b397_0_0 := Nat.ne_of_lt (Nat.lt_of_lt_of_le A384.lt s397_0_0)
                    have fk461 : Fld Z h412 b397_0_0 "java/lang/String" "coder" "B" (.int 0) := ((F397_0_1.keep K404_0 nin0).keep K412 (ninS (Ne.symm ne460) nin0))
                    have fk462 : Fld Z h412 b397_0_0 "java/lang/String" "value" "[B" (.ref b397_0_1) := ((F397_0_2.keep K404_0 nin0).keep K412 (ninS (Ne.symm ne460) nin0))
                    have fk463 : Exa Z h412 b404_0_0 "java/lang/String" := (F404_0_0.keep K412)
                    have fk465 := ((F10_0_3.keep K17_1 nin0).keep K353 (ninS n10_0_0 nin0))
                    have ne464 : b10_0_1 ≠ b384 := Nat.ne_of_lt (Nat.lt_of_lt_of_le fk465.lt (Nat.le_of_eq g384.symm))
                    have fk466 := ((((((F10_0_3.keep K17_1 nin0).keep K353 (ninS n10_0_0 nin0)).ext E384).keep K397_0 nin0).keep K404_0 nin0).keep K412 (ninS ne464 nin0))
                    have fk467 := ((F397_0_3.keep K404_0 nin0).keep K412 (ninS n397_0_0 nin0))
                    have fk469 : Exa Z h384 b10_0_0 "java/lang/String" := (fk456.ext E384)
                    have ne468 : b10_0_0 ≠ b397_0_0 := Nat.ne_of_lt (Nat.lt_of_lt_of_le fk469.lt s397_0_0)
                    have fk470 : Exa Z h412 b3 "com/example/rockhopper/rockhopper/model/Validators" := ((((F353_0.ext E384).keep K397_0).keep K404_0).keep K412)
                    refine Go.callV X415 hx Z404 O404 (tw_37 hw) (tw_38 hw) (notFace_of_selects (args := #[]) (mvT Z404 (tw_40 hw))) (tw_40 hw) (tw_39 hw) (by decide) (tw_41 hw) (tw_2 hw) (au_32 l Z a0 hw b3 b384 b10_0_0 b397_0_0 b404_0_0 b10_0_1 b397_0_1 k10_0_0 z10_0_0 z10_0_1 k397_0_0 z397_0_0 z397_0_1 ga3 gz9 gv13 gk17 gvs18 h412 n0 Zn413 O449 G fk451 fk452 F412_0 F412_1 F412_2 fk453 fk457 fk458 fk459 fk461 fk462 fk463 fk466 fk467 c10_0_1 c397_0_1 (Ne.symm ne468)) e415_1 fk470 (argsL := [(.ref b384)]) (rest := []) (pc' := 158) rfl (by rw [hml]; rfl) (lenOf pd_7 rfl) rfl rfl (W := 0) (Nat.le_of_eq rfl) (by decide) (by decide) (by decide) (by decide) (hb hby at_155) ?_
                    intro v471 T471 L471 q471 X471
                    obtain ⟨rfl, N471, e471⟩ := q471
                    show Go _ _ _ _ (T471.setTop (mkF m 158 #[.val (.int p0), .val (.int p1), .val (.int p2), .val (.int p3), .val (.int p4), .val (.int jv1_5), .val (.int jv2_6), .val (.ref b3), .val (.int z356), .val (.ref b384), .val (.int 0)] [(.int 0)]))
                    refine Go.iload X471 hx (pc' := 160) rfl (hb hby at_158) rfl ?_
                    refine Go.icmpNo X471 hx (pc' := 163) rfl (hb hby at_160) (by decide) ?_
                    refine Go.aload X471 hx (pc' := 165) rfl (hb hby at_163) rfl rfl ?_
                    refine Go.aload X471 hx (pc' := 167) rfl (hb hby at_165) rfl rfl ?_
                    refine Go.callV X471 hx Z404 O404 (tw_37 hw) (tw_38 hw) (notFace_of_selects (args := #[]) (mvT Z404 (tw_40 hw))) (tw_40 hw) (tw_39 hw) (by decide) (tw_41 hw) (tw_2 hw) (au_30 l Z a0 hw b384 b3 b397_0_0 b404_0_0 b10_0_0 b397_0_1 b10_0_1 k397_0_0 z397_0_0 z397_0_1 k10_0_0 z10_0_0 z10_0_1 ga3 gz9 gv13 gk17 gvs18 h412 n0 Zn413 O449 G F412_1 F412_2 fk470 fk451 fk452 fk459 fk461 fk462 fk453 fk457 fk458 fk467 fk466 c397_0_1 c10_0_1 ne468) e471 F412_0 (argsL := [(.ref b3)]) (rest := []) (pc' := 170) rfl (by rw [hml]; rfl) (lenOf pd_7 rfl) rfl rfl (W := 0) (Nat.le_of_eq rfl) (by decide) (by decide) (by decide) (by decide) (hb hby at_167) ?_
                    intro v472 T472 L472 q472 X472
                    obtain ⟨rfl, N472, e472⟩ := q472
                    show Go _ _ _ _ (T472.setTop (mkF m 170 #[.val (.int p0), .val (.int p1), .val (.int p2), .val (.int p3), .val (.int p4), .val (.int jv1_5), .val (.int jv2_6), .val (.ref b3), .val (.int z356), .val (.ref b384), .val (.int 0)] [(.int 0)]))
                    refine Go.iload X472 hx (pc' := 172) rfl (hb hby at_170) rfl ?_
                    refine Go.icmpNo X472 hx (pc' := 175) rfl (hb hby at_172) (by decide) ?_
                    refine Go.iconst X472 hx (pc' := 176) rfl (hb hby at_175) (v := (1 : Int32)) rfl ?_
                    refine Go.goto X472 hx (pc' := 180) (hb hby at_176) (by decide) (by decide) ?_
                    have C473 : CHr Z EL0 s.vm s.heap T404.vm h404 := (C402.trans C404)
                    have fk474 : Safe Z EL0 T404.vm h404 b384 := (C404.safe fk401.lt fk403)
                    have C475 : CHr Z EL0 s.vm s.heap T404.vm h412 := (C473.trans (CHr.keep K412 (sfS fk474 sf0) C473.1))
                    have hk476 := (Nat.le_trans (Nat.le_refl _) K412.1)
                    refine Go.retNW X472 hx hlk Z404 (own_EW hw) e472 S404 hk476 C475 (t := .boolean) hret (by simp) (hb hby at_180) (by decide) (by decide) (fun hat => ?_)
                    exact ⟨rfl, (Fr.app (Fr.app (Fr.app (Fr.app (Fr.app (Fr.app (Fr.app (Fr.app (Fr.app (Fr.nil n0) N10_0) N17_1) N353) N397_0) N404_0) N412) N415_1) N471) N472)⟩
                · show Go _ _ _ _ (T404.setTop (mkF m 121 #[.val (.int p0), .val (.int p1), .val (.int p2), .val (.int p3), .val (.int p4), .val (.int jv1_5), .val (.int jv2_6), .val (.ref b3), .val (.int z356), .unset, .unset] [.null, (.ref b397_0_0), (.ref b384), (.ref b384)]))
                  have Kp478 : Keep h0 h404 [] := (Kp399.trans K404_1 all0)
                  have Zn477 : n0 ≤ h404.size := Nat.le_trans Z0 Kp478.1
                  have fk479 : Exa Z h404 b384 "com/example/rockhopper/rockhopper/model/Validators" := (fk401.keep K404_1)
                  have fk480 : Fld Z h404 b384 "com/example/rockhopper/rockhopper/model/Validators" "etag" "Ljava/lang/String;" .null := ((b384_etag.keep K397_0 nin0).keep K404_1 nin0)
                  have fk481 : Fld Z h404 b384 "com/example/rockhopper/rockhopper/model/Validators" "lastModified" "Ljava/lang/String;" .null := ((b384_lastModified.keep K397_0 nin0).keep K404_1 nin0)
                  have sz483 : h0.size ≤ b384 := Nat.le_trans Kp386.1 (Nat.le_of_eq g384.symm)
                  have ge482 : n0 ≤ b384 := Nat.le_trans Z0 sz483
                  refine Go.callN X404 hx Z404 O404 rfl (tw_29 hw) (tw_30 hw) (tw_31 hw) (by decide) (tw_31 hw) (tw_2 hw) (au_29 l Z a0 hw b384 b397_0_0 h404 n0 Zn477 fk479 fk480 fk481 ge482) e404 (a := b384) (argsL := [(.ref b397_0_0), .null]) (rest := [(.ref b384)]) (pc' := 124) rfl (by rw [hml]; rfl) (lenOf pd_6 rfl) rfl rfl (W := 1) (Nat.le_of_eq rfl) (by decide) (by decide) (by decide) (by decide) (hb hby at_121) ?_
                  intro v484 T484 L484 q484 X484
                  obtain ⟨h484, e484⟩ : ∃ z, T484.heap = z := ⟨_, rfl⟩
                  rw [e484] at q484
                  obtain ⟨rfl, N484, K484, F484_0, F484_1, F484_2⟩ := q484
                  show Go _ _ _ _ (T484.setTop (mkF m 124 #[.val (.int p0), .val (.int p1), .val (.int p2), .val (.int p3), .val (.int p4), .val (.int jv1_5), .val (.int jv2_6), .val (.ref b3), .val (.int z356), .unset, .unset] [(.ref b384)]))
                  refine Go.astore X484 hx (pc' := 126) rfl (hb hby at_124) (Ls' := #[.val (.int p0), .val (.int p1), .val (.int p2), .val (.int p3), .val (.int p4), .val (.int jv1_5), .val (.int jv2_6), .val (.ref b3), .val (.int z356), .val (.ref b384), .unset]) rfl rfl ?_
                  refine Go.iloadN X484 hx (pc' := 127) rfl (hb hby at_126) rfl ?_
                  refine Go.iload X484 hx (pc' := 129) rfl (hb hby at_127) rfl ?_
                  have Kp486 : Keep h0 h484 [] := (Kp478.trans K484 (allS (Or.inr sz483) all0))
                  have Zn485 : n0 ≤ h484.size := Nat.le_trans Z0 Kp486.1
                  refine Go.callS X484 hx Z404 O404 (tw_69 hw) (tw_70 hw) (tw_5 hw) (tw_71 hw) (by decide) (tw_71 hw) (tw_5 hw) (au_25 l Z a0 hw p0 jv1_5 h484 n0 Zn485) e484 (argsL := [(.int p0), (.int jv1_5)]) (rest := []) (pc' := 132) rfl (by rw [hml]; rfl) (lenOf pd_12 rfl) rfl rfl (W := 0) (Nat.le_of_eq rfl) (by decide) (by decide) (by decide) (by decide) (hb hby at_129) ?_
                  intro v487 T487 L487 q487 X487
                  rcases q487 with ⟨c487_0_0, rfl, N487_0, e487_0⟩ | ⟨c487_1_0, rfl, N487_1, e487_1⟩
                  · have hk488 : z10_0_0 = z397_0_0 := Option.some.inj (c10_0_0.symm.trans (c487_0_0.trans c397_0_0))
                    show Go _ _ _ _ (T487.setTop (mkF m 132 #[.val (.int p0), .val (.int p1), .val (.int p2), .val (.int p3), .val (.int p4), .val (.int jv1_5), .val (.int jv2_6), .val (.ref b3), .val (.int z356), .val (.ref b384), .unset] [(.int 1)]))
                    refine Go.ifNo X487 hx (pc' := 135) rfl (hb hby at_132) (by decide) ?_
                    refine Go.iloadN X487 hx (pc' := 136) rfl (hb hby at_135) rfl ?_
                    refine Go.iload X487 hx (pc' := 138) rfl (hb hby at_136) rfl ?_
                    refine Go.callS X487 hx Z404 O404 (tw_69 hw) (tw_70 hw) (tw_5 hw) (tw_71 hw) (by decide) (tw_71 hw) (tw_5 hw) (au_25 l Z a0 hw p1 jv2_6 h484 n0 Zn485) e487_0 (argsL := [(.int p1), (.int jv2_6)]) (rest := []) (pc' := 141) rfl (by rw [hml]; rfl) (lenOf pd_12 rfl) rfl rfl (W := 0) (Nat.le_of_eq rfl) (by decide) (by decide) (by decide) (by decide) (hb hby at_138) ?_
                    intro v489 T489 L489 q489 X489
                    rcases q489 with ⟨c489_0_0, rfl, N489_0, e489_0⟩ | ⟨c489_1_0, rfl, N489_1, e489_1⟩
                    · show Go _ _ _ _ (T489.setTop (mkF m 141 #[.val (.int p0), .val (.int p1), .val (.int p2), .val (.int p3), .val (.int p4), .val (.int jv1_5), .val (.int jv2_6), .val (.ref b3), .val (.int z356), .val (.ref b384), .unset] [(.int 1)]))
                      refine Go.ifNo X489 hx (pc' := 144) rfl (hb hby at_141) (by decide) ?_
                      refine Go.iconst X489 hx (pc' := 145) rfl (hb hby at_144) (v := (1 : Int32)) rfl ?_
                      refine Go.goto X489 hx (pc' := 149) (hb hby at_145) (by decide) (by decide) ?_
                      refine Go.istore X489 hx (pc' := 151) rfl (hb hby at_149) (Ls' := #[.val (.int p0), .val (.int p1), .val (.int p2), .val (.int p3), .val (.int p4), .val (.int jv1_5), .val (.int jv2_6), .val (.ref b3), .val (.int z356), .val (.ref b384), .val (.int 1)]) rfl ?_
                      refine Go.aload X489 hx (pc' := 153) rfl (hb hby at_151) rfl rfl ?_
                      refine Go.aload X489 hx (pc' := 155) rfl (hb hby at_153) rfl rfl ?_
                      have O490 := (O400.keep K404_1 all0)
                      have O491 := (O490.keep K484 (allS ge482 all0))
                      have ne492 : b3 ≠ b384 := Nat.ne_of_lt (Nat.lt_of_lt_of_le F353_0.lt (Nat.le_of_eq g384.symm))
                      have fk493 : Fld Z h484 b3 "com/example/rockhopper/rockhopper/model/Validators" "etag" "Ljava/lang/String;" (.ref b10_0_0) := ((((F353_1.ext E384).keep K397_0 nin0).keep K404_1 nin0).keep K484 (ninS ne492 nin0))
                      have fk494 : Fld Z h484 b3 "com/example/rockhopper/rockhopper/model/Validators" "lastModified" "Ljava/lang/String;" .null := ((((F353_2.ext E384).keep K397_0 nin0).keep K404_1 nin0).keep K484 (ninS ne492 nin0))
                      have fk495 : Exa Z h484 b10_0_0 "java/lang/String" := ((((((F10_0_0.keep K17_1).keep K353).ext E384).keep K397_0).keep K404_1).keep K484)
                      have ne496 : b3 ≠ b10_0_0 := Nat.ne_of_lt (Nat.lt_of_lt_of_le A3.lt s10_0_0)
                      have fk498 : Exa Z h353 b10_0_0 "java/lang/String" := ((F10_0_0.keep K17_1).keep K353)
                      have ne497 : b10_0_0 ≠ b384 := Nat.ne_of_lt (Nat.lt_of_lt_of_le fk498.lt (Nat.le_of_eq g384.symm))
                      have fk499 : Fld Z h484 b10_0_0 "java/lang/String" "coder" "B" (.int 0) := ((((((F10_0_1.keep K17_1 nin0).keep K353 (ninS (Ne.symm ne496) nin0)).ext E384).keep K397_0 nin0).keep K404_1 nin0).keep K484 (ninS ne497 nin0))
                      have fk500 : Fld Z h484 b10_0_0 "java/lang/String" "value" "[B" (.ref b10_0_1) := ((((((F10_0_2.keep K17_1 nin0).keep K353 (ninS (Ne.symm ne496) nin0)).ext E384).keep K397_0 nin0).keep K404_1 nin0).keep K484 (ninS ne497 nin0))
                      have fk501 : Exa Z h484 b397_0_0 "java/lang/String" := ((F397_0_0.keep K404_1).keep K484)
                      have ne502 : b384 ≠ b397_0_0 := Nat.ne_of_lt (Nat.lt_of_lt_of_le A384.lt s397_0_0)
                      have fk503 : Fld Z h484 b397_0_0 "java/lang/String" "coder" "B" (.int 0) := ((F397_0_1.keep K404_1 nin0).keep K484 (ninS (Ne.symm ne502) nin0))
                      have fk504 : Fld Z h484 b397_0_0 "java/lang/String" "value" "[B" (.ref b397_0_1) := ((F397_0_2.keep K404_1 nin0).keep K484 (ninS (Ne.symm ne502) nin0))
                      have fk506 := ((F10_0_3.keep K17_1 nin0).keep K353 (ninS n10_0_0 nin0))
                      have ne505 : b10_0_1 ≠ b384 := Nat.ne_of_lt (Nat.lt_of_lt_of_le fk506.lt (Nat.le_of_eq g384.symm))
                      have fk507 := ((((((F10_0_3.keep K17_1 nin0).keep K353 (ninS n10_0_0 nin0)).ext E384).keep K397_0 nin0).keep K404_1 nin0).keep K484 (ninS ne505 nin0))
                      have fk508 := ((F397_0_3.keep K404_1 nin0).keep K484 (ninS n397_0_0 nin0))
                      have fk510 : Exa Z h384 b10_0_0 "java/lang/String" := (fk498.ext E384)
                      have ne509 : b10_0_0 ≠ b397_0_0 := Nat.ne_of_lt (Nat.lt_of_lt_of_le fk510.lt s397_0_0)
                      have fk511 : Exa Z h484 b3 "com/example/rockhopper/rockhopper/model/Validators" := ((((F353_0.ext E384).keep K397_0).keep K404_1).keep K484)
                      refine Go.callV X489 hx Z404 O404 (tw_37 hw) (tw_38 hw) (notFace_of_selects (args := #[]) (mvT Z404 (tw_40 hw))) (tw_40 hw) (tw_39 hw) (by decide) (tw_41 hw) (tw_2 hw) (au_45 l Z a0 hw b3 b384 b10_0_0 b397_0_0 b10_0_1 b397_0_1 k10_0_0 z10_0_0 z10_0_1 k397_0_0 z397_0_0 z397_0_1 ga3 gz9 gv13 gk17 gvs18 h484 n0 Zn485 O491 G fk493 fk494 F484_0 F484_1 F484_2 fk495 fk499 fk500 fk501 fk503 fk504 fk507 fk508 c10_0_1 c397_0_1 (Ne.symm ne509)) e489_0 fk511 (argsL := [(.ref b384)]) (rest := []) (pc' := 158) rfl (by rw [hml]; rfl) (lenOf pd_7 rfl) rfl rfl (W := 0) (Nat.le_of_eq rfl) (by decide) (by decide) (by decide) (by decide) (hb hby at_155) ?_
                      intro v512 T512 L512 q512 X512
                      rcases q512 with ⟨c512_0_0, rfl, N512_0, e512_0⟩ | ⟨c512_1_0, rfl, N512_1, e512_1⟩
                      · show Go _ _ _ _ (T512.setTop (mkF m 158 #[.val (.int p0), .val (.int p1), .val (.int p2), .val (.int p3), .val (.int p4), .val (.int jv1_5), .val (.int jv2_6), .val (.ref b3), .val (.int z356), .val (.ref b384), .val (.int 1)] [(.int 1)]))
                        refine Go.iload X512 hx (pc' := 160) rfl (hb hby at_158) rfl ?_
                        refine Go.icmpNo X512 hx (pc' := 163) rfl (hb hby at_160) (by decide) ?_
                        refine Go.aload X512 hx (pc' := 165) rfl (hb hby at_163) rfl rfl ?_
                        refine Go.aload X512 hx (pc' := 167) rfl (hb hby at_165) rfl rfl ?_
                        refine Go.callV X512 hx Z404 O404 (tw_37 hw) (tw_38 hw) (notFace_of_selects (args := #[]) (mvT Z404 (tw_40 hw))) (tw_40 hw) (tw_39 hw) (by decide) (tw_41 hw) (tw_2 hw) (au_45 l Z a0 hw b384 b3 b397_0_0 b10_0_0 b397_0_1 b10_0_1 k397_0_0 z397_0_0 z397_0_1 k10_0_0 z10_0_0 z10_0_1 ga3 gz9 gv13 gk17 gvs18 h484 n0 Zn485 O491 G F484_1 F484_2 fk511 fk493 fk494 fk501 fk503 fk504 fk495 fk499 fk500 fk508 fk507 c397_0_1 c10_0_1 ne509) e512_0 F484_0 (argsL := [(.ref b3)]) (rest := []) (pc' := 170) rfl (by rw [hml]; rfl) (lenOf pd_7 rfl) rfl rfl (W := 0) (Nat.le_of_eq rfl) (by decide) (by decide) (by decide) (by decide) (hb hby at_167) ?_
                        intro v513 T513 L513 q513 X513
                        rcases q513 with ⟨c513_0_0, rfl, N513_0, e513_0⟩ | ⟨c513_1_0, rfl, N513_1, e513_1⟩
                        · show Go _ _ _ _ (T513.setTop (mkF m 170 #[.val (.int p0), .val (.int p1), .val (.int p2), .val (.int p3), .val (.int p4), .val (.int jv1_5), .val (.int jv2_6), .val (.ref b3), .val (.int z356), .val (.ref b384), .val (.int 1)] [(.int 1)]))
                          refine Go.iload X513 hx (pc' := 172) rfl (hb hby at_170) rfl ?_
                          refine Go.icmpNo X513 hx (pc' := 175) rfl (hb hby at_172) (by decide) ?_
                          refine Go.iconst X513 hx (pc' := 176) rfl (hb hby at_175) (v := (1 : Int32)) rfl ?_
                          refine Go.goto X513 hx (pc' := 180) (hb hby at_176) (by decide) (by decide) ?_
                          have C514 : CHr Z EL0 s.vm s.heap T404.vm h404 := (C402.trans C404)
                          have fk515 : Safe Z EL0 T404.vm h404 b384 := (C404.safe fk401.lt fk403)
                          have C516 : CHr Z EL0 s.vm s.heap T404.vm h484 := (C514.trans (CHr.keep K484 (sfS fk515 sf0) C514.1))
                          have hk517 := (Nat.le_trans (Nat.le_refl _) K484.1)
                          refine Go.retNW X513 hx hlk Z404 (own_EW hw) e513_0 S404 hk517 C516 (t := .boolean) hret (by simp) (hb hby at_180) (by decide) (by decide) (fun hat => ?_)
                          exact ⟨rfl, (Fr.app (Fr.app (Fr.app (Fr.app (Fr.app (Fr.app (Fr.app (Fr.app (Fr.app (Fr.app (Fr.nil n0) N10_0) N17_1) N353) N397_0) N404_1) N484) N487_0) N489_0) N512_0) N513_0)⟩
                        · exact absurd hk488 c513_1_0
                      · exact absurd hk488.symm c512_1_0
                    · exact absurd (c17_1_0.trans c404_1_0.symm) c489_1_0
                  · have hk518 : ¬ z10_0_0 = z397_0_0 := fun z => c487_1_0 (c10_0_0.trans ((congrArg some z).trans c397_0_0.symm))
                    show Go _ _ _ _ (T487.setTop (mkF m 132 #[.val (.int p0), .val (.int p1), .val (.int p2), .val (.int p3), .val (.int p4), .val (.int jv1_5), .val (.int jv2_6), .val (.ref b3), .val (.int z356), .val (.ref b384), .unset] [(.int 0)]))
                    refine Go.ifYes X487 hx (pc' := 148) (hb hby at_132) (by decide) (by decide) (by decide) ?_
                    refine Go.iconst X487 hx (pc' := 149) rfl (hb hby at_148) (v := (0 : Int32)) rfl ?_
                    refine Go.istore X487 hx (pc' := 151) rfl (hb hby at_149) (Ls' := #[.val (.int p0), .val (.int p1), .val (.int p2), .val (.int p3), .val (.int p4), .val (.int jv1_5), .val (.int jv2_6), .val (.ref b3), .val (.int z356), .val (.ref b384), .val (.int 0)]) rfl ?_
                    refine Go.aload X487 hx (pc' := 153) rfl (hb hby at_151) rfl rfl ?_
                    refine Go.aload X487 hx (pc' := 155) rfl (hb hby at_153) rfl rfl ?_
                    have O519 := (O400.keep K404_1 all0)
                    have O520 := (O519.keep K484 (allS ge482 all0))
                    have ne521 : b3 ≠ b384 := Nat.ne_of_lt (Nat.lt_of_lt_of_le F353_0.lt (Nat.le_of_eq g384.symm))
                    have fk522 : Fld Z h484 b3 "com/example/rockhopper/rockhopper/model/Validators" "etag" "Ljava/lang/String;" (.ref b10_0_0) := ((((F353_1.ext E384).keep K397_0 nin0).keep K404_1 nin0).keep K484 (ninS ne521 nin0))
                    have fk523 : Fld Z h484 b3 "com/example/rockhopper/rockhopper/model/Validators" "lastModified" "Ljava/lang/String;" .null := ((((F353_2.ext E384).keep K397_0 nin0).keep K404_1 nin0).keep K484 (ninS ne521 nin0))
                    have fk524 : Exa Z h484 b10_0_0 "java/lang/String" := ((((((F10_0_0.keep K17_1).keep K353).ext E384).keep K397_0).keep K404_1).keep K484)
                    have ne525 : b3 ≠ b10_0_0 := Nat.ne_of_lt (Nat.lt_of_lt_of_le A3.lt s10_0_0)
                    have fk527 : Exa Z h353 b10_0_0 "java/lang/String" := ((F10_0_0.keep K17_1).keep K353)
                    have ne526 : b10_0_0 ≠ b384 := Nat.ne_of_lt (Nat.lt_of_lt_of_le fk527.lt (Nat.le_of_eq g384.symm))
                    have fk528 : Fld Z h484 b10_0_0 "java/lang/String" "coder" "B" (.int 0) := ((((((F10_0_1.keep K17_1 nin0).keep K353 (ninS (Ne.symm ne525) nin0)).ext E384).keep K397_0 nin0).keep K404_1 nin0).keep K484 (ninS ne526 nin0))
                    have fk529 : Fld Z h484 b10_0_0 "java/lang/String" "value" "[B" (.ref b10_0_1) := ((((((F10_0_2.keep K17_1 nin0).keep K353 (ninS (Ne.symm ne525) nin0)).ext E384).keep K397_0 nin0).keep K404_1 nin0).keep K484 (ninS ne526 nin0))
                    have fk530 : Exa Z h484 b397_0_0 "java/lang/String" := ((F397_0_0.keep K404_1).keep K484)
                    have ne531 : b384 ≠ b397_0_0 := Nat.ne_of_lt (Nat.lt_of_lt_of_le A384.lt s397_0_0)
                    have fk532 : Fld Z h484 b397_0_0 "java/lang/String" "coder" "B" (.int 0) := ((F397_0_1.keep K404_1 nin0).keep K484 (ninS (Ne.symm ne531) nin0))
                    have fk533 : Fld Z h484 b397_0_0 "java/lang/String" "value" "[B" (.ref b397_0_1) := ((F397_0_2.keep K404_1 nin0).keep K484 (ninS (Ne.symm ne531) nin0))
                    have fk535 := ((F10_0_3.keep K17_1 nin0).keep K353 (ninS n10_0_0 nin0))
                    have ne534 : b10_0_1 ≠ b384 := Nat.ne_of_lt (Nat.lt_of_lt_of_le fk535.lt (Nat.le_of_eq g384.symm))
                    have fk536 := ((((((F10_0_3.keep K17_1 nin0).keep K353 (ninS n10_0_0 nin0)).ext E384).keep K397_0 nin0).keep K404_1 nin0).keep K484 (ninS ne534 nin0))
                    have fk537 := ((F397_0_3.keep K404_1 nin0).keep K484 (ninS n397_0_0 nin0))
                    have fk539 : Exa Z h384 b10_0_0 "java/lang/String" := (fk527.ext E384)
                    have ne538 : b10_0_0 ≠ b397_0_0 := Nat.ne_of_lt (Nat.lt_of_lt_of_le fk539.lt s397_0_0)
                    have fk540 : Exa Z h484 b3 "com/example/rockhopper/rockhopper/model/Validators" := ((((F353_0.ext E384).keep K397_0).keep K404_1).keep K484)
                    refine Go.callV X487 hx Z404 O404 (tw_37 hw) (tw_38 hw) (notFace_of_selects (args := #[]) (mvT Z404 (tw_40 hw))) (tw_40 hw) (tw_39 hw) (by decide) (tw_41 hw) (tw_2 hw) (au_45 l Z a0 hw b3 b384 b10_0_0 b397_0_0 b10_0_1 b397_0_1 k10_0_0 z10_0_0 z10_0_1 k397_0_0 z397_0_0 z397_0_1 ga3 gz9 gv13 gk17 gvs18 h484 n0 Zn485 O520 G fk522 fk523 F484_0 F484_1 F484_2 fk524 fk528 fk529 fk530 fk532 fk533 fk536 fk537 c10_0_1 c397_0_1 (Ne.symm ne538)) e487_1 fk540 (argsL := [(.ref b384)]) (rest := []) (pc' := 158) rfl (by rw [hml]; rfl) (lenOf pd_7 rfl) rfl rfl (W := 0) (Nat.le_of_eq rfl) (by decide) (by decide) (by decide) (by decide) (hb hby at_155) ?_
                    intro v541 T541 L541 q541 X541
                    rcases q541 with ⟨c541_0_0, rfl, N541_0, e541_0⟩ | ⟨c541_1_0, rfl, N541_1, e541_1⟩
                    · exact absurd c541_0_0 (Ne.symm hk518)
                    · show Go _ _ _ _ (T541.setTop (mkF m 158 #[.val (.int p0), .val (.int p1), .val (.int p2), .val (.int p3), .val (.int p4), .val (.int jv1_5), .val (.int jv2_6), .val (.ref b3), .val (.int z356), .val (.ref b384), .val (.int 0)] [(.int 0)]))
                      refine Go.iload X541 hx (pc' := 160) rfl (hb hby at_158) rfl ?_
                      refine Go.icmpNo X541 hx (pc' := 163) rfl (hb hby at_160) (by decide) ?_
                      refine Go.aload X541 hx (pc' := 165) rfl (hb hby at_163) rfl rfl ?_
                      refine Go.aload X541 hx (pc' := 167) rfl (hb hby at_165) rfl rfl ?_
                      refine Go.callV X541 hx Z404 O404 (tw_37 hw) (tw_38 hw) (notFace_of_selects (args := #[]) (mvT Z404 (tw_40 hw))) (tw_40 hw) (tw_39 hw) (by decide) (tw_41 hw) (tw_2 hw) (au_45 l Z a0 hw b384 b3 b397_0_0 b10_0_0 b397_0_1 b10_0_1 k397_0_0 z397_0_0 z397_0_1 k10_0_0 z10_0_0 z10_0_1 ga3 gz9 gv13 gk17 gvs18 h484 n0 Zn485 O520 G F484_1 F484_2 fk540 fk522 fk523 fk530 fk532 fk533 fk524 fk528 fk529 fk537 fk536 c397_0_1 c10_0_1 ne538) e541_1 F484_0 (argsL := [(.ref b3)]) (rest := []) (pc' := 170) rfl (by rw [hml]; rfl) (lenOf pd_7 rfl) rfl rfl (W := 0) (Nat.le_of_eq rfl) (by decide) (by decide) (by decide) (by decide) (hb hby at_167) ?_
                      intro v542 T542 L542 q542 X542
                      rcases q542 with ⟨c542_0_0, rfl, N542_0, e542_0⟩ | ⟨c542_1_0, rfl, N542_1, e542_1⟩
                      · exact absurd c542_0_0 hk518
                      · show Go _ _ _ _ (T542.setTop (mkF m 170 #[.val (.int p0), .val (.int p1), .val (.int p2), .val (.int p3), .val (.int p4), .val (.int jv1_5), .val (.int jv2_6), .val (.ref b3), .val (.int z356), .val (.ref b384), .val (.int 0)] [(.int 0)]))
                        refine Go.iload X542 hx (pc' := 172) rfl (hb hby at_170) rfl ?_
                        refine Go.icmpNo X542 hx (pc' := 175) rfl (hb hby at_172) (by decide) ?_
                        refine Go.iconst X542 hx (pc' := 176) rfl (hb hby at_175) (v := (1 : Int32)) rfl ?_
                        refine Go.goto X542 hx (pc' := 180) (hb hby at_176) (by decide) (by decide) ?_
                        have C543 : CHr Z EL0 s.vm s.heap T404.vm h404 := (C402.trans C404)
                        have fk544 : Safe Z EL0 T404.vm h404 b384 := (C404.safe fk401.lt fk403)
                        have C545 : CHr Z EL0 s.vm s.heap T404.vm h484 := (C543.trans (CHr.keep K484 (sfS fk544 sf0) C543.1))
                        have hk546 := (Nat.le_trans (Nat.le_refl _) K484.1)
                        refine Go.retNW X542 hx hlk Z404 (own_EW hw) e542_1 S404 hk546 C545 (t := .boolean) hret (by simp) (hb hby at_180) (by decide) (by decide) (fun hat => ?_)
                        exact ⟨rfl, (Fr.app (Fr.app (Fr.app (Fr.app (Fr.app (Fr.app (Fr.app (Fr.app (Fr.app (Fr.nil n0) N10_0) N17_1) N353) N397_0) N404_1) N484) N487_1) N541_1) N542_1)⟩
              · show Go _ _ _ _ (T397.setTop (mkF m 116 #[.val (.int p0), .val (.int p1), .val (.int p2), .val (.int p3), .val (.int p4), .val (.int jv1_5), .val (.int jv2_6), .val (.ref b3), .val (.int z356), .unset, .unset] [.null, (.ref b384), (.ref b384)]))
                refine Go.iload X397 hx (pc' := 118) rfl (hb hby at_116) rfl ?_
                have Kp548 : Keep h0 h397 [] := (Kp387.trans K397_1 all0)
                have Zn547 : n0 ≤ h397.size := Nat.le_trans Z0 Kp548.1
                have O549 := (O390.keep K397_1 all0)
                have fk550 : Exa Z h397 b384 "com/example/rockhopper/rockhopper/model/Validators" := (A384.keep K397_1)
                have C551 : CHr Z EL0 s.vm s.heap T397.vm h397 := (C394.trans C397)
                have fk552 : Safe Z EL0 T397.vm h397 b384 := (C397.safe A384.lt fk395)
                refine Go.callSW X397 hx Z397 O397 (tw_3 hw) (tw_4 hw) (tw_5 hw) (tw_6 hw) (by decide) (tw_6 hw) (tw_5 hw) (au_6 l Z a0 hw jv2_6 b384 ga3 gz9 gv13 gk17 gvs18 h397 n0 Zn547 O549 G fk550) (own_EW hw) C551.1 (allS ⟨fk550.lt, fk552⟩ all0) S397 (Nat.le_refl _) e397 (argsL := [(.int jv2_6)]) (rest := [.null, (.ref b384), (.ref b384)]) (pc' := 121) rfl (by rw [hml]; rfl) (lenOf pd_5 rfl) rfl rfl (W := 3) (Nat.le_of_eq rfl) (by decide) (by decide) (by decide) (by decide) (hb hby at_118) ?_
                intro v553 T553 L553 h553 e553 q553 C553 S553 Z553 O553 X553
                rcases q553 with ⟨z553_0_0, z553_0_1, b553_0_0, b553_0_1, k553_0_0, c553_0_0, c553_0_1, rfl, N553_0, K553_0, s553_0_0, n553_0_0, y553_0_0, F553_0_0, F553_0_1, F553_0_2, F553_0_3⟩ | ⟨c553_1_0, rfl, N553_1, K553_1⟩
                · show Go _ _ _ _ (T553.setTop (mkF m 121 #[.val (.int p0), .val (.int p1), .val (.int p2), .val (.int p3), .val (.int p4), .val (.int jv1_5), .val (.int jv2_6), .val (.ref b3), .val (.int z356), .unset, .unset] [(.ref b553_0_0), .null, (.ref b384), (.ref b384)]))
                  have Kp555 : Keep h0 h553 [] := (Kp548.trans K553_0 all0)
                  have Zn554 : n0 ≤ h553.size := Nat.le_trans Z0 Kp555.1
                  have fk556 : Exa Z h553 b384 "com/example/rockhopper/rockhopper/model/Validators" := (fk550.keep K553_0)
                  have fk557 : Fld Z h553 b384 "com/example/rockhopper/rockhopper/model/Validators" "etag" "Ljava/lang/String;" .null := ((b384_etag.keep K397_1 nin0).keep K553_0 nin0)
                  have fk558 : Fld Z h553 b384 "com/example/rockhopper/rockhopper/model/Validators" "lastModified" "Ljava/lang/String;" .null := ((b384_lastModified.keep K397_1 nin0).keep K553_0 nin0)
                  have sz560 : h0.size ≤ b384 := Nat.le_trans Kp386.1 (Nat.le_of_eq g384.symm)
                  have ge559 : n0 ≤ b384 := Nat.le_trans Z0 sz560
                  refine Go.callN X553 hx Z553 O553 rfl (tw_29 hw) (tw_30 hw) (tw_31 hw) (by decide) (tw_31 hw) (tw_2 hw) (au_35 l Z a0 hw b384 b553_0_0 h553 n0 Zn554 fk556 fk557 fk558 ge559) e553 (a := b384) (argsL := [.null, (.ref b553_0_0)]) (rest := [(.ref b384)]) (pc' := 124) rfl (by rw [hml]; rfl) (lenOf pd_6 rfl) rfl rfl (W := 1) (Nat.le_of_eq rfl) (by decide) (by decide) (by decide) (by decide) (hb hby at_121) ?_
                  intro v561 T561 L561 q561 X561
                  obtain ⟨h561, e561⟩ : ∃ z, T561.heap = z := ⟨_, rfl⟩
                  rw [e561] at q561
                  obtain ⟨rfl, N561, K561, F561_0, F561_1, F561_2⟩ := q561
                  show Go _ _ _ _ (T561.setTop (mkF m 124 #[.val (.int p0), .val (.int p1), .val (.int p2), .val (.int p3), .val (.int p4), .val (.int jv1_5), .val (.int jv2_6), .val (.ref b3), .val (.int z356), .unset, .unset] [(.ref b384)]))
                  refine Go.astore X561 hx (pc' := 126) rfl (hb hby at_124) (Ls' := #[.val (.int p0), .val (.int p1), .val (.int p2), .val (.int p3), .val (.int p4), .val (.int jv1_5), .val (.int jv2_6), .val (.ref b3), .val (.int z356), .val (.ref b384), .unset]) rfl rfl ?_
                  refine Go.iloadN X561 hx (pc' := 127) rfl (hb hby at_126) rfl ?_
                  refine Go.iload X561 hx (pc' := 129) rfl (hb hby at_127) rfl ?_
                  have Kp563 : Keep h0 h561 [] := (Kp555.trans K561 (allS (Or.inr sz560) all0))
                  have Zn562 : n0 ≤ h561.size := Nat.le_trans Z0 Kp563.1
                  refine Go.callS X561 hx Z553 O553 (tw_69 hw) (tw_70 hw) (tw_5 hw) (tw_71 hw) (by decide) (tw_71 hw) (tw_5 hw) (au_25 l Z a0 hw p0 jv1_5 h561 n0 Zn562) e561 (argsL := [(.int p0), (.int jv1_5)]) (rest := []) (pc' := 132) rfl (by rw [hml]; rfl) (lenOf pd_12 rfl) rfl rfl (W := 0) (Nat.le_of_eq rfl) (by decide) (by decide) (by decide) (by decide) (hb hby at_129) ?_
                  intro v564 T564 L564 q564 X564
                  rcases q564 with ⟨c564_0_0, rfl, N564_0, e564_0⟩ | ⟨c564_1_0, rfl, N564_1, e564_1⟩
                  · exact absurd c564_0_0 (fun z => absurd (c10_0_0.symm.trans (z.trans c397_1_0)) (by simp))
                  · show Go _ _ _ _ (T564.setTop (mkF m 132 #[.val (.int p0), .val (.int p1), .val (.int p2), .val (.int p3), .val (.int p4), .val (.int jv1_5), .val (.int jv2_6), .val (.ref b3), .val (.int z356), .val (.ref b384), .unset] [(.int 0)]))
                    refine Go.ifYes X564 hx (pc' := 148) (hb hby at_132) (by decide) (by decide) (by decide) ?_
                    refine Go.iconst X564 hx (pc' := 149) rfl (hb hby at_148) (v := (0 : Int32)) rfl ?_
                    refine Go.istore X564 hx (pc' := 151) rfl (hb hby at_149) (Ls' := #[.val (.int p0), .val (.int p1), .val (.int p2), .val (.int p3), .val (.int p4), .val (.int jv1_5), .val (.int jv2_6), .val (.ref b3), .val (.int z356), .val (.ref b384), .val (.int 0)]) rfl ?_
                    refine Go.aload X564 hx (pc' := 153) rfl (hb hby at_151) rfl rfl ?_
                    refine Go.aload X564 hx (pc' := 155) rfl (hb hby at_153) rfl rfl ?_
                    have ne565 : b3 ≠ b384 := Nat.ne_of_lt (Nat.lt_of_lt_of_le F353_0.lt (Nat.le_of_eq g384.symm))
                    have fk566 : Fld Z h561 b3 "com/example/rockhopper/rockhopper/model/Validators" "etag" "Ljava/lang/String;" (.ref b10_0_0) := ((((F353_1.ext E384).keep K397_1 nin0).keep K553_0 nin0).keep K561 (ninS ne565 nin0))
                    have fk567 : Exa Z h561 b3 "com/example/rockhopper/rockhopper/model/Validators" := ((((F353_0.ext E384).keep K397_1).keep K553_0).keep K561)
                    refine Go.callV X564 hx Z553 O553 (tw_37 hw) (tw_38 hw) (notFace_of_selects (args := #[]) (mvT Z553 (tw_40 hw))) (tw_40 hw) (tw_39 hw) (by decide) (tw_41 hw) (tw_2 hw) (au_46 l Z a0 hw b3 b384 b10_0_0 h561 n0 Zn562 fk566 F561_0 F561_1) e564_1 fk567 (argsL := [(.ref b384)]) (rest := []) (pc' := 158) rfl (by rw [hml]; rfl) (lenOf pd_7 rfl) rfl rfl (W := 0) (Nat.le_of_eq rfl) (by decide) (by decide) (by decide) (by decide) (hb hby at_155) ?_
                    intro v568 T568 L568 q568 X568
                    obtain ⟨rfl, N568, e568⟩ := q568
                    show Go _ _ _ _ (T568.setTop (mkF m 158 #[.val (.int p0), .val (.int p1), .val (.int p2), .val (.int p3), .val (.int p4), .val (.int jv1_5), .val (.int jv2_6), .val (.ref b3), .val (.int z356), .val (.ref b384), .val (.int 0)] [(.int 0)]))
                    refine Go.iload X568 hx (pc' := 160) rfl (hb hby at_158) rfl ?_
                    refine Go.icmpNo X568 hx (pc' := 163) rfl (hb hby at_160) (by decide) ?_
                    refine Go.aload X568 hx (pc' := 165) rfl (hb hby at_163) rfl rfl ?_
                    refine Go.aload X568 hx (pc' := 167) rfl (hb hby at_165) rfl rfl ?_
                    have fk569 : Exa Z h561 b10_0_0 "java/lang/String" := ((((((F10_0_0.keep K17_1).keep K353).ext E384).keep K397_1).keep K553_0).keep K561)
                    refine Go.callV X568 hx Z553 O553 (tw_37 hw) (tw_38 hw) (notFace_of_selects (args := #[]) (mvT Z553 (tw_40 hw))) (tw_40 hw) (tw_39 hw) (by decide) (tw_41 hw) (tw_2 hw) (au_47 l Z a0 hw b384 b3 b10_0_0 h561 n0 Zn562 F561_1 fk567 fk566 fk569) e568 F561_0 (argsL := [(.ref b3)]) (rest := []) (pc' := 170) rfl (by rw [hml]; rfl) (lenOf pd_7 rfl) rfl rfl (W := 0) (Nat.le_of_eq rfl) (by decide) (by decide) (by decide) (by decide) (hb hby at_167) ?_
                    intro v570 T570 L570 q570 X570
                    obtain ⟨rfl, N570, e570⟩ := q570
                    show Go _ _ _ _ (T570.setTop (mkF m 170 #[.val (.int p0), .val (.int p1), .val (.int p2), .val (.int p3), .val (.int p4), .val (.int jv1_5), .val (.int jv2_6), .val (.ref b3), .val (.int z356), .val (.ref b384), .val (.int 0)] [(.int 0)]))
                    refine Go.iload X570 hx (pc' := 172) rfl (hb hby at_170) rfl ?_
                    refine Go.icmpNo X570 hx (pc' := 175) rfl (hb hby at_172) (by decide) ?_
                    refine Go.iconst X570 hx (pc' := 176) rfl (hb hby at_175) (v := (1 : Int32)) rfl ?_
                    refine Go.goto X570 hx (pc' := 180) (hb hby at_176) (by decide) (by decide) ?_
                    have C571 : CHr Z EL0 s.vm s.heap T553.vm h553 := (C551.trans C553)
                    have fk572 : Safe Z EL0 T553.vm h553 b384 := (C553.safe fk550.lt fk552)
                    have C573 : CHr Z EL0 s.vm s.heap T553.vm h561 := (C571.trans (CHr.keep K561 (sfS fk572 sf0) C571.1))
                    have hk574 := (Nat.le_trans (Nat.le_refl _) K561.1)
                    refine Go.retNW X570 hx hlk Z553 (own_EW hw) e570 S553 hk574 C573 (t := .boolean) hret (by simp) (hb hby at_180) (by decide) (by decide) (fun hat => ?_)
                    exact ⟨rfl, (Fr.app (Fr.app (Fr.app (Fr.app (Fr.app (Fr.app (Fr.app (Fr.app (Fr.app (Fr.nil n0) N10_0) N17_1) N353) N397_1) N553_0) N561) N564_1) N568) N570)⟩
                · show Go _ _ _ _ (T553.setTop (mkF m 121 #[.val (.int p0), .val (.int p1), .val (.int p2), .val (.int p3), .val (.int p4), .val (.int jv1_5), .val (.int jv2_6), .val (.ref b3), .val (.int z356), .unset, .unset] [.null, .null, (.ref b384), (.ref b384)]))
                  have Kp576 : Keep h0 h553 [] := (Kp548.trans K553_1 all0)
                  have Zn575 : n0 ≤ h553.size := Nat.le_trans Z0 Kp576.1
                  have fk577 : Exa Z h553 b384 "com/example/rockhopper/rockhopper/model/Validators" := (fk550.keep K553_1)
                  have fk578 : Fld Z h553 b384 "com/example/rockhopper/rockhopper/model/Validators" "etag" "Ljava/lang/String;" .null := ((b384_etag.keep K397_1 nin0).keep K553_1 nin0)
                  have fk579 : Fld Z h553 b384 "com/example/rockhopper/rockhopper/model/Validators" "lastModified" "Ljava/lang/String;" .null := ((b384_lastModified.keep K397_1 nin0).keep K553_1 nin0)
                  have sz581 : h0.size ≤ b384 := Nat.le_trans Kp386.1 (Nat.le_of_eq g384.symm)
                  have ge580 : n0 ≤ b384 := Nat.le_trans Z0 sz581
                  refine Go.callN X553 hx Z553 O553 rfl (tw_29 hw) (tw_30 hw) (tw_31 hw) (by decide) (tw_31 hw) (tw_2 hw) (au_38 l Z a0 hw b384 h553 n0 Zn575 fk577 fk578 fk579 ge580) e553 (a := b384) (argsL := [.null, .null]) (rest := [(.ref b384)]) (pc' := 124) rfl (by rw [hml]; rfl) (lenOf pd_6 rfl) rfl rfl (W := 1) (Nat.le_of_eq rfl) (by decide) (by decide) (by decide) (by decide) (hb hby at_121) ?_
                  intro v582 T582 L582 q582 X582
                  obtain ⟨h582, e582⟩ : ∃ z, T582.heap = z := ⟨_, rfl⟩
                  rw [e582] at q582
                  obtain ⟨rfl, N582, K582, F582_0, F582_1, F582_2⟩ := q582
                  show Go _ _ _ _ (T582.setTop (mkF m 124 #[.val (.int p0), .val (.int p1), .val (.int p2), .val (.int p3), .val (.int p4), .val (.int jv1_5), .val (.int jv2_6), .val (.ref b3), .val (.int z356), .unset, .unset] [(.ref b384)]))
                  refine Go.astore X582 hx (pc' := 126) rfl (hb hby at_124) (Ls' := #[.val (.int p0), .val (.int p1), .val (.int p2), .val (.int p3), .val (.int p4), .val (.int jv1_5), .val (.int jv2_6), .val (.ref b3), .val (.int z356), .val (.ref b384), .unset]) rfl rfl ?_
                  refine Go.iloadN X582 hx (pc' := 127) rfl (hb hby at_126) rfl ?_
                  refine Go.iload X582 hx (pc' := 129) rfl (hb hby at_127) rfl ?_
                  have Kp584 : Keep h0 h582 [] := (Kp576.trans K582 (allS (Or.inr sz581) all0))
                  have Zn583 : n0 ≤ h582.size := Nat.le_trans Z0 Kp584.1
                  refine Go.callS X582 hx Z553 O553 (tw_69 hw) (tw_70 hw) (tw_5 hw) (tw_71 hw) (by decide) (tw_71 hw) (tw_5 hw) (au_25 l Z a0 hw p0 jv1_5 h582 n0 Zn583) e582 (argsL := [(.int p0), (.int jv1_5)]) (rest := []) (pc' := 132) rfl (by rw [hml]; rfl) (lenOf pd_12 rfl) rfl rfl (W := 0) (Nat.le_of_eq rfl) (by decide) (by decide) (by decide) (by decide) (hb hby at_129) ?_
                  intro v585 T585 L585 q585 X585
                  rcases q585 with ⟨c585_0_0, rfl, N585_0, e585_0⟩ | ⟨c585_1_0, rfl, N585_1, e585_1⟩
                  · exact absurd c585_0_0 (fun z => absurd (c10_0_0.symm.trans (z.trans c397_1_0)) (by simp))
                  · show Go _ _ _ _ (T585.setTop (mkF m 132 #[.val (.int p0), .val (.int p1), .val (.int p2), .val (.int p3), .val (.int p4), .val (.int jv1_5), .val (.int jv2_6), .val (.ref b3), .val (.int z356), .val (.ref b384), .unset] [(.int 0)]))
                    refine Go.ifYes X585 hx (pc' := 148) (hb hby at_132) (by decide) (by decide) (by decide) ?_
                    refine Go.iconst X585 hx (pc' := 149) rfl (hb hby at_148) (v := (0 : Int32)) rfl ?_
                    refine Go.istore X585 hx (pc' := 151) rfl (hb hby at_149) (Ls' := #[.val (.int p0), .val (.int p1), .val (.int p2), .val (.int p3), .val (.int p4), .val (.int jv1_5), .val (.int jv2_6), .val (.ref b3), .val (.int z356), .val (.ref b384), .val (.int 0)]) rfl ?_
                    refine Go.aload X585 hx (pc' := 153) rfl (hb hby at_151) rfl rfl ?_
                    refine Go.aload X585 hx (pc' := 155) rfl (hb hby at_153) rfl rfl ?_
                    have ne586 : b3 ≠ b384 := Nat.ne_of_lt (Nat.lt_of_lt_of_le F353_0.lt (Nat.le_of_eq g384.symm))
                    have fk587 : Fld Z h582 b3 "com/example/rockhopper/rockhopper/model/Validators" "etag" "Ljava/lang/String;" (.ref b10_0_0) := ((((F353_1.ext E384).keep K397_1 nin0).keep K553_1 nin0).keep K582 (ninS ne586 nin0))
                    have fk588 : Exa Z h582 b3 "com/example/rockhopper/rockhopper/model/Validators" := ((((F353_0.ext E384).keep K397_1).keep K553_1).keep K582)
                    refine Go.callV X585 hx Z553 O553 (tw_37 hw) (tw_38 hw) (notFace_of_selects (args := #[]) (mvT Z553 (tw_40 hw))) (tw_40 hw) (tw_39 hw) (by decide) (tw_41 hw) (tw_2 hw) (au_48 l Z a0 hw b3 b384 b10_0_0 h582 n0 Zn583 fk587 F582_0 F582_1) e585_1 fk588 (argsL := [(.ref b384)]) (rest := []) (pc' := 158) rfl (by rw [hml]; rfl) (lenOf pd_7 rfl) rfl rfl (W := 0) (Nat.le_of_eq rfl) (by decide) (by decide) (by decide) (by decide) (hb hby at_155) ?_
                    intro v589 T589 L589 q589 X589
                    obtain ⟨rfl, N589, e589⟩ := q589
                    show Go _ _ _ _ (T589.setTop (mkF m 158 #[.val (.int p0), .val (.int p1), .val (.int p2), .val (.int p3), .val (.int p4), .val (.int jv1_5), .val (.int jv2_6), .val (.ref b3), .val (.int z356), .val (.ref b384), .val (.int 0)] [(.int 0)]))
                    refine Go.iload X589 hx (pc' := 160) rfl (hb hby at_158) rfl ?_
                    refine Go.icmpNo X589 hx (pc' := 163) rfl (hb hby at_160) (by decide) ?_
                    refine Go.aload X589 hx (pc' := 165) rfl (hb hby at_163) rfl rfl ?_
                    refine Go.aload X589 hx (pc' := 167) rfl (hb hby at_165) rfl rfl ?_
                    have fk590 : Exa Z h582 b10_0_0 "java/lang/String" := ((((((F10_0_0.keep K17_1).keep K353).ext E384).keep K397_1).keep K553_1).keep K582)
                    refine Go.callV X589 hx Z553 O553 (tw_37 hw) (tw_38 hw) (notFace_of_selects (args := #[]) (mvT Z553 (tw_40 hw))) (tw_40 hw) (tw_39 hw) (by decide) (tw_41 hw) (tw_2 hw) (au_49 l Z a0 hw b384 b3 b10_0_0 h582 n0 Zn583 F582_1 fk588 fk587 fk590) e589 F582_0 (argsL := [(.ref b3)]) (rest := []) (pc' := 170) rfl (by rw [hml]; rfl) (lenOf pd_7 rfl) rfl rfl (W := 0) (Nat.le_of_eq rfl) (by decide) (by decide) (by decide) (by decide) (hb hby at_167) ?_
                    intro v591 T591 L591 q591 X591
                    obtain ⟨rfl, N591, e591⟩ := q591
                    show Go _ _ _ _ (T591.setTop (mkF m 170 #[.val (.int p0), .val (.int p1), .val (.int p2), .val (.int p3), .val (.int p4), .val (.int jv1_5), .val (.int jv2_6), .val (.ref b3), .val (.int z356), .val (.ref b384), .val (.int 0)] [(.int 0)]))
                    refine Go.iload X591 hx (pc' := 172) rfl (hb hby at_170) rfl ?_
                    refine Go.icmpNo X591 hx (pc' := 175) rfl (hb hby at_172) (by decide) ?_
                    refine Go.iconst X591 hx (pc' := 176) rfl (hb hby at_175) (v := (1 : Int32)) rfl ?_
                    refine Go.goto X591 hx (pc' := 180) (hb hby at_176) (by decide) (by decide) ?_
                    have C592 : CHr Z EL0 s.vm s.heap T553.vm h553 := (C551.trans C553)
                    have fk593 : Safe Z EL0 T553.vm h553 b384 := (C553.safe fk550.lt fk552)
                    have C594 : CHr Z EL0 s.vm s.heap T553.vm h582 := (C592.trans (CHr.keep K582 (sfS fk593 sf0) C592.1))
                    have hk595 := (Nat.le_trans (Nat.le_refl _) K582.1)
                    refine Go.retNW X591 hx hlk Z553 (own_EW hw) e591 S553 hk595 C594 (t := .boolean) hret (by simp) (hb hby at_180) (by decide) (by decide) (fun hat => ?_)
                    exact ⟨rfl, (Fr.app (Fr.app (Fr.app (Fr.app (Fr.app (Fr.app (Fr.app (Fr.app (Fr.app (Fr.nil n0) N10_0) N17_1) N353) N397_1) N553_1) N582) N585_1) N589) N591)⟩
      · show Go _ _ _ _ (T10.setTop (mkF m 36 #[.val (.int p0), .val (.int p1), .val (.int p2), .val (.int p3), .val (.int p4), .val (.int jv1_5), .val (.int jv2_6), .unset, .unset, .unset, .unset] [.null, (.ref b3), (.ref b3)]))
        refine Go.iloadN X10 hx (pc' := 37) rfl (hb hby at_36) rfl ?_
        have Kp597 : Keep h0 h10 [] := (Kp5.trans K10_1 all0)
        have Zn596 : n0 ≤ h10.size := Nat.le_trans Z0 Kp597.1
        have O598 := (O6.keep K10_1 all0)
        have fk599 : Exa Z h10 b3 "com/example/rockhopper/rockhopper/model/Validators" := (A3.keep K10_1)
        have C600 : CHr Z EL0 s.vm s.heap T10.vm h10 := (C7.trans C10)
        have fk601 : Safe Z EL0 T10.vm h10 b3 := (C10.safe A3.lt fk8)
        refine Go.callSW X10 hx Z10 O10 (tw_3 hw) (tw_4 hw) (tw_5 hw) (tw_6 hw) (by decide) (tw_6 hw) (tw_5 hw) (au_6 l Z a0 hw p1 b3 ga3 gz9 gv13 gk17 gvs18 h10 n0 Zn596 O598 G fk599) (own_EW hw) C600.1 (allS ⟨fk599.lt, fk601⟩ all0) S10 (Nat.le_refl _) e10 (argsL := [(.int p1)]) (rest := [.null, (.ref b3), (.ref b3)]) (pc' := 40) rfl (by rw [hml]; rfl) (lenOf pd_5 rfl) rfl rfl (W := 3) (Nat.le_of_eq rfl) (by decide) (by decide) (by decide) (by decide) (hb hby at_37) ?_
        intro v602 T602 L602 h602 e602 q602 C602 S602 Z602 O602 X602
        rcases q602 with ⟨z602_0_0, z602_0_1, b602_0_0, b602_0_1, k602_0_0, c602_0_0, c602_0_1, rfl, N602_0, K602_0, s602_0_0, n602_0_0, y602_0_0, F602_0_0, F602_0_1, F602_0_2, F602_0_3⟩ | ⟨c602_1_0, rfl, N602_1, K602_1⟩
        · show Go _ _ _ _ (T602.setTop (mkF m 40 #[.val (.int p0), .val (.int p1), .val (.int p2), .val (.int p3), .val (.int p4), .val (.int jv1_5), .val (.int jv2_6), .unset, .unset, .unset, .unset] [(.ref b602_0_0), .null, (.ref b3), (.ref b3)]))
          have Kp604 : Keep h0 h602 [] := (Kp597.trans K602_0 all0)
          have Zn603 : n0 ≤ h602.size := Nat.le_trans Z0 Kp604.1
          have fk605 : Exa Z h602 b3 "com/example/rockhopper/rockhopper/model/Validators" := (fk599.keep K602_0)
          have fk606 : Fld Z h602 b3 "com/example/rockhopper/rockhopper/model/Validators" "etag" "Ljava/lang/String;" .null := ((b3_etag.keep K10_1 nin0).keep K602_0 nin0)
          have fk607 : Fld Z h602 b3 "com/example/rockhopper/rockhopper/model/Validators" "lastModified" "Ljava/lang/String;" .null := ((b3_lastModified.keep K10_1 nin0).keep K602_0 nin0)
          have sz609 : h0.size ≤ b3 := Nat.le_trans (Keep.refl h0 []).1 (Nat.le_of_eq g3.symm)
          have ge608 : n0 ≤ b3 := Nat.le_trans Z0 sz609
          refine Go.callN X602 hx Z602 O602 rfl (tw_29 hw) (tw_30 hw) (tw_31 hw) (by decide) (tw_31 hw) (tw_2 hw) (au_35 l Z a0 hw b3 b602_0_0 h602 n0 Zn603 fk605 fk606 fk607 ge608) e602 (a := b3) (argsL := [.null, (.ref b602_0_0)]) (rest := [(.ref b3)]) (pc' := 43) rfl (by rw [hml]; rfl) (lenOf pd_6 rfl) rfl rfl (W := 1) (Nat.le_of_eq rfl) (by decide) (by decide) (by decide) (by decide) (hb hby at_40) ?_
          intro v610 T610 L610 q610 X610
          obtain ⟨h610, e610⟩ : ∃ z, T610.heap = z := ⟨_, rfl⟩
          rw [e610] at q610
          obtain ⟨rfl, N610, K610, F610_0, F610_1, F610_2⟩ := q610
          show Go _ _ _ _ (T610.setTop (mkF m 43 #[.val (.int p0), .val (.int p1), .val (.int p2), .val (.int p3), .val (.int p4), .val (.int jv1_5), .val (.int jv2_6), .unset, .unset, .unset, .unset] [(.ref b3)]))
          refine Go.astore X610 hx (pc' := 45) rfl (hb hby at_43) (Ls' := #[.val (.int p0), .val (.int p1), .val (.int p2), .val (.int p3), .val (.int p4), .val (.int jv1_5), .val (.int jv2_6), .val (.ref b3), .unset, .unset, .unset]) rfl rfl ?_
          refine Go.iload X610 hx (pc' := 47) rfl (hb hby at_45) rfl ?_
          refine Go.iconst X610 hx (pc' := 48) rfl (hb hby at_47) (v := (2 : Int32)) rfl ?_
          refine Go.iushr X610 hx (pc' := 49) rfl (hb hby at_48) ?_
          generalize hz611 : ((p4.toUInt32 >>> ((2 : Int32) &&& 31).toUInt32).toInt32) = z611
          refine Go.iconst X610 hx (pc' := 50) rfl (hb hby at_49) (v := (3 : Int32)) rfl ?_
          refine Go.iand X610 hx (pc' := 51) rfl (hb hby at_50) ?_
          have r612 : 0 ≤ z611.toInt ∧ z611.toInt ≤ 1073741823 := own_rushr hz611 (k := 2) (by decide) (by decide) (by decide)
          generalize hz613 : (z611 &&& (3 : Int32)) = z613
          refine Go.istore X610 hx (pc' := 53) rfl (hb hby at_51) (Ls' := #[.val (.int p0), .val (.int p1), .val (.int p2), .val (.int p3), .val (.int p4), .val (.int jv1_5), .val (.int jv2_6), .val (.ref b3), .val (.int z613), .unset, .unset]) rfl ?_
          refine Go.iload X610 hx (pc' := 55) rfl (hb hby at_53) rfl ?_
          have r614 : 0 ≤ z613.toInt ∧ z613.toInt ≤ 3 := own_rand hz613 (by decide)
          by_cases hc615 : z613 = (0 : Int32)
          · refine Go.ifNo X610 hx (pc' := 58) rfl (hb hby at_55) (teq hc615).2 ?_
            refine Go.aload X610 hx (pc' := 60) rfl (hb hby at_58) rfl rfl ?_
            refine Go.anull X610 hx (pc' := 61) rfl (hb hby at_60) ?_
            have Kp617 : Keep h0 h610 [] := (Kp604.trans K610 (allS (Or.inr sz609) all0))
            have Zn616 : n0 ≤ h610.size := Nat.le_trans Z0 Kp617.1
            refine Go.callV X610 hx Z602 O602 (tw_37 hw) (tw_38 hw) (notFace_of_selects (args := #[]) (mvT Z602 (tw_40 hw))) (tw_40 hw) (tw_39 hw) (by decide) (tw_41 hw) (tw_2 hw) (au_50 l Z a0 hw b3 h610 n0 Zn616) e610 F610_0 (argsL := [.null]) (rest := []) (pc' := 64) rfl (by rw [hml]; rfl) (lenOf pd_7 rfl) rfl rfl (W := 0) (Nat.le_of_eq rfl) (by decide) (by decide) (by decide) (by decide) (hb hby at_61) ?_
            intro v618 T618 L618 q618 X618
            obtain ⟨rfl, N618, e618⟩ := q618
            show Go _ _ _ _ (T618.setTop (mkF m 64 #[.val (.int p0), .val (.int p1), .val (.int p2), .val (.int p3), .val (.int p4), .val (.int jv1_5), .val (.int jv2_6), .val (.ref b3), .val (.int z613), .unset, .unset] [(.int 0)]))
            refine Go.ifNo X618 hx (pc' := 67) rfl (hb hby at_64) (by decide) ?_
            refine Go.iconst X618 hx (pc' := 68) rfl (hb hby at_67) (v := (1 : Int32)) rfl ?_
            refine Go.goto X618 hx (pc' := 72) (hb hby at_68) (by decide) (by decide) ?_
            have C619 : CHr Z EL0 s.vm s.heap T602.vm h602 := (C600.trans C602)
            have fk620 : Safe Z EL0 T602.vm h602 b3 := (C602.safe fk599.lt fk601)
            have C621 : CHr Z EL0 s.vm s.heap T602.vm h610 := (C619.trans (CHr.keep K610 (sfS fk620 sf0) C619.1))
            have hk622 := (Nat.le_trans (Nat.le_refl _) K610.1)
            refine Go.retNW X618 hx hlk Z602 (own_EW hw) e618 S602 hk622 C621 (t := .boolean) hret (by simp) (hb hby at_72) (by decide) (by decide) (fun hat => ?_)
            exact ⟨rfl, (Fr.app (Fr.app (Fr.app (Fr.app (Fr.nil n0) N10_1) N602_0) N610) N618)⟩
          · refine Go.ifYes X610 hx (pc' := 73) (hb hby at_55) (feq hc615).2 (by decide) (by decide) ?_
            refine Go.iload X610 hx (pc' := 75) rfl (hb hby at_73) rfl ?_
            refine Go.iconst X610 hx (pc' := 76) rfl (hb hby at_75) (v := (1 : Int32)) rfl ?_
            by_cases hc623 : z613 = (1 : Int32)
            · refine Go.icmpNo X610 hx (pc' := 79) rfl (hb hby at_76) (teq hc623).2 ?_
              refine Go.aload X610 hx (pc' := 81) rfl (hb hby at_79) rfl rfl ?_
              refine Go.iloadN X610 hx (pc' := 82) rfl (hb hby at_81) rfl ?_
              have Kp625 : Keep h0 h610 [] := (Kp604.trans K610 (allS (Or.inr sz609) all0))
              have Zn624 : n0 ≤ h610.size := Nat.le_trans Z0 Kp625.1
              have O626 := (O598.keep K602_0 all0)
              have O627 := (O626.keep K610 (allS ge608 all0))
              refine Go.callS X610 hx Z602 O602 (tw_42 hw) (tw_43 hw) (tw_44 hw) (tw_45 hw) (by decide) (tw_45 hw) (tw_44 hw) (au_19 l Z a0 hw p0 ga3 gz9 gv13 gk17 gvs18 h610 n0 Zn624 O627 G) e610 (argsL := [(.int p0)]) (rest := [(.ref b3)]) (pc' := 85) rfl (by rw [hml]; rfl) (lenOf pd_10 rfl) rfl rfl (W := 1) (Nat.le_of_eq rfl) (by decide) (by decide) (by decide) (by decide) (hb hby at_82) ?_
              intro v628 T628 L628 q628 X628
              obtain ⟨h628, e628⟩ : ∃ z, T628.heap = z := ⟨_, rfl⟩
              rw [e628] at q628
              obtain ⟨b628_0, rfl, N628, K628, F628_0⟩ := q628
              show Go _ _ _ _ (T628.setTop (mkF m 85 #[.val (.int p0), .val (.int p1), .val (.int p2), .val (.int p3), .val (.int p4), .val (.int jv1_5), .val (.int jv2_6), .val (.ref b3), .val (.int z613), .unset, .unset] [(.ref b628_0), (.ref b3)]))
              have Kp630 : Keep h0 h628 [] := (Kp625.trans K628 all0)
              have Zn629 : n0 ≤ h628.size := Nat.le_trans Z0 Kp630.1
              have fk631 : Exa Z h628 b3 "com/example/rockhopper/rockhopper/model/Validators" := (F610_0.keep K628)
              refine Go.callV X628 hx Z602 O602 (tw_37 hw) (tw_38 hw) (notFace_of_selects (args := #[]) (mvT Z602 (tw_40 hw))) (tw_40 hw) (tw_39 hw) (by decide) (tw_41 hw) (tw_2 hw) (au_51 l Z a0 hw b3 b628_0 h628 n0 Zn629 F628_0) e628 fk631 (argsL := [(.ref b628_0)]) (rest := []) (pc' := 88) rfl (by rw [hml]; rfl) (lenOf pd_7 rfl) rfl rfl (W := 0) (Nat.le_of_eq rfl) (by decide) (by decide) (by decide) (by decide) (hb hby at_85) ?_
              intro v632 T632 L632 q632 X632
              obtain ⟨rfl, N632, e632⟩ := q632
              show Go _ _ _ _ (T632.setTop (mkF m 88 #[.val (.int p0), .val (.int p1), .val (.int p2), .val (.int p3), .val (.int p4), .val (.int jv1_5), .val (.int jv2_6), .val (.ref b3), .val (.int z613), .unset, .unset] [(.int 0)]))
              refine Go.ifNo X632 hx (pc' := 91) rfl (hb hby at_88) (by decide) ?_
              refine Go.aload X632 hx (pc' := 93) rfl (hb hby at_91) rfl rfl ?_
              refine Go.aload X632 hx (pc' := 95) rfl (hb hby at_93) rfl rfl ?_
              have fk633 : Fld Z h628 b3 "com/example/rockhopper/rockhopper/model/Validators" "etag" "Ljava/lang/String;" .null := (F610_1.keep K628 nin0)
              have fk634 : Fld Z h628 b3 "com/example/rockhopper/rockhopper/model/Validators" "lastModified" "Ljava/lang/String;" (.ref b602_0_0) := (F610_2.keep K628 nin0)
              refine Go.callV X632 hx Z602 O602 (tw_37 hw) (tw_38 hw) (notFace_of_selects (args := #[]) (mvT Z602 (tw_40 hw))) (tw_40 hw) (tw_39 hw) (by decide) (tw_41 hw) (tw_2 hw) (au_52 l Z a0 hw b3 b602_0_0 h628 n0 Zn629 fk631 fk633 fk634) e632 fk631 (argsL := [(.ref b3)]) (rest := []) (pc' := 98) rfl (by rw [hml]; rfl) (lenOf pd_7 rfl) rfl rfl (W := 0) (Nat.le_of_eq rfl) (by decide) (by decide) (by decide) (by decide) (hb hby at_95) ?_
              intro v635 T635 L635 q635 X635
              obtain ⟨rfl, N635, e635⟩ := q635
              show Go _ _ _ _ (T635.setTop (mkF m 98 #[.val (.int p0), .val (.int p1), .val (.int p2), .val (.int p3), .val (.int p4), .val (.int jv1_5), .val (.int jv2_6), .val (.ref b3), .val (.int z613), .unset, .unset] [(.int 1)]))
              refine Go.ifNo X635 hx (pc' := 101) rfl (hb hby at_98) (by decide) ?_
              refine Go.iconst X635 hx (pc' := 102) rfl (hb hby at_101) (v := (1 : Int32)) rfl ?_
              refine Go.goto X635 hx (pc' := 106) (hb hby at_102) (by decide) (by decide) ?_
              have C636 : CHr Z EL0 s.vm s.heap T602.vm h602 := (C600.trans C602)
              have fk637 : Safe Z EL0 T602.vm h602 b3 := (C602.safe fk599.lt fk601)
              have C638 : CHr Z EL0 s.vm s.heap T602.vm h610 := (C636.trans (CHr.keep K610 (sfS fk637 sf0) C636.1))
              have C639 : CHr Z EL0 s.vm s.heap T602.vm h628 := (C638.trans (CHr.keep K628 sf0 C638.1))
              have hk640 := (Nat.le_trans (Nat.le_trans (Nat.le_refl _) K610.1) K628.1)
              refine Go.retNW X635 hx hlk Z602 (own_EW hw) e635 S602 hk640 C639 (t := .boolean) hret (by simp) (hb hby at_106) (by decide) (by decide) (fun hat => ?_)
              exact ⟨rfl, (Fr.app (Fr.app (Fr.app (Fr.app (Fr.app (Fr.app (Fr.nil n0) N10_1) N602_0) N610) N628) N632) N635)⟩
            · refine Go.icmpYes X610 hx (pc' := 107) (hb hby at_76) (feq hc623).2 (by decide) (by decide) ?_
              refine Go.new X610 hx Z602 O602 (tw_0 hw) (tw_1 hw) (tw_2 hw) e610 (by decide) (by decide) (pc' := 110) rfl (hb hby at_107) ?_
              intro T641 h641 b641 e641 E641 g641 A641 D641 X641
              have b641_etag : Fld Z h641 b641 "com/example/rockhopper/rockhopper/model/Validators" "etag" "Ljava/lang/String;" .null := D641 (Or.inr (tw_34 hw)) (ty := (.object "java/lang/String")) (by decide)
              have b641_lastModified : Fld Z h641 b641 "com/example/rockhopper/rockhopper/model/Validators" "lastModified" "Ljava/lang/String;" .null := D641 (Or.inr (tw_36 hw)) (ty := (.object "java/lang/String")) (by decide)
              refine Go.dup X641 hx (pc' := 111) rfl (hb hby at_110) rfl ?_
              refine Go.iload X641 hx (pc' := 113) rfl (hb hby at_111) rfl ?_
              have Kp643 : Keep h0 h610 [] := (Kp604.trans K610 (allS (Or.inr sz609) all0))
              have Kp644 : Keep h0 h641 [] := (Kp643.ext E641)
              have Zn642 : n0 ≤ h641.size := Nat.le_trans Z0 Kp644.1
              have O645 := (O598.keep K602_0 all0)
              have O646 := (O645.keep K610 (allS ge608 all0))
              have O647 := (O646.ext E641)
              have C648 : CHr Z EL0 s.vm s.heap T602.vm h602 := (C600.trans C602)
              have fk649 : Safe Z EL0 T602.vm h602 b3 := (C602.safe fk599.lt fk601)
              have C650 : CHr Z EL0 s.vm s.heap T602.vm h610 := (C648.trans (CHr.keep K610 (sfS fk649 sf0) C648.1))
              have C651 : CHr Z EL0 s.vm s.heap T602.vm h641 := (C650.trans (CHr.ext E641 C650.1))
              have fk652 : Safe Z EL0 T602.vm h641 b641 := (Safe.ext E641 C650.1 (Safe.new (Nat.le_of_eq g641.symm) : Safe Z EL0 T602.vm h610 b641))
              have hk653 := (Nat.le_trans (Nat.le_trans (Nat.le_refl _) K610.1) E641.1)
              refine Go.callSW X641 hx Z602 O602 (tw_3 hw) (tw_4 hw) (tw_5 hw) (tw_6 hw) (by decide) (tw_6 hw) (tw_5 hw) (au_6 l Z a0 hw jv1_5 b641 ga3 gz9 gv13 gk17 gvs18 h641 n0 Zn642 O647 G A641) (own_EW hw) C651.1 (allS ⟨A641.lt, fk652⟩ all0) S602 hk653 e641 (argsL := [(.int jv1_5)]) (rest := [(.ref b641), (.ref b641)]) (pc' := 116) rfl (by rw [hml]; rfl) (lenOf pd_5 rfl) rfl rfl (W := 2) (Nat.le_of_eq rfl) (by decide) (by decide) (by decide) (by decide) (hb hby at_113) ?_
              intro v654 T654 L654 h654 e654 q654 C654 S654 Z654 O654 X654
              rcases q654 with ⟨z654_0_0, z654_0_1, b654_0_0, b654_0_1, k654_0_0, c654_0_0, c654_0_1, rfl, N654_0, K654_0, s654_0_0, n654_0_0, y654_0_0, F654_0_0, F654_0_1, F654_0_2, F654_0_3⟩ | ⟨c654_1_0, rfl, N654_1, K654_1⟩
              · show Go _ _ _ _ (T654.setTop (mkF m 116 #[.val (.int p0), .val (.int p1), .val (.int p2), .val (.int p3), .val (.int p4), .val (.int jv1_5), .val (.int jv2_6), .val (.ref b3), .val (.int z613), .unset, .unset] [(.ref b654_0_0), (.ref b641), (.ref b641)]))
                refine Go.iload X654 hx (pc' := 118) rfl (hb hby at_116) rfl ?_
                have Kp656 : Keep h0 h654 [] := (Kp644.trans K654_0 all0)
                have Zn655 : n0 ≤ h654.size := Nat.le_trans Z0 Kp656.1
                have O657 := (O647.keep K654_0 all0)
                have fk658 : Exa Z h654 b641 "com/example/rockhopper/rockhopper/model/Validators" := (A641.keep K654_0)
                have C659 : CHr Z EL0 s.vm s.heap T654.vm h654 := (C651.trans C654)
                have fk660 : Safe Z EL0 T654.vm h654 b641 := (C654.safe A641.lt fk652)
                refine Go.callSW X654 hx Z654 O654 (tw_3 hw) (tw_4 hw) (tw_5 hw) (tw_6 hw) (by decide) (tw_6 hw) (tw_5 hw) (au_6 l Z a0 hw jv2_6 b641 ga3 gz9 gv13 gk17 gvs18 h654 n0 Zn655 O657 G fk658) (own_EW hw) C659.1 (allS ⟨fk658.lt, fk660⟩ all0) S654 (Nat.le_refl _) e654 (argsL := [(.int jv2_6)]) (rest := [(.ref b654_0_0), (.ref b641), (.ref b641)]) (pc' := 121) rfl (by rw [hml]; rfl) (lenOf pd_5 rfl) rfl rfl (W := 3) (Nat.le_of_eq rfl) (by decide) (by decide) (by decide) (by decide) (hb hby at_118) ?_
                intro v661 T661 L661 h661 e661 q661 C661 S661 Z661 O661 X661
                rcases q661 with ⟨z661_0_0, z661_0_1, b661_0_0, b661_0_1, k661_0_0, c661_0_0, c661_0_1, rfl, N661_0, K661_0, s661_0_0, n661_0_0, y661_0_0, F661_0_0, F661_0_1, F661_0_2, F661_0_3⟩ | ⟨c661_1_0, rfl, N661_1, K661_1⟩
                · show Go _ _ _ _ (T661.setTop (mkF m 121 #[.val (.int p0), .val (.int p1), .val (.int p2), .val (.int p3), .val (.int p4), .val (.int jv1_5), .val (.int jv2_6), .val (.ref b3), .val (.int z613), .unset, .unset] [(.ref b661_0_0), (.ref b654_0_0), (.ref b641), (.ref b641)]))
                  have Kp663 : Keep h0 h661 [] := (Kp656.trans K661_0 all0)
                  have Zn662 : n0 ≤ h661.size := Nat.le_trans Z0 Kp663.1
                  have fk664 : Exa Z h661 b641 "com/example/rockhopper/rockhopper/model/Validators" := (fk658.keep K661_0)
                  have fk665 : Fld Z h661 b641 "com/example/rockhopper/rockhopper/model/Validators" "etag" "Ljava/lang/String;" .null := ((b641_etag.keep K654_0 nin0).keep K661_0 nin0)
                  have fk666 : Fld Z h661 b641 "com/example/rockhopper/rockhopper/model/Validators" "lastModified" "Ljava/lang/String;" .null := ((b641_lastModified.keep K654_0 nin0).keep K661_0 nin0)
                  have sz668 : h0.size ≤ b641 := Nat.le_trans Kp643.1 (Nat.le_of_eq g641.symm)
                  have ge667 : n0 ≤ b641 := Nat.le_trans Z0 sz668
                  refine Go.callN X661 hx Z661 O661 rfl (tw_29 hw) (tw_30 hw) (tw_31 hw) (by decide) (tw_31 hw) (tw_2 hw) (au_17 l Z a0 hw b641 b654_0_0 b661_0_0 h661 n0 Zn662 fk664 fk665 fk666 ge667) e661 (a := b641) (argsL := [(.ref b654_0_0), (.ref b661_0_0)]) (rest := [(.ref b641)]) (pc' := 124) rfl (by rw [hml]; rfl) (lenOf pd_6 rfl) rfl rfl (W := 1) (Nat.le_of_eq rfl) (by decide) (by decide) (by decide) (by decide) (hb hby at_121) ?_
                  intro v669 T669 L669 q669 X669
                  obtain ⟨h669, e669⟩ : ∃ z, T669.heap = z := ⟨_, rfl⟩
                  rw [e669] at q669
                  obtain ⟨rfl, N669, K669, F669_0, F669_1, F669_2⟩ := q669
                  show Go _ _ _ _ (T669.setTop (mkF m 124 #[.val (.int p0), .val (.int p1), .val (.int p2), .val (.int p3), .val (.int p4), .val (.int jv1_5), .val (.int jv2_6), .val (.ref b3), .val (.int z613), .unset, .unset] [(.ref b641)]))
                  refine Go.astore X669 hx (pc' := 126) rfl (hb hby at_124) (Ls' := #[.val (.int p0), .val (.int p1), .val (.int p2), .val (.int p3), .val (.int p4), .val (.int jv1_5), .val (.int jv2_6), .val (.ref b3), .val (.int z613), .val (.ref b641), .unset]) rfl rfl ?_
                  refine Go.iloadN X669 hx (pc' := 127) rfl (hb hby at_126) rfl ?_
                  refine Go.iload X669 hx (pc' := 129) rfl (hb hby at_127) rfl ?_
                  have Kp671 : Keep h0 h669 [] := (Kp663.trans K669 (allS (Or.inr sz668) all0))
                  have Zn670 : n0 ≤ h669.size := Nat.le_trans Z0 Kp671.1
                  refine Go.callS X669 hx Z661 O661 (tw_69 hw) (tw_70 hw) (tw_5 hw) (tw_71 hw) (by decide) (tw_71 hw) (tw_5 hw) (au_25 l Z a0 hw p0 jv1_5 h669 n0 Zn670) e669 (argsL := [(.int p0), (.int jv1_5)]) (rest := []) (pc' := 132) rfl (by rw [hml]; rfl) (lenOf pd_12 rfl) rfl rfl (W := 0) (Nat.le_of_eq rfl) (by decide) (by decide) (by decide) (by decide) (hb hby at_129) ?_
                  intro v672 T672 L672 q672 X672
                  rcases q672 with ⟨c672_0_0, rfl, N672_0, e672_0⟩ | ⟨c672_1_0, rfl, N672_1, e672_1⟩
                  · exact absurd c672_0_0 (fun z => absurd (c10_1_0.symm.trans (z.trans c654_0_0)) (by simp))
                  · show Go _ _ _ _ (T672.setTop (mkF m 132 #[.val (.int p0), .val (.int p1), .val (.int p2), .val (.int p3), .val (.int p4), .val (.int jv1_5), .val (.int jv2_6), .val (.ref b3), .val (.int z613), .val (.ref b641), .unset] [(.int 0)]))
                    refine Go.ifYes X672 hx (pc' := 148) (hb hby at_132) (by decide) (by decide) (by decide) ?_
                    refine Go.iconst X672 hx (pc' := 149) rfl (hb hby at_148) (v := (0 : Int32)) rfl ?_
                    refine Go.istore X672 hx (pc' := 151) rfl (hb hby at_149) (Ls' := #[.val (.int p0), .val (.int p1), .val (.int p2), .val (.int p3), .val (.int p4), .val (.int jv1_5), .val (.int jv2_6), .val (.ref b3), .val (.int z613), .val (.ref b641), .val (.int 0)]) rfl ?_
                    refine Go.aload X672 hx (pc' := 153) rfl (hb hby at_151) rfl rfl ?_
                    refine Go.aload X672 hx (pc' := 155) rfl (hb hby at_153) rfl rfl ?_
                    have ne673 : b3 ≠ b641 := Nat.ne_of_lt (Nat.lt_of_lt_of_le F610_0.lt (Nat.le_of_eq g641.symm))
                    have fk674 : Fld Z h669 b3 "com/example/rockhopper/rockhopper/model/Validators" "etag" "Ljava/lang/String;" .null := ((((F610_1.ext E641).keep K654_0 nin0).keep K661_0 nin0).keep K669 (ninS ne673 nin0))
                    have fk675 : Exa Z h669 b654_0_0 "java/lang/String" := ((F654_0_0.keep K661_0).keep K669)
                    have fk676 : Exa Z h669 b3 "com/example/rockhopper/rockhopper/model/Validators" := ((((F610_0.ext E641).keep K654_0).keep K661_0).keep K669)
                    refine Go.callV X672 hx Z661 O661 (tw_37 hw) (tw_38 hw) (notFace_of_selects (args := #[]) (mvT Z661 (tw_40 hw))) (tw_40 hw) (tw_39 hw) (by decide) (tw_41 hw) (tw_2 hw) (au_37 l Z a0 hw b3 b641 b654_0_0 h669 n0 Zn670 fk674 F669_0 F669_1 fk675) e672_1 fk676 (argsL := [(.ref b641)]) (rest := []) (pc' := 158) rfl (by rw [hml]; rfl) (lenOf pd_7 rfl) rfl rfl (W := 0) (Nat.le_of_eq rfl) (by decide) (by decide) (by decide) (by decide) (hb hby at_155) ?_
                    intro v677 T677 L677 q677 X677
                    obtain ⟨rfl, N677, e677⟩ := q677
                    show Go _ _ _ _ (T677.setTop (mkF m 158 #[.val (.int p0), .val (.int p1), .val (.int p2), .val (.int p3), .val (.int p4), .val (.int jv1_5), .val (.int jv2_6), .val (.ref b3), .val (.int z613), .val (.ref b641), .val (.int 0)] [(.int 0)]))
                    refine Go.iload X677 hx (pc' := 160) rfl (hb hby at_158) rfl ?_
                    refine Go.icmpNo X677 hx (pc' := 163) rfl (hb hby at_160) (by decide) ?_
                    refine Go.aload X677 hx (pc' := 165) rfl (hb hby at_163) rfl rfl ?_
                    refine Go.aload X677 hx (pc' := 167) rfl (hb hby at_165) rfl rfl ?_
                    refine Go.callV X677 hx Z661 O661 (tw_37 hw) (tw_38 hw) (notFace_of_selects (args := #[]) (mvT Z661 (tw_40 hw))) (tw_40 hw) (tw_39 hw) (by decide) (tw_41 hw) (tw_2 hw) (au_36 l Z a0 hw b641 b3 b654_0_0 h669 n0 Zn670 F669_1 fk676 fk674) e677 F669_0 (argsL := [(.ref b3)]) (rest := []) (pc' := 170) rfl (by rw [hml]; rfl) (lenOf pd_7 rfl) rfl rfl (W := 0) (Nat.le_of_eq rfl) (by decide) (by decide) (by decide) (by decide) (hb hby at_167) ?_
                    intro v678 T678 L678 q678 X678
                    obtain ⟨rfl, N678, e678⟩ := q678
                    show Go _ _ _ _ (T678.setTop (mkF m 170 #[.val (.int p0), .val (.int p1), .val (.int p2), .val (.int p3), .val (.int p4), .val (.int jv1_5), .val (.int jv2_6), .val (.ref b3), .val (.int z613), .val (.ref b641), .val (.int 0)] [(.int 0)]))
                    refine Go.iload X678 hx (pc' := 172) rfl (hb hby at_170) rfl ?_
                    refine Go.icmpNo X678 hx (pc' := 175) rfl (hb hby at_172) (by decide) ?_
                    refine Go.iconst X678 hx (pc' := 176) rfl (hb hby at_175) (v := (1 : Int32)) rfl ?_
                    refine Go.goto X678 hx (pc' := 180) (hb hby at_176) (by decide) (by decide) ?_
                    have C679 : CHr Z EL0 s.vm s.heap T661.vm h661 := (C659.trans C661)
                    have fk680 : Safe Z EL0 T661.vm h661 b641 := (C661.safe fk658.lt fk660)
                    have C681 : CHr Z EL0 s.vm s.heap T661.vm h669 := (C679.trans (CHr.keep K669 (sfS fk680 sf0) C679.1))
                    have hk682 := (Nat.le_trans (Nat.le_refl _) K669.1)
                    refine Go.retNW X678 hx hlk Z661 (own_EW hw) e678 S661 hk682 C681 (t := .boolean) hret (by simp) (hb hby at_180) (by decide) (by decide) (fun hat => ?_)
                    exact ⟨rfl, (Fr.app (Fr.app (Fr.app (Fr.app (Fr.app (Fr.app (Fr.app (Fr.app (Fr.app (Fr.nil n0) N10_1) N602_0) N610) N654_0) N661_0) N669) N672_1) N677) N678)⟩
                · show Go _ _ _ _ (T661.setTop (mkF m 121 #[.val (.int p0), .val (.int p1), .val (.int p2), .val (.int p3), .val (.int p4), .val (.int jv1_5), .val (.int jv2_6), .val (.ref b3), .val (.int z613), .unset, .unset] [.null, (.ref b654_0_0), (.ref b641), (.ref b641)]))
                  have Kp684 : Keep h0 h661 [] := (Kp656.trans K661_1 all0)
                  have Zn683 : n0 ≤ h661.size := Nat.le_trans Z0 Kp684.1
                  have fk685 : Exa Z h661 b641 "com/example/rockhopper/rockhopper/model/Validators" := (fk658.keep K661_1)
                  have fk686 : Fld Z h661 b641 "com/example/rockhopper/rockhopper/model/Validators" "etag" "Ljava/lang/String;" .null := ((b641_etag.keep K654_0 nin0).keep K661_1 nin0)
                  have fk687 : Fld Z h661 b641 "com/example/rockhopper/rockhopper/model/Validators" "lastModified" "Ljava/lang/String;" .null := ((b641_lastModified.keep K654_0 nin0).keep K661_1 nin0)
                  have sz689 : h0.size ≤ b641 := Nat.le_trans Kp643.1 (Nat.le_of_eq g641.symm)
                  have ge688 : n0 ≤ b641 := Nat.le_trans Z0 sz689
                  refine Go.callN X661 hx Z661 O661 rfl (tw_29 hw) (tw_30 hw) (tw_31 hw) (by decide) (tw_31 hw) (tw_2 hw) (au_29 l Z a0 hw b641 b654_0_0 h661 n0 Zn683 fk685 fk686 fk687 ge688) e661 (a := b641) (argsL := [(.ref b654_0_0), .null]) (rest := [(.ref b641)]) (pc' := 124) rfl (by rw [hml]; rfl) (lenOf pd_6 rfl) rfl rfl (W := 1) (Nat.le_of_eq rfl) (by decide) (by decide) (by decide) (by decide) (hb hby at_121) ?_
                  intro v690 T690 L690 q690 X690
                  obtain ⟨h690, e690⟩ : ∃ z, T690.heap = z := ⟨_, rfl⟩
                  rw [e690] at q690
                  obtain ⟨rfl, N690, K690, F690_0, F690_1, F690_2⟩ := q690
                  show Go _ _ _ _ (T690.setTop (mkF m 124 #[.val (.int p0), .val (.int p1), .val (.int p2), .val (.int p3), .val (.int p4), .val (.int jv1_5), .val (.int jv2_6), .val (.ref b3), .val (.int z613), .unset, .unset] [(.ref b641)]))
                  refine Go.astore X690 hx (pc' := 126) rfl (hb hby at_124) (Ls' := #[.val (.int p0), .val (.int p1), .val (.int p2), .val (.int p3), .val (.int p4), .val (.int jv1_5), .val (.int jv2_6), .val (.ref b3), .val (.int z613), .val (.ref b641), .unset]) rfl rfl ?_
                  refine Go.iloadN X690 hx (pc' := 127) rfl (hb hby at_126) rfl ?_
                  refine Go.iload X690 hx (pc' := 129) rfl (hb hby at_127) rfl ?_
                  have Kp692 : Keep h0 h690 [] := (Kp684.trans K690 (allS (Or.inr sz689) all0))
                  have Zn691 : n0 ≤ h690.size := Nat.le_trans Z0 Kp692.1
                  refine Go.callS X690 hx Z661 O661 (tw_69 hw) (tw_70 hw) (tw_5 hw) (tw_71 hw) (by decide) (tw_71 hw) (tw_5 hw) (au_25 l Z a0 hw p0 jv1_5 h690 n0 Zn691) e690 (argsL := [(.int p0), (.int jv1_5)]) (rest := []) (pc' := 132) rfl (by rw [hml]; rfl) (lenOf pd_12 rfl) rfl rfl (W := 0) (Nat.le_of_eq rfl) (by decide) (by decide) (by decide) (by decide) (hb hby at_129) ?_
                  intro v693 T693 L693 q693 X693
                  rcases q693 with ⟨c693_0_0, rfl, N693_0, e693_0⟩ | ⟨c693_1_0, rfl, N693_1, e693_1⟩
                  · exact absurd c693_0_0 (fun z => absurd (c10_1_0.symm.trans (z.trans c654_0_0)) (by simp))
                  · show Go _ _ _ _ (T693.setTop (mkF m 132 #[.val (.int p0), .val (.int p1), .val (.int p2), .val (.int p3), .val (.int p4), .val (.int jv1_5), .val (.int jv2_6), .val (.ref b3), .val (.int z613), .val (.ref b641), .unset] [(.int 0)]))
                    refine Go.ifYes X693 hx (pc' := 148) (hb hby at_132) (by decide) (by decide) (by decide) ?_
                    refine Go.iconst X693 hx (pc' := 149) rfl (hb hby at_148) (v := (0 : Int32)) rfl ?_
                    refine Go.istore X693 hx (pc' := 151) rfl (hb hby at_149) (Ls' := #[.val (.int p0), .val (.int p1), .val (.int p2), .val (.int p3), .val (.int p4), .val (.int jv1_5), .val (.int jv2_6), .val (.ref b3), .val (.int z613), .val (.ref b641), .val (.int 0)]) rfl ?_
                    refine Go.aload X693 hx (pc' := 153) rfl (hb hby at_151) rfl rfl ?_
                    refine Go.aload X693 hx (pc' := 155) rfl (hb hby at_153) rfl rfl ?_
                    have ne694 : b3 ≠ b641 := Nat.ne_of_lt (Nat.lt_of_lt_of_le F610_0.lt (Nat.le_of_eq g641.symm))
                    have fk695 : Fld Z h690 b3 "com/example/rockhopper/rockhopper/model/Validators" "etag" "Ljava/lang/String;" .null := ((((F610_1.ext E641).keep K654_0 nin0).keep K661_1 nin0).keep K690 (ninS ne694 nin0))
                    have fk696 : Exa Z h690 b654_0_0 "java/lang/String" := ((F654_0_0.keep K661_1).keep K690)
                    have fk697 : Exa Z h690 b3 "com/example/rockhopper/rockhopper/model/Validators" := ((((F610_0.ext E641).keep K654_0).keep K661_1).keep K690)
                    refine Go.callV X693 hx Z661 O661 (tw_37 hw) (tw_38 hw) (notFace_of_selects (args := #[]) (mvT Z661 (tw_40 hw))) (tw_40 hw) (tw_39 hw) (by decide) (tw_41 hw) (tw_2 hw) (au_47 l Z a0 hw b3 b641 b654_0_0 h690 n0 Zn691 fk695 F690_0 F690_1 fk696) e693_1 fk697 (argsL := [(.ref b641)]) (rest := []) (pc' := 158) rfl (by rw [hml]; rfl) (lenOf pd_7 rfl) rfl rfl (W := 0) (Nat.le_of_eq rfl) (by decide) (by decide) (by decide) (by decide) (hb hby at_155) ?_
                    intro v698 T698 L698 q698 X698
                    obtain ⟨rfl, N698, e698⟩ := q698
                    show Go _ _ _ _ (T698.setTop (mkF m 158 #[.val (.int p0), .val (.int p1), .val (.int p2), .val (.int p3), .val (.int p4), .val (.int jv1_5), .val (.int jv2_6), .val (.ref b3), .val (.int z613), .val (.ref b641), .val (.int 0)] [(.int 0)]))
                    refine Go.iload X698 hx (pc' := 160) rfl (hb hby at_158) rfl ?_
                    refine Go.icmpNo X698 hx (pc' := 163) rfl (hb hby at_160) (by decide) ?_
                    refine Go.aload X698 hx (pc' := 165) rfl (hb hby at_163) rfl rfl ?_
                    refine Go.aload X698 hx (pc' := 167) rfl (hb hby at_165) rfl rfl ?_
                    refine Go.callV X698 hx Z661 O661 (tw_37 hw) (tw_38 hw) (notFace_of_selects (args := #[]) (mvT Z661 (tw_40 hw))) (tw_40 hw) (tw_39 hw) (by decide) (tw_41 hw) (tw_2 hw) (au_46 l Z a0 hw b641 b3 b654_0_0 h690 n0 Zn691 F690_1 fk697 fk695) e698 F690_0 (argsL := [(.ref b3)]) (rest := []) (pc' := 170) rfl (by rw [hml]; rfl) (lenOf pd_7 rfl) rfl rfl (W := 0) (Nat.le_of_eq rfl) (by decide) (by decide) (by decide) (by decide) (hb hby at_167) ?_
                    intro v699 T699 L699 q699 X699
                    obtain ⟨rfl, N699, e699⟩ := q699
                    show Go _ _ _ _ (T699.setTop (mkF m 170 #[.val (.int p0), .val (.int p1), .val (.int p2), .val (.int p3), .val (.int p4), .val (.int jv1_5), .val (.int jv2_6), .val (.ref b3), .val (.int z613), .val (.ref b641), .val (.int 0)] [(.int 0)]))
                    refine Go.iload X699 hx (pc' := 172) rfl (hb hby at_170) rfl ?_
                    refine Go.icmpNo X699 hx (pc' := 175) rfl (hb hby at_172) (by decide) ?_
                    refine Go.iconst X699 hx (pc' := 176) rfl (hb hby at_175) (v := (1 : Int32)) rfl ?_
                    refine Go.goto X699 hx (pc' := 180) (hb hby at_176) (by decide) (by decide) ?_
                    have C700 : CHr Z EL0 s.vm s.heap T661.vm h661 := (C659.trans C661)
                    have fk701 : Safe Z EL0 T661.vm h661 b641 := (C661.safe fk658.lt fk660)
                    have C702 : CHr Z EL0 s.vm s.heap T661.vm h690 := (C700.trans (CHr.keep K690 (sfS fk701 sf0) C700.1))
                    have hk703 := (Nat.le_trans (Nat.le_refl _) K690.1)
                    refine Go.retNW X699 hx hlk Z661 (own_EW hw) e699 S661 hk703 C702 (t := .boolean) hret (by simp) (hb hby at_180) (by decide) (by decide) (fun hat => ?_)
                    exact ⟨rfl, (Fr.app (Fr.app (Fr.app (Fr.app (Fr.app (Fr.app (Fr.app (Fr.app (Fr.app (Fr.nil n0) N10_1) N602_0) N610) N654_0) N661_1) N690) N693_1) N698) N699)⟩
              · show Go _ _ _ _ (T654.setTop (mkF m 116 #[.val (.int p0), .val (.int p1), .val (.int p2), .val (.int p3), .val (.int p4), .val (.int jv1_5), .val (.int jv2_6), .val (.ref b3), .val (.int z613), .unset, .unset] [.null, (.ref b641), (.ref b641)]))
                refine Go.iload X654 hx (pc' := 118) rfl (hb hby at_116) rfl ?_
                have Kp705 : Keep h0 h654 [] := (Kp644.trans K654_1 all0)
                have Zn704 : n0 ≤ h654.size := Nat.le_trans Z0 Kp705.1
                have O706 := (O647.keep K654_1 all0)
                have fk707 : Exa Z h654 b641 "com/example/rockhopper/rockhopper/model/Validators" := (A641.keep K654_1)
                have C708 : CHr Z EL0 s.vm s.heap T654.vm h654 := (C651.trans C654)
                have fk709 : Safe Z EL0 T654.vm h654 b641 := (C654.safe A641.lt fk652)
                refine Go.callSW X654 hx Z654 O654 (tw_3 hw) (tw_4 hw) (tw_5 hw) (tw_6 hw) (by decide) (tw_6 hw) (tw_5 hw) (au_6 l Z a0 hw jv2_6 b641 ga3 gz9 gv13 gk17 gvs18 h654 n0 Zn704 O706 G fk707) (own_EW hw) C708.1 (allS ⟨fk707.lt, fk709⟩ all0) S654 (Nat.le_refl _) e654 (argsL := [(.int jv2_6)]) (rest := [.null, (.ref b641), (.ref b641)]) (pc' := 121) rfl (by rw [hml]; rfl) (lenOf pd_5 rfl) rfl rfl (W := 3) (Nat.le_of_eq rfl) (by decide) (by decide) (by decide) (by decide) (hb hby at_118) ?_
                intro v710 T710 L710 h710 e710 q710 C710 S710 Z710 O710 X710
                rcases q710 with ⟨z710_0_0, z710_0_1, b710_0_0, b710_0_1, k710_0_0, c710_0_0, c710_0_1, rfl, N710_0, K710_0, s710_0_0, n710_0_0, y710_0_0, F710_0_0, F710_0_1, F710_0_2, F710_0_3⟩ | ⟨c710_1_0, rfl, N710_1, K710_1⟩
                · show Go _ _ _ _ (T710.setTop (mkF m 121 #[.val (.int p0), .val (.int p1), .val (.int p2), .val (.int p3), .val (.int p4), .val (.int jv1_5), .val (.int jv2_6), .val (.ref b3), .val (.int z613), .unset, .unset] [(.ref b710_0_0), .null, (.ref b641), (.ref b641)]))
                  have Kp712 : Keep h0 h710 [] := (Kp705.trans K710_0 all0)
                  have Zn711 : n0 ≤ h710.size := Nat.le_trans Z0 Kp712.1
                  have fk713 : Exa Z h710 b641 "com/example/rockhopper/rockhopper/model/Validators" := (fk707.keep K710_0)
                  have fk714 : Fld Z h710 b641 "com/example/rockhopper/rockhopper/model/Validators" "etag" "Ljava/lang/String;" .null := ((b641_etag.keep K654_1 nin0).keep K710_0 nin0)
                  have fk715 : Fld Z h710 b641 "com/example/rockhopper/rockhopper/model/Validators" "lastModified" "Ljava/lang/String;" .null := ((b641_lastModified.keep K654_1 nin0).keep K710_0 nin0)
                  have sz717 : h0.size ≤ b641 := Nat.le_trans Kp643.1 (Nat.le_of_eq g641.symm)
                  have ge716 : n0 ≤ b641 := Nat.le_trans Z0 sz717
                  refine Go.callN X710 hx Z710 O710 rfl (tw_29 hw) (tw_30 hw) (tw_31 hw) (by decide) (tw_31 hw) (tw_2 hw) (au_35 l Z a0 hw b641 b710_0_0 h710 n0 Zn711 fk713 fk714 fk715 ge716) e710 (a := b641) (argsL := [.null, (.ref b710_0_0)]) (rest := [(.ref b641)]) (pc' := 124) rfl (by rw [hml]; rfl) (lenOf pd_6 rfl) rfl rfl (W := 1) (Nat.le_of_eq rfl) (by decide) (by decide) (by decide) (by decide) (hb hby at_121) ?_
                  intro v718 T718 L718 q718 X718
                  obtain ⟨h718, e718⟩ : ∃ z, T718.heap = z := ⟨_, rfl⟩
                  rw [e718] at q718
                  obtain ⟨rfl, N718, K718, F718_0, F718_1, F718_2⟩ := q718
                  show Go _ _ _ _ (T718.setTop (mkF m 124 #[.val (.int p0), .val (.int p1), .val (.int p2), .val (.int p3), .val (.int p4), .val (.int jv1_5), .val (.int jv2_6), .val (.ref b3), .val (.int z613), .unset, .unset] [(.ref b641)]))
                  refine Go.astore X718 hx (pc' := 126) rfl (hb hby at_124) (Ls' := #[.val (.int p0), .val (.int p1), .val (.int p2), .val (.int p3), .val (.int p4), .val (.int jv1_5), .val (.int jv2_6), .val (.ref b3), .val (.int z613), .val (.ref b641), .unset]) rfl rfl ?_
                  refine Go.iloadN X718 hx (pc' := 127) rfl (hb hby at_126) rfl ?_
                  refine Go.iload X718 hx (pc' := 129) rfl (hb hby at_127) rfl ?_
                  have Kp720 : Keep h0 h718 [] := (Kp712.trans K718 (allS (Or.inr sz717) all0))
                  have Zn719 : n0 ≤ h718.size := Nat.le_trans Z0 Kp720.1
                  refine Go.callS X718 hx Z710 O710 (tw_69 hw) (tw_70 hw) (tw_5 hw) (tw_71 hw) (by decide) (tw_71 hw) (tw_5 hw) (au_25 l Z a0 hw p0 jv1_5 h718 n0 Zn719) e718 (argsL := [(.int p0), (.int jv1_5)]) (rest := []) (pc' := 132) rfl (by rw [hml]; rfl) (lenOf pd_12 rfl) rfl rfl (W := 0) (Nat.le_of_eq rfl) (by decide) (by decide) (by decide) (by decide) (hb hby at_129) ?_
                  intro v721 T721 L721 q721 X721
                  rcases q721 with ⟨c721_0_0, rfl, N721_0, e721_0⟩ | ⟨c721_1_0, rfl, N721_1, e721_1⟩
                  · show Go _ _ _ _ (T721.setTop (mkF m 132 #[.val (.int p0), .val (.int p1), .val (.int p2), .val (.int p3), .val (.int p4), .val (.int jv1_5), .val (.int jv2_6), .val (.ref b3), .val (.int z613), .val (.ref b641), .unset] [(.int 1)]))
                    refine Go.ifNo X721 hx (pc' := 135) rfl (hb hby at_132) (by decide) ?_
                    refine Go.iloadN X721 hx (pc' := 136) rfl (hb hby at_135) rfl ?_
                    refine Go.iload X721 hx (pc' := 138) rfl (hb hby at_136) rfl ?_
                    refine Go.callS X721 hx Z710 O710 (tw_69 hw) (tw_70 hw) (tw_5 hw) (tw_71 hw) (by decide) (tw_71 hw) (tw_5 hw) (au_25 l Z a0 hw p1 jv2_6 h718 n0 Zn719) e721_0 (argsL := [(.int p1), (.int jv2_6)]) (rest := []) (pc' := 141) rfl (by rw [hml]; rfl) (lenOf pd_12 rfl) rfl rfl (W := 0) (Nat.le_of_eq rfl) (by decide) (by decide) (by decide) (by decide) (hb hby at_138) ?_
                    intro v722 T722 L722 q722 X722
                    rcases q722 with ⟨c722_0_0, rfl, N722_0, e722_0⟩ | ⟨c722_1_0, rfl, N722_1, e722_1⟩
                    · have hk723 : z602_0_0 = z710_0_0 := Option.some.inj (c602_0_0.symm.trans (c722_0_0.trans c710_0_0))
                      show Go _ _ _ _ (T722.setTop (mkF m 141 #[.val (.int p0), .val (.int p1), .val (.int p2), .val (.int p3), .val (.int p4), .val (.int jv1_5), .val (.int jv2_6), .val (.ref b3), .val (.int z613), .val (.ref b641), .unset] [(.int 1)]))
                      refine Go.ifNo X722 hx (pc' := 144) rfl (hb hby at_141) (by decide) ?_
                      refine Go.iconst X722 hx (pc' := 145) rfl (hb hby at_144) (v := (1 : Int32)) rfl ?_
                      refine Go.goto X722 hx (pc' := 149) (hb hby at_145) (by decide) (by decide) ?_
                      refine Go.istore X722 hx (pc' := 151) rfl (hb hby at_149) (Ls' := #[.val (.int p0), .val (.int p1), .val (.int p2), .val (.int p3), .val (.int p4), .val (.int jv1_5), .val (.int jv2_6), .val (.ref b3), .val (.int z613), .val (.ref b641), .val (.int 1)]) rfl ?_
                      refine Go.aload X722 hx (pc' := 153) rfl (hb hby at_151) rfl rfl ?_
                      refine Go.aload X722 hx (pc' := 155) rfl (hb hby at_153) rfl rfl ?_
                      have O724 := (O706.keep K710_0 all0)
                      have O725 := (O724.keep K718 (allS ge716 all0))
                      have ne726 : b3 ≠ b641 := Nat.ne_of_lt (Nat.lt_of_lt_of_le F610_0.lt (Nat.le_of_eq g641.symm))
                      have fk727 : Fld Z h718 b3 "com/example/rockhopper/rockhopper/model/Validators" "etag" "Ljava/lang/String;" .null := ((((F610_1.ext E641).keep K654_1 nin0).keep K710_0 nin0).keep K718 (ninS ne726 nin0))
                      have fk728 : Fld Z h718 b3 "com/example/rockhopper/rockhopper/model/Validators" "lastModified" "Ljava/lang/String;" (.ref b602_0_0) := ((((F610_2.ext E641).keep K654_1 nin0).keep K710_0 nin0).keep K718 (ninS ne726 nin0))
                      have fk729 : Exa Z h718 b602_0_0 "java/lang/String" := (((((F602_0_0.keep K610).ext E641).keep K654_1).keep K710_0).keep K718)
                      have ne730 : b3 ≠ b602_0_0 := Nat.ne_of_lt (Nat.lt_of_lt_of_le fk599.lt s602_0_0)
                      have fk732 : Exa Z h610 b602_0_0 "java/lang/String" := (F602_0_0.keep K610)
                      have ne731 : b602_0_0 ≠ b641 := Nat.ne_of_lt (Nat.lt_of_lt_of_le fk732.lt (Nat.le_of_eq g641.symm))
                      have fk733 : Fld Z h718 b602_0_0 "java/lang/String" "coder" "B" (.int 0) := (((((F602_0_1.keep K610 (ninS (Ne.symm ne730) nin0)).ext E641).keep K654_1 nin0).keep K710_0 nin0).keep K718 (ninS ne731 nin0))
                      have fk734 : Fld Z h718 b602_0_0 "java/lang/String" "value" "[B" (.ref b602_0_1) := (((((F602_0_2.keep K610 (ninS (Ne.symm ne730) nin0)).ext E641).keep K654_1 nin0).keep K710_0 nin0).keep K718 (ninS ne731 nin0))
                      have fk735 : Exa Z h718 b710_0_0 "java/lang/String" := (F710_0_0.keep K718)
                      have ne736 : b641 ≠ b710_0_0 := Nat.ne_of_lt (Nat.lt_of_lt_of_le fk707.lt s710_0_0)
                      have fk737 : Fld Z h718 b710_0_0 "java/lang/String" "coder" "B" (.int 0) := (F710_0_1.keep K718 (ninS (Ne.symm ne736) nin0))
                      have fk738 : Fld Z h718 b710_0_0 "java/lang/String" "value" "[B" (.ref b710_0_1) := (F710_0_2.keep K718 (ninS (Ne.symm ne736) nin0))
                      have fk740 := (F602_0_3.keep K610 (ninS n602_0_0 nin0))
                      have ne739 : b602_0_1 ≠ b641 := Nat.ne_of_lt (Nat.lt_of_lt_of_le fk740.lt (Nat.le_of_eq g641.symm))
                      have fk741 := (((((F602_0_3.keep K610 (ninS n602_0_0 nin0)).ext E641).keep K654_1 nin0).keep K710_0 nin0).keep K718 (ninS ne739 nin0))
                      have fk742 := (F710_0_3.keep K718 (ninS n710_0_0 nin0))
                      have fk744 : Exa Z h654 b602_0_0 "java/lang/String" := ((fk732.ext E641).keep K654_1)
                      have ne743 : b602_0_0 ≠ b710_0_0 := Nat.ne_of_lt (Nat.lt_of_lt_of_le fk744.lt s710_0_0)
                      have fk745 : Exa Z h718 b3 "com/example/rockhopper/rockhopper/model/Validators" := ((((F610_0.ext E641).keep K654_1).keep K710_0).keep K718)
                      refine Go.callV X722 hx Z710 O710 (tw_37 hw) (tw_38 hw) (notFace_of_selects (args := #[]) (mvT Z710 (tw_40 hw))) (tw_40 hw) (tw_39 hw) (by decide) (tw_41 hw) (tw_2 hw) (au_53 l Z a0 hw b3 b641 b602_0_0 b710_0_0 b602_0_1 b710_0_1 k602_0_0 z602_0_0 z602_0_1 k710_0_0 z710_0_0 z710_0_1 ga3 gz9 gv13 gk17 gvs18 h718 n0 Zn719 O725 G fk727 fk728 F718_0 F718_1 F718_2 fk729 fk733 fk734 fk735 fk737 fk738 fk741 fk742 c602_0_1 c710_0_1 (Ne.symm ne743)) e722_0 fk745 (argsL := [(.ref b641)]) (rest := []) (pc' := 158) rfl (by rw [hml]; rfl) (lenOf pd_7 rfl) rfl rfl (W := 0) (Nat.le_of_eq rfl) (by decide) (by decide) (by decide) (by decide) (hb hby at_155) ?_
                      intro v746 T746 L746 q746 X746
                      rcases q746 with ⟨c746_0_0, rfl, N746_0, e746_0⟩ | ⟨c746_1_0, rfl, N746_1, e746_1⟩
                      · show Go _ _ _ _ (T746.setTop (mkF m 158 #[.val (.int p0), .val (.int p1), .val (.int p2), .val (.int p3), .val (.int p4), .val (.int jv1_5), .val (.int jv2_6), .val (.ref b3), .val (.int z613), .val (.ref b641), .val (.int 1)] [(.int 1)]))
                        refine Go.iload X746 hx (pc' := 160) rfl (hb hby at_158) rfl ?_
                        refine Go.icmpNo X746 hx (pc' := 163) rfl (hb hby at_160) (by decide) ?_
                        refine Go.aload X746 hx (pc' := 165) rfl (hb hby at_163) rfl rfl ?_
                        refine Go.aload X746 hx (pc' := 167) rfl (hb hby at_165) rfl rfl ?_
                        refine Go.callV X746 hx Z710 O710 (tw_37 hw) (tw_38 hw) (notFace_of_selects (args := #[]) (mvT Z710 (tw_40 hw))) (tw_40 hw) (tw_39 hw) (by decide) (tw_41 hw) (tw_2 hw) (au_53 l Z a0 hw b641 b3 b710_0_0 b602_0_0 b710_0_1 b602_0_1 k710_0_0 z710_0_0 z710_0_1 k602_0_0 z602_0_0 z602_0_1 ga3 gz9 gv13 gk17 gvs18 h718 n0 Zn719 O725 G F718_1 F718_2 fk745 fk727 fk728 fk735 fk737 fk738 fk729 fk733 fk734 fk742 fk741 c710_0_1 c602_0_1 ne743) e746_0 F718_0 (argsL := [(.ref b3)]) (rest := []) (pc' := 170) rfl (by rw [hml]; rfl) (lenOf pd_7 rfl) rfl rfl (W := 0) (Nat.le_of_eq rfl) (by decide) (by decide) (by decide) (by decide) (hb hby at_167) ?_
                        intro v747 T747 L747 q747 X747
                        rcases q747 with ⟨c747_0_0, rfl, N747_0, e747_0⟩ | ⟨c747_1_0, rfl, N747_1, e747_1⟩
                        · show Go _ _ _ _ (T747.setTop (mkF m 170 #[.val (.int p0), .val (.int p1), .val (.int p2), .val (.int p3), .val (.int p4), .val (.int jv1_5), .val (.int jv2_6), .val (.ref b3), .val (.int z613), .val (.ref b641), .val (.int 1)] [(.int 1)]))
                          refine Go.iload X747 hx (pc' := 172) rfl (hb hby at_170) rfl ?_
                          refine Go.icmpNo X747 hx (pc' := 175) rfl (hb hby at_172) (by decide) ?_
                          refine Go.iconst X747 hx (pc' := 176) rfl (hb hby at_175) (v := (1 : Int32)) rfl ?_
                          refine Go.goto X747 hx (pc' := 180) (hb hby at_176) (by decide) (by decide) ?_
                          have C748 : CHr Z EL0 s.vm s.heap T710.vm h710 := (C708.trans C710)
                          have fk749 : Safe Z EL0 T710.vm h710 b641 := (C710.safe fk707.lt fk709)
                          have C750 : CHr Z EL0 s.vm s.heap T710.vm h718 := (C748.trans (CHr.keep K718 (sfS fk749 sf0) C748.1))
                          have hk751 := (Nat.le_trans (Nat.le_refl _) K718.1)
                          refine Go.retNW X747 hx hlk Z710 (own_EW hw) e747_0 S710 hk751 C750 (t := .boolean) hret (by simp) (hb hby at_180) (by decide) (by decide) (fun hat => ?_)
                          exact ⟨rfl, (Fr.app (Fr.app (Fr.app (Fr.app (Fr.app (Fr.app (Fr.app (Fr.app (Fr.app (Fr.app (Fr.nil n0) N10_1) N602_0) N610) N654_1) N710_0) N718) N721_0) N722_0) N746_0) N747_0)⟩
                        · exact absurd hk723 c747_1_0
                      · exact absurd hk723.symm c746_1_0
                    · have hk752 : ¬ z602_0_0 = z710_0_0 := fun z => c722_1_0 (c602_0_0.trans ((congrArg some z).trans c710_0_0.symm))
                      show Go _ _ _ _ (T722.setTop (mkF m 141 #[.val (.int p0), .val (.int p1), .val (.int p2), .val (.int p3), .val (.int p4), .val (.int jv1_5), .val (.int jv2_6), .val (.ref b3), .val (.int z613), .val (.ref b641), .unset] [(.int 0)]))
                      refine Go.ifYes X722 hx (pc' := 148) (hb hby at_141) (by decide) (by decide) (by decide) ?_
                      refine Go.iconst X722 hx (pc' := 149) rfl (hb hby at_148) (v := (0 : Int32)) rfl ?_
                      refine Go.istore X722 hx (pc' := 151) rfl (hb hby at_149) (Ls' := #[.val (.int p0), .val (.int p1), .val (.int p2), .val (.int p3), .val (.int p4), .val (.int jv1_5), .val (.int jv2_6), .val (.ref b3), .val (.int z613), .val (.ref b641), .val (.int 0)]) rfl ?_
                      refine Go.aload X722 hx (pc' := 153) rfl (hb hby at_151) rfl rfl ?_
                      refine Go.aload X722 hx (pc' := 155) rfl (hb hby at_153) rfl rfl ?_
                      have O753 := (O706.keep K710_0 all0)
                      have O754 := (O753.keep K718 (allS ge716 all0))
                      have ne755 : b3 ≠ b641 := Nat.ne_of_lt (Nat.lt_of_lt_of_le F610_0.lt (Nat.le_of_eq g641.symm))
                      have fk756 : Fld Z h718 b3 "com/example/rockhopper/rockhopper/model/Validators" "etag" "Ljava/lang/String;" .null := ((((F610_1.ext E641).keep K654_1 nin0).keep K710_0 nin0).keep K718 (ninS ne755 nin0))
                      have fk757 : Fld Z h718 b3 "com/example/rockhopper/rockhopper/model/Validators" "lastModified" "Ljava/lang/String;" (.ref b602_0_0) := ((((F610_2.ext E641).keep K654_1 nin0).keep K710_0 nin0).keep K718 (ninS ne755 nin0))
                      have fk758 : Exa Z h718 b602_0_0 "java/lang/String" := (((((F602_0_0.keep K610).ext E641).keep K654_1).keep K710_0).keep K718)
                      have ne759 : b3 ≠ b602_0_0 := Nat.ne_of_lt (Nat.lt_of_lt_of_le fk599.lt s602_0_0)
                      have fk761 : Exa Z h610 b602_0_0 "java/lang/String" := (F602_0_0.keep K610)
                      have ne760 : b602_0_0 ≠ b641 := Nat.ne_of_lt (Nat.lt_of_lt_of_le fk761.lt (Nat.le_of_eq g641.symm))
                      have fk762 : Fld Z h718 b602_0_0 "java/lang/String" "coder" "B" (.int 0) := (((((F602_0_1.keep K610 (ninS (Ne.symm ne759) nin0)).ext E641).keep K654_1 nin0).keep K710_0 nin0).keep K718 (ninS ne760 nin0))
                      have fk763 : Fld Z h718 b602_0_0 "java/lang/String" "value" "[B" (.ref b602_0_1) := (((((F602_0_2.keep K610 (ninS (Ne.symm ne759) nin0)).ext E641).keep K654_1 nin0).keep K710_0 nin0).keep K718 (ninS ne760 nin0))
                      have fk764 : Exa Z h718 b710_0_0 "java/lang/String" := (F710_0_0.keep K718)
                      have ne765 : b641 ≠ b710_0_0 := Nat.ne_of_lt (Nat.lt_of_lt_of_le fk707.lt s710_0_0)
                      have fk766 : Fld Z h718 b710_0_0 "java/lang/String" "coder" "B" (.int 0) := (F710_0_1.keep K718 (ninS (Ne.symm ne765) nin0))
                      have fk767 : Fld Z h718 b710_0_0 "java/lang/String" "value" "[B" (.ref b710_0_1) := (F710_0_2.keep K718 (ninS (Ne.symm ne765) nin0))
                      have fk769 := (F602_0_3.keep K610 (ninS n602_0_0 nin0))
                      have ne768 : b602_0_1 ≠ b641 := Nat.ne_of_lt (Nat.lt_of_lt_of_le fk769.lt (Nat.le_of_eq g641.symm))
                      have fk770 := (((((F602_0_3.keep K610 (ninS n602_0_0 nin0)).ext E641).keep K654_1 nin0).keep K710_0 nin0).keep K718 (ninS ne768 nin0))
                      have fk771 := (F710_0_3.keep K718 (ninS n710_0_0 nin0))
                      have fk773 : Exa Z h654 b602_0_0 "java/lang/String" := ((fk761.ext E641).keep K654_1)
                      have ne772 : b602_0_0 ≠ b710_0_0 := Nat.ne_of_lt (Nat.lt_of_lt_of_le fk773.lt s710_0_0)
                      have fk774 : Exa Z h718 b3 "com/example/rockhopper/rockhopper/model/Validators" := ((((F610_0.ext E641).keep K654_1).keep K710_0).keep K718)
                      refine Go.callV X722 hx Z710 O710 (tw_37 hw) (tw_38 hw) (notFace_of_selects (args := #[]) (mvT Z710 (tw_40 hw))) (tw_40 hw) (tw_39 hw) (by decide) (tw_41 hw) (tw_2 hw) (au_53 l Z a0 hw b3 b641 b602_0_0 b710_0_0 b602_0_1 b710_0_1 k602_0_0 z602_0_0 z602_0_1 k710_0_0 z710_0_0 z710_0_1 ga3 gz9 gv13 gk17 gvs18 h718 n0 Zn719 O754 G fk756 fk757 F718_0 F718_1 F718_2 fk758 fk762 fk763 fk764 fk766 fk767 fk770 fk771 c602_0_1 c710_0_1 (Ne.symm ne772)) e722_1 fk774 (argsL := [(.ref b641)]) (rest := []) (pc' := 158) rfl (by rw [hml]; rfl) (lenOf pd_7 rfl) rfl rfl (W := 0) (Nat.le_of_eq rfl) (by decide) (by decide) (by decide) (by decide) (hb hby at_155) ?_
                      intro v775 T775 L775 q775 X775
                      rcases q775 with ⟨c775_0_0, rfl, N775_0, e775_0⟩ | ⟨c775_1_0, rfl, N775_1, e775_1⟩
                      · exact absurd c775_0_0 (Ne.symm hk752)
                      · show Go _ _ _ _ (T775.setTop (mkF m 158 #[.val (.int p0), .val (.int p1), .val (.int p2), .val (.int p3), .val (.int p4), .val (.int jv1_5), .val (.int jv2_6), .val (.ref b3), .val (.int z613), .val (.ref b641), .val (.int 0)] [(.int 0)]))
                        refine Go.iload X775 hx (pc' := 160) rfl (hb hby at_158) rfl ?_
                        refine Go.icmpNo X775 hx (pc' := 163) rfl (hb hby at_160) (by decide) ?_
                        refine Go.aload X775 hx (pc' := 165) rfl (hb hby at_163) rfl rfl ?_
                        refine Go.aload X775 hx (pc' := 167) rfl (hb hby at_165) rfl rfl ?_
                        refine Go.callV X775 hx Z710 O710 (tw_37 hw) (tw_38 hw) (notFace_of_selects (args := #[]) (mvT Z710 (tw_40 hw))) (tw_40 hw) (tw_39 hw) (by decide) (tw_41 hw) (tw_2 hw) (au_53 l Z a0 hw b641 b3 b710_0_0 b602_0_0 b710_0_1 b602_0_1 k710_0_0 z710_0_0 z710_0_1 k602_0_0 z602_0_0 z602_0_1 ga3 gz9 gv13 gk17 gvs18 h718 n0 Zn719 O754 G F718_1 F718_2 fk774 fk756 fk757 fk764 fk766 fk767 fk758 fk762 fk763 fk771 fk770 c710_0_1 c602_0_1 ne772) e775_1 F718_0 (argsL := [(.ref b3)]) (rest := []) (pc' := 170) rfl (by rw [hml]; rfl) (lenOf pd_7 rfl) rfl rfl (W := 0) (Nat.le_of_eq rfl) (by decide) (by decide) (by decide) (by decide) (hb hby at_167) ?_
                        intro v776 T776 L776 q776 X776
                        rcases q776 with ⟨c776_0_0, rfl, N776_0, e776_0⟩ | ⟨c776_1_0, rfl, N776_1, e776_1⟩
                        · exact absurd c776_0_0 hk752
                        · show Go _ _ _ _ (T776.setTop (mkF m 170 #[.val (.int p0), .val (.int p1), .val (.int p2), .val (.int p3), .val (.int p4), .val (.int jv1_5), .val (.int jv2_6), .val (.ref b3), .val (.int z613), .val (.ref b641), .val (.int 0)] [(.int 0)]))
                          refine Go.iload X776 hx (pc' := 172) rfl (hb hby at_170) rfl ?_
                          refine Go.icmpNo X776 hx (pc' := 175) rfl (hb hby at_172) (by decide) ?_
                          refine Go.iconst X776 hx (pc' := 176) rfl (hb hby at_175) (v := (1 : Int32)) rfl ?_
                          refine Go.goto X776 hx (pc' := 180) (hb hby at_176) (by decide) (by decide) ?_
                          have C777 : CHr Z EL0 s.vm s.heap T710.vm h710 := (C708.trans C710)
                          have fk778 : Safe Z EL0 T710.vm h710 b641 := (C710.safe fk707.lt fk709)
                          have C779 : CHr Z EL0 s.vm s.heap T710.vm h718 := (C777.trans (CHr.keep K718 (sfS fk778 sf0) C777.1))
                          have hk780 := (Nat.le_trans (Nat.le_refl _) K718.1)
                          refine Go.retNW X776 hx hlk Z710 (own_EW hw) e776_1 S710 hk780 C779 (t := .boolean) hret (by simp) (hb hby at_180) (by decide) (by decide) (fun hat => ?_)
                          exact ⟨rfl, (Fr.app (Fr.app (Fr.app (Fr.app (Fr.app (Fr.app (Fr.app (Fr.app (Fr.app (Fr.app (Fr.nil n0) N10_1) N602_0) N610) N654_1) N710_0) N718) N721_0) N722_1) N775_1) N776_1)⟩
                  · exact absurd (c10_1_0.trans c654_1_0.symm) c721_1_0
                · show Go _ _ _ _ (T710.setTop (mkF m 121 #[.val (.int p0), .val (.int p1), .val (.int p2), .val (.int p3), .val (.int p4), .val (.int jv1_5), .val (.int jv2_6), .val (.ref b3), .val (.int z613), .unset, .unset] [.null, .null, (.ref b641), (.ref b641)]))
                  have Kp782 : Keep h0 h710 [] := (Kp705.trans K710_1 all0)
                  have Zn781 : n0 ≤ h710.size := Nat.le_trans Z0 Kp782.1
                  have fk783 : Exa Z h710 b641 "com/example/rockhopper/rockhopper/model/Validators" := (fk707.keep K710_1)
                  have fk784 : Fld Z h710 b641 "com/example/rockhopper/rockhopper/model/Validators" "etag" "Ljava/lang/String;" .null := ((b641_etag.keep K654_1 nin0).keep K710_1 nin0)
                  have fk785 : Fld Z h710 b641 "com/example/rockhopper/rockhopper/model/Validators" "lastModified" "Ljava/lang/String;" .null := ((b641_lastModified.keep K654_1 nin0).keep K710_1 nin0)
                  have sz787 : h0.size ≤ b641 := Nat.le_trans Kp643.1 (Nat.le_of_eq g641.symm)
                  have ge786 : n0 ≤ b641 := Nat.le_trans Z0 sz787
                  refine Go.callN X710 hx Z710 O710 rfl (tw_29 hw) (tw_30 hw) (tw_31 hw) (by decide) (tw_31 hw) (tw_2 hw) (au_38 l Z a0 hw b641 h710 n0 Zn781 fk783 fk784 fk785 ge786) e710 (a := b641) (argsL := [.null, .null]) (rest := [(.ref b641)]) (pc' := 124) rfl (by rw [hml]; rfl) (lenOf pd_6 rfl) rfl rfl (W := 1) (Nat.le_of_eq rfl) (by decide) (by decide) (by decide) (by decide) (hb hby at_121) ?_
                  intro v788 T788 L788 q788 X788
                  obtain ⟨h788, e788⟩ : ∃ z, T788.heap = z := ⟨_, rfl⟩
                  rw [e788] at q788
                  obtain ⟨rfl, N788, K788, F788_0, F788_1, F788_2⟩ := q788
                  show Go _ _ _ _ (T788.setTop (mkF m 124 #[.val (.int p0), .val (.int p1), .val (.int p2), .val (.int p3), .val (.int p4), .val (.int jv1_5), .val (.int jv2_6), .val (.ref b3), .val (.int z613), .unset, .unset] [(.ref b641)]))
                  refine Go.astore X788 hx (pc' := 126) rfl (hb hby at_124) (Ls' := #[.val (.int p0), .val (.int p1), .val (.int p2), .val (.int p3), .val (.int p4), .val (.int jv1_5), .val (.int jv2_6), .val (.ref b3), .val (.int z613), .val (.ref b641), .unset]) rfl rfl ?_
                  refine Go.iloadN X788 hx (pc' := 127) rfl (hb hby at_126) rfl ?_
                  refine Go.iload X788 hx (pc' := 129) rfl (hb hby at_127) rfl ?_
                  have Kp790 : Keep h0 h788 [] := (Kp782.trans K788 (allS (Or.inr sz787) all0))
                  have Zn789 : n0 ≤ h788.size := Nat.le_trans Z0 Kp790.1
                  refine Go.callS X788 hx Z710 O710 (tw_69 hw) (tw_70 hw) (tw_5 hw) (tw_71 hw) (by decide) (tw_71 hw) (tw_5 hw) (au_25 l Z a0 hw p0 jv1_5 h788 n0 Zn789) e788 (argsL := [(.int p0), (.int jv1_5)]) (rest := []) (pc' := 132) rfl (by rw [hml]; rfl) (lenOf pd_12 rfl) rfl rfl (W := 0) (Nat.le_of_eq rfl) (by decide) (by decide) (by decide) (by decide) (hb hby at_129) ?_
                  intro v791 T791 L791 q791 X791
                  rcases q791 with ⟨c791_0_0, rfl, N791_0, e791_0⟩ | ⟨c791_1_0, rfl, N791_1, e791_1⟩
                  · show Go _ _ _ _ (T791.setTop (mkF m 132 #[.val (.int p0), .val (.int p1), .val (.int p2), .val (.int p3), .val (.int p4), .val (.int jv1_5), .val (.int jv2_6), .val (.ref b3), .val (.int z613), .val (.ref b641), .unset] [(.int 1)]))
                    refine Go.ifNo X791 hx (pc' := 135) rfl (hb hby at_132) (by decide) ?_
                    refine Go.iloadN X791 hx (pc' := 136) rfl (hb hby at_135) rfl ?_
                    refine Go.iload X791 hx (pc' := 138) rfl (hb hby at_136) rfl ?_
                    refine Go.callS X791 hx Z710 O710 (tw_69 hw) (tw_70 hw) (tw_5 hw) (tw_71 hw) (by decide) (tw_71 hw) (tw_5 hw) (au_25 l Z a0 hw p1 jv2_6 h788 n0 Zn789) e791_0 (argsL := [(.int p1), (.int jv2_6)]) (rest := []) (pc' := 141) rfl (by rw [hml]; rfl) (lenOf pd_12 rfl) rfl rfl (W := 0) (Nat.le_of_eq rfl) (by decide) (by decide) (by decide) (by decide) (hb hby at_138) ?_
                    intro v792 T792 L792 q792 X792
                    rcases q792 with ⟨c792_0_0, rfl, N792_0, e792_0⟩ | ⟨c792_1_0, rfl, N792_1, e792_1⟩
                    · exact absurd c792_0_0 (fun z => absurd (c602_0_0.symm.trans (z.trans c710_1_0)) (by simp))
                    · show Go _ _ _ _ (T792.setTop (mkF m 141 #[.val (.int p0), .val (.int p1), .val (.int p2), .val (.int p3), .val (.int p4), .val (.int jv1_5), .val (.int jv2_6), .val (.ref b3), .val (.int z613), .val (.ref b641), .unset] [(.int 0)]))
                      refine Go.ifYes X792 hx (pc' := 148) (hb hby at_141) (by decide) (by decide) (by decide) ?_
                      refine Go.iconst X792 hx (pc' := 149) rfl (hb hby at_148) (v := (0 : Int32)) rfl ?_
                      refine Go.istore X792 hx (pc' := 151) rfl (hb hby at_149) (Ls' := #[.val (.int p0), .val (.int p1), .val (.int p2), .val (.int p3), .val (.int p4), .val (.int jv1_5), .val (.int jv2_6), .val (.ref b3), .val (.int z613), .val (.ref b641), .val (.int 0)]) rfl ?_
                      refine Go.aload X792 hx (pc' := 153) rfl (hb hby at_151) rfl rfl ?_
                      refine Go.aload X792 hx (pc' := 155) rfl (hb hby at_153) rfl rfl ?_
                      have ne793 : b3 ≠ b641 := Nat.ne_of_lt (Nat.lt_of_lt_of_le F610_0.lt (Nat.le_of_eq g641.symm))
                      have fk794 : Fld Z h788 b3 "com/example/rockhopper/rockhopper/model/Validators" "etag" "Ljava/lang/String;" .null := ((((F610_1.ext E641).keep K654_1 nin0).keep K710_1 nin0).keep K788 (ninS ne793 nin0))
                      have fk795 : Fld Z h788 b3 "com/example/rockhopper/rockhopper/model/Validators" "lastModified" "Ljava/lang/String;" (.ref b602_0_0) := ((((F610_2.ext E641).keep K654_1 nin0).keep K710_1 nin0).keep K788 (ninS ne793 nin0))
                      have fk796 : Exa Z h788 b3 "com/example/rockhopper/rockhopper/model/Validators" := ((((F610_0.ext E641).keep K654_1).keep K710_1).keep K788)
                      refine Go.callV X792 hx Z710 O710 (tw_37 hw) (tw_38 hw) (notFace_of_selects (args := #[]) (mvT Z710 (tw_40 hw))) (tw_40 hw) (tw_39 hw) (by decide) (tw_41 hw) (tw_2 hw) (au_54 l Z a0 hw b3 b641 b602_0_0 h788 n0 Zn789 fk794 fk795 F788_0 F788_1 F788_2) e792_1 fk796 (argsL := [(.ref b641)]) (rest := []) (pc' := 158) rfl (by rw [hml]; rfl) (lenOf pd_7 rfl) rfl rfl (W := 0) (Nat.le_of_eq rfl) (by decide) (by decide) (by decide) (by decide) (hb hby at_155) ?_
                      intro v797 T797 L797 q797 X797
                      obtain ⟨rfl, N797, e797⟩ := q797
                      show Go _ _ _ _ (T797.setTop (mkF m 158 #[.val (.int p0), .val (.int p1), .val (.int p2), .val (.int p3), .val (.int p4), .val (.int jv1_5), .val (.int jv2_6), .val (.ref b3), .val (.int z613), .val (.ref b641), .val (.int 0)] [(.int 0)]))
                      refine Go.iload X797 hx (pc' := 160) rfl (hb hby at_158) rfl ?_
                      refine Go.icmpNo X797 hx (pc' := 163) rfl (hb hby at_160) (by decide) ?_
                      refine Go.aload X797 hx (pc' := 165) rfl (hb hby at_163) rfl rfl ?_
                      refine Go.aload X797 hx (pc' := 167) rfl (hb hby at_165) rfl rfl ?_
                      have fk798 : Exa Z h788 b602_0_0 "java/lang/String" := (((((F602_0_0.keep K610).ext E641).keep K654_1).keep K710_1).keep K788)
                      refine Go.callV X797 hx Z710 O710 (tw_37 hw) (tw_38 hw) (notFace_of_selects (args := #[]) (mvT Z710 (tw_40 hw))) (tw_40 hw) (tw_39 hw) (by decide) (tw_41 hw) (tw_2 hw) (au_55 l Z a0 hw b641 b3 b602_0_0 h788 n0 Zn789 F788_1 F788_2 fk796 fk794 fk795 fk798) e797 F788_0 (argsL := [(.ref b3)]) (rest := []) (pc' := 170) rfl (by rw [hml]; rfl) (lenOf pd_7 rfl) rfl rfl (W := 0) (Nat.le_of_eq rfl) (by decide) (by decide) (by decide) (by decide) (hb hby at_167) ?_
                      intro v799 T799 L799 q799 X799
                      obtain ⟨rfl, N799, e799⟩ := q799
                      show Go _ _ _ _ (T799.setTop (mkF m 170 #[.val (.int p0), .val (.int p1), .val (.int p2), .val (.int p3), .val (.int p4), .val (.int jv1_5), .val (.int jv2_6), .val (.ref b3), .val (.int z613), .val (.ref b641), .val (.int 0)] [(.int 0)]))
                      refine Go.iload X799 hx (pc' := 172) rfl (hb hby at_170) rfl ?_
                      refine Go.icmpNo X799 hx (pc' := 175) rfl (hb hby at_172) (by decide) ?_
                      refine Go.iconst X799 hx (pc' := 176) rfl (hb hby at_175) (v := (1 : Int32)) rfl ?_
                      refine Go.goto X799 hx (pc' := 180) (hb hby at_176) (by decide) (by decide) ?_
                      have C800 : CHr Z EL0 s.vm s.heap T710.vm h710 := (C708.trans C710)
                      have fk801 : Safe Z EL0 T710.vm h710 b641 := (C710.safe fk707.lt fk709)
                      have C802 : CHr Z EL0 s.vm s.heap T710.vm h788 := (C800.trans (CHr.keep K788 (sfS fk801 sf0) C800.1))
                      have hk803 := (Nat.le_trans (Nat.le_refl _) K788.1)
                      refine Go.retNW X799 hx hlk Z710 (own_EW hw) e799 S710 hk803 C802 (t := .boolean) hret (by simp) (hb hby at_180) (by decide) (by decide) (fun hat => ?_)
                      exact ⟨rfl, (Fr.app (Fr.app (Fr.app (Fr.app (Fr.app (Fr.app (Fr.app (Fr.app (Fr.app (Fr.app (Fr.nil n0) N10_1) N602_0) N610) N654_1) N710_1) N788) N791_0) N792_1) N797) N799)⟩
                  · exact absurd (c10_1_0.trans c654_1_0.symm) c791_1_0
        · show Go _ _ _ _ (T602.setTop (mkF m 40 #[.val (.int p0), .val (.int p1), .val (.int p2), .val (.int p3), .val (.int p4), .val (.int jv1_5), .val (.int jv2_6), .unset, .unset, .unset, .unset] [.null, .null, (.ref b3), (.ref b3)]))
          have Kp805 : Keep h0 h602 [] := (Kp597.trans K602_1 all0)
          have Zn804 : n0 ≤ h602.size := Nat.le_trans Z0 Kp805.1
          have fk806 : Exa Z h602 b3 "com/example/rockhopper/rockhopper/model/Validators" := (fk599.keep K602_1)
          have fk807 : Fld Z h602 b3 "com/example/rockhopper/rockhopper/model/Validators" "etag" "Ljava/lang/String;" .null := ((b3_etag.keep K10_1 nin0).keep K602_1 nin0)
          have fk808 : Fld Z h602 b3 "com/example/rockhopper/rockhopper/model/Validators" "lastModified" "Ljava/lang/String;" .null := ((b3_lastModified.keep K10_1 nin0).keep K602_1 nin0)
          have sz810 : h0.size ≤ b3 := Nat.le_trans (Keep.refl h0 []).1 (Nat.le_of_eq g3.symm)
          have ge809 : n0 ≤ b3 := Nat.le_trans Z0 sz810
          refine Go.callN X602 hx Z602 O602 rfl (tw_29 hw) (tw_30 hw) (tw_31 hw) (by decide) (tw_31 hw) (tw_2 hw) (au_38 l Z a0 hw b3 h602 n0 Zn804 fk806 fk807 fk808 ge809) e602 (a := b3) (argsL := [.null, .null]) (rest := [(.ref b3)]) (pc' := 43) rfl (by rw [hml]; rfl) (lenOf pd_6 rfl) rfl rfl (W := 1) (Nat.le_of_eq rfl) (by decide) (by decide) (by decide) (by decide) (hb hby at_40) ?_
          intro v811 T811 L811 q811 X811
          obtain ⟨h811, e811⟩ : ∃ z, T811.heap = z := ⟨_, rfl⟩
          rw [e811] at q811
          obtain ⟨rfl, N811, K811, F811_0, F811_1, F811_2⟩ := q811
          show Go _ _ _ _ (T811.setTop (mkF m 43 #[.val (.int p0), .val (.int p1), .val (.int p2), .val (.int p3), .val (.int p4), .val (.int jv1_5), .val (.int jv2_6), .unset, .unset, .unset, .unset] [(.ref b3)]))
          refine Go.astore X811 hx (pc' := 45) rfl (hb hby at_43) (Ls' := #[.val (.int p0), .val (.int p1), .val (.int p2), .val (.int p3), .val (.int p4), .val (.int jv1_5), .val (.int jv2_6), .val (.ref b3), .unset, .unset, .unset]) rfl rfl ?_
          refine Go.iload X811 hx (pc' := 47) rfl (hb hby at_45) rfl ?_
          refine Go.iconst X811 hx (pc' := 48) rfl (hb hby at_47) (v := (2 : Int32)) rfl ?_
          refine Go.iushr X811 hx (pc' := 49) rfl (hb hby at_48) ?_
          generalize hz812 : ((p4.toUInt32 >>> ((2 : Int32) &&& 31).toUInt32).toInt32) = z812
          refine Go.iconst X811 hx (pc' := 50) rfl (hb hby at_49) (v := (3 : Int32)) rfl ?_
          refine Go.iand X811 hx (pc' := 51) rfl (hb hby at_50) ?_
          have r813 : 0 ≤ z812.toInt ∧ z812.toInt ≤ 1073741823 := own_rushr hz812 (k := 2) (by decide) (by decide) (by decide)
          generalize hz814 : (z812 &&& (3 : Int32)) = z814
          refine Go.istore X811 hx (pc' := 53) rfl (hb hby at_51) (Ls' := #[.val (.int p0), .val (.int p1), .val (.int p2), .val (.int p3), .val (.int p4), .val (.int jv1_5), .val (.int jv2_6), .val (.ref b3), .val (.int z814), .unset, .unset]) rfl ?_
          refine Go.iload X811 hx (pc' := 55) rfl (hb hby at_53) rfl ?_
          have r815 : 0 ≤ z814.toInt ∧ z814.toInt ≤ 3 := own_rand hz814 (by decide)
          by_cases hc816 : z814 = (0 : Int32)
          · refine Go.ifNo X811 hx (pc' := 58) rfl (hb hby at_55) (teq hc816).2 ?_
            refine Go.aload X811 hx (pc' := 60) rfl (hb hby at_58) rfl rfl ?_
            refine Go.anull X811 hx (pc' := 61) rfl (hb hby at_60) ?_
            have Kp818 : Keep h0 h811 [] := (Kp805.trans K811 (allS (Or.inr sz810) all0))
            have Zn817 : n0 ≤ h811.size := Nat.le_trans Z0 Kp818.1
            refine Go.callV X811 hx Z602 O602 (tw_37 hw) (tw_38 hw) (notFace_of_selects (args := #[]) (mvT Z602 (tw_40 hw))) (tw_40 hw) (tw_39 hw) (by decide) (tw_41 hw) (tw_2 hw) (au_56 l Z a0 hw b3 h811 n0 Zn817) e811 F811_0 (argsL := [.null]) (rest := []) (pc' := 64) rfl (by rw [hml]; rfl) (lenOf pd_7 rfl) rfl rfl (W := 0) (Nat.le_of_eq rfl) (by decide) (by decide) (by decide) (by decide) (hb hby at_61) ?_
            intro v819 T819 L819 q819 X819
            obtain ⟨rfl, N819, e819⟩ := q819
            show Go _ _ _ _ (T819.setTop (mkF m 64 #[.val (.int p0), .val (.int p1), .val (.int p2), .val (.int p3), .val (.int p4), .val (.int jv1_5), .val (.int jv2_6), .val (.ref b3), .val (.int z814), .unset, .unset] [(.int 0)]))
            refine Go.ifNo X819 hx (pc' := 67) rfl (hb hby at_64) (by decide) ?_
            refine Go.iconst X819 hx (pc' := 68) rfl (hb hby at_67) (v := (1 : Int32)) rfl ?_
            refine Go.goto X819 hx (pc' := 72) (hb hby at_68) (by decide) (by decide) ?_
            have C820 : CHr Z EL0 s.vm s.heap T602.vm h602 := (C600.trans C602)
            have fk821 : Safe Z EL0 T602.vm h602 b3 := (C602.safe fk599.lt fk601)
            have C822 : CHr Z EL0 s.vm s.heap T602.vm h811 := (C820.trans (CHr.keep K811 (sfS fk821 sf0) C820.1))
            have hk823 := (Nat.le_trans (Nat.le_refl _) K811.1)
            refine Go.retNW X819 hx hlk Z602 (own_EW hw) e819 S602 hk823 C822 (t := .boolean) hret (by simp) (hb hby at_72) (by decide) (by decide) (fun hat => ?_)
            exact ⟨rfl, (Fr.app (Fr.app (Fr.app (Fr.app (Fr.nil n0) N10_1) N602_1) N811) N819)⟩
          · refine Go.ifYes X811 hx (pc' := 73) (hb hby at_55) (feq hc816).2 (by decide) (by decide) ?_
            refine Go.iload X811 hx (pc' := 75) rfl (hb hby at_73) rfl ?_
            refine Go.iconst X811 hx (pc' := 76) rfl (hb hby at_75) (v := (1 : Int32)) rfl ?_
            by_cases hc824 : z814 = (1 : Int32)
            · refine Go.icmpNo X811 hx (pc' := 79) rfl (hb hby at_76) (teq hc824).2 ?_
              refine Go.aload X811 hx (pc' := 81) rfl (hb hby at_79) rfl rfl ?_
              refine Go.iloadN X811 hx (pc' := 82) rfl (hb hby at_81) rfl ?_
              have Kp826 : Keep h0 h811 [] := (Kp805.trans K811 (allS (Or.inr sz810) all0))
              have Zn825 : n0 ≤ h811.size := Nat.le_trans Z0 Kp826.1
              have O827 := (O598.keep K602_1 all0)
              have O828 := (O827.keep K811 (allS ge809 all0))
              refine Go.callS X811 hx Z602 O602 (tw_42 hw) (tw_43 hw) (tw_44 hw) (tw_45 hw) (by decide) (tw_45 hw) (tw_44 hw) (au_19 l Z a0 hw p0 ga3 gz9 gv13 gk17 gvs18 h811 n0 Zn825 O828 G) e811 (argsL := [(.int p0)]) (rest := [(.ref b3)]) (pc' := 85) rfl (by rw [hml]; rfl) (lenOf pd_10 rfl) rfl rfl (W := 1) (Nat.le_of_eq rfl) (by decide) (by decide) (by decide) (by decide) (hb hby at_82) ?_
              intro v829 T829 L829 q829 X829
              obtain ⟨h829, e829⟩ : ∃ z, T829.heap = z := ⟨_, rfl⟩
              rw [e829] at q829
              obtain ⟨b829_0, rfl, N829, K829, F829_0⟩ := q829
              show Go _ _ _ _ (T829.setTop (mkF m 85 #[.val (.int p0), .val (.int p1), .val (.int p2), .val (.int p3), .val (.int p4), .val (.int jv1_5), .val (.int jv2_6), .val (.ref b3), .val (.int z814), .unset, .unset] [(.ref b829_0), (.ref b3)]))
              have Kp831 : Keep h0 h829 [] := (Kp826.trans K829 all0)
              have Zn830 : n0 ≤ h829.size := Nat.le_trans Z0 Kp831.1
              have fk832 : Exa Z h829 b3 "com/example/rockhopper/rockhopper/model/Validators" := (F811_0.keep K829)
              refine Go.callV X829 hx Z602 O602 (tw_37 hw) (tw_38 hw) (notFace_of_selects (args := #[]) (mvT Z602 (tw_40 hw))) (tw_40 hw) (tw_39 hw) (by decide) (tw_41 hw) (tw_2 hw) (au_57 l Z a0 hw b3 b829_0 h829 n0 Zn830 F829_0) e829 fk832 (argsL := [(.ref b829_0)]) (rest := []) (pc' := 88) rfl (by rw [hml]; rfl) (lenOf pd_7 rfl) rfl rfl (W := 0) (Nat.le_of_eq rfl) (by decide) (by decide) (by decide) (by decide) (hb hby at_85) ?_
              intro v833 T833 L833 q833 X833
              obtain ⟨rfl, N833, e833⟩ := q833
              show Go _ _ _ _ (T833.setTop (mkF m 88 #[.val (.int p0), .val (.int p1), .val (.int p2), .val (.int p3), .val (.int p4), .val (.int jv1_5), .val (.int jv2_6), .val (.ref b3), .val (.int z814), .unset, .unset] [(.int 0)]))
              refine Go.ifNo X833 hx (pc' := 91) rfl (hb hby at_88) (by decide) ?_
              refine Go.aload X833 hx (pc' := 93) rfl (hb hby at_91) rfl rfl ?_
              refine Go.aload X833 hx (pc' := 95) rfl (hb hby at_93) rfl rfl ?_
              have fk834 : Fld Z h829 b3 "com/example/rockhopper/rockhopper/model/Validators" "etag" "Ljava/lang/String;" .null := (F811_1.keep K829 nin0)
              have fk835 : Fld Z h829 b3 "com/example/rockhopper/rockhopper/model/Validators" "lastModified" "Ljava/lang/String;" .null := (F811_2.keep K829 nin0)
              refine Go.callV X833 hx Z602 O602 (tw_37 hw) (tw_38 hw) (notFace_of_selects (args := #[]) (mvT Z602 (tw_40 hw))) (tw_40 hw) (tw_39 hw) (by decide) (tw_41 hw) (tw_2 hw) (au_58 l Z a0 hw b3 h829 n0 Zn830 fk832 fk834 fk835) e833 fk832 (argsL := [(.ref b3)]) (rest := []) (pc' := 98) rfl (by rw [hml]; rfl) (lenOf pd_7 rfl) rfl rfl (W := 0) (Nat.le_of_eq rfl) (by decide) (by decide) (by decide) (by decide) (hb hby at_95) ?_
              intro v836 T836 L836 q836 X836
              obtain ⟨rfl, N836, e836⟩ := q836
              show Go _ _ _ _ (T836.setTop (mkF m 98 #[.val (.int p0), .val (.int p1), .val (.int p2), .val (.int p3), .val (.int p4), .val (.int jv1_5), .val (.int jv2_6), .val (.ref b3), .val (.int z814), .unset, .unset] [(.int 1)]))
              refine Go.ifNo X836 hx (pc' := 101) rfl (hb hby at_98) (by decide) ?_
              refine Go.iconst X836 hx (pc' := 102) rfl (hb hby at_101) (v := (1 : Int32)) rfl ?_
              refine Go.goto X836 hx (pc' := 106) (hb hby at_102) (by decide) (by decide) ?_
              have C837 : CHr Z EL0 s.vm s.heap T602.vm h602 := (C600.trans C602)
              have fk838 : Safe Z EL0 T602.vm h602 b3 := (C602.safe fk599.lt fk601)
              have C839 : CHr Z EL0 s.vm s.heap T602.vm h811 := (C837.trans (CHr.keep K811 (sfS fk838 sf0) C837.1))
              have C840 : CHr Z EL0 s.vm s.heap T602.vm h829 := (C839.trans (CHr.keep K829 sf0 C839.1))
              have hk841 := (Nat.le_trans (Nat.le_trans (Nat.le_refl _) K811.1) K829.1)
              refine Go.retNW X836 hx hlk Z602 (own_EW hw) e836 S602 hk841 C840 (t := .boolean) hret (by simp) (hb hby at_106) (by decide) (by decide) (fun hat => ?_)
              exact ⟨rfl, (Fr.app (Fr.app (Fr.app (Fr.app (Fr.app (Fr.app (Fr.nil n0) N10_1) N602_1) N811) N829) N833) N836)⟩
            · refine Go.icmpYes X811 hx (pc' := 107) (hb hby at_76) (feq hc824).2 (by decide) (by decide) ?_
              refine Go.new X811 hx Z602 O602 (tw_0 hw) (tw_1 hw) (tw_2 hw) e811 (by decide) (by decide) (pc' := 110) rfl (hb hby at_107) ?_
              intro T842 h842 b842 e842 E842 g842 A842 D842 X842
              have b842_etag : Fld Z h842 b842 "com/example/rockhopper/rockhopper/model/Validators" "etag" "Ljava/lang/String;" .null := D842 (Or.inr (tw_34 hw)) (ty := (.object "java/lang/String")) (by decide)
              have b842_lastModified : Fld Z h842 b842 "com/example/rockhopper/rockhopper/model/Validators" "lastModified" "Ljava/lang/String;" .null := D842 (Or.inr (tw_36 hw)) (ty := (.object "java/lang/String")) (by decide)
              refine Go.dup X842 hx (pc' := 111) rfl (hb hby at_110) rfl ?_
              refine Go.iload X842 hx (pc' := 113) rfl (hb hby at_111) rfl ?_
              have Kp844 : Keep h0 h811 [] := (Kp805.trans K811 (allS (Or.inr sz810) all0))
              have Kp845 : Keep h0 h842 [] := (Kp844.ext E842)
              have Zn843 : n0 ≤ h842.size := Nat.le_trans Z0 Kp845.1
              have O846 := (O598.keep K602_1 all0)
              have O847 := (O846.keep K811 (allS ge809 all0))
              have O848 := (O847.ext E842)
              have C849 : CHr Z EL0 s.vm s.heap T602.vm h602 := (C600.trans C602)
              have fk850 : Safe Z EL0 T602.vm h602 b3 := (C602.safe fk599.lt fk601)
              have C851 : CHr Z EL0 s.vm s.heap T602.vm h811 := (C849.trans (CHr.keep K811 (sfS fk850 sf0) C849.1))
              have C852 : CHr Z EL0 s.vm s.heap T602.vm h842 := (C851.trans (CHr.ext E842 C851.1))
              have fk853 : Safe Z EL0 T602.vm h842 b842 := (Safe.ext E842 C851.1 (Safe.new (Nat.le_of_eq g842.symm) : Safe Z EL0 T602.vm h811 b842))
              have hk854 := (Nat.le_trans (Nat.le_trans (Nat.le_refl _) K811.1) E842.1)
              refine Go.callSW X842 hx Z602 O602 (tw_3 hw) (tw_4 hw) (tw_5 hw) (tw_6 hw) (by decide) (tw_6 hw) (tw_5 hw) (au_6 l Z a0 hw jv1_5 b842 ga3 gz9 gv13 gk17 gvs18 h842 n0 Zn843 O848 G A842) (own_EW hw) C852.1 (allS ⟨A842.lt, fk853⟩ all0) S602 hk854 e842 (argsL := [(.int jv1_5)]) (rest := [(.ref b842), (.ref b842)]) (pc' := 116) rfl (by rw [hml]; rfl) (lenOf pd_5 rfl) rfl rfl (W := 2) (Nat.le_of_eq rfl) (by decide) (by decide) (by decide) (by decide) (hb hby at_113) ?_
              intro v855 T855 L855 h855 e855 q855 C855 S855 Z855 O855 X855
              rcases q855 with ⟨z855_0_0, z855_0_1, b855_0_0, b855_0_1, k855_0_0, c855_0_0, c855_0_1, rfl, N855_0, K855_0, s855_0_0, n855_0_0, y855_0_0, F855_0_0, F855_0_1, F855_0_2, F855_0_3⟩ | ⟨c855_1_0, rfl, N855_1, K855_1⟩
              · show Go _ _ _ _ (T855.setTop (mkF m 116 #[.val (.int p0), .val (.int p1), .val (.int p2), .val (.int p3), .val (.int p4), .val (.int jv1_5), .val (.int jv2_6), .val (.ref b3), .val (.int z814), .unset, .unset] [(.ref b855_0_0), (.ref b842), (.ref b842)]))
                refine Go.iload X855 hx (pc' := 118) rfl (hb hby at_116) rfl ?_
                have Kp857 : Keep h0 h855 [] := (Kp845.trans K855_0 all0)
                have Zn856 : n0 ≤ h855.size := Nat.le_trans Z0 Kp857.1
                have O858 := (O848.keep K855_0 all0)
                have fk859 : Exa Z h855 b842 "com/example/rockhopper/rockhopper/model/Validators" := (A842.keep K855_0)
                have C860 : CHr Z EL0 s.vm s.heap T855.vm h855 := (C852.trans C855)
                have fk861 : Safe Z EL0 T855.vm h855 b842 := (C855.safe A842.lt fk853)
                refine Go.callSW X855 hx Z855 O855 (tw_3 hw) (tw_4 hw) (tw_5 hw) (tw_6 hw) (by decide) (tw_6 hw) (tw_5 hw) (au_6 l Z a0 hw jv2_6 b842 ga3 gz9 gv13 gk17 gvs18 h855 n0 Zn856 O858 G fk859) (own_EW hw) C860.1 (allS ⟨fk859.lt, fk861⟩ all0) S855 (Nat.le_refl _) e855 (argsL := [(.int jv2_6)]) (rest := [(.ref b855_0_0), (.ref b842), (.ref b842)]) (pc' := 121) rfl (by rw [hml]; rfl) (lenOf pd_5 rfl) rfl rfl (W := 3) (Nat.le_of_eq rfl) (by decide) (by decide) (by decide) (by decide) (hb hby at_118) ?_
                intro v862 T862 L862 h862 e862 q862 C862 S862 Z862 O862 X862
                rcases q862 with ⟨z862_0_0, z862_0_1, b862_0_0, b862_0_1, k862_0_0, c862_0_0, c862_0_1, rfl, N862_0, K862_0, s862_0_0, n862_0_0, y862_0_0, F862_0_0, F862_0_1, F862_0_2, F862_0_3⟩ | ⟨c862_1_0, rfl, N862_1, K862_1⟩
                · show Go _ _ _ _ (T862.setTop (mkF m 121 #[.val (.int p0), .val (.int p1), .val (.int p2), .val (.int p3), .val (.int p4), .val (.int jv1_5), .val (.int jv2_6), .val (.ref b3), .val (.int z814), .unset, .unset] [(.ref b862_0_0), (.ref b855_0_0), (.ref b842), (.ref b842)]))
                  have Kp864 : Keep h0 h862 [] := (Kp857.trans K862_0 all0)
                  have Zn863 : n0 ≤ h862.size := Nat.le_trans Z0 Kp864.1
                  have fk865 : Exa Z h862 b842 "com/example/rockhopper/rockhopper/model/Validators" := (fk859.keep K862_0)
                  have fk866 : Fld Z h862 b842 "com/example/rockhopper/rockhopper/model/Validators" "etag" "Ljava/lang/String;" .null := ((b842_etag.keep K855_0 nin0).keep K862_0 nin0)
                  have fk867 : Fld Z h862 b842 "com/example/rockhopper/rockhopper/model/Validators" "lastModified" "Ljava/lang/String;" .null := ((b842_lastModified.keep K855_0 nin0).keep K862_0 nin0)
                  have sz869 : h0.size ≤ b842 := Nat.le_trans Kp844.1 (Nat.le_of_eq g842.symm)
                  have ge868 : n0 ≤ b842 := Nat.le_trans Z0 sz869
                  refine Go.callN X862 hx Z862 O862 rfl (tw_29 hw) (tw_30 hw) (tw_31 hw) (by decide) (tw_31 hw) (tw_2 hw) (au_17 l Z a0 hw b842 b855_0_0 b862_0_0 h862 n0 Zn863 fk865 fk866 fk867 ge868) e862 (a := b842) (argsL := [(.ref b855_0_0), (.ref b862_0_0)]) (rest := [(.ref b842)]) (pc' := 124) rfl (by rw [hml]; rfl) (lenOf pd_6 rfl) rfl rfl (W := 1) (Nat.le_of_eq rfl) (by decide) (by decide) (by decide) (by decide) (hb hby at_121) ?_
                  intro v870 T870 L870 q870 X870
                  obtain ⟨h870, e870⟩ : ∃ z, T870.heap = z := ⟨_, rfl⟩
                  rw [e870] at q870
                  obtain ⟨rfl, N870, K870, F870_0, F870_1, F870_2⟩ := q870
                  show Go _ _ _ _ (T870.setTop (mkF m 124 #[.val (.int p0), .val (.int p1), .val (.int p2), .val (.int p3), .val (.int p4), .val (.int jv1_5), .val (.int jv2_6), .val (.ref b3), .val (.int z814), .unset, .unset] [(.ref b842)]))
                  refine Go.astore X870 hx (pc' := 126) rfl (hb hby at_124) (Ls' := #[.val (.int p0), .val (.int p1), .val (.int p2), .val (.int p3), .val (.int p4), .val (.int jv1_5), .val (.int jv2_6), .val (.ref b3), .val (.int z814), .val (.ref b842), .unset]) rfl rfl ?_
                  refine Go.iloadN X870 hx (pc' := 127) rfl (hb hby at_126) rfl ?_
                  refine Go.iload X870 hx (pc' := 129) rfl (hb hby at_127) rfl ?_
                  have Kp872 : Keep h0 h870 [] := (Kp864.trans K870 (allS (Or.inr sz869) all0))
                  have Zn871 : n0 ≤ h870.size := Nat.le_trans Z0 Kp872.1
                  refine Go.callS X870 hx Z862 O862 (tw_69 hw) (tw_70 hw) (tw_5 hw) (tw_71 hw) (by decide) (tw_71 hw) (tw_5 hw) (au_25 l Z a0 hw p0 jv1_5 h870 n0 Zn871) e870 (argsL := [(.int p0), (.int jv1_5)]) (rest := []) (pc' := 132) rfl (by rw [hml]; rfl) (lenOf pd_12 rfl) rfl rfl (W := 0) (Nat.le_of_eq rfl) (by decide) (by decide) (by decide) (by decide) (hb hby at_129) ?_
                  intro v873 T873 L873 q873 X873
                  rcases q873 with ⟨c873_0_0, rfl, N873_0, e873_0⟩ | ⟨c873_1_0, rfl, N873_1, e873_1⟩
                  · exact absurd c873_0_0 (fun z => absurd (c10_1_0.symm.trans (z.trans c855_0_0)) (by simp))
                  · show Go _ _ _ _ (T873.setTop (mkF m 132 #[.val (.int p0), .val (.int p1), .val (.int p2), .val (.int p3), .val (.int p4), .val (.int jv1_5), .val (.int jv2_6), .val (.ref b3), .val (.int z814), .val (.ref b842), .unset] [(.int 0)]))
                    refine Go.ifYes X873 hx (pc' := 148) (hb hby at_132) (by decide) (by decide) (by decide) ?_
                    refine Go.iconst X873 hx (pc' := 149) rfl (hb hby at_148) (v := (0 : Int32)) rfl ?_
                    refine Go.istore X873 hx (pc' := 151) rfl (hb hby at_149) (Ls' := #[.val (.int p0), .val (.int p1), .val (.int p2), .val (.int p3), .val (.int p4), .val (.int jv1_5), .val (.int jv2_6), .val (.ref b3), .val (.int z814), .val (.ref b842), .val (.int 0)]) rfl ?_
                    refine Go.aload X873 hx (pc' := 153) rfl (hb hby at_151) rfl rfl ?_
                    refine Go.aload X873 hx (pc' := 155) rfl (hb hby at_153) rfl rfl ?_
                    have ne874 : b3 ≠ b842 := Nat.ne_of_lt (Nat.lt_of_lt_of_le F811_0.lt (Nat.le_of_eq g842.symm))
                    have fk875 : Fld Z h870 b3 "com/example/rockhopper/rockhopper/model/Validators" "etag" "Ljava/lang/String;" .null := ((((F811_1.ext E842).keep K855_0 nin0).keep K862_0 nin0).keep K870 (ninS ne874 nin0))
                    have fk876 : Exa Z h870 b855_0_0 "java/lang/String" := ((F855_0_0.keep K862_0).keep K870)
                    have fk877 : Exa Z h870 b3 "com/example/rockhopper/rockhopper/model/Validators" := ((((F811_0.ext E842).keep K855_0).keep K862_0).keep K870)
                    refine Go.callV X873 hx Z862 O862 (tw_37 hw) (tw_38 hw) (notFace_of_selects (args := #[]) (mvT Z862 (tw_40 hw))) (tw_40 hw) (tw_39 hw) (by decide) (tw_41 hw) (tw_2 hw) (au_40 l Z a0 hw b3 b842 b855_0_0 h870 n0 Zn871 fk875 F870_0 F870_1 fk876) e873_1 fk877 (argsL := [(.ref b842)]) (rest := []) (pc' := 158) rfl (by rw [hml]; rfl) (lenOf pd_7 rfl) rfl rfl (W := 0) (Nat.le_of_eq rfl) (by decide) (by decide) (by decide) (by decide) (hb hby at_155) ?_
                    intro v878 T878 L878 q878 X878
                    obtain ⟨rfl, N878, e878⟩ := q878
                    show Go _ _ _ _ (T878.setTop (mkF m 158 #[.val (.int p0), .val (.int p1), .val (.int p2), .val (.int p3), .val (.int p4), .val (.int jv1_5), .val (.int jv2_6), .val (.ref b3), .val (.int z814), .val (.ref b842), .val (.int 0)] [(.int 0)]))
                    refine Go.iload X878 hx (pc' := 160) rfl (hb hby at_158) rfl ?_
                    refine Go.icmpNo X878 hx (pc' := 163) rfl (hb hby at_160) (by decide) ?_
                    refine Go.aload X878 hx (pc' := 165) rfl (hb hby at_163) rfl rfl ?_
                    refine Go.aload X878 hx (pc' := 167) rfl (hb hby at_165) rfl rfl ?_
                    refine Go.callV X878 hx Z862 O862 (tw_37 hw) (tw_38 hw) (notFace_of_selects (args := #[]) (mvT Z862 (tw_40 hw))) (tw_40 hw) (tw_39 hw) (by decide) (tw_41 hw) (tw_2 hw) (au_39 l Z a0 hw b842 b3 b855_0_0 h870 n0 Zn871 F870_1 fk877 fk875) e878 F870_0 (argsL := [(.ref b3)]) (rest := []) (pc' := 170) rfl (by rw [hml]; rfl) (lenOf pd_7 rfl) rfl rfl (W := 0) (Nat.le_of_eq rfl) (by decide) (by decide) (by decide) (by decide) (hb hby at_167) ?_
                    intro v879 T879 L879 q879 X879
                    obtain ⟨rfl, N879, e879⟩ := q879
                    show Go _ _ _ _ (T879.setTop (mkF m 170 #[.val (.int p0), .val (.int p1), .val (.int p2), .val (.int p3), .val (.int p4), .val (.int jv1_5), .val (.int jv2_6), .val (.ref b3), .val (.int z814), .val (.ref b842), .val (.int 0)] [(.int 0)]))
                    refine Go.iload X879 hx (pc' := 172) rfl (hb hby at_170) rfl ?_
                    refine Go.icmpNo X879 hx (pc' := 175) rfl (hb hby at_172) (by decide) ?_
                    refine Go.iconst X879 hx (pc' := 176) rfl (hb hby at_175) (v := (1 : Int32)) rfl ?_
                    refine Go.goto X879 hx (pc' := 180) (hb hby at_176) (by decide) (by decide) ?_
                    have C880 : CHr Z EL0 s.vm s.heap T862.vm h862 := (C860.trans C862)
                    have fk881 : Safe Z EL0 T862.vm h862 b842 := (C862.safe fk859.lt fk861)
                    have C882 : CHr Z EL0 s.vm s.heap T862.vm h870 := (C880.trans (CHr.keep K870 (sfS fk881 sf0) C880.1))
                    have hk883 := (Nat.le_trans (Nat.le_refl _) K870.1)
                    refine Go.retNW X879 hx hlk Z862 (own_EW hw) e879 S862 hk883 C882 (t := .boolean) hret (by simp) (hb hby at_180) (by decide) (by decide) (fun hat => ?_)
                    exact ⟨rfl, (Fr.app (Fr.app (Fr.app (Fr.app (Fr.app (Fr.app (Fr.app (Fr.app (Fr.app (Fr.nil n0) N10_1) N602_1) N811) N855_0) N862_0) N870) N873_1) N878) N879)⟩
                · show Go _ _ _ _ (T862.setTop (mkF m 121 #[.val (.int p0), .val (.int p1), .val (.int p2), .val (.int p3), .val (.int p4), .val (.int jv1_5), .val (.int jv2_6), .val (.ref b3), .val (.int z814), .unset, .unset] [.null, (.ref b855_0_0), (.ref b842), (.ref b842)]))
                  have Kp885 : Keep h0 h862 [] := (Kp857.trans K862_1 all0)
                  have Zn884 : n0 ≤ h862.size := Nat.le_trans Z0 Kp885.1
                  have fk886 : Exa Z h862 b842 "com/example/rockhopper/rockhopper/model/Validators" := (fk859.keep K862_1)
                  have fk887 : Fld Z h862 b842 "com/example/rockhopper/rockhopper/model/Validators" "etag" "Ljava/lang/String;" .null := ((b842_etag.keep K855_0 nin0).keep K862_1 nin0)
                  have fk888 : Fld Z h862 b842 "com/example/rockhopper/rockhopper/model/Validators" "lastModified" "Ljava/lang/String;" .null := ((b842_lastModified.keep K855_0 nin0).keep K862_1 nin0)
                  have sz890 : h0.size ≤ b842 := Nat.le_trans Kp844.1 (Nat.le_of_eq g842.symm)
                  have ge889 : n0 ≤ b842 := Nat.le_trans Z0 sz890
                  refine Go.callN X862 hx Z862 O862 rfl (tw_29 hw) (tw_30 hw) (tw_31 hw) (by decide) (tw_31 hw) (tw_2 hw) (au_29 l Z a0 hw b842 b855_0_0 h862 n0 Zn884 fk886 fk887 fk888 ge889) e862 (a := b842) (argsL := [(.ref b855_0_0), .null]) (rest := [(.ref b842)]) (pc' := 124) rfl (by rw [hml]; rfl) (lenOf pd_6 rfl) rfl rfl (W := 1) (Nat.le_of_eq rfl) (by decide) (by decide) (by decide) (by decide) (hb hby at_121) ?_
                  intro v891 T891 L891 q891 X891
                  obtain ⟨h891, e891⟩ : ∃ z, T891.heap = z := ⟨_, rfl⟩
                  rw [e891] at q891
                  obtain ⟨rfl, N891, K891, F891_0, F891_1, F891_2⟩ := q891
                  show Go _ _ _ _ (T891.setTop (mkF m 124 #[.val (.int p0), .val (.int p1), .val (.int p2), .val (.int p3), .val (.int p4), .val (.int jv1_5), .val (.int jv2_6), .val (.ref b3), .val (.int z814), .unset, .unset] [(.ref b842)]))
                  refine Go.astore X891 hx (pc' := 126) rfl (hb hby at_124) (Ls' := #[.val (.int p0), .val (.int p1), .val (.int p2), .val (.int p3), .val (.int p4), .val (.int jv1_5), .val (.int jv2_6), .val (.ref b3), .val (.int z814), .val (.ref b842), .unset]) rfl rfl ?_
                  refine Go.iloadN X891 hx (pc' := 127) rfl (hb hby at_126) rfl ?_
                  refine Go.iload X891 hx (pc' := 129) rfl (hb hby at_127) rfl ?_
                  have Kp893 : Keep h0 h891 [] := (Kp885.trans K891 (allS (Or.inr sz890) all0))
                  have Zn892 : n0 ≤ h891.size := Nat.le_trans Z0 Kp893.1
                  refine Go.callS X891 hx Z862 O862 (tw_69 hw) (tw_70 hw) (tw_5 hw) (tw_71 hw) (by decide) (tw_71 hw) (tw_5 hw) (au_25 l Z a0 hw p0 jv1_5 h891 n0 Zn892) e891 (argsL := [(.int p0), (.int jv1_5)]) (rest := []) (pc' := 132) rfl (by rw [hml]; rfl) (lenOf pd_12 rfl) rfl rfl (W := 0) (Nat.le_of_eq rfl) (by decide) (by decide) (by decide) (by decide) (hb hby at_129) ?_
                  intro v894 T894 L894 q894 X894
                  rcases q894 with ⟨c894_0_0, rfl, N894_0, e894_0⟩ | ⟨c894_1_0, rfl, N894_1, e894_1⟩
                  · exact absurd c894_0_0 (fun z => absurd (c10_1_0.symm.trans (z.trans c855_0_0)) (by simp))
                  · show Go _ _ _ _ (T894.setTop (mkF m 132 #[.val (.int p0), .val (.int p1), .val (.int p2), .val (.int p3), .val (.int p4), .val (.int jv1_5), .val (.int jv2_6), .val (.ref b3), .val (.int z814), .val (.ref b842), .unset] [(.int 0)]))
                    refine Go.ifYes X894 hx (pc' := 148) (hb hby at_132) (by decide) (by decide) (by decide) ?_
                    refine Go.iconst X894 hx (pc' := 149) rfl (hb hby at_148) (v := (0 : Int32)) rfl ?_
                    refine Go.istore X894 hx (pc' := 151) rfl (hb hby at_149) (Ls' := #[.val (.int p0), .val (.int p1), .val (.int p2), .val (.int p3), .val (.int p4), .val (.int jv1_5), .val (.int jv2_6), .val (.ref b3), .val (.int z814), .val (.ref b842), .val (.int 0)]) rfl ?_
                    refine Go.aload X894 hx (pc' := 153) rfl (hb hby at_151) rfl rfl ?_
                    refine Go.aload X894 hx (pc' := 155) rfl (hb hby at_153) rfl rfl ?_
                    have ne895 : b3 ≠ b842 := Nat.ne_of_lt (Nat.lt_of_lt_of_le F811_0.lt (Nat.le_of_eq g842.symm))
                    have fk896 : Fld Z h891 b3 "com/example/rockhopper/rockhopper/model/Validators" "etag" "Ljava/lang/String;" .null := ((((F811_1.ext E842).keep K855_0 nin0).keep K862_1 nin0).keep K891 (ninS ne895 nin0))
                    have fk897 : Exa Z h891 b855_0_0 "java/lang/String" := ((F855_0_0.keep K862_1).keep K891)
                    have fk898 : Exa Z h891 b3 "com/example/rockhopper/rockhopper/model/Validators" := ((((F811_0.ext E842).keep K855_0).keep K862_1).keep K891)
                    refine Go.callV X894 hx Z862 O862 (tw_37 hw) (tw_38 hw) (notFace_of_selects (args := #[]) (mvT Z862 (tw_40 hw))) (tw_40 hw) (tw_39 hw) (by decide) (tw_41 hw) (tw_2 hw) (au_49 l Z a0 hw b3 b842 b855_0_0 h891 n0 Zn892 fk896 F891_0 F891_1 fk897) e894_1 fk898 (argsL := [(.ref b842)]) (rest := []) (pc' := 158) rfl (by rw [hml]; rfl) (lenOf pd_7 rfl) rfl rfl (W := 0) (Nat.le_of_eq rfl) (by decide) (by decide) (by decide) (by decide) (hb hby at_155) ?_
                    intro v899 T899 L899 q899 X899
                    obtain ⟨rfl, N899, e899⟩ := q899
                    show Go _ _ _ _ (T899.setTop (mkF m 158 #[.val (.int p0), .val (.int p1), .val (.int p2), .val (.int p3), .val (.int p4), .val (.int jv1_5), .val (.int jv2_6), .val (.ref b3), .val (.int z814), .val (.ref b842), .val (.int 0)] [(.int 0)]))
                    refine Go.iload X899 hx (pc' := 160) rfl (hb hby at_158) rfl ?_
                    refine Go.icmpNo X899 hx (pc' := 163) rfl (hb hby at_160) (by decide) ?_
                    refine Go.aload X899 hx (pc' := 165) rfl (hb hby at_163) rfl rfl ?_
                    refine Go.aload X899 hx (pc' := 167) rfl (hb hby at_165) rfl rfl ?_
                    refine Go.callV X899 hx Z862 O862 (tw_37 hw) (tw_38 hw) (notFace_of_selects (args := #[]) (mvT Z862 (tw_40 hw))) (tw_40 hw) (tw_39 hw) (by decide) (tw_41 hw) (tw_2 hw) (au_48 l Z a0 hw b842 b3 b855_0_0 h891 n0 Zn892 F891_1 fk898 fk896) e899 F891_0 (argsL := [(.ref b3)]) (rest := []) (pc' := 170) rfl (by rw [hml]; rfl) (lenOf pd_7 rfl) rfl rfl (W := 0) (Nat.le_of_eq rfl) (by decide) (by decide) (by decide) (by decide) (hb hby at_167) ?_
                    intro v900 T900 L900 q900 X900
                    obtain ⟨rfl, N900, e900⟩ := q900
                    show Go _ _ _ _ (T900.setTop (mkF m 170 #[.val (.int p0), .val (.int p1), .val (.int p2), .val (.int p3), .val (.int p4), .val (.int jv1_5), .val (.int jv2_6), .val (.ref b3), .val (.int z814), .val (.ref b842), .val (.int 0)] [(.int 0)]))
                    refine Go.iload X900 hx (pc' := 172) rfl (hb hby at_170) rfl ?_
                    refine Go.icmpNo X900 hx (pc' := 175) rfl (hb hby at_172) (by decide) ?_
                    refine Go.iconst X900 hx (pc' := 176) rfl (hb hby at_175) (v := (1 : Int32)) rfl ?_
                    refine Go.goto X900 hx (pc' := 180) (hb hby at_176) (by decide) (by decide) ?_
                    have C901 : CHr Z EL0 s.vm s.heap T862.vm h862 := (C860.trans C862)
                    have fk902 : Safe Z EL0 T862.vm h862 b842 := (C862.safe fk859.lt fk861)
                    have C903 : CHr Z EL0 s.vm s.heap T862.vm h891 := (C901.trans (CHr.keep K891 (sfS fk902 sf0) C901.1))
                    have hk904 := (Nat.le_trans (Nat.le_refl _) K891.1)
                    refine Go.retNW X900 hx hlk Z862 (own_EW hw) e900 S862 hk904 C903 (t := .boolean) hret (by simp) (hb hby at_180) (by decide) (by decide) (fun hat => ?_)
                    exact ⟨rfl, (Fr.app (Fr.app (Fr.app (Fr.app (Fr.app (Fr.app (Fr.app (Fr.app (Fr.app (Fr.nil n0) N10_1) N602_1) N811) N855_0) N862_1) N891) N894_1) N899) N900)⟩
              · show Go _ _ _ _ (T855.setTop (mkF m 116 #[.val (.int p0), .val (.int p1), .val (.int p2), .val (.int p3), .val (.int p4), .val (.int jv1_5), .val (.int jv2_6), .val (.ref b3), .val (.int z814), .unset, .unset] [.null, (.ref b842), (.ref b842)]))
                refine Go.iload X855 hx (pc' := 118) rfl (hb hby at_116) rfl ?_
                have Kp906 : Keep h0 h855 [] := (Kp845.trans K855_1 all0)
                have Zn905 : n0 ≤ h855.size := Nat.le_trans Z0 Kp906.1
                have O907 := (O848.keep K855_1 all0)
                have fk908 : Exa Z h855 b842 "com/example/rockhopper/rockhopper/model/Validators" := (A842.keep K855_1)
                have C909 : CHr Z EL0 s.vm s.heap T855.vm h855 := (C852.trans C855)
                have fk910 : Safe Z EL0 T855.vm h855 b842 := (C855.safe A842.lt fk853)
                refine Go.callSW X855 hx Z855 O855 (tw_3 hw) (tw_4 hw) (tw_5 hw) (tw_6 hw) (by decide) (tw_6 hw) (tw_5 hw) (au_6 l Z a0 hw jv2_6 b842 ga3 gz9 gv13 gk17 gvs18 h855 n0 Zn905 O907 G fk908) (own_EW hw) C909.1 (allS ⟨fk908.lt, fk910⟩ all0) S855 (Nat.le_refl _) e855 (argsL := [(.int jv2_6)]) (rest := [.null, (.ref b842), (.ref b842)]) (pc' := 121) rfl (by rw [hml]; rfl) (lenOf pd_5 rfl) rfl rfl (W := 3) (Nat.le_of_eq rfl) (by decide) (by decide) (by decide) (by decide) (hb hby at_118) ?_
                intro v911 T911 L911 h911 e911 q911 C911 S911 Z911 O911 X911
                rcases q911 with ⟨z911_0_0, z911_0_1, b911_0_0, b911_0_1, k911_0_0, c911_0_0, c911_0_1, rfl, N911_0, K911_0, s911_0_0, n911_0_0, y911_0_0, F911_0_0, F911_0_1, F911_0_2, F911_0_3⟩ | ⟨c911_1_0, rfl, N911_1, K911_1⟩
                · show Go _ _ _ _ (T911.setTop (mkF m 121 #[.val (.int p0), .val (.int p1), .val (.int p2), .val (.int p3), .val (.int p4), .val (.int jv1_5), .val (.int jv2_6), .val (.ref b3), .val (.int z814), .unset, .unset] [(.ref b911_0_0), .null, (.ref b842), (.ref b842)]))
                  have Kp913 : Keep h0 h911 [] := (Kp906.trans K911_0 all0)
                  have Zn912 : n0 ≤ h911.size := Nat.le_trans Z0 Kp913.1
                  have fk914 : Exa Z h911 b842 "com/example/rockhopper/rockhopper/model/Validators" := (fk908.keep K911_0)
                  have fk915 : Fld Z h911 b842 "com/example/rockhopper/rockhopper/model/Validators" "etag" "Ljava/lang/String;" .null := ((b842_etag.keep K855_1 nin0).keep K911_0 nin0)
                  have fk916 : Fld Z h911 b842 "com/example/rockhopper/rockhopper/model/Validators" "lastModified" "Ljava/lang/String;" .null := ((b842_lastModified.keep K855_1 nin0).keep K911_0 nin0)
                  have sz918 : h0.size ≤ b842 := Nat.le_trans Kp844.1 (Nat.le_of_eq g842.symm)
                  have ge917 : n0 ≤ b842 := Nat.le_trans Z0 sz918
                  refine Go.callN X911 hx Z911 O911 rfl (tw_29 hw) (tw_30 hw) (tw_31 hw) (by decide) (tw_31 hw) (tw_2 hw) (au_35 l Z a0 hw b842 b911_0_0 h911 n0 Zn912 fk914 fk915 fk916 ge917) e911 (a := b842) (argsL := [.null, (.ref b911_0_0)]) (rest := [(.ref b842)]) (pc' := 124) rfl (by rw [hml]; rfl) (lenOf pd_6 rfl) rfl rfl (W := 1) (Nat.le_of_eq rfl) (by decide) (by decide) (by decide) (by decide) (hb hby at_121) ?_
                  intro v919 T919 L919 q919 X919
                  obtain ⟨h919, e919⟩ : ∃ z, T919.heap = z := ⟨_, rfl⟩
                  rw [e919] at q919
                  obtain ⟨rfl, N919, K919, F919_0, F919_1, F919_2⟩ := q919
                  show Go _ _ _ _ (T919.setTop (mkF m 124 #[.val (.int p0), .val (.int p1), .val (.int p2), .val (.int p3), .val (.int p4), .val (.int jv1_5), .val (.int jv2_6), .val (.ref b3), .val (.int z814), .unset, .unset] [(.ref b842)]))
                  refine Go.astore X919 hx (pc' := 126) rfl (hb hby at_124) (Ls' := #[.val (.int p0), .val (.int p1), .val (.int p2), .val (.int p3), .val (.int p4), .val (.int jv1_5), .val (.int jv2_6), .val (.ref b3), .val (.int z814), .val (.ref b842), .unset]) rfl rfl ?_
                  refine Go.iloadN X919 hx (pc' := 127) rfl (hb hby at_126) rfl ?_
                  refine Go.iload X919 hx (pc' := 129) rfl (hb hby at_127) rfl ?_
                  have Kp921 : Keep h0 h919 [] := (Kp913.trans K919 (allS (Or.inr sz918) all0))
                  have Zn920 : n0 ≤ h919.size := Nat.le_trans Z0 Kp921.1
                  refine Go.callS X919 hx Z911 O911 (tw_69 hw) (tw_70 hw) (tw_5 hw) (tw_71 hw) (by decide) (tw_71 hw) (tw_5 hw) (au_25 l Z a0 hw p0 jv1_5 h919 n0 Zn920) e919 (argsL := [(.int p0), (.int jv1_5)]) (rest := []) (pc' := 132) rfl (by rw [hml]; rfl) (lenOf pd_12 rfl) rfl rfl (W := 0) (Nat.le_of_eq rfl) (by decide) (by decide) (by decide) (by decide) (hb hby at_129) ?_
                  intro v922 T922 L922 q922 X922
                  rcases q922 with ⟨c922_0_0, rfl, N922_0, e922_0⟩ | ⟨c922_1_0, rfl, N922_1, e922_1⟩
                  · show Go _ _ _ _ (T922.setTop (mkF m 132 #[.val (.int p0), .val (.int p1), .val (.int p2), .val (.int p3), .val (.int p4), .val (.int jv1_5), .val (.int jv2_6), .val (.ref b3), .val (.int z814), .val (.ref b842), .unset] [(.int 1)]))
                    refine Go.ifNo X922 hx (pc' := 135) rfl (hb hby at_132) (by decide) ?_
                    refine Go.iloadN X922 hx (pc' := 136) rfl (hb hby at_135) rfl ?_
                    refine Go.iload X922 hx (pc' := 138) rfl (hb hby at_136) rfl ?_
                    refine Go.callS X922 hx Z911 O911 (tw_69 hw) (tw_70 hw) (tw_5 hw) (tw_71 hw) (by decide) (tw_71 hw) (tw_5 hw) (au_25 l Z a0 hw p1 jv2_6 h919 n0 Zn920) e922_0 (argsL := [(.int p1), (.int jv2_6)]) (rest := []) (pc' := 141) rfl (by rw [hml]; rfl) (lenOf pd_12 rfl) rfl rfl (W := 0) (Nat.le_of_eq rfl) (by decide) (by decide) (by decide) (by decide) (hb hby at_138) ?_
                    intro v923 T923 L923 q923 X923
                    rcases q923 with ⟨c923_0_0, rfl, N923_0, e923_0⟩ | ⟨c923_1_0, rfl, N923_1, e923_1⟩
                    · exact absurd c923_0_0 (fun z => absurd (c602_1_0.symm.trans (z.trans c911_0_0)) (by simp))
                    · show Go _ _ _ _ (T923.setTop (mkF m 141 #[.val (.int p0), .val (.int p1), .val (.int p2), .val (.int p3), .val (.int p4), .val (.int jv1_5), .val (.int jv2_6), .val (.ref b3), .val (.int z814), .val (.ref b842), .unset] [(.int 0)]))
                      refine Go.ifYes X923 hx (pc' := 148) (hb hby at_141) (by decide) (by decide) (by decide) ?_
                      refine Go.iconst X923 hx (pc' := 149) rfl (hb hby at_148) (v := (0 : Int32)) rfl ?_
                      refine Go.istore X923 hx (pc' := 151) rfl (hb hby at_149) (Ls' := #[.val (.int p0), .val (.int p1), .val (.int p2), .val (.int p3), .val (.int p4), .val (.int jv1_5), .val (.int jv2_6), .val (.ref b3), .val (.int z814), .val (.ref b842), .val (.int 0)]) rfl ?_
                      refine Go.aload X923 hx (pc' := 153) rfl (hb hby at_151) rfl rfl ?_
                      refine Go.aload X923 hx (pc' := 155) rfl (hb hby at_153) rfl rfl ?_
                      have ne924 : b3 ≠ b842 := Nat.ne_of_lt (Nat.lt_of_lt_of_le F811_0.lt (Nat.le_of_eq g842.symm))
                      have fk925 : Fld Z h919 b3 "com/example/rockhopper/rockhopper/model/Validators" "etag" "Ljava/lang/String;" .null := ((((F811_1.ext E842).keep K855_1 nin0).keep K911_0 nin0).keep K919 (ninS ne924 nin0))
                      have fk926 : Fld Z h919 b3 "com/example/rockhopper/rockhopper/model/Validators" "lastModified" "Ljava/lang/String;" .null := ((((F811_2.ext E842).keep K855_1 nin0).keep K911_0 nin0).keep K919 (ninS ne924 nin0))
                      have fk927 : Exa Z h919 b911_0_0 "java/lang/String" := (F911_0_0.keep K919)
                      have fk928 : Exa Z h919 b3 "com/example/rockhopper/rockhopper/model/Validators" := ((((F811_0.ext E842).keep K855_1).keep K911_0).keep K919)
                      refine Go.callV X923 hx Z911 O911 (tw_37 hw) (tw_38 hw) (notFace_of_selects (args := #[]) (mvT Z911 (tw_40 hw))) (tw_40 hw) (tw_39 hw) (by decide) (tw_41 hw) (tw_2 hw) (au_55 l Z a0 hw b3 b842 b911_0_0 h919 n0 Zn920 fk925 fk926 F919_0 F919_1 F919_2 fk927) e923_1 fk928 (argsL := [(.ref b842)]) (rest := []) (pc' := 158) rfl (by rw [hml]; rfl) (lenOf pd_7 rfl) rfl rfl (W := 0) (Nat.le_of_eq rfl) (by decide) (by decide) (by decide) (by decide) (hb hby at_155) ?_
                      intro v929 T929 L929 q929 X929
                      obtain ⟨rfl, N929, e929⟩ := q929
                      show Go _ _ _ _ (T929.setTop (mkF m 158 #[.val (.int p0), .val (.int p1), .val (.int p2), .val (.int p3), .val (.int p4), .val (.int jv1_5), .val (.int jv2_6), .val (.ref b3), .val (.int z814), .val (.ref b842), .val (.int 0)] [(.int 0)]))
                      refine Go.iload X929 hx (pc' := 160) rfl (hb hby at_158) rfl ?_
                      refine Go.icmpNo X929 hx (pc' := 163) rfl (hb hby at_160) (by decide) ?_
                      refine Go.aload X929 hx (pc' := 165) rfl (hb hby at_163) rfl rfl ?_
                      refine Go.aload X929 hx (pc' := 167) rfl (hb hby at_165) rfl rfl ?_
                      refine Go.callV X929 hx Z911 O911 (tw_37 hw) (tw_38 hw) (notFace_of_selects (args := #[]) (mvT Z911 (tw_40 hw))) (tw_40 hw) (tw_39 hw) (by decide) (tw_41 hw) (tw_2 hw) (au_54 l Z a0 hw b842 b3 b911_0_0 h919 n0 Zn920 F919_1 F919_2 fk928 fk925 fk926) e929 F919_0 (argsL := [(.ref b3)]) (rest := []) (pc' := 170) rfl (by rw [hml]; rfl) (lenOf pd_7 rfl) rfl rfl (W := 0) (Nat.le_of_eq rfl) (by decide) (by decide) (by decide) (by decide) (hb hby at_167) ?_
                      intro v930 T930 L930 q930 X930
                      obtain ⟨rfl, N930, e930⟩ := q930
                      show Go _ _ _ _ (T930.setTop (mkF m 170 #[.val (.int p0), .val (.int p1), .val (.int p2), .val (.int p3), .val (.int p4), .val (.int jv1_5), .val (.int jv2_6), .val (.ref b3), .val (.int z814), .val (.ref b842), .val (.int 0)] [(.int 0)]))
                      refine Go.iload X930 hx (pc' := 172) rfl (hb hby at_170) rfl ?_
                      refine Go.icmpNo X930 hx (pc' := 175) rfl (hb hby at_172) (by decide) ?_
                      refine Go.iconst X930 hx (pc' := 176) rfl (hb hby at_175) (v := (1 : Int32)) rfl ?_
                      refine Go.goto X930 hx (pc' := 180) (hb hby at_176) (by decide) (by decide) ?_
                      have C931 : CHr Z EL0 s.vm s.heap T911.vm h911 := (C909.trans C911)
                      have fk932 : Safe Z EL0 T911.vm h911 b842 := (C911.safe fk908.lt fk910)
                      have C933 : CHr Z EL0 s.vm s.heap T911.vm h919 := (C931.trans (CHr.keep K919 (sfS fk932 sf0) C931.1))
                      have hk934 := (Nat.le_trans (Nat.le_refl _) K919.1)
                      refine Go.retNW X930 hx hlk Z911 (own_EW hw) e930 S911 hk934 C933 (t := .boolean) hret (by simp) (hb hby at_180) (by decide) (by decide) (fun hat => ?_)
                      exact ⟨rfl, (Fr.app (Fr.app (Fr.app (Fr.app (Fr.app (Fr.app (Fr.app (Fr.app (Fr.app (Fr.app (Fr.nil n0) N10_1) N602_1) N811) N855_1) N911_0) N919) N922_0) N923_1) N929) N930)⟩
                  · exact absurd (c10_1_0.trans c855_1_0.symm) c922_1_0
                · show Go _ _ _ _ (T911.setTop (mkF m 121 #[.val (.int p0), .val (.int p1), .val (.int p2), .val (.int p3), .val (.int p4), .val (.int jv1_5), .val (.int jv2_6), .val (.ref b3), .val (.int z814), .unset, .unset] [.null, .null, (.ref b842), (.ref b842)]))
                  have Kp936 : Keep h0 h911 [] := (Kp906.trans K911_1 all0)
                  have Zn935 : n0 ≤ h911.size := Nat.le_trans Z0 Kp936.1
                  have fk937 : Exa Z h911 b842 "com/example/rockhopper/rockhopper/model/Validators" := (fk908.keep K911_1)
                  have fk938 : Fld Z h911 b842 "com/example/rockhopper/rockhopper/model/Validators" "etag" "Ljava/lang/String;" .null := ((b842_etag.keep K855_1 nin0).keep K911_1 nin0)
                  have fk939 : Fld Z h911 b842 "com/example/rockhopper/rockhopper/model/Validators" "lastModified" "Ljava/lang/String;" .null := ((b842_lastModified.keep K855_1 nin0).keep K911_1 nin0)
                  have sz941 : h0.size ≤ b842 := Nat.le_trans Kp844.1 (Nat.le_of_eq g842.symm)
                  have ge940 : n0 ≤ b842 := Nat.le_trans Z0 sz941
                  refine Go.callN X911 hx Z911 O911 rfl (tw_29 hw) (tw_30 hw) (tw_31 hw) (by decide) (tw_31 hw) (tw_2 hw) (au_38 l Z a0 hw b842 h911 n0 Zn935 fk937 fk938 fk939 ge940) e911 (a := b842) (argsL := [.null, .null]) (rest := [(.ref b842)]) (pc' := 124) rfl (by rw [hml]; rfl) (lenOf pd_6 rfl) rfl rfl (W := 1) (Nat.le_of_eq rfl) (by decide) (by decide) (by decide) (by decide) (hb hby at_121) ?_
                  intro v942 T942 L942 q942 X942
                  obtain ⟨h942, e942⟩ : ∃ z, T942.heap = z := ⟨_, rfl⟩
                  rw [e942] at q942
                  obtain ⟨rfl, N942, K942, F942_0, F942_1, F942_2⟩ := q942
                  show Go _ _ _ _ (T942.setTop (mkF m 124 #[.val (.int p0), .val (.int p1), .val (.int p2), .val (.int p3), .val (.int p4), .val (.int jv1_5), .val (.int jv2_6), .val (.ref b3), .val (.int z814), .unset, .unset] [(.ref b842)]))
                  refine Go.astore X942 hx (pc' := 126) rfl (hb hby at_124) (Ls' := #[.val (.int p0), .val (.int p1), .val (.int p2), .val (.int p3), .val (.int p4), .val (.int jv1_5), .val (.int jv2_6), .val (.ref b3), .val (.int z814), .val (.ref b842), .unset]) rfl rfl ?_
                  refine Go.iloadN X942 hx (pc' := 127) rfl (hb hby at_126) rfl ?_
                  refine Go.iload X942 hx (pc' := 129) rfl (hb hby at_127) rfl ?_
                  have Kp944 : Keep h0 h942 [] := (Kp936.trans K942 (allS (Or.inr sz941) all0))
                  have Zn943 : n0 ≤ h942.size := Nat.le_trans Z0 Kp944.1
                  refine Go.callS X942 hx Z911 O911 (tw_69 hw) (tw_70 hw) (tw_5 hw) (tw_71 hw) (by decide) (tw_71 hw) (tw_5 hw) (au_25 l Z a0 hw p0 jv1_5 h942 n0 Zn943) e942 (argsL := [(.int p0), (.int jv1_5)]) (rest := []) (pc' := 132) rfl (by rw [hml]; rfl) (lenOf pd_12 rfl) rfl rfl (W := 0) (Nat.le_of_eq rfl) (by decide) (by decide) (by decide) (by decide) (hb hby at_129) ?_
                  intro v945 T945 L945 q945 X945
                  rcases q945 with ⟨c945_0_0, rfl, N945_0, e945_0⟩ | ⟨c945_1_0, rfl, N945_1, e945_1⟩
                  · show Go _ _ _ _ (T945.setTop (mkF m 132 #[.val (.int p0), .val (.int p1), .val (.int p2), .val (.int p3), .val (.int p4), .val (.int jv1_5), .val (.int jv2_6), .val (.ref b3), .val (.int z814), .val (.ref b842), .unset] [(.int 1)]))
                    refine Go.ifNo X945 hx (pc' := 135) rfl (hb hby at_132) (by decide) ?_
                    refine Go.iloadN X945 hx (pc' := 136) rfl (hb hby at_135) rfl ?_
                    refine Go.iload X945 hx (pc' := 138) rfl (hb hby at_136) rfl ?_
                    refine Go.callS X945 hx Z911 O911 (tw_69 hw) (tw_70 hw) (tw_5 hw) (tw_71 hw) (by decide) (tw_71 hw) (tw_5 hw) (au_25 l Z a0 hw p1 jv2_6 h942 n0 Zn943) e945_0 (argsL := [(.int p1), (.int jv2_6)]) (rest := []) (pc' := 141) rfl (by rw [hml]; rfl) (lenOf pd_12 rfl) rfl rfl (W := 0) (Nat.le_of_eq rfl) (by decide) (by decide) (by decide) (by decide) (hb hby at_138) ?_
                    intro v946 T946 L946 q946 X946
                    rcases q946 with ⟨c946_0_0, rfl, N946_0, e946_0⟩ | ⟨c946_1_0, rfl, N946_1, e946_1⟩
                    · show Go _ _ _ _ (T946.setTop (mkF m 141 #[.val (.int p0), .val (.int p1), .val (.int p2), .val (.int p3), .val (.int p4), .val (.int jv1_5), .val (.int jv2_6), .val (.ref b3), .val (.int z814), .val (.ref b842), .unset] [(.int 1)]))
                      refine Go.ifNo X946 hx (pc' := 144) rfl (hb hby at_141) (by decide) ?_
                      refine Go.iconst X946 hx (pc' := 145) rfl (hb hby at_144) (v := (1 : Int32)) rfl ?_
                      refine Go.goto X946 hx (pc' := 149) (hb hby at_145) (by decide) (by decide) ?_
                      refine Go.istore X946 hx (pc' := 151) rfl (hb hby at_149) (Ls' := #[.val (.int p0), .val (.int p1), .val (.int p2), .val (.int p3), .val (.int p4), .val (.int jv1_5), .val (.int jv2_6), .val (.ref b3), .val (.int z814), .val (.ref b842), .val (.int 1)]) rfl ?_
                      refine Go.aload X946 hx (pc' := 153) rfl (hb hby at_151) rfl rfl ?_
                      refine Go.aload X946 hx (pc' := 155) rfl (hb hby at_153) rfl rfl ?_
                      have ne947 : b3 ≠ b842 := Nat.ne_of_lt (Nat.lt_of_lt_of_le F811_0.lt (Nat.le_of_eq g842.symm))
                      have fk948 : Fld Z h942 b3 "com/example/rockhopper/rockhopper/model/Validators" "etag" "Ljava/lang/String;" .null := ((((F811_1.ext E842).keep K855_1 nin0).keep K911_1 nin0).keep K942 (ninS ne947 nin0))
                      have fk949 : Fld Z h942 b3 "com/example/rockhopper/rockhopper/model/Validators" "lastModified" "Ljava/lang/String;" .null := ((((F811_2.ext E842).keep K855_1 nin0).keep K911_1 nin0).keep K942 (ninS ne947 nin0))
                      have fk950 : Exa Z h942 b3 "com/example/rockhopper/rockhopper/model/Validators" := ((((F811_0.ext E842).keep K855_1).keep K911_1).keep K942)
                      refine Go.callV X946 hx Z911 O911 (tw_37 hw) (tw_38 hw) (notFace_of_selects (args := #[]) (mvT Z911 (tw_40 hw))) (tw_40 hw) (tw_39 hw) (by decide) (tw_41 hw) (tw_2 hw) (au_59 l Z a0 hw b3 b842 h942 n0 Zn943 fk948 fk949 F942_0 F942_1 F942_2) e946_0 fk950 (argsL := [(.ref b842)]) (rest := []) (pc' := 158) rfl (by rw [hml]; rfl) (lenOf pd_7 rfl) rfl rfl (W := 0) (Nat.le_of_eq rfl) (by decide) (by decide) (by decide) (by decide) (hb hby at_155) ?_
                      intro v951 T951 L951 q951 X951
                      obtain ⟨rfl, N951, e951⟩ := q951
                      show Go _ _ _ _ (T951.setTop (mkF m 158 #[.val (.int p0), .val (.int p1), .val (.int p2), .val (.int p3), .val (.int p4), .val (.int jv1_5), .val (.int jv2_6), .val (.ref b3), .val (.int z814), .val (.ref b842), .val (.int 1)] [(.int 1)]))
                      refine Go.iload X951 hx (pc' := 160) rfl (hb hby at_158) rfl ?_
                      refine Go.icmpNo X951 hx (pc' := 163) rfl (hb hby at_160) (by decide) ?_
                      refine Go.aload X951 hx (pc' := 165) rfl (hb hby at_163) rfl rfl ?_
                      refine Go.aload X951 hx (pc' := 167) rfl (hb hby at_165) rfl rfl ?_
                      refine Go.callV X951 hx Z911 O911 (tw_37 hw) (tw_38 hw) (notFace_of_selects (args := #[]) (mvT Z911 (tw_40 hw))) (tw_40 hw) (tw_39 hw) (by decide) (tw_41 hw) (tw_2 hw) (au_59 l Z a0 hw b842 b3 h942 n0 Zn943 F942_1 F942_2 fk950 fk948 fk949) e951 F942_0 (argsL := [(.ref b3)]) (rest := []) (pc' := 170) rfl (by rw [hml]; rfl) (lenOf pd_7 rfl) rfl rfl (W := 0) (Nat.le_of_eq rfl) (by decide) (by decide) (by decide) (by decide) (hb hby at_167) ?_
                      intro v952 T952 L952 q952 X952
                      obtain ⟨rfl, N952, e952⟩ := q952
                      show Go _ _ _ _ (T952.setTop (mkF m 170 #[.val (.int p0), .val (.int p1), .val (.int p2), .val (.int p3), .val (.int p4), .val (.int jv1_5), .val (.int jv2_6), .val (.ref b3), .val (.int z814), .val (.ref b842), .val (.int 1)] [(.int 1)]))
                      refine Go.iload X952 hx (pc' := 172) rfl (hb hby at_170) rfl ?_
                      refine Go.icmpNo X952 hx (pc' := 175) rfl (hb hby at_172) (by decide) ?_
                      refine Go.iconst X952 hx (pc' := 176) rfl (hb hby at_175) (v := (1 : Int32)) rfl ?_
                      refine Go.goto X952 hx (pc' := 180) (hb hby at_176) (by decide) (by decide) ?_
                      have C953 : CHr Z EL0 s.vm s.heap T911.vm h911 := (C909.trans C911)
                      have fk954 : Safe Z EL0 T911.vm h911 b842 := (C911.safe fk908.lt fk910)
                      have C955 : CHr Z EL0 s.vm s.heap T911.vm h942 := (C953.trans (CHr.keep K942 (sfS fk954 sf0) C953.1))
                      have hk956 := (Nat.le_trans (Nat.le_refl _) K942.1)
                      refine Go.retNW X952 hx hlk Z911 (own_EW hw) e952 S911 hk956 C955 (t := .boolean) hret (by simp) (hb hby at_180) (by decide) (by decide) (fun hat => ?_)
                      exact ⟨rfl, (Fr.app (Fr.app (Fr.app (Fr.app (Fr.app (Fr.app (Fr.app (Fr.app (Fr.app (Fr.app (Fr.nil n0) N10_1) N602_1) N811) N855_1) N911_1) N942) N945_0) N946_0) N951) N952)⟩
                    · exact absurd (c602_1_0.trans c911_1_0.symm) c946_1_0
                  · exact absurd (c10_1_0.trans c855_1_0.symm) c945_1_0
    refine Go.iload X0 hx (pc' := 16) rfl (hb hby at_14) rfl ?_
    refine Go.iconst X0 hx (pc' := 17) rfl (hb hby at_16) (v := (2 : Int32)) rfl ?_
    refine Go.iand X0 hx (pc' := 18) rfl (hb hby at_17) ?_
    generalize hz957 : (p4 &&& (2 : Int32)) = z957
    have r958 : 0 ≤ z957.toInt ∧ z957.toInt ≤ 2 := own_rand hz957 (by decide)
    by_cases hc959 : z957 = (0 : Int32)
    · refine Go.ifYes X0 hx (pc' := 25) (hb hby at_18) (teq hc959).1 (by decide) (by decide) ?_
      refine Go.iloadN X0 hx (pc' := 26) rfl (hb hby at_25) rfl ?_
      refine Go.istore X0 hx (pc' := 28) rfl (hb hby at_26) (Ls' := #[.val (.int p0), .val (.int p1), .val (.int p2), .val (.int p3), .val (.int p4), .val (.int jv1_5), .val (.int p3), .unset, .unset, .unset, .unset]) rfl ?_
      exact J2 p3 
    · refine Go.ifNo X0 hx (pc' := 21) rfl (hb hby at_18) (feq hc959).1 ?_
      refine Go.iloadN X0 hx (pc' := 22) rfl (hb hby at_21) rfl ?_
      refine Go.goto X0 hx (pc' := 26) (hb hby at_22) (by decide) (by decide) ?_
      refine Go.istore X0 hx (pc' := 28) rfl (hb hby at_26) (Ls' := #[.val (.int p0), .val (.int p1), .val (.int p2), .val (.int p3), .val (.int p4), .val (.int jv1_5), .val (.int p1), .unset, .unset, .unset, .unset]) rfl ?_
      exact J2 p1 
  refine Go.iload X0 hx (pc' := 2) rfl (hb hby at_0) rfl ?_
  refine Go.iconst X0 hx (pc' := 3) rfl (hb hby at_2) (v := (1 : Int32)) rfl ?_
  refine Go.iand X0 hx (pc' := 4) rfl (hb hby at_3) ?_
  generalize hz960 : (p4 &&& (1 : Int32)) = z960
  have r961 : 0 ≤ z960.toInt ∧ z960.toInt ≤ 1 := own_rand hz960 (by decide)
  by_cases hc962 : z960 = (0 : Int32)
  · refine Go.ifYes X0 hx (pc' := 11) (hb hby at_4) (teq hc962).1 (by decide) (by decide) ?_
    refine Go.iloadN X0 hx (pc' := 12) rfl (hb hby at_11) rfl ?_
    refine Go.istore X0 hx (pc' := 14) rfl (hb hby at_12) (Ls' := #[.val (.int p0), .val (.int p1), .val (.int p2), .val (.int p3), .val (.int p4), .val (.int p2), .unset, .unset, .unset, .unset, .unset]) rfl ?_
    exact J1 p2 
  · refine Go.ifNo X0 hx (pc' := 7) rfl (hb hby at_4) (feq hc962).1 ?_
    refine Go.iloadN X0 hx (pc' := 8) rfl (hb hby at_7) rfl ?_
    refine Go.goto X0 hx (pc' := 12) (hb hby at_8) (by decide) (by decide) ?_
    refine Go.istore X0 hx (pc' := 14) rfl (hb hby at_12) (Ls' := #[.val (.int p0), .val (.int p1), .val (.int p2), .val (.int p3), .val (.int p4), .val (.int p0), .unset, .unset, .unset, .unset, .unset]) rfl ?_
    exact J1 p0 
set_option maxRecDepth 65536 in
set_option maxHeartbeats 4000000 in
theorem comes_1 {Post : Tables → Env → Array Value → State → Outcome → State → Prop} (hpost : ∀ tb e args s v u, (limb_1_1.after args s (.returned v) u = true ∧ limb_1_2.after args s (.returned v) u = true ∧ True) → ReturnedEndW s (.returned v) u (Jvm.fieldLocs frame_1_writes args s ++ Jvm.arrayLocs frame_1_arrays args s ++ Jvm.staticLocs frame_1_statics s) 40 1216 → Post tb e args s (.returned v) u) :
    ArmFor flags0 classFile x code maxLocals ret World_1 tables_1 room_1 Calls_1 rest_1 Pre_1 Post := by
  intro l hfl _ _ p e ha hc hk s m args below hf hA hF happ hP
  obtain ⟨hcalls, hrest, hpre⟩ := hP
  obtain ⟨-, -, -, hnamed, -, -, -, hat⟩ := (Spec.applies_iff hf).mp happ
  obtain ⟨hg, hn⟩ := and_e (Cond.before_iff.mp (show (Jvm.Cond.and given_1 narrow_1).before args s = true from hpre))
  obtain ⟨g501, g502⟩ := and_e hg
  obtain ⟨g503, g504⟩ := and_e g502
  obtain ⟨g505, g506⟩ := and_e g504
  obtain ⟨g507, g508⟩ := and_e g506
  obtain ⟨g509, g510⟩ := and_e g508
  obtain ⟨w0, w1, w2, w3, w4, rfl⟩ : ∃ w0 w1 w2 w3 w4 : Value, args = #[w0, w1, w2, w3, w4] := by
    have hs : args.size = 5 := by simpa [Cond.value, given_1] using g501
    obtain ⟨L⟩ := args
    match L, hs with
    | [w0, w1, w2, w3, w4], _ => exact ⟨w0, w1, w2, w3, w4, rfl⟩
  have hw := fun d (hd : d ∈ tables_1) => atoms_spec (ws := Jvm.Cond.code x code maxLocals ret :: tables_1) hat d (List.mem_cons_of_mem _ hd)
  have hfit : Fit s := fun {y c} hc i hi => by
    obtain ⟨ha, rfl⟩ := Array.getElem?_eq_some_iff.mp hc
    have q := List.all_eq_true.mp ((Array.all_eq_true_iff_forall_mem.mp hF) _ (Array.getElem_mem ha)) i (List.mem_range.mpr hi)
    simpa [Array.getElem?_eq_getElem hi] using q
  obtain ⟨i0, ei0⟩ := is_v g503
  obtain rfl : w0 = (.int i0) := Option.some.inj ei0
  obtain ⟨i1, ei1⟩ := is_v g505
  obtain rfl : w1 = (.int i1) := Option.some.inj ei1
  obtain ⟨i2, ei2⟩ := is_v g507
  obtain rfl : w2 = (.int i2) := Option.some.inj ei2
  obtain ⟨i3, ei3⟩ := is_v g509
  obtain rfl : w3 = (.int i3) := Option.some.inj ei3
  obtain ⟨i4, ei4⟩ := is_v g510
  obtain rfl : w4 = (.int i4) := Option.some.inj ei4
  obtain ⟨hsets, hown0⟩ := atoms_of _ (rest_1_c_eq ▸ (show rest_1_c.before _ s = true from hrest))
  have ei1 := own_eqI (Cond.before_iff.mp (hsets _ (List.mem_of_getElem? (i := 3) rfl)))
  have Sx2 : Sta s s.heap "java/lang/Integer$IntegerCache" "high" "I" (.int 127) := Sta.start ei1 (Or.inl (Cond.before_iff.mpr (Cond.before_iff.mp (hsets _ (List.mem_of_getElem? (i := 1) rfl)))))
  obtain ⟨ga3, ev4⟩ := arr_v (Cond.before_iff.mp (hsets _ (List.mem_of_getElem? (i := 4) rfl)))
  have Sx5 : Sta s s.heap "java/lang/Integer$IntegerCache" "cache" "[Ljava/lang/Integer;" (.ref ga3) := Sta.start ev4 (Or.inr ⟨(tw_47 hw), (Cond.before_iff.mpr (Cond.before_iff.mp (hsets _ (List.mem_of_getElem? (i := 2) rfl))))⟩)
  obtain ⟨clAr6, Ar6⟩ := Arr.start ev4 (Cond.before_iff.mp (hsets _ (List.mem_of_getElem? (i := 4) rfl)))
  have Ex7 := Exa.start ev4 (Cond.before_iff.mp (hsets _ (List.mem_of_getElem? (i := 5) rfl)))
  have Ln8 := own_len ev4 Ar6 (Cond.before_iff.mp (hsets _ (List.mem_of_getElem? (i := 6) rfl)))
  obtain ⟨gz9, ev10⟩ := is_v (Cond.before_iff.mp (hsets _ (List.mem_of_getElem? (i := 9) rfl)))
  have Sx11 : Sta s s.heap "java/lang/String" "COMPACT_STRINGS" "Z" (.int gz9) := Sta.start ev10 (Or.inl (Cond.before_iff.mpr (Cond.before_iff.mp (hsets _ (List.mem_of_getElem? (i := 8) rfl)))))
  have nz12 : ¬ gz9 = (0 : Int32) := gotF (Cond.eq_ints ev10 (Term.int_eval (0))) (not_v (Cond.before_iff.mp (hsets _ (List.mem_of_getElem? (i := 10) rfl))))
  obtain ⟨gv13, ev14, rv15⟩ := isR_v (Cond.before_iff.mp (hsets _ (List.mem_of_getElem? (i := 16) rfl)))
  have Sx16 : Sta s s.heap "jdk/internal/util/Preconditions" "SIOOBE_FORMATTER" "Ljava/util/function/BiFunction;" gv13 := Sta.start ev14 (Or.inl (Cond.before_iff.mpr (Cond.before_iff.mp (hsets _ (List.mem_of_getElem? (i := 15) rfl)))))
  have Bx := Bxs.start (K := "java/lang/Integer") (d := "I") (val := fun j => .int (j - 128)) (fun _ => ev4) Ar6 Ln8.1 Ln8.2 (by decide) (Cond.before_iff.mp (hsets _ (List.mem_of_getElem? (i := 7) rfl))) (fun X j nn hq => eqv_i (Term.sub_int (idx_at nn) (Term.int_eval 128)) hq)
  obtain ⟨gvs18, Vx19, Cx20⟩ := own_cache Bx
  obtain ⟨gk17, hkgk17⟩ : ∃ q, clAr6.cls = q := ⟨_, rfl⟩
  rw [hkgk17] at Vx19
  have G : Glob s ga3 gz9 gv13 gk17 gvs18 := ⟨Sx2, Sx5, Ex7, Sx11, Sx16, Vx19, nz12, Cx20, rv15⟩
  have hCH : CHv s EL0 s.vm s.heap := CHv.start (own_EW hw) (fun p hp => hcalls.1 p hp) (hsets _ (List.mem_of_getElem? (i := 10) rfl)) (tw_22 hw) (tw_9 hw)
  obtain ⟨n, o, h1, h2, h3, _, L, rfl, ⟨rfl, N⟩, hcr, hq⟩ := (rm0 l s _ hw i0 i1 i2 i3 i4 ga3 gz9 gv13 gk17 gvs18 s.heap s.heap.size (Nat.le_refl _) (Old.start s) G) tables_1 p e ha hc hk s m _ below hf ((Spec.applies_iff_loose hf).mp happ).1 ⟨rfl, State.Warmed39.refl s, rfl, hCH, fun _ hx => nomatch hx⟩ trivial
  refine ⟨n, _, h1, h2, h3, hpost _ _ _ _ _ _ ⟨Cond.after_iff.mpr rfl, Cond.after_iff.mpr (eq_i res_at (Term.int_eval (1)) rfl), trivial⟩ ⟨hq.1, hq.2.1, hq.2.2.1, (hq.2.2.2.sift fun y hy => Or.inr (N y hy)).mono (by decide) (by decide)⟩⟩
theorem main_1_1 : Claimed_1_1 := comes_1 fun _ _ _ _ _ _ h hF => ⟨h.1, hF⟩
theorem main_1_2 : Claimed_1_2 := comes_1 fun _ _ _ _ _ _ h hF => ⟨h.2.1, hF⟩
end Jvm.Pilot.@@N@@
namespace Jvm.Pilot.@@N@@
open Jvm Jvm.ClassFile Sem Op Lib Jvm.Free Jvm.Stand Jvm.Pilot.@@N@@.Jvm.D
/-! MADE BY PROGRAM (witnessworld.py) out of the Statement's table words and the real class files: 25 classes; the members and pool entries that the words name. The judged class is class 1, her method 3. -/
namespace start1
open Jvm.ClassFile
def u (s : String) : CpInfo := .utf8 (stringToUtf16 s)
/-- a pool by its gaps: so many unusable entries, then the entry; so many at the end -/
def gap : Nat → List CpInfo → List CpInfo
  | 0, r => r
  | n + 1, r => .unusable :: gap n r
def poolList (es : List (Nat × CpInfo)) (last : Nat) : List CpInfo := es.foldr (fun e r => gap e.1 (e.2 :: r)) (gap last [])
def pool (es : List (Nat × CpInfo)) (last : Nat) : Array CpInfo := ⟨poolList es last⟩
def fileOf (pool : Array CpInfo) (this : Nat) (attrs : Array Attribute := #[]) (ms : Array MethodInfo := #[]) (fl : Nat := 33) (sup : Nat := 0) (ifs : Array Nat := #[]) (fds : Array FieldInfo := #[]) : ClassFile where
  minorVersion := 0
  majorVersion := 65
  constantPool := pool
  accessFlags := fl
  thisClass := this
  superClass := sup
  interfaces := ifs
  fields := fds
  methods := ms
  attributes := attrs
def plain (name : String) (sup : Option ClassId) : Class where
  name := name
  kind := .ordinary
  loader := none
  accessFlags := 33
  super := sup
  interfaces := #[]
  cf := none
  fields := #[]
  methods := #[]
  instanceTypes := #[]
  staticTypes := #[]
  resolved := #[]
  callSites := []
  init := .initialized
  statics := none
  mirror := none

def pool0 : Array CpInfo := pool [(5, u "<init>"), (0, u "()V"), (1, .class_ 10), (1, u "java/lang/Object"), (81, u "equals"), (0, u "(Ljava/lang/Object;)Z")] 30

def k0c0 : Code := { maxStack := 0, maxLocals := 1, code := object_method_1_code, exceptionTable := #[], attributes := #[] }
def k0m0 : Method := { name := "<init>", desc := "()V", sig := { parameters := [], returnType := none }, accessFlags := 1, code := some k0c0 }
def k0c1 : Code := { maxStack := 2, maxLocals := 2, code := ⟨#[0x2a, 0x2b, 0xa6, 0x00, 0x07, 0x04, 0xa7, 0x00, 0x04, 0x03, 0xac]⟩, exceptionTable := #[], attributes := #[] }
def k0m1 : Method := { name := "equals", desc := "(Ljava/lang/Object;)Z", sig := { parameters := [(.object "java/lang/Object")], returnType := some .boolean }, accessFlags := 1, code := some k0c1 }
/-- java/lang/Object -/
def k0 : Class := { plain "java/lang/Object" none with
  accessFlags := 33
  interfaces := #[]
  cf := some (fileOf pool0 8 #[] #[{ accessFlags := 1, nameIndex := 5, descriptorIndex := 6, attributes := #[] }, { accessFlags := 1, nameIndex := 92, descriptorIndex := 93, attributes := #[] }] 33 0 #[] #[])
  fields := #[]
  methods := #[k0m0, k0m1]
  instanceTypes := #[]
  staticTypes := #[]
  resolved := Array.replicate 124 none
  statics := none }

def pool1 : Array CpInfo := pool [(2, .class_ 4), (1, u "java/lang/Object"), (0, u "<init>"), (0, u "()V"), (0, .class_ 8), (0, u "java/lang/String"), (0, .methodref 7 10), (0, .nameAndType 5 11), (0, u "([C)V"), (0, .class_ 13), (0, u "com/example/rockhopper/rockhopper/model/Validators"), (0, .methodref 15 16), (0, .class_ 17), (0, .nameAndType 18 19), (0, u "com/example/rockhopper/rockhopper/model/ValidatorsEqualsPinLaw"), (0, u "mk"), (0, u "(I)Ljava/lang/String;"), (0, .methodref 12 21), (0, .nameAndType 5 22), (0, u "(Ljava/lang/String;Ljava/lang/String;)V"), (0, .methodref 12 24), (0, .nameAndType 25 26), (0, u "equals"), (0, u "(Ljava/lang/Object;)Z"), (0, .methodref 28 29), (0, .class_ 30), (0, .nameAndType 31 32), (0, u "java/lang/Integer"), (0, u "valueOf"), (0, u "(I)Ljava/lang/Integer;"), (0, .methodref 15 34), (0, .nameAndType 35 36), (0, u "same"), (0, u "(II)Z"), (5, u "law"), (0, u "(IIIII)Z")] 2

def k1m0 : Method := { name := "<init>", desc := "()V", sig := { parameters := [], returnType := none }, accessFlags := 1, code := none }
def k1c1 : Code := { maxStack := 4, maxLocals := 3, code := method_2_code, exceptionTable := #[], attributes := #[] }
def k1m1 : Method := { name := "mk", desc := "(I)Ljava/lang/String;", sig := { parameters := [.int], returnType := some (.object "java/lang/String") }, accessFlags := 10, code := some k1c1 }
def k1c2 : Code := { maxStack := 3, maxLocals := 4, code := method_3_code, exceptionTable := #[], attributes := #[] }
def k1m2 : Method := { name := "same", desc := "(II)Z", sig := { parameters := [.int, .int], returnType := some .boolean }, accessFlags := 10, code := some k1c2 }
def k1c3 : Code := { maxStack := 4, maxLocals := 11, code := code, exceptionTable := #[], attributes := #[] }
def k1m3 : Method := { name := "law", desc := "(IIIII)Z", sig := { parameters := [.int, .int, .int, .int, .int], returnType := some .boolean }, accessFlags := 9, code := some k1c3 }
/-- com/example/rockhopper/rockhopper/model/ValidatorsEqualsPinLaw -/
def k1 : Class := { plain "com/example/rockhopper/rockhopper/model/ValidatorsEqualsPinLaw" (some 0) with
  accessFlags := 49
  interfaces := #[]
  cf := some (fileOf pool1 15 #[] #[{ accessFlags := 1, nameIndex := 5, descriptorIndex := 6, attributes := #[] }, { accessFlags := 10, nameIndex := 18, descriptorIndex := 19, attributes := #[] }, { accessFlags := 10, nameIndex := 35, descriptorIndex := 36, attributes := #[] }, { accessFlags := 9, nameIndex := 42, descriptorIndex := 43, attributes := #[] }] 49 2 #[] #[])
  fields := #[]
  methods := #[k1m0, k1m1, k1m2, k1m3]
  instanceTypes := #[]
  staticTypes := #[]
  resolved := Array.replicate 46 none
  statics := none }

def pool2 : Array CpInfo := pool [(1, .methodref 2 3), (0, .class_ 4), (0, .nameAndType 5 6), (0, u "java/lang/Object"), (0, u "<init>"), (0, u "()V"), (0, .fieldref 8 9), (0, .class_ 10), (0, .nameAndType 11 12), (0, u "com/example/rockhopper/rockhopper/model/Validators"), (0, u "etag"), (0, u "Ljava/lang/String;"), (0, .fieldref 8 14), (0, .nameAndType 15 12), (0, u "lastModified"), (0, .methodref 17 18), (0, .class_ 19), (0, .nameAndType 20 21), (0, u "java/util/Objects"), (0, u "equals"), (0, u "(Ljava/lang/Object;Ljava/lang/Object;)Z"), (10, u "(Ljava/lang/String;Ljava/lang/String;)V"), (2, u "NONE"), (0, u "Lcom/example/rockhopper/rockhopper/model/Validators;"), (3, u "(Ljava/lang/Object;)Z")] 22

def k2c0 : Code := { maxStack := 2, maxLocals := 3, code := prog_9_method_1_code, exceptionTable := #[], attributes := #[] }
def k2m0 : Method := { name := "<init>", desc := "(Ljava/lang/String;Ljava/lang/String;)V", sig := { parameters := [(.object "java/lang/String"), (.object "java/lang/String")], returnType := none }, accessFlags := 1, code := some k2c0 }
def k2c1 : Code := { maxStack := 2, maxLocals := 2, code := prog_9_method_4_code, exceptionTable := #[], attributes := #[] }
def k2m1 : Method := { name := "equals", desc := "(Ljava/lang/Object;)Z", sig := { parameters := [(.object "java/lang/Object")], returnType := some .boolean }, accessFlags := 1, code := some k2c1 }
/-- com/example/rockhopper/rockhopper/model/Validators -/
def k2 : Class := { plain "com/example/rockhopper/rockhopper/model/Validators" (some 0) with
  accessFlags := 49
  interfaces := #[]
  cf := some (fileOf pool2 8 #[] #[{ accessFlags := 1, nameIndex := 5, descriptorIndex := 32, attributes := #[] }, { accessFlags := 1, nameIndex := 20, descriptorIndex := 40, attributes := #[] }] 49 2 #[] #[{ accessFlags := 25, nameIndex := 35, descriptorIndex := 36, attributes := #[] }, { accessFlags := 18, nameIndex := 11, descriptorIndex := 12, attributes := #[] }, { accessFlags := 18, nameIndex := 15, descriptorIndex := 12, attributes := #[] }])
  fields := #[{ name := "NONE", type := (.object "com/example/rockhopper/rockhopper/model/Validators"), accessFlags := 25, slot := 0, constantValue := 0 }, { name := "etag", type := (.object "java/lang/String"), accessFlags := 18, slot := 0, constantValue := 0 }, { name := "lastModified", type := (.object "java/lang/String"), accessFlags := 18, slot := 1, constantValue := 0 }]
  methods := #[k2m0, k2m1]
  instanceTypes := #[(.object "java/lang/String"), (.object "java/lang/String")]
  staticTypes := #[(.object "com/example/rockhopper/rockhopper/model/Validators")]
  resolved := Array.replicate 63 none
  statics := none }

def pool3 : Array CpInfo := pool [(1, .class_ 2), (0, u "java/io/Serializable"), (0, .class_ 4), (0, u "java/lang/Object")] 2

/-- java/io/Serializable -/
def k3 : Class := { plain "java/io/Serializable" (some 0) with
  accessFlags := 1537
  interfaces := #[]
  cf := some (fileOf pool3 1 #[] #[] 1537 3 #[] #[])
  fields := #[]
  methods := #[]
  instanceTypes := #[]
  staticTypes := #[]
  resolved := Array.replicate 7 none
  statics := none }

def pool4 : Array CpInfo := pool [(1, .class_ 2), (0, u "java/lang/Comparable"), (0, .class_ 4), (0, u "java/lang/Object")] 7

/-- java/lang/Comparable -/
def k4 : Class := { plain "java/lang/Comparable" (some 0) with
  accessFlags := 1537
  interfaces := #[]
  cf := some (fileOf pool4 1 #[] #[] 1537 3 #[] #[])
  fields := #[]
  methods := #[]
  instanceTypes := #[]
  staticTypes := #[]
  resolved := Array.replicate 12 none
  statics := none }

def pool5 : Array CpInfo := pool [(2, .class_ 4), (1, u "java/lang/CharSequence"), (42, .class_ 48), (0, u "java/lang/CharSequence$1CodePointIterator"), (10, .class_ 60), (0, u "java/lang/CharSequence$1CharIterator"), (5, .class_ 67), (0, u "java/lang/Object")] 63

/-- java/lang/CharSequence -/
def k5 : Class := { plain "java/lang/CharSequence" (some 0) with
  accessFlags := 1537
  interfaces := #[]
  cf := some (fileOf pool5 2 #[.nestMembers #[47, 59]] #[] 1537 66 #[] #[])
  fields := #[]
  methods := #[]
  instanceTypes := #[]
  staticTypes := #[]
  resolved := Array.replicate 131 none
  statics := none }

def pool6 : Array CpInfo := pool [(1, .class_ 2), (0, u "java/lang/constant/Constable"), (0, .class_ 4), (0, u "java/lang/Object")] 6

/-- java/lang/constant/Constable -/
def k6 : Class := { plain "java/lang/constant/Constable" (some 0) with
  accessFlags := 1537
  interfaces := #[]
  cf := some (fileOf pool6 1 #[] #[] 1537 3 #[] #[])
  fields := #[]
  methods := #[]
  instanceTypes := #[]
  staticTypes := #[]
  resolved := Array.replicate 11 none
  statics := none }

def pool7 : Array CpInfo := pool [(1, .class_ 2), (0, u "java/lang/constant/ConstantDesc"), (0, .class_ 4), (0, u "java/lang/Object")] 32

/-- java/lang/constant/ConstantDesc -/
def k7 : Class := { plain "java/lang/constant/ConstantDesc" (some 0) with
  accessFlags := 1537
  interfaces := #[]
  cf := some (fileOf pool7 1 #[] #[] 1537 3 #[] #[])
  fields := #[]
  methods := #[]
  instanceTypes := #[]
  staticTypes := #[]
  resolved := Array.replicate 37 none
  statics := none }

def pool8 : Array CpInfo := pool [(1, .methodref 2 3), (0, .class_ 4), (0, .nameAndType 5 6), (0, u "java/lang/Object"), (0, u "<init>"), (0, u "()V"), (0, .string 8), (0, u ""), (0, .fieldref 10 11), (0, .class_ 12), (0, .nameAndType 13 14), (0, u "java/lang/String"), (0, u "value"), (0, u "[B"), (0, .fieldref 10 16), (0, .nameAndType 17 18), (0, u "coder"), (0, u "B"), (2, u "hash"), (0, u "I"), (2, u "hashIsZero"), (0, u "Z"), (0, .methodref 10 28), (0, .nameAndType 5 29), (0, u "([CIILjava/lang/Void;)V"), (8, .fieldref 10 39), (0, .nameAndType 40 26), (0, u "COMPACT_STRINGS"), (1, .class_ 44), (1, u "java/lang/StringUTF16"), (0, u "compress"), (1, .methodref 42 48), (0, .nameAndType 49 50), (0, u "coderFromArrayLen"), (0, u "([BI)B"), (56, .class_ 109), (1, u "java/lang/StringLatin1"), (67, .methodref 42 178), (0, .nameAndType 45 179), (0, u "([CII)[B"), (361, .methodref 107 542), (0, .nameAndType 543 544), (0, u "equals"), (0, u "([B[B)Z"), (28, u "(Ljava/lang/Object;)Z"), (1, .class_ 576), (0, u "java/lang/CharSequence"), (22, u "CASE_INSENSITIVE_ORDER"), (0, u "Ljava/util/Comparator;"), (409, u "([C)V"), (90, u "serialPersistentFields"), (0, u "[Ljava/io/ObjectStreamField;"), (0, .class_ 1104), (0, u "java/lang/String$CaseInsensitiveComparator"), (1, .class_ 1107), (0, u "java/io/Serializable"), (0, .class_ 1109), (0, u "java/lang/Comparable"), (0, .class_ 1111), (0, u "java/lang/constant/Constable"), (0, .class_ 1113), (0, u "java/lang/constant/ConstantDesc"), (2, u "serialVersionUID"), (0, u "J"), (3, u "REPL"), (0, u "C"), (2, u "LATIN1"), (1, u "UTF16")] 323

def k8m0 : Method := { name := "<init>", desc := "()V", sig := { parameters := [], returnType := none }, accessFlags := 1, code := none }
def k8c1 : Code := { maxStack := 5, maxLocals := 2, code := jdk_42_method_3_code, exceptionTable := #[], attributes := #[] }
def k8m1 : Method := { name := "<init>", desc := "([C)V", sig := { parameters := [(.array .char)], returnType := none }, accessFlags := 1, code := some k8c1 }
def k8c2 : Code := { maxStack := 2, maxLocals := 3, code := jdk_42_method_66_code, exceptionTable := #[], attributes := #[] }
def k8m2 : Method := { name := "equals", desc := "(Ljava/lang/Object;)Z", sig := { parameters := [(.object "java/lang/Object")], returnType := some .boolean }, accessFlags := 1, code := some k8c2 }
def k8c3 : Code := { maxStack := 4, maxLocals := 6, code := jdk_42_method_149_code, exceptionTable := #[], attributes := #[] }
def k8m3 : Method := { name := "<init>", desc := "([CIILjava/lang/Void;)V", sig := { parameters := [(.array .char), .int, .int, (.object "java/lang/Void")], returnType := none }, accessFlags := 2, code := some k8c3 }
/-- java/lang/String -/
def k8 : Class := { plain "java/lang/String" (some 0) with
  accessFlags := 49
  interfaces := #[3, 4, 5, 6, 7]
  cf := some (fileOf pool8 10 #[.nestMembers #[1103]] #[{ accessFlags := 1, nameIndex := 5, descriptorIndex := 6, attributes := #[] }, { accessFlags := 1, nameIndex := 5, descriptorIndex := 1010, attributes := #[] }, { accessFlags := 1, nameIndex := 543, descriptorIndex := 573, attributes := #[] }, { accessFlags := 2, nameIndex := 5, descriptorIndex := 29, attributes := #[] }] 49 2 #[1106, 1108, 575, 1110, 1112] #[{ accessFlags := 18, nameIndex := 13, descriptorIndex := 14, attributes := #[] }, { accessFlags := 18, nameIndex := 17, descriptorIndex := 18, attributes := #[] }, { accessFlags := 2, nameIndex := 21, descriptorIndex := 22, attributes := #[] }, { accessFlags := 2, nameIndex := 25, descriptorIndex := 26, attributes := #[] }, { accessFlags := 26, nameIndex := 1116, descriptorIndex := 1117, attributes := #[] }, { accessFlags := 24, nameIndex := 40, descriptorIndex := 26, attributes := #[] }, { accessFlags := 26, nameIndex := 1101, descriptorIndex := 1102, attributes := #[] }, { accessFlags := 26, nameIndex := 1121, descriptorIndex := 1122, attributes := #[] }, { accessFlags := 25, nameIndex := 599, descriptorIndex := 600, attributes := #[] }, { accessFlags := 24, nameIndex := 1125, descriptorIndex := 18, attributes := #[] }, { accessFlags := 24, nameIndex := 1127, descriptorIndex := 18, attributes := #[] }])
  fields := #[{ name := "value", type := (.array .byte), accessFlags := 18, slot := 0, constantValue := 0 }, { name := "coder", type := .byte, accessFlags := 18, slot := 1, constantValue := 0 }, { name := "hash", type := .int, accessFlags := 2, slot := 2, constantValue := 0 }, { name := "hashIsZero", type := .boolean, accessFlags := 2, slot := 3, constantValue := 0 }, { name := "serialVersionUID", type := .long, accessFlags := 26, slot := 0, constantValue := 0 }, { name := "COMPACT_STRINGS", type := .boolean, accessFlags := 24, slot := 1, constantValue := 0 }, { name := "serialPersistentFields", type := (.array (.object "java/io/ObjectStreamField")), accessFlags := 26, slot := 2, constantValue := 0 }, { name := "REPL", type := .char, accessFlags := 26, slot := 3, constantValue := 0 }, { name := "CASE_INSENSITIVE_ORDER", type := (.object "java/util/Comparator"), accessFlags := 25, slot := 4, constantValue := 0 }, { name := "LATIN1", type := .byte, accessFlags := 24, slot := 5, constantValue := 0 }, { name := "UTF16", type := .byte, accessFlags := 24, slot := 6, constantValue := 0 }]
  methods := #[k8m0, k8m1, k8m2, k8m3]
  instanceTypes := #[(.array .byte), .byte, .int, .boolean]
  staticTypes := #[.long, .boolean, (.array (.object "java/io/ObjectStreamField")), .char, (.object "java/util/Comparator"), .byte, .byte]
  resolved := Array.replicate 1451 none
  statics := some 0 }

def pool9 : Array CpInfo := pool [(1, .methodref 2 3), (0, .class_ 4), (0, .nameAndType 5 6), (0, u "java/lang/Object"), (0, u "<init>"), (0, u "()V"), (1, .class_ 10), (1, u "java/lang/Number"), (2, .class_ 14), (0, u "java/io/Serializable"), (0, u "serialVersionUID"), (0, u "J")] 20

def k9c0 : Code := { maxStack := 1, maxLocals := 1, code := jdk_18_method_1_code, exceptionTable := #[], attributes := #[] }
def k9m0 : Method := { name := "<init>", desc := "()V", sig := { parameters := [], returnType := none }, accessFlags := 1, code := some k9c0 }
/-- java/lang/Number -/
def k9 : Class := { plain "java/lang/Number" (some 0) with
  accessFlags := 1057
  interfaces := #[3]
  cf := some (fileOf pool9 8 #[] #[{ accessFlags := 1, nameIndex := 5, descriptorIndex := 6, attributes := #[] }] 1057 2 #[13] #[{ accessFlags := 26, nameIndex := 15, descriptorIndex := 16, attributes := #[] }])
  fields := #[{ name := "serialVersionUID", type := .long, accessFlags := 26, slot := 0, constantValue := 0 }]
  methods := #[k9m0]
  instanceTypes := #[]
  staticTypes := #[.long]
  resolved := Array.replicate 37 none
  statics := none }

def pool10 : Array CpInfo := pool [(1, .class_ 2), (0, u "java/lang/Integer"), (16, u "digits"), (0, u "[C"), (46, u "<init>"), (17, u "DigitOnes"), (0, u "[B"), (2, u "DigitTens"), (10, .nameAndType 67 101), (0, u "()V"), (85, u "valueOf"), (0, u "(I)Ljava/lang/Integer;"), (0, .class_ 190), (0, u "java/lang/Integer$IntegerCache"), (0, .fieldref 189 192), (0, .nameAndType 193 194), (0, u "high"), (0, u "I"), (0, .fieldref 189 196), (0, .nameAndType 197 198), (0, u "cache"), (0, u "[Ljava/lang/Integer;"), (0, .methodref 1 200), (0, .nameAndType 67 201), (0, u "(I)V"), (0, .methodref 203 100), (0, .class_ 204), (0, u "java/lang/Number"), (0, .fieldref 1 206), (0, .nameAndType 207 194), (0, u "value"), (94, u "TYPE"), (0, u "Ljava/lang/Class;"), (0, .class_ 305), (0, u "java/lang/Comparable"), (0, .class_ 307), (0, u "java/lang/constant/Constable"), (0, .class_ 309), (0, u "java/lang/constant/ConstantDesc"), (0, u "MIN_VALUE"), (1, u "MAX_VALUE"), (3, u "SIZE"), (1, u "BYTES"), (1, u "serialVersionUID"), (0, u "J")] 131

def k10c0 : Code := { maxStack := 3, maxLocals := 1, code := jdk_33_method_22_code, exceptionTable := #[], attributes := #[] }
def k10m0 : Method := { name := "valueOf", desc := "(I)Ljava/lang/Integer;", sig := { parameters := [.int], returnType := some (.object "java/lang/Integer") }, accessFlags := 9, code := some k10c0 }
def k10c1 : Code := { maxStack := 2, maxLocals := 2, code := jdk_33_method_23_code, exceptionTable := #[], attributes := #[] }
def k10m1 : Method := { name := "<init>", desc := "(I)V", sig := { parameters := [.int], returnType := none }, accessFlags := 1, code := some k10c1 }
/-- java/lang/Integer -/
def k10 : Class := { plain "java/lang/Integer" (some 9) with
  accessFlags := 49
  interfaces := #[4, 6, 7]
  cf := some (fileOf pool10 1 #[.nestMembers #[189]] #[{ accessFlags := 9, nameIndex := 187, descriptorIndex := 188, attributes := #[] }, { accessFlags := 1, nameIndex := 67, descriptorIndex := 201, attributes := #[] }] 49 203 #[304, 306, 308] #[{ accessFlags := 25, nameIndex := 310, descriptorIndex := 194, attributes := #[] }, { accessFlags := 25, nameIndex := 312, descriptorIndex := 194, attributes := #[] }, { accessFlags := 25, nameIndex := 302, descriptorIndex := 303, attributes := #[] }, { accessFlags := 24, nameIndex := 19, descriptorIndex := 20, attributes := #[] }, { accessFlags := 24, nameIndex := 89, descriptorIndex := 86, attributes := #[] }, { accessFlags := 24, nameIndex := 85, descriptorIndex := 86, attributes := #[] }, { accessFlags := 18, nameIndex := 207, descriptorIndex := 194, attributes := #[] }, { accessFlags := 25, nameIndex := 316, descriptorIndex := 194, attributes := #[] }, { accessFlags := 25, nameIndex := 318, descriptorIndex := 194, attributes := #[] }, { accessFlags := 26, nameIndex := 320, descriptorIndex := 321, attributes := #[] }])
  fields := #[{ name := "MIN_VALUE", type := .int, accessFlags := 25, slot := 0, constantValue := 0 }, { name := "MAX_VALUE", type := .int, accessFlags := 25, slot := 1, constantValue := 0 }, { name := "TYPE", type := (.object "java/lang/Class"), accessFlags := 25, slot := 2, constantValue := 0 }, { name := "digits", type := (.array .char), accessFlags := 24, slot := 3, constantValue := 0 }, { name := "DigitTens", type := (.array .byte), accessFlags := 24, slot := 4, constantValue := 0 }, { name := "DigitOnes", type := (.array .byte), accessFlags := 24, slot := 5, constantValue := 0 }, { name := "value", type := .int, accessFlags := 18, slot := 0, constantValue := 0 }, { name := "SIZE", type := .int, accessFlags := 25, slot := 6, constantValue := 0 }, { name := "BYTES", type := .int, accessFlags := 25, slot := 7, constantValue := 0 }, { name := "serialVersionUID", type := .long, accessFlags := 26, slot := 8, constantValue := 0 }]
  methods := #[k10m0, k10m1]
  instanceTypes := #[.int]
  staticTypes := #[.int, .int, (.object "java/lang/Class"), (.array .char), (.array .byte), (.array .byte), .int, .int, .long]
  resolved := Array.replicate 453 none
  statics := none }

def pool11 : Array CpInfo := pool [(2, .class_ 4), (1, u "java/lang/Object"), (0, u "<init>"), (0, u "()V"), (0, .class_ 8), (0, u "java/lang/Integer"), (7, .class_ 18), (1, u "java/lang/Integer$IntegerCache"), (0, u "$assertionsDisabled"), (0, u "Z"), (26, u "high"), (0, u "I"), (8, u "archivedCache"), (0, u "[Ljava/lang/Integer;"), (12, u "cache"), (0, u "low")] 27

def k11m0 : Method := { name := "<init>", desc := "()V", sig := { parameters := [], returnType := none }, accessFlags := 2, code := none }
/-- java/lang/Integer$IntegerCache -/
def k11 : Class := { plain "java/lang/Integer$IntegerCache" (some 0) with
  accessFlags := 48
  interfaces := #[]
  cf := some (fileOf pool11 16 #[.nestHost 7] #[{ accessFlags := 2, nameIndex := 5, descriptorIndex := 6, attributes := #[] }] 48 2 #[] #[{ accessFlags := 24, nameIndex := 72, descriptorIndex := 48, attributes := #[] }, { accessFlags := 24, nameIndex := 47, descriptorIndex := 48, attributes := #[] }, { accessFlags := 24, nameIndex := 71, descriptorIndex := 58, attributes := #[] }, { accessFlags := 8, nameIndex := 57, descriptorIndex := 58, attributes := #[] }, { accessFlags := 4120, nameIndex := 19, descriptorIndex := 20, attributes := #[] }])
  fields := #[{ name := "low", type := .int, accessFlags := 24, slot := 0, constantValue := 0 }, { name := "high", type := .int, accessFlags := 24, slot := 1, constantValue := 0 }, { name := "cache", type := (.array (.object "java/lang/Integer")), accessFlags := 24, slot := 2, constantValue := 0 }, { name := "archivedCache", type := (.array (.object "java/lang/Integer")), accessFlags := 8, slot := 3, constantValue := 0 }, { name := "$assertionsDisabled", type := .boolean, accessFlags := 4120, slot := 4, constantValue := 0 }]
  methods := #[k11m0]
  instanceTypes := #[]
  staticTypes := #[.int, .int, (.array (.object "java/lang/Integer")), (.array (.object "java/lang/Integer")), .boolean]
  resolved := Array.replicate 100 none
  statics := some 1 }

def pool12 : Array CpInfo := pool [(2, .class_ 4), (1, u "java/lang/Object"), (0, u "<init>"), (0, u "()V"), (7, .methodref 2 15), (0, .nameAndType 16 17), (0, u "equals"), (0, u "(Ljava/lang/Object;)Z"), (5, u "(Ljava/lang/Object;Ljava/lang/Object;)Z"), (18, .class_ 44), (1, u "java/util/Objects")] 139

def k12m0 : Method := { name := "<init>", desc := "()V", sig := { parameters := [], returnType := none }, accessFlags := 2, code := none }
def k12c1 : Code := { maxStack := 2, maxLocals := 2, code := jdk_31_method_2_code, exceptionTable := #[], attributes := #[] }
def k12m1 : Method := { name := "equals", desc := "(Ljava/lang/Object;Ljava/lang/Object;)Z", sig := { parameters := [(.object "java/lang/Object"), (.object "java/lang/Object")], returnType := some .boolean }, accessFlags := 9, code := some k12c1 }
/-- java/util/Objects -/
def k12 : Class := { plain "java/util/Objects" (some 0) with
  accessFlags := 49
  interfaces := #[]
  cf := some (fileOf pool12 42 #[] #[{ accessFlags := 2, nameIndex := 5, descriptorIndex := 6, attributes := #[] }, { accessFlags := 9, nameIndex := 16, descriptorIndex := 23, attributes := #[] }] 49 2 #[] #[])
  fields := #[]
  methods := #[k12m0, k12m1]
  instanceTypes := #[]
  staticTypes := #[]
  resolved := Array.replicate 184 none
  statics := none }

def pool13 : Array CpInfo := pool [(6, .class_ 8), (1, u "java/lang/Object"), (0, u "<init>"), (0, u "()V"), (1, .class_ 14), (1, u "java/lang/StringUTF16"), (31, u "$assertionsDisabled"), (0, u "Z"), (13, u "HI_BYTE_SHIFT"), (0, u "I"), (2, u "LO_BYTE_SHIFT"), (49, .methodref 12 116), (0, .nameAndType 117 118), (0, u "compress"), (0, u "([CI[BII)I"), (3, u "([CII)[B"), (138, u "coderFromArrayLen"), (0, u "([BI)B"), (106, .class_ 371), (1, u "java/lang/StringUTF16$LinesSpliterator"), (58, u "MAX_LENGTH"), (196, .class_ 628), (0, u "java/lang/StringUTF16$CodePointsSpliterator"), (0, .class_ 630), (0, u "java/lang/StringUTF16$CharsSpliterator")] 4

def k13m0 : Method := { name := "<init>", desc := "()V", sig := { parameters := [], returnType := none }, accessFlags := 0, code := none }
def k13c1 : Code := { maxStack := 2, maxLocals := 2, code := jdk_52_method_15_code, exceptionTable := #[], attributes := #[] }
def k13m1 : Method := { name := "coderFromArrayLen", desc := "([BI)B", sig := { parameters := [(.array .byte), .int], returnType := some .byte }, accessFlags := 8, code := some k13c1 }
def k13c2 : Code := { maxStack := 5, maxLocals := 6, code := jdk_52_method_16_code, exceptionTable := #[], attributes := #[] }
def k13m2 : Method := { name := "compress", desc := "([CII)[B", sig := { parameters := [(.array .char), .int, .int], returnType := some (.array .byte) }, accessFlags := 9, code := some k13c2 }
def k13c3 : Code := { maxStack := 3, maxLocals := 7, code := jdk_52_method_21_code, exceptionTable := #[], attributes := #[] }
def k13m3 : Method := { name := "compress", desc := "([CI[BII)I", sig := { parameters := [(.array .char), .int, (.array .byte), .int, .int], returnType := some .int }, accessFlags := 9, code := some k13c3 }
/-- java/lang/StringUTF16 -/
def k13 : Class := { plain "java/lang/StringUTF16" (some 0) with
  accessFlags := 48
  interfaces := #[]
  cf := some (fileOf pool13 12 #[.nestMembers #[627, 629, 369]] #[{ accessFlags := 0, nameIndex := 9, descriptorIndex := 10, attributes := #[] }, { accessFlags := 8, nameIndex := 261, descriptorIndex := 262, attributes := #[] }, { accessFlags := 9, nameIndex := 117, descriptorIndex := 122, attributes := #[] }, { accessFlags := 9, nameIndex := 117, descriptorIndex := 118, attributes := #[] }] 48 6 #[] #[{ accessFlags := 26, nameIndex := 61, descriptorIndex := 62, attributes := #[] }, { accessFlags := 26, nameIndex := 65, descriptorIndex := 62, attributes := #[] }, { accessFlags := 24, nameIndex := 430, descriptorIndex := 62, attributes := #[] }, { accessFlags := 4120, nameIndex := 46, descriptorIndex := 47, attributes := #[] }])
  fields := #[{ name := "HI_BYTE_SHIFT", type := .int, accessFlags := 26, slot := 0, constantValue := 0 }, { name := "LO_BYTE_SHIFT", type := .int, accessFlags := 26, slot := 1, constantValue := 0 }, { name := "MAX_LENGTH", type := .int, accessFlags := 24, slot := 2, constantValue := 0 }, { name := "$assertionsDisabled", type := .boolean, accessFlags := 4120, slot := 3, constantValue := 0 }]
  methods := #[k13m0, k13m1, k13m2, k13m3]
  instanceTypes := #[]
  staticTypes := #[.int, .int, .int, .boolean]
  resolved := Array.replicate 635 none
  statics := none }

def pool14 : Array CpInfo := pool [(4, .class_ 6), (1, u "java/lang/Object"), (0, u "<init>"), (0, u "()V"), (5, .class_ 16), (1, u "java/lang/StringLatin1"), (104, u "$assertionsDisabled"), (0, u "Z"), (98, .class_ 223), (1, u "java/lang/StringLatin1$LinesSpliterator"), (57, u "equals"), (0, u "([B[B)Z"), (107, .class_ 391), (0, u "java/lang/StringLatin1$CharsSpliterator")] 3

def k14m0 : Method := { name := "<init>", desc := "()V", sig := { parameters := [], returnType := none }, accessFlags := 0, code := none }
def k14c1 : Code := { maxStack := 3, maxLocals := 3, code := jdk_43_method_13_code, exceptionTable := #[], attributes := #[] }
def k14m1 : Method := { name := "equals", desc := "([B[B)Z", sig := { parameters := [(.array .byte), (.array .byte)], returnType := some .boolean }, accessFlags := 9, code := some k14c1 }
/-- java/lang/StringLatin1 -/
def k14 : Class := { plain "java/lang/StringLatin1" (some 0) with
  accessFlags := 48
  interfaces := #[]
  cf := some (fileOf pool14 14 #[.nestMembers #[390, 221]] #[{ accessFlags := 0, nameIndex := 7, descriptorIndex := 8, attributes := #[] }, { accessFlags := 9, nameIndex := 281, descriptorIndex := 282, attributes := #[] }] 48 4 #[] #[{ accessFlags := 4120, nameIndex := 121, descriptorIndex := 122, attributes := #[] }])
  fields := #[{ name := "$assertionsDisabled", type := .boolean, accessFlags := 4120, slot := 0, constantValue := 0 }]
  methods := #[k14m0, k14m1]
  instanceTypes := #[]
  staticTypes := #[.boolean]
  resolved := Array.replicate 395 none
  statics := none }

def pool15 : Array CpInfo := pool [(2, .class_ 4), (1, u "java/lang/Object"), (0, u "<init>"), (0, u "()V"), (17, .class_ 26), (1, u "jdk/internal/util/Preconditions"), (28, .class_ 56), (0, u "jdk/internal/util/Preconditions$4"), (57, .class_ 115), (0, u "jdk/internal/util/Preconditions$1"), (7, u "SIOOBE_FORMATTER"), (0, u "Ljava/util/function/BiFunction;"), (0, .class_ 126), (0, u "jdk/internal/util/Preconditions$2"), (3, u "AIOOBE_FORMATTER"), (0, .class_ 132), (0, u "jdk/internal/util/Preconditions$3"), (3, u "IOOBE_FORMATTER")] 57

def k15m0 : Method := { name := "<init>", desc := "()V", sig := { parameters := [], returnType := none }, accessFlags := 1, code := none }
/-- jdk/internal/util/Preconditions -/
def k15 : Class := { plain "jdk/internal/util/Preconditions" (some 0) with
  accessFlags := 33
  interfaces := #[]
  cf := some (fileOf pool15 24 #[.nestMembers #[55, 131, 125, 114]] #[{ accessFlags := 1, nameIndex := 5, descriptorIndex := 6, attributes := #[] }] 33 2 #[] #[{ accessFlags := 25, nameIndex := 123, descriptorIndex := 124, attributes := #[] }, { accessFlags := 25, nameIndex := 130, descriptorIndex := 124, attributes := #[] }, { accessFlags := 25, nameIndex := 136, descriptorIndex := 124, attributes := #[] }])
  fields := #[{ name := "SIOOBE_FORMATTER", type := (.object "java/util/function/BiFunction"), accessFlags := 25, slot := 0, constantValue := 0 }, { name := "AIOOBE_FORMATTER", type := (.object "java/util/function/BiFunction"), accessFlags := 25, slot := 1, constantValue := 0 }, { name := "IOOBE_FORMATTER", type := (.object "java/util/function/BiFunction"), accessFlags := 25, slot := 2, constantValue := 0 }]
  methods := #[k15m0]
  instanceTypes := #[]
  staticTypes := #[(.object "java/util/function/BiFunction"), (.object "java/util/function/BiFunction"), (.object "java/util/function/BiFunction")]
  resolved := Array.replicate 194 none
  statics := some 2 }

def pool16 : Array CpInfo := pool [(9, u "<init>"), (6, .class_ 18), (1, u "java/lang/Object"), (0, u "()V"), (1, .class_ 23), (1, u "jdk/internal/util/ArraysSupport"), (0, u "LOG2_ARRAY_LONG_INDEX_SCALE"), (0, u "I"), (2, u "U"), (0, u "Ljdk/internal/misc/Unsafe;"), (8, u "BIG_ENDIAN"), (0, u "Z"), (8, u "LOG2_BYTE_BIT_SIZE"), (4, u "LOG2_ARRAY_INT_INDEX_SCALE"), (54, u "JLA"), (0, u "Ljdk/internal/access/JavaLangAccess;"), (11, u "LOG2_ARRAY_BOOLEAN_INDEX_SCALE"), (9, u "LOG2_ARRAY_BYTE_INDEX_SCALE"), (5, u "LOG2_ARRAY_CHAR_INDEX_SCALE"), (5, u "LOG2_ARRAY_SHORT_INDEX_SCALE"), (18, u "LOG2_ARRAY_FLOAT_INDEX_SCALE"), (24, u "LOG2_ARRAY_DOUBLE_INDEX_SCALE"), (89, u "T_BOOLEAN"), (2, u "T_CHAR"), (1, u "T_FLOAT"), (1, u "T_DOUBLE"), (1, u "T_BYTE"), (1, u "T_SHORT"), (1, u "T_INT"), (1, u "T_LONG"), (1, u "SOFT_MAX_ARRAY_LENGTH")] 83

def k16m0 : Method := { name := "<init>", desc := "()V", sig := { parameters := [], returnType := none }, accessFlags := 2, code := none }
/-- jdk/internal/util/ArraysSupport -/
def k16 : Class := { plain "jdk/internal/util/ArraysSupport" (some 0) with
  accessFlags := 33
  interfaces := #[]
  cf := some (fileOf pool16 21 #[] #[{ accessFlags := 2, nameIndex := 9, descriptorIndex := 19, attributes := #[] }] 33 16 #[] #[{ accessFlags := 24, nameIndex := 28, descriptorIndex := 29, attributes := #[] }, { accessFlags := 26, nameIndex := 38, descriptorIndex := 39, attributes := #[] }, { accessFlags := 25, nameIndex := 121, descriptorIndex := 25, attributes := #[] }, { accessFlags := 25, nameIndex := 131, descriptorIndex := 25, attributes := #[] }, { accessFlags := 25, nameIndex := 137, descriptorIndex := 25, attributes := #[] }, { accessFlags := 25, nameIndex := 143, descriptorIndex := 25, attributes := #[] }, { accessFlags := 25, nameIndex := 53, descriptorIndex := 25, attributes := #[] }, { accessFlags := 25, nameIndex := 24, descriptorIndex := 25, attributes := #[] }, { accessFlags := 25, nameIndex := 162, descriptorIndex := 25, attributes := #[] }, { accessFlags := 25, nameIndex := 187, descriptorIndex := 25, attributes := #[] }, { accessFlags := 26, nameIndex := 48, descriptorIndex := 25, attributes := #[] }, { accessFlags := 25, nameIndex := 277, descriptorIndex := 25, attributes := #[] }, { accessFlags := 25, nameIndex := 280, descriptorIndex := 25, attributes := #[] }, { accessFlags := 25, nameIndex := 282, descriptorIndex := 25, attributes := #[] }, { accessFlags := 25, nameIndex := 284, descriptorIndex := 25, attributes := #[] }, { accessFlags := 25, nameIndex := 286, descriptorIndex := 25, attributes := #[] }, { accessFlags := 25, nameIndex := 288, descriptorIndex := 25, attributes := #[] }, { accessFlags := 25, nameIndex := 290, descriptorIndex := 25, attributes := #[] }, { accessFlags := 25, nameIndex := 292, descriptorIndex := 25, attributes := #[] }, { accessFlags := 26, nameIndex := 108, descriptorIndex := 109, attributes := #[] }, { accessFlags := 25, nameIndex := 294, descriptorIndex := 25, attributes := #[] }])
  fields := #[{ name := "U", type := (.object "jdk/internal/misc/Unsafe"), accessFlags := 24, slot := 0, constantValue := 0 }, { name := "BIG_ENDIAN", type := .boolean, accessFlags := 26, slot := 1, constantValue := 0 }, { name := "LOG2_ARRAY_BOOLEAN_INDEX_SCALE", type := .int, accessFlags := 25, slot := 2, constantValue := 0 }, { name := "LOG2_ARRAY_BYTE_INDEX_SCALE", type := .int, accessFlags := 25, slot := 3, constantValue := 0 }, { name := "LOG2_ARRAY_CHAR_INDEX_SCALE", type := .int, accessFlags := 25, slot := 4, constantValue := 0 }, { name := "LOG2_ARRAY_SHORT_INDEX_SCALE", type := .int, accessFlags := 25, slot := 5, constantValue := 0 }, { name := "LOG2_ARRAY_INT_INDEX_SCALE", type := .int, accessFlags := 25, slot := 6, constantValue := 0 }, { name := "LOG2_ARRAY_LONG_INDEX_SCALE", type := .int, accessFlags := 25, slot := 7, constantValue := 0 }, { name := "LOG2_ARRAY_FLOAT_INDEX_SCALE", type := .int, accessFlags := 25, slot := 8, constantValue := 0 }, { name := "LOG2_ARRAY_DOUBLE_INDEX_SCALE", type := .int, accessFlags := 25, slot := 9, constantValue := 0 }, { name := "LOG2_BYTE_BIT_SIZE", type := .int, accessFlags := 26, slot := 10, constantValue := 0 }, { name := "T_BOOLEAN", type := .int, accessFlags := 25, slot := 11, constantValue := 0 }, { name := "T_CHAR", type := .int, accessFlags := 25, slot := 12, constantValue := 0 }, { name := "T_FLOAT", type := .int, accessFlags := 25, slot := 13, constantValue := 0 }, { name := "T_DOUBLE", type := .int, accessFlags := 25, slot := 14, constantValue := 0 }, { name := "T_BYTE", type := .int, accessFlags := 25, slot := 15, constantValue := 0 }, { name := "T_SHORT", type := .int, accessFlags := 25, slot := 16, constantValue := 0 }, { name := "T_INT", type := .int, accessFlags := 25, slot := 17, constantValue := 0 }, { name := "T_LONG", type := .int, accessFlags := 25, slot := 18, constantValue := 0 }, { name := "JLA", type := (.object "jdk/internal/access/JavaLangAccess"), accessFlags := 26, slot := 19, constantValue := 0 }, { name := "SOFT_MAX_ARRAY_LENGTH", type := .int, accessFlags := 25, slot := 20, constantValue := 0 }]
  methods := #[k16m0]
  instanceTypes := #[]
  staticTypes := #[(.object "jdk/internal/misc/Unsafe"), .boolean, .int, .int, .int, .int, .int, .int, .int, .int, .int, .int, .int, .int, .int, .int, .int, .int, .int, (.object "jdk/internal/access/JavaLangAccess"), .int]
  resolved := Array.replicate 378 none
  statics := none }

def pool17 : Array CpInfo := pool [(1, u "java/lang/Cloneable"), (0, .class_ 1), (0, u "java/lang/Object"), (0, .class_ 3)] 3

/-- java/lang/Cloneable -/
def k17 : Class := { plain "java/lang/Cloneable" (some 0) with
  accessFlags := 1537
  interfaces := #[]
  cf := some (fileOf pool17 2 #[] #[] 1537 4 #[] #[])
  fields := #[]
  methods := #[]
  instanceTypes := #[]
  staticTypes := #[]
  resolved := Array.replicate 8 none
  statics := none }

/-- the primitive byte -/
def k18 : Class := { plain "byte" none with kind := .primitive 'B', accessFlags := 0x411 }
/-- [B -/
def k19 : Class := { plain "[B" (some 0) with kind := .array 18 .byte, interfaces := #[17, 3], accessFlags := 1041 }

/-- the primitive char -/
def k20 : Class := { plain "char" none with kind := .primitive 'C', accessFlags := 0x411 }
/-- [C -/
def k21 : Class := { plain "[C" (some 0) with kind := .array 20 .char, interfaces := #[17, 3], accessFlags := 1041 }

/-- the primitive int -/
def k22 : Class := { plain "int" none with kind := .primitive 'I', accessFlags := 0x411 }
/-- [I -/
def k23 : Class := { plain "[I" (some 0) with kind := .array 22 .int, interfaces := #[17, 3], accessFlags := 1041 }

/-- [Ljava/lang/Integer; -/
def k24 : Class := { plain "[Ljava/lang/Integer;" (some 0) with kind := .array 10 (.object "java/lang/Integer"), interfaces := #[17, 3], accessFlags := 1041 }

def heap : Heap := #[{ cls := 8, slots := #[.long 0, .int 1, .null, .int 0, .null, .int 0, .int 0], vm := .statics 8 },
  { cls := 11, slots := #[.int 0, .int 127, .ref 3, .null, .int 0], vm := .statics 11 },
  { cls := 15, slots := #[.null, .null, .null], vm := .statics 15 },
  { cls := 24, slots := #[.ref 4, .ref 5, .ref 6, .ref 7, .ref 8, .ref 9, .ref 10, .ref 11, .ref 12, .ref 13, .ref 14, .ref 15, .ref 16, .ref 17, .ref 18, .ref 19, .ref 20, .ref 21, .ref 22, .ref 23, .ref 24, .ref 25, .ref 26, .ref 27, .ref 28, .ref 29, .ref 30, .ref 31, .ref 32, .ref 33, .ref 34, .ref 35, .ref 36, .ref 37, .ref 38, .ref 39, .ref 40, .ref 41, .ref 42, .ref 43, .ref 44, .ref 45, .ref 46, .ref 47, .ref 48, .ref 49, .ref 50, .ref 51, .ref 52, .ref 53, .ref 54, .ref 55, .ref 56, .ref 57, .ref 58, .ref 59, .ref 60, .ref 61, .ref 62, .ref 63, .ref 64, .ref 65, .ref 66, .ref 67, .ref 68, .ref 69, .ref 70, .ref 71, .ref 72, .ref 73, .ref 74, .ref 75, .ref 76, .ref 77, .ref 78, .ref 79, .ref 80, .ref 81, .ref 82, .ref 83, .ref 84, .ref 85, .ref 86, .ref 87, .ref 88, .ref 89, .ref 90, .ref 91, .ref 92, .ref 93, .ref 94, .ref 95, .ref 96, .ref 97, .ref 98, .ref 99, .ref 100, .ref 101, .ref 102, .ref 103, .ref 104, .ref 105, .ref 106, .ref 107, .ref 108, .ref 109, .ref 110, .ref 111, .ref 112, .ref 113, .ref 114, .ref 115, .ref 116, .ref 117, .ref 118, .ref 119, .ref 120, .ref 121, .ref 122, .ref 123, .ref 124, .ref 125, .ref 126, .ref 127, .ref 128, .ref 129, .ref 130, .ref 131, .ref 132, .ref 133, .ref 134, .ref 135, .ref 136, .ref 137, .ref 138, .ref 139, .ref 140, .ref 141, .ref 142, .ref 143, .ref 144, .ref 145, .ref 146, .ref 147, .ref 148, .ref 149, .ref 150, .ref 151, .ref 152, .ref 153, .ref 154, .ref 155, .ref 156, .ref 157, .ref 158, .ref 159, .ref 160, .ref 161, .ref 162, .ref 163, .ref 164, .ref 165, .ref 166, .ref 167, .ref 168, .ref 169, .ref 170, .ref 171, .ref 172, .ref 173, .ref 174, .ref 175, .ref 176, .ref 177, .ref 178, .ref 179, .ref 180, .ref 181, .ref 182, .ref 183, .ref 184, .ref 185, .ref 186, .ref 187, .ref 188, .ref 189, .ref 190, .ref 191, .ref 192, .ref 193, .ref 194, .ref 195, .ref 196, .ref 197, .ref 198, .ref 199, .ref 200, .ref 201, .ref 202, .ref 203, .ref 204, .ref 205, .ref 206, .ref 207, .ref 208, .ref 209, .ref 210, .ref 211, .ref 212, .ref 213, .ref 214, .ref 215, .ref 216, .ref 217, .ref 218, .ref 219, .ref 220, .ref 221, .ref 222, .ref 223, .ref 224, .ref 225, .ref 226, .ref 227, .ref 228, .ref 229, .ref 230, .ref 231, .ref 232, .ref 233, .ref 234, .ref 235, .ref 236, .ref 237, .ref 238, .ref 239, .ref 240, .ref 241, .ref 242, .ref 243, .ref 244, .ref 245, .ref 246, .ref 247, .ref 248, .ref 249, .ref 250, .ref 251, .ref 252, .ref 253, .ref 254, .ref 255, .ref 256, .ref 257, .ref 258, .ref 259], vm := .none },
  { cls := 10, slots := #[.int (-128)], vm := .none },
  { cls := 10, slots := #[.int (-127)], vm := .none },
  { cls := 10, slots := #[.int (-126)], vm := .none },
  { cls := 10, slots := #[.int (-125)], vm := .none },
  { cls := 10, slots := #[.int (-124)], vm := .none },
  { cls := 10, slots := #[.int (-123)], vm := .none },
  { cls := 10, slots := #[.int (-122)], vm := .none },
  { cls := 10, slots := #[.int (-121)], vm := .none },
  { cls := 10, slots := #[.int (-120)], vm := .none },
  { cls := 10, slots := #[.int (-119)], vm := .none },
  { cls := 10, slots := #[.int (-118)], vm := .none },
  { cls := 10, slots := #[.int (-117)], vm := .none },
  { cls := 10, slots := #[.int (-116)], vm := .none },
  { cls := 10, slots := #[.int (-115)], vm := .none },
  { cls := 10, slots := #[.int (-114)], vm := .none },
  { cls := 10, slots := #[.int (-113)], vm := .none },
  { cls := 10, slots := #[.int (-112)], vm := .none },
  { cls := 10, slots := #[.int (-111)], vm := .none },
  { cls := 10, slots := #[.int (-110)], vm := .none },
  { cls := 10, slots := #[.int (-109)], vm := .none },
  { cls := 10, slots := #[.int (-108)], vm := .none },
  { cls := 10, slots := #[.int (-107)], vm := .none },
  { cls := 10, slots := #[.int (-106)], vm := .none },
  { cls := 10, slots := #[.int (-105)], vm := .none },
  { cls := 10, slots := #[.int (-104)], vm := .none },
  { cls := 10, slots := #[.int (-103)], vm := .none },
  { cls := 10, slots := #[.int (-102)], vm := .none },
  { cls := 10, slots := #[.int (-101)], vm := .none },
  { cls := 10, slots := #[.int (-100)], vm := .none },
  { cls := 10, slots := #[.int (-99)], vm := .none },
  { cls := 10, slots := #[.int (-98)], vm := .none },
  { cls := 10, slots := #[.int (-97)], vm := .none },
  { cls := 10, slots := #[.int (-96)], vm := .none },
  { cls := 10, slots := #[.int (-95)], vm := .none },
  { cls := 10, slots := #[.int (-94)], vm := .none },
  { cls := 10, slots := #[.int (-93)], vm := .none },
  { cls := 10, slots := #[.int (-92)], vm := .none },
  { cls := 10, slots := #[.int (-91)], vm := .none },
  { cls := 10, slots := #[.int (-90)], vm := .none },
  { cls := 10, slots := #[.int (-89)], vm := .none },
  { cls := 10, slots := #[.int (-88)], vm := .none },
  { cls := 10, slots := #[.int (-87)], vm := .none },
  { cls := 10, slots := #[.int (-86)], vm := .none },
  { cls := 10, slots := #[.int (-85)], vm := .none },
  { cls := 10, slots := #[.int (-84)], vm := .none },
  { cls := 10, slots := #[.int (-83)], vm := .none },
  { cls := 10, slots := #[.int (-82)], vm := .none },
  { cls := 10, slots := #[.int (-81)], vm := .none },
  { cls := 10, slots := #[.int (-80)], vm := .none },
  { cls := 10, slots := #[.int (-79)], vm := .none },
  { cls := 10, slots := #[.int (-78)], vm := .none },
  { cls := 10, slots := #[.int (-77)], vm := .none },
  { cls := 10, slots := #[.int (-76)], vm := .none },
  { cls := 10, slots := #[.int (-75)], vm := .none },
  { cls := 10, slots := #[.int (-74)], vm := .none },
  { cls := 10, slots := #[.int (-73)], vm := .none },
  { cls := 10, slots := #[.int (-72)], vm := .none },
  { cls := 10, slots := #[.int (-71)], vm := .none },
  { cls := 10, slots := #[.int (-70)], vm := .none },
  { cls := 10, slots := #[.int (-69)], vm := .none },
  { cls := 10, slots := #[.int (-68)], vm := .none },
  { cls := 10, slots := #[.int (-67)], vm := .none },
  { cls := 10, slots := #[.int (-66)], vm := .none },
  { cls := 10, slots := #[.int (-65)], vm := .none },
  { cls := 10, slots := #[.int (-64)], vm := .none },
  { cls := 10, slots := #[.int (-63)], vm := .none },
  { cls := 10, slots := #[.int (-62)], vm := .none },
  { cls := 10, slots := #[.int (-61)], vm := .none },
  { cls := 10, slots := #[.int (-60)], vm := .none },
  { cls := 10, slots := #[.int (-59)], vm := .none },
  { cls := 10, slots := #[.int (-58)], vm := .none },
  { cls := 10, slots := #[.int (-57)], vm := .none },
  { cls := 10, slots := #[.int (-56)], vm := .none },
  { cls := 10, slots := #[.int (-55)], vm := .none },
  { cls := 10, slots := #[.int (-54)], vm := .none },
  { cls := 10, slots := #[.int (-53)], vm := .none },
  { cls := 10, slots := #[.int (-52)], vm := .none },
  { cls := 10, slots := #[.int (-51)], vm := .none },
  { cls := 10, slots := #[.int (-50)], vm := .none },
  { cls := 10, slots := #[.int (-49)], vm := .none },
  { cls := 10, slots := #[.int (-48)], vm := .none },
  { cls := 10, slots := #[.int (-47)], vm := .none },
  { cls := 10, slots := #[.int (-46)], vm := .none },
  { cls := 10, slots := #[.int (-45)], vm := .none },
  { cls := 10, slots := #[.int (-44)], vm := .none },
  { cls := 10, slots := #[.int (-43)], vm := .none },
  { cls := 10, slots := #[.int (-42)], vm := .none },
  { cls := 10, slots := #[.int (-41)], vm := .none },
  { cls := 10, slots := #[.int (-40)], vm := .none },
  { cls := 10, slots := #[.int (-39)], vm := .none },
  { cls := 10, slots := #[.int (-38)], vm := .none },
  { cls := 10, slots := #[.int (-37)], vm := .none },
  { cls := 10, slots := #[.int (-36)], vm := .none },
  { cls := 10, slots := #[.int (-35)], vm := .none },
  { cls := 10, slots := #[.int (-34)], vm := .none },
  { cls := 10, slots := #[.int (-33)], vm := .none },
  { cls := 10, slots := #[.int (-32)], vm := .none },
  { cls := 10, slots := #[.int (-31)], vm := .none },
  { cls := 10, slots := #[.int (-30)], vm := .none },
  { cls := 10, slots := #[.int (-29)], vm := .none },
  { cls := 10, slots := #[.int (-28)], vm := .none },
  { cls := 10, slots := #[.int (-27)], vm := .none },
  { cls := 10, slots := #[.int (-26)], vm := .none },
  { cls := 10, slots := #[.int (-25)], vm := .none },
  { cls := 10, slots := #[.int (-24)], vm := .none },
  { cls := 10, slots := #[.int (-23)], vm := .none },
  { cls := 10, slots := #[.int (-22)], vm := .none },
  { cls := 10, slots := #[.int (-21)], vm := .none },
  { cls := 10, slots := #[.int (-20)], vm := .none },
  { cls := 10, slots := #[.int (-19)], vm := .none },
  { cls := 10, slots := #[.int (-18)], vm := .none },
  { cls := 10, slots := #[.int (-17)], vm := .none },
  { cls := 10, slots := #[.int (-16)], vm := .none },
  { cls := 10, slots := #[.int (-15)], vm := .none },
  { cls := 10, slots := #[.int (-14)], vm := .none },
  { cls := 10, slots := #[.int (-13)], vm := .none },
  { cls := 10, slots := #[.int (-12)], vm := .none },
  { cls := 10, slots := #[.int (-11)], vm := .none },
  { cls := 10, slots := #[.int (-10)], vm := .none },
  { cls := 10, slots := #[.int (-9)], vm := .none },
  { cls := 10, slots := #[.int (-8)], vm := .none },
  { cls := 10, slots := #[.int (-7)], vm := .none },
  { cls := 10, slots := #[.int (-6)], vm := .none },
  { cls := 10, slots := #[.int (-5)], vm := .none },
  { cls := 10, slots := #[.int (-4)], vm := .none },
  { cls := 10, slots := #[.int (-3)], vm := .none },
  { cls := 10, slots := #[.int (-2)], vm := .none },
  { cls := 10, slots := #[.int (-1)], vm := .none },
  { cls := 10, slots := #[.int 0], vm := .none },
  { cls := 10, slots := #[.int 1], vm := .none },
  { cls := 10, slots := #[.int 2], vm := .none },
  { cls := 10, slots := #[.int 3], vm := .none },
  { cls := 10, slots := #[.int 4], vm := .none },
  { cls := 10, slots := #[.int 5], vm := .none },
  { cls := 10, slots := #[.int 6], vm := .none },
  { cls := 10, slots := #[.int 7], vm := .none },
  { cls := 10, slots := #[.int 8], vm := .none },
  { cls := 10, slots := #[.int 9], vm := .none },
  { cls := 10, slots := #[.int 10], vm := .none },
  { cls := 10, slots := #[.int 11], vm := .none },
  { cls := 10, slots := #[.int 12], vm := .none },
  { cls := 10, slots := #[.int 13], vm := .none },
  { cls := 10, slots := #[.int 14], vm := .none },
  { cls := 10, slots := #[.int 15], vm := .none },
  { cls := 10, slots := #[.int 16], vm := .none },
  { cls := 10, slots := #[.int 17], vm := .none },
  { cls := 10, slots := #[.int 18], vm := .none },
  { cls := 10, slots := #[.int 19], vm := .none },
  { cls := 10, slots := #[.int 20], vm := .none },
  { cls := 10, slots := #[.int 21], vm := .none },
  { cls := 10, slots := #[.int 22], vm := .none },
  { cls := 10, slots := #[.int 23], vm := .none },
  { cls := 10, slots := #[.int 24], vm := .none },
  { cls := 10, slots := #[.int 25], vm := .none },
  { cls := 10, slots := #[.int 26], vm := .none },
  { cls := 10, slots := #[.int 27], vm := .none },
  { cls := 10, slots := #[.int 28], vm := .none },
  { cls := 10, slots := #[.int 29], vm := .none },
  { cls := 10, slots := #[.int 30], vm := .none },
  { cls := 10, slots := #[.int 31], vm := .none },
  { cls := 10, slots := #[.int 32], vm := .none },
  { cls := 10, slots := #[.int 33], vm := .none },
  { cls := 10, slots := #[.int 34], vm := .none },
  { cls := 10, slots := #[.int 35], vm := .none },
  { cls := 10, slots := #[.int 36], vm := .none },
  { cls := 10, slots := #[.int 37], vm := .none },
  { cls := 10, slots := #[.int 38], vm := .none },
  { cls := 10, slots := #[.int 39], vm := .none },
  { cls := 10, slots := #[.int 40], vm := .none },
  { cls := 10, slots := #[.int 41], vm := .none },
  { cls := 10, slots := #[.int 42], vm := .none },
  { cls := 10, slots := #[.int 43], vm := .none },
  { cls := 10, slots := #[.int 44], vm := .none },
  { cls := 10, slots := #[.int 45], vm := .none },
  { cls := 10, slots := #[.int 46], vm := .none },
  { cls := 10, slots := #[.int 47], vm := .none },
  { cls := 10, slots := #[.int 48], vm := .none },
  { cls := 10, slots := #[.int 49], vm := .none },
  { cls := 10, slots := #[.int 50], vm := .none },
  { cls := 10, slots := #[.int 51], vm := .none },
  { cls := 10, slots := #[.int 52], vm := .none },
  { cls := 10, slots := #[.int 53], vm := .none },
  { cls := 10, slots := #[.int 54], vm := .none },
  { cls := 10, slots := #[.int 55], vm := .none },
  { cls := 10, slots := #[.int 56], vm := .none },
  { cls := 10, slots := #[.int 57], vm := .none },
  { cls := 10, slots := #[.int 58], vm := .none },
  { cls := 10, slots := #[.int 59], vm := .none },
  { cls := 10, slots := #[.int 60], vm := .none },
  { cls := 10, slots := #[.int 61], vm := .none },
  { cls := 10, slots := #[.int 62], vm := .none },
  { cls := 10, slots := #[.int 63], vm := .none },
  { cls := 10, slots := #[.int 64], vm := .none },
  { cls := 10, slots := #[.int 65], vm := .none },
  { cls := 10, slots := #[.int 66], vm := .none },
  { cls := 10, slots := #[.int 67], vm := .none },
  { cls := 10, slots := #[.int 68], vm := .none },
  { cls := 10, slots := #[.int 69], vm := .none },
  { cls := 10, slots := #[.int 70], vm := .none },
  { cls := 10, slots := #[.int 71], vm := .none },
  { cls := 10, slots := #[.int 72], vm := .none },
  { cls := 10, slots := #[.int 73], vm := .none },
  { cls := 10, slots := #[.int 74], vm := .none },
  { cls := 10, slots := #[.int 75], vm := .none },
  { cls := 10, slots := #[.int 76], vm := .none },
  { cls := 10, slots := #[.int 77], vm := .none },
  { cls := 10, slots := #[.int 78], vm := .none },
  { cls := 10, slots := #[.int 79], vm := .none },
  { cls := 10, slots := #[.int 80], vm := .none },
  { cls := 10, slots := #[.int 81], vm := .none },
  { cls := 10, slots := #[.int 82], vm := .none },
  { cls := 10, slots := #[.int 83], vm := .none },
  { cls := 10, slots := #[.int 84], vm := .none },
  { cls := 10, slots := #[.int 85], vm := .none },
  { cls := 10, slots := #[.int 86], vm := .none },
  { cls := 10, slots := #[.int 87], vm := .none },
  { cls := 10, slots := #[.int 88], vm := .none },
  { cls := 10, slots := #[.int 89], vm := .none },
  { cls := 10, slots := #[.int 90], vm := .none },
  { cls := 10, slots := #[.int 91], vm := .none },
  { cls := 10, slots := #[.int 92], vm := .none },
  { cls := 10, slots := #[.int 93], vm := .none },
  { cls := 10, slots := #[.int 94], vm := .none },
  { cls := 10, slots := #[.int 95], vm := .none },
  { cls := 10, slots := #[.int 96], vm := .none },
  { cls := 10, slots := #[.int 97], vm := .none },
  { cls := 10, slots := #[.int 98], vm := .none },
  { cls := 10, slots := #[.int 99], vm := .none },
  { cls := 10, slots := #[.int 100], vm := .none },
  { cls := 10, slots := #[.int 101], vm := .none },
  { cls := 10, slots := #[.int 102], vm := .none },
  { cls := 10, slots := #[.int 103], vm := .none },
  { cls := 10, slots := #[.int 104], vm := .none },
  { cls := 10, slots := #[.int 105], vm := .none },
  { cls := 10, slots := #[.int 106], vm := .none },
  { cls := 10, slots := #[.int 107], vm := .none },
  { cls := 10, slots := #[.int 108], vm := .none },
  { cls := 10, slots := #[.int 109], vm := .none },
  { cls := 10, slots := #[.int 110], vm := .none },
  { cls := 10, slots := #[.int 111], vm := .none },
  { cls := 10, slots := #[.int 112], vm := .none },
  { cls := 10, slots := #[.int 113], vm := .none },
  { cls := 10, slots := #[.int 114], vm := .none },
  { cls := 10, slots := #[.int 115], vm := .none },
  { cls := 10, slots := #[.int 116], vm := .none },
  { cls := 10, slots := #[.int 117], vm := .none },
  { cls := 10, slots := #[.int 118], vm := .none },
  { cls := 10, slots := #[.int 119], vm := .none },
  { cls := 10, slots := #[.int 120], vm := .none },
  { cls := 10, slots := #[.int 121], vm := .none },
  { cls := 10, slots := #[.int 122], vm := .none },
  { cls := 10, slots := #[.int 123], vm := .none },
  { cls := 10, slots := #[.int 124], vm := .none },
  { cls := 10, slots := #[.int 125], vm := .none },
  { cls := 10, slots := #[.int 126], vm := .none },
  { cls := 10, slots := #[.int 127], vm := .none }]
def classes : Array Class := #[k0, k1, k2, k3, k4, k5, k6, k7, k8, k9, k10, k11, k12, k13, k14, k15, k16, k17, k18, k19, k20, k21, k22, k23, k24]
def interned : List (Array UInt16 × Addr) := []
def slotsUsed : Nat := 527
def theMethod : MethodId := ⟨1, 3⟩
def args0 : Array Value := #[.int 5, .int 5, .int 5, .int 5, .int 5]
def aboutOver (below : List Frame) : State where
  vm := { classes := classes, interned := interned.toArray }
  heap := heap
  slotsUsed := slotsUsed
  threads := #[{ frames := .invoking theMethod args0 :: below }]
def below0 : List Frame := [.native { method := ⟨0, 0⟩, args := #[] }]
def about1 : State := aboutOver below0
def p0 : Program := .bare "" "" ""
def e0 : Env := launch0.env 0 0 0
theorem w_frames : about1.frames = Frame.invoking theMethod args0 :: below0 := rfl
set_option maxRecDepth 65536 in
theorem w_args : argsFit about1.vm theMethod args0 = true := by decide +kernel
set_option maxRecDepth 65536 in
theorem w_heap : heapFits about1 = true := by decide +kernel
set_option maxRecDepth 65536 in
theorem w_runnable : about1.curStatus? = some .runnable := by decide +kernel
set_option maxRecDepth 65536 in
theorem w_alone : about1.alone = true := by decide +kernel
set_option maxRecDepth 65536 in
theorem w_named : about1.methodNamed? x = some theMethod := by decide +kernel
set_option maxRecDepth 65536 in
theorem w_hears : about1.hears theMethod below0 = true := by decide +kernel
set_option maxRecDepth 65536 in
theorem w_ripe : about1.ripe theMethod args0 below0 = true := by decide +kernel
theorem w_running : about1.status = .running := rfl
set_option maxRecDepth 65536 in
theorem w_room : about1.hasRoom e0.platform room_1 = true :=
  launch0.hasRoom_least _ room_1 (by decide +kernel) (by decide +kernel) (by decide +kernel) (by decide +kernel) (by decide +kernel) (by decide +kernel)
theorem allAtoms_all (ts : List Jvm.Cond) (a : Array Jvm.Value) (st : Jvm.State) : (allAtoms ts).before a st = ts.all (fun c => c.before a st) := by
  induction ts with
  | nil => rfl
  | cons c t ih =>
    show (Jvm.Cond.and c (allAtoms t)).before a st = _
    rw [Jvm.Cond.before_and, ih, List.all_cons]
def words1 : List Jvm.Cond := Jvm.Cond.code x code maxLocals ret :: tables_1
/-- a 'code' word, met by the world's own term for the bytes: nothing is compared byte by byte -/
theorem code_word {y : MethodName} {bytes : ByteArray} {mx : Nat} {rt : Option FieldType} {a : Array Value} {s : State} {m : MethodId} {meth : Method} {c : Code} (h1 : s.methodNamed? y = some m) (h2 : s.vm.method? m = some meth) (h3 : meth.code = some c) (h4 : c.code = bytes)
    (h5 : (c.maxLocals == mx && c.exceptionTable.isEmpty && decide (c.maxStack ≤ mostOperands) && decide (meth.sig.returnType = rt) && !meth.locks && decide (parseMethodDescriptor y.desc = some meth.sig)) = true) : (Jvm.Cond.code y bytes mx rt).before a s = true := by
  simp only [Bool.and_eq_true, beq_iff_eq, Bool.not_eq_true', decide_eq_true_eq] at h5
  obtain ⟨⟨⟨⟨⟨g1, g2⟩, g3⟩, g4⟩, g5⟩, g6⟩ := h5
  simp [Cond.before, Cond.holds, Cond.value, h1, h2, h3, h4, g1, g2, g3, g4, g5, g6]
def isCode : Jvm.Cond → Bool
  | .code _ _ _ _ => true
  | _ => false
theorem all_split {L : List Jvm.Cond} {P : Jvm.Cond → Bool} (h1 : L.all (fun c => isCode c || P c) = true) (h2 : ∀ c ∈ L.filter isCode, P c = true) : L.all P = true := by
  refine List.all_eq_true.mpr fun c hc => ?_
  have h := List.all_eq_true.mp h1 c hc
  rcases Bool.eq_false_or_eq_true (isCode c) with hi | hi
  · exact h2 c (List.mem_filter.mpr ⟨hc, hi⟩)
  · simpa [hi] using h
set_option maxRecDepth 65536 in
theorem w_c0 : (Jvm.Cond.code x code maxLocals ret).before args0 about1 = true := code_word (m := ⟨1, 3⟩) (meth := k1m3) (c := k1c3) (by decide +kernel) rfl rfl rfl (by decide +kernel)
set_option maxRecDepth 65536 in
theorem w_c1 : (Jvm.Cond.code ({ cls := "com/example/rockhopper/rockhopper/model/ValidatorsEqualsPinLaw", name := "mk", desc := "(I)Ljava/lang/String;" } : Jvm.MethodName) method_2_code (3 : Nat) (Option.some (Jvm.ClassFile.FieldType.object "java/lang/String"))).before args0 about1 = true := code_word (m := ⟨1, 1⟩) (meth := k1m1) (c := k1c1) (by decide +kernel) rfl rfl rfl (by decide +kernel)
set_option maxRecDepth 65536 in
theorem w_c2 : (Jvm.Cond.code ({ cls := "java/lang/String", name := "<init>", desc := "([C)V" } : Jvm.MethodName) jdk_42_method_3_code (2 : Nat) (Option.none : Option Jvm.ClassFile.FieldType)).before args0 about1 = true := code_word (m := ⟨8, 1⟩) (meth := k8m1) (c := k8c1) (by decide +kernel) rfl rfl rfl (by decide +kernel)
set_option maxRecDepth 65536 in
theorem w_c3 : (Jvm.Cond.code ({ cls := "java/lang/String", name := "<init>", desc := "([CIILjava/lang/Void;)V" } : Jvm.MethodName) jdk_42_method_149_code (6 : Nat) (Option.none : Option Jvm.ClassFile.FieldType)).before args0 about1 = true := code_word (m := ⟨8, 3⟩) (meth := k8m3) (c := k8c3) (by decide +kernel) rfl rfl rfl (by decide +kernel)
set_option maxRecDepth 65536 in
theorem w_c4 : (Jvm.Cond.code ({ cls := "java/lang/Object", name := "<init>", desc := "()V" } : Jvm.MethodName) object_method_1_code (1 : Nat) (Option.none : Option Jvm.ClassFile.FieldType)).before args0 about1 = true := code_word (m := ⟨0, 0⟩) (meth := k0m0) (c := k0c0) (by decide +kernel) rfl rfl rfl (by decide +kernel)
set_option maxRecDepth 65536 in
theorem w_c5 : (Jvm.Cond.code ({ cls := "com/example/rockhopper/rockhopper/model/Validators", name := "<init>", desc := "(Ljava/lang/String;Ljava/lang/String;)V" } : Jvm.MethodName) prog_9_method_1_code (3 : Nat) (Option.none : Option Jvm.ClassFile.FieldType)).before args0 about1 = true := code_word (m := ⟨2, 0⟩) (meth := k2m0) (c := k2c0) (by decide +kernel) rfl rfl rfl (by decide +kernel)
set_option maxRecDepth 65536 in
theorem w_c6 : (Jvm.Cond.code ({ cls := "com/example/rockhopper/rockhopper/model/Validators", name := "equals", desc := "(Ljava/lang/Object;)Z" } : Jvm.MethodName) prog_9_method_4_code (2 : Nat) (Option.some Jvm.ClassFile.FieldType.boolean)).before args0 about1 = true := code_word (m := ⟨2, 1⟩) (meth := k2m1) (c := k2c1) (by decide +kernel) rfl rfl rfl (by decide +kernel)
set_option maxRecDepth 65536 in
theorem w_c7 : (Jvm.Cond.code ({ cls := "java/lang/Integer", name := "valueOf", desc := "(I)Ljava/lang/Integer;" } : Jvm.MethodName) jdk_33_method_22_code (1 : Nat) (Option.some (Jvm.ClassFile.FieldType.object "java/lang/Integer"))).before args0 about1 = true := code_word (m := ⟨10, 0⟩) (meth := k10m0) (c := k10c0) (by decide +kernel) rfl rfl rfl (by decide +kernel)
set_option maxRecDepth 65536 in
theorem w_c8 : (Jvm.Cond.code ({ cls := "java/util/Objects", name := "equals", desc := "(Ljava/lang/Object;Ljava/lang/Object;)Z" } : Jvm.MethodName) jdk_31_method_2_code (2 : Nat) (Option.some Jvm.ClassFile.FieldType.boolean)).before args0 about1 = true := code_word (m := ⟨12, 1⟩) (meth := k12m1) (c := k12c1) (by decide +kernel) rfl rfl rfl (by decide +kernel)
set_option maxRecDepth 65536 in
theorem w_c9 : (Jvm.Cond.code ({ cls := "java/lang/StringUTF16", name := "compress", desc := "([CII)[B" } : Jvm.MethodName) jdk_52_method_16_code (6 : Nat) (Option.some (Jvm.ClassFile.FieldType.array Jvm.ClassFile.FieldType.byte))).before args0 about1 = true := code_word (m := ⟨13, 2⟩) (meth := k13m2) (c := k13c2) (by decide +kernel) rfl rfl rfl (by decide +kernel)
set_option maxRecDepth 65536 in
theorem w_c10 : (Jvm.Cond.code ({ cls := "java/lang/StringUTF16", name := "compress", desc := "([CI[BII)I" } : Jvm.MethodName) jdk_52_method_21_code (7 : Nat) (Option.some Jvm.ClassFile.FieldType.int)).before args0 about1 = true := code_word (m := ⟨13, 3⟩) (meth := k13m3) (c := k13c3) (by decide +kernel) rfl rfl rfl (by decide +kernel)
set_option maxRecDepth 65536 in
theorem w_c11 : (Jvm.Cond.code ({ cls := "java/lang/StringUTF16", name := "coderFromArrayLen", desc := "([BI)B" } : Jvm.MethodName) jdk_52_method_15_code (2 : Nat) (Option.some Jvm.ClassFile.FieldType.byte)).before args0 about1 = true := code_word (m := ⟨13, 1⟩) (meth := k13m1) (c := k13c1) (by decide +kernel) rfl rfl rfl (by decide +kernel)
set_option maxRecDepth 65536 in
theorem w_c12 : (Jvm.Cond.code ({ cls := "com/example/rockhopper/rockhopper/model/ValidatorsEqualsPinLaw", name := "same", desc := "(II)Z" } : Jvm.MethodName) method_3_code (4 : Nat) (Option.some Jvm.ClassFile.FieldType.boolean)).before args0 about1 = true := code_word (m := ⟨1, 2⟩) (meth := k1m2) (c := k1c2) (by decide +kernel) rfl rfl rfl (by decide +kernel)
set_option maxRecDepth 65536 in
theorem w_c13 : (Jvm.Cond.code ({ cls := "java/lang/String", name := "equals", desc := "(Ljava/lang/Object;)Z" } : Jvm.MethodName) jdk_42_method_66_code (3 : Nat) (Option.some Jvm.ClassFile.FieldType.boolean)).before args0 about1 = true := code_word (m := ⟨8, 2⟩) (meth := k8m2) (c := k8c2) (by decide +kernel) rfl rfl rfl (by decide +kernel)
set_option maxRecDepth 65536 in
theorem w_c14 : (Jvm.Cond.code ({ cls := "java/lang/StringLatin1", name := "equals", desc := "([B[B)Z" } : Jvm.MethodName) jdk_43_method_13_code (3 : Nat) (Option.some Jvm.ClassFile.FieldType.boolean)).before args0 about1 = true := code_word (m := ⟨14, 1⟩) (meth := k14m1) (c := k14c1) (by decide +kernel) rfl rfl rfl (by decide +kernel)
set_option maxRecDepth 65536 in
theorem w_c15 : (Jvm.Cond.code ({ cls := "java/lang/Integer", name := "<init>", desc := "(I)V" } : Jvm.MethodName) jdk_33_method_23_code (2 : Nat) (Option.none : Option Jvm.ClassFile.FieldType)).before args0 about1 = true := code_word (m := ⟨10, 1⟩) (meth := k10m1) (c := k10c1) (by decide +kernel) rfl rfl rfl (by decide +kernel)
set_option maxRecDepth 65536 in
theorem w_c16 : (Jvm.Cond.code ({ cls := "java/lang/Number", name := "<init>", desc := "()V" } : Jvm.MethodName) jdk_18_method_1_code (1 : Nat) (Option.none : Option Jvm.ClassFile.FieldType)).before args0 about1 = true := code_word (m := ⟨9, 0⟩) (meth := k9m0) (c := k9c0) (by decide +kernel) rfl rfl rfl (by decide +kernel)
def codes1 : List Jvm.Cond := [Jvm.Cond.code x code maxLocals ret, Jvm.Cond.code ({ cls := "com/example/rockhopper/rockhopper/model/ValidatorsEqualsPinLaw", name := "mk", desc := "(I)Ljava/lang/String;" } : Jvm.MethodName) method_2_code (3 : Nat) (Option.some (Jvm.ClassFile.FieldType.object "java/lang/String")), Jvm.Cond.code ({ cls := "java/lang/String", name := "<init>", desc := "([C)V" } : Jvm.MethodName) jdk_42_method_3_code (2 : Nat) (Option.none : Option Jvm.ClassFile.FieldType), Jvm.Cond.code ({ cls := "java/lang/String", name := "<init>", desc := "([CIILjava/lang/Void;)V" } : Jvm.MethodName) jdk_42_method_149_code (6 : Nat) (Option.none : Option Jvm.ClassFile.FieldType), Jvm.Cond.code ({ cls := "java/lang/Object", name := "<init>", desc := "()V" } : Jvm.MethodName) object_method_1_code (1 : Nat) (Option.none : Option Jvm.ClassFile.FieldType), Jvm.Cond.code ({ cls := "com/example/rockhopper/rockhopper/model/Validators", name := "<init>", desc := "(Ljava/lang/String;Ljava/lang/String;)V" } : Jvm.MethodName) prog_9_method_1_code (3 : Nat) (Option.none : Option Jvm.ClassFile.FieldType), Jvm.Cond.code ({ cls := "com/example/rockhopper/rockhopper/model/Validators", name := "equals", desc := "(Ljava/lang/Object;)Z" } : Jvm.MethodName) prog_9_method_4_code (2 : Nat) (Option.some Jvm.ClassFile.FieldType.boolean), Jvm.Cond.code ({ cls := "java/lang/Integer", name := "valueOf", desc := "(I)Ljava/lang/Integer;" } : Jvm.MethodName) jdk_33_method_22_code (1 : Nat) (Option.some (Jvm.ClassFile.FieldType.object "java/lang/Integer")), Jvm.Cond.code ({ cls := "java/util/Objects", name := "equals", desc := "(Ljava/lang/Object;Ljava/lang/Object;)Z" } : Jvm.MethodName) jdk_31_method_2_code (2 : Nat) (Option.some Jvm.ClassFile.FieldType.boolean), Jvm.Cond.code ({ cls := "java/lang/StringUTF16", name := "compress", desc := "([CII)[B" } : Jvm.MethodName) jdk_52_method_16_code (6 : Nat) (Option.some (Jvm.ClassFile.FieldType.array Jvm.ClassFile.FieldType.byte)), Jvm.Cond.code ({ cls := "java/lang/StringUTF16", name := "compress", desc := "([CI[BII)I" } : Jvm.MethodName) jdk_52_method_21_code (7 : Nat) (Option.some Jvm.ClassFile.FieldType.int), Jvm.Cond.code ({ cls := "java/lang/StringUTF16", name := "coderFromArrayLen", desc := "([BI)B" } : Jvm.MethodName) jdk_52_method_15_code (2 : Nat) (Option.some Jvm.ClassFile.FieldType.byte), Jvm.Cond.code ({ cls := "com/example/rockhopper/rockhopper/model/ValidatorsEqualsPinLaw", name := "same", desc := "(II)Z" } : Jvm.MethodName) method_3_code (4 : Nat) (Option.some Jvm.ClassFile.FieldType.boolean), Jvm.Cond.code ({ cls := "java/lang/String", name := "equals", desc := "(Ljava/lang/Object;)Z" } : Jvm.MethodName) jdk_42_method_66_code (3 : Nat) (Option.some Jvm.ClassFile.FieldType.boolean), Jvm.Cond.code ({ cls := "java/lang/StringLatin1", name := "equals", desc := "([B[B)Z" } : Jvm.MethodName) jdk_43_method_13_code (3 : Nat) (Option.some Jvm.ClassFile.FieldType.boolean), Jvm.Cond.code ({ cls := "java/lang/Integer", name := "<init>", desc := "(I)V" } : Jvm.MethodName) jdk_33_method_23_code (2 : Nat) (Option.none : Option Jvm.ClassFile.FieldType), Jvm.Cond.code ({ cls := "java/lang/Number", name := "<init>", desc := "()V" } : Jvm.MethodName) jdk_18_method_1_code (1 : Nat) (Option.none : Option Jvm.ClassFile.FieldType)]
set_option maxRecDepth 65536 in
theorem codes_eq : words1.filter isCode = codes1 := rfl
theorem w_codes : ∀ c ∈ words1.filter isCode, c.before args0 about1 = true := by
  rw [codes_eq]
  intro c hc
  simp only [codes1, List.mem_cons, List.not_mem_nil, or_false] at hc
  rcases hc with rfl | rfl | rfl | rfl | rfl | rfl | rfl | rfl | rfl | rfl | rfl | rfl | rfl | rfl | rfl | rfl | rfl
  · exact w_c0
  · exact w_c1
  · exact w_c2
  · exact w_c3
  · exact w_c4
  · exact w_c5
  · exact w_c6
  · exact w_c7
  · exact w_c8
  · exact w_c9
  · exact w_c10
  · exact w_c11
  · exact w_c12
  · exact w_c13
  · exact w_c14
  · exact w_c15
  · exact w_c16
set_option maxRecDepth 65536 in
theorem w_t1 : (words1.take 24).all (fun c => isCode c || c.before args0 about1) = true := by decide +kernel
set_option maxRecDepth 65536 in
theorem w_t2 : ((words1.drop 24).take 24).all (fun c => isCode c || c.before args0 about1) = true := by decide +kernel
set_option maxRecDepth 65536 in
theorem w_t3 : (((words1.drop 24).drop 24).take 24).all (fun c => isCode c || c.before args0 about1) = true := by decide +kernel
set_option maxRecDepth 65536 in
theorem w_t4 : ((((words1.drop 24).drop 24).drop 24).take 24).all (fun c => isCode c || c.before args0 about1) = true := by decide +kernel
set_option maxRecDepth 65536 in
theorem w_t5 : ((((words1.drop 24).drop 24).drop 24).drop 24).all (fun c => isCode c || c.before args0 about1) = true := by decide +kernel
theorem w_tables : (allAtoms (Jvm.Cond.code x code maxLocals ret :: tables_1)).before args0 about1 = true := by
  rw [allAtoms_all]
  show words1.all (fun c => c.before args0 about1) = true
  refine all_split ?_ w_codes
  rw [← List.take_append_drop 24 words1, List.all_append, w_t1, ← List.take_append_drop 24 (words1.drop 24), List.all_append, w_t2, ← List.take_append_drop 24 ((words1.drop 24).drop 24), List.all_append, w_t3, ← List.take_append_drop 24 (((words1.drop 24).drop 24).drop 24), List.all_append, w_t4, w_t5]
  rfl
set_option maxRecDepth 65536 in
theorem w_rest : rest_1_c.before args0 about1 = true := by decide +kernel
set_option maxRecDepth 65536 in
theorem w_case : (Jvm.Cond.and given_1 narrow_1).before args0 about1 = true := by decide +kernel
set_option maxRecDepth 65536 in
theorem w_consts : constsHeld consts_1 about1 := Jvm.Lit.constsHeldB_iff.mp (by decide +kernel)
theorem w_applies : (headSpec (Jvm.Cond.code x code maxLocals ret :: tables_1) room_1).applies x e0.platform about1 = true :=
  (Spec.applies_iff w_frames).mpr ⟨w_running, w_runnable, w_alone, w_named, w_hears, w_ripe, w_room, w_tables⟩
theorem atStart : AtStart classFile x code maxLocals ret World_1 tables_1 room_1 Calls_1 rest_1 Pre_1 launch0 p0 e0 about1 theMethod args0 below0 :=
  ⟨lists_1, trivial, launch0.admits_env _ _ _, launch0.least_env, fairChoices_fair.cas, fairChoices_fair.clock, w_frames, w_args, w_heap, w_applies, ⟨w_consts, trivial⟩, w_rest, w_case⟩
end start1
theorem witness_1 : WitnessClaimed_1 := ⟨start1.p0, start1.e0, start1.about1, start1.theMethod, start1.args0, start1.below0, start1.atStart⟩
end Jvm.Pilot.@@N@@
