
import JvmDerived
import JvmDerived.Pilot.@@N@@Statement
import JvmDerived.Pilot.@@N@@Code
set_option linter.unusedVariables false
set_option linter.unusedSimpArgs false
namespace Jvm.RoadKit
open Sem ClassFile Op Lib Jvm.Stand Jvm.Free Jvm.LawKit
section OwnGo
variable {p : Program} {l : Launch} {e : Env} {R : Room} {s : State} {m : MethodId} {args : Array Value} {below : List Frame} {meth : Method} {c : Code} {T : State} {locs : List Loc} {cells slots kc ks : Nat} {Z : State} {a0 : Array Value} {h : Heap} {Q : Option Value → Heap → List Loc → Prop} {F0 : State → Outcome → Prop}
/-- what is left of a run from T: it ends, and F0 holds of its end -/
def Go (p : Program) (e : Env) (below : List Frame) (F0 : State → Outcome → Prop) (T : State) : Prop :=
  ∃ (U : State) (o : Outcome), Steps p.tables e below T U ∧ U.status = .running ∧ Ended U below o ∧ F0 U o
def EndN (s : State) (Q : Option Value → Heap → List Loc → Prop) (kc ks : Nat) (U : State) (o : Outcome) : Prop := ∃ v L, o = .returned v ∧ Q v U.heap L ∧ FrameEnd s o U L kc ks
theorem Go.step {T' : State} (g : ∀ t, Steps p.tables e below T' t → Steps p.tables e below T t) (k : Go p e below F0 T') : Go p e below F0 T := by
  obtain ⟨U, o, h1, r⟩ := k
  exact ⟨U, o, g _ h1, r⟩
theorem Go.cast {g g' : JFrame} (q : g = g') (k : Go p e below F0 (T.setTop g')) : Go p e below F0 (T.setTop g) := by rw [q]; exact k
/-- a body's contract: from these arguments and this heap it returns, and Q holds -/
def Ctr (l : Launch) (Z : State) (y : MethodName) (bytes : ByteArray) (maxL : Nat) (ret : Option FieldType) (rm : Room) (as : Array Value) (h : Heap) (Q : Option Value → Heap → List Loc → Prop) : Prop :=
  ∀ ws : List Jvm.Cond, MetFree l y (head1 (Jvm.Cond.code y bytes maxL ret :: ws) rm) (fun a U => a = as ∧ Z.Warmed39 U.vm ∧ U.heap = h) (fun _ _ _ _ _ => True) (fun _ U o U' => ∃ v L, o = .returned v ∧ Q v U'.heap L ∧ FrameEnd U o U' L rm.cells rm.slots)
theorem Ctr.of {y : MethodName} {bytes : ByteArray} {maxL : Nat} {ret : Option FieldType} {rm : Room} {as : Array Value} (hp : plainFor y = true)
    (body : ∀ (p : Program) (e : Env) (s : State) (m : MethodId) (below : List Frame) (meth : Method) (c : Code) (T : State), p.tables.exec = Jvm.exec → Z.Warmed39 s.vm → c.code = bytes → c.maxLocals = maxL → s.vm.findClass y.cls = some m.cls → meth.name = y.name → meth.sig.returnType = ret → meth.locks = false → T.heap = h → s.heap = h → Stand p l e rm s m as below meth c T [] 0 0 →
      Go p e below (EndN s Q rm.cells rm.slots) (T.setTop (entryFrame m as maxL))) : Ctr l Z y bytes maxL ret rm as h Q := by
  intro ws
  refine MetFree.of_bodySF hp hisR ?_
  intro p e s m args below meth c s₁ Bd hml0 hP hK
  obtain ⟨rfl, hZ, hh⟩ := hP
  exact body p e s m below meth c s₁ Bd.exec hZ Bd.bytes hml0 (findClass_of_methodNamed Bd.named) (name_of_methodNamed Bd.named Bd.method).1 Bd.returns Bd.notSynchronized (by rw [← hh, Bd.state]; rfl) hh (Stand.of_body Bd)
theorem Go.ret0 (X : Stand p l e R s m args below meth c T locs cells slots) (hx : p.tables.exec = Jvm.exec) (hlk : meth.locks = false) (hret : meth.sig.returnType = none) {pc : Nat} {Ls : Array Slot} (hd : decode c.code pc = .ok (.return_, 1)) (hc : cells ≤ kc) (hs : slots ≤ ks) (q : Q none T.heap locs) : Go p e below (EndN s Q kc ks) (T.setTop (mkF m pc Ls [])) := by
  obtain ⟨fs, hr, hrun, hended, hW, hsame⟩ := X.leave (v := none) (fun _ => rfl) hlk
  exact ⟨_, _, X.returnOut hx hret hd hr, hrun, hended, _, _, rfl, q, ⟨_, rfl⟩, hW, hsame.mono hc hs⟩
theorem Go.retV (X : Stand p l e R s m args below meth c T locs cells slots) (hx : p.tables.exec = Jvm.exec) (hlk : meth.locks = false) {t : FieldType} (hret : meth.sig.returnType = some t) {pc : Nat} {Ls : Array Slot} {v : Value} {i : Instr} {rest : List Value} (hn : narrow t v = v)
    (hi : (i = .ireturn ∧ (t = .int ∨ t = .boolean ∨ t = .byte ∨ t = .char ∨ t = .short) ∧ ∃ z, v = .int z) ∨ (i = .lreturn ∧ t = .long ∧ ∃ z, v = .long z) ∨ (i = .dreturn ∧ t = .double ∧ ∃ z, v = .double z) ∨ (i = .freturn ∧ t = .float ∧ ∃ z, v = .float z) ∨ (i = .areturn ∧ t.isReference = true ∧ v.isRef = true))
    (hd : decode c.code pc = .ok (i, 1)) (hc : cells ≤ kc) (hs : slots ≤ ks) (q : Q (some v) T.heap locs) : Go p e below (EndN s Q kc ks) (T.setTop (mkF m pc Ls (v :: rest))) := by
  obtain ⟨fs, hr, hrun, hended, hW, hsame⟩ := X.leave (v := some v) (fun h => by rw [hret] at h; cases h) hlk
  exact ⟨_, _, retOut X hx hret hn hi hd hr, hrun, hended, _, _, rfl, q, ⟨_, rfl⟩, hW, hsame.mono hc hs⟩
theorem Go.retI (X : Stand p l e R s m args below meth c T locs cells slots) (hx : p.tables.exec = Jvm.exec) (hlk : meth.locks = false) (hret : meth.sig.returnType = some .int) {pc : Nat} {Ls : Array Slot} {z : Int32} {rest : List Value} (hd : decode c.code pc = .ok (.ireturn, 1)) (hc : cells ≤ kc) (hs : slots ≤ ks) (q : Q (some (.int z)) T.heap locs) : Go p e below (EndN s Q kc ks) (T.setTop (mkF m pc Ls (.int z :: rest))) :=
  Go.retV X hx hlk hret rfl (Or.inl ⟨rfl, Or.inl rfl, _, rfl⟩) hd hc hs q
theorem Go.retR (X : Stand p l e R s m args below meth c T locs cells slots) (hx : p.tables.exec = Jvm.exec) (hlk : meth.locks = false) {t : FieldType} (hret : meth.sig.returnType = some t) (ht : t.isReference = true) {pc : Nat} {Ls : Array Slot} {v : Value} (hv : v.isRef = true) {rest : List Value} (hd : decode c.code pc = .ok (.areturn, 1)) (hc : cells ≤ kc) (hs : slots ≤ ks) (q : Q (some v) T.heap locs) : Go p e below (EndN s Q kc ks) (T.setTop (mkF m pc Ls (v :: rest))) :=
  Go.retV X hx hlk hret (by rcases ref_cases hv with rfl | ⟨z, rfl⟩ <;> cases t <;> simp [FieldType.isReference] at ht <;> rfl) (Or.inr (Or.inr (Or.inr (Or.inr ⟨rfl, ht, hv⟩)))) hd hc hs q
theorem Go.retN (X : Stand p l e R s m args below meth c T locs cells slots) (hx : p.tables.exec = Jvm.exec) (hlk : meth.locks = false) {t : FieldType} (hret : meth.sig.returnType = some t) (ht : t = .boolean ∨ t = .byte ∨ t = .char ∨ t = .short) {pc : Nat} {Ls : Array Slot} {z : Int32} {rest : List Value} (hd : decode c.code pc = .ok (.ireturn, 1)) (hc : cells ≤ kc) (hs : slots ≤ ks) (q : Q (some (.int (nar t z))) T.heap locs) : Go p e below (EndN s Q kc ks) (T.setTop (mkF m pc Ls (.int z :: rest))) := by
  obtain ⟨fs, hr, hrun, hended, hW, hsame⟩ := X.leave (v := some (.int (nar t z))) (fun h => by rw [hret] at h; cases h) hlk
  exact ⟨_, _, Jvm.RoadKit.retN X hx hret ht hd hr, hrun, hended, _, _, rfl, q, ⟨_, rfl⟩, hW, hsame.mono hc hs⟩
theorem Go.iloadN (X : Stand p l e R s m args below meth c T locs cells slots) (hx : p.tables.exec = Jvm.exec) {pc : Nat} (pc' : Nat) {Ls : Array Slot} {st : List Value} {k : Fin 4} {v : Int32} (hp : pc' = pc + 1) (hd : decode c.code pc = .ok (.iload_n k, 1)) (hl : Ls[k.val]? = some (.val (.int v))) (k : Go p e below F0 (T.setTop (mkF m pc' Ls (.int v :: st)))) : Go p e below F0 (T.setTop (mkF m pc Ls st)) := by
  subst hp
  exact Go.step (fun t kt => XS.iloadN X.here hx (g := mkF m pc Ls _) rfl hd hl kt) k
theorem Go.iload (X : Stand p l e R s m args below meth c T locs cells slots) (hx : p.tables.exec = Jvm.exec) {pc : Nat} (pc' : Nat) {Ls : Array Slot} {st : List Value} {k : Nat} {v : Int32} (hp : pc' = pc + 2) (hd : decode c.code pc = .ok (.iload k, 2)) (hl : Ls[k]? = some (.val (.int v))) (k : Go p e below F0 (T.setTop (mkF m pc' Ls (.int v :: st)))) : Go p e below F0 (T.setTop (mkF m pc Ls st)) := by
  subst hp
  exact Go.step (fun t kt => XS.iload X.here hx (g := mkF m pc Ls _) rfl hd hl kt) k
theorem Go.aloadN (X : Stand p l e R s m args below meth c T locs cells slots) (hx : p.tables.exec = Jvm.exec) {pc : Nat} (pc' : Nat) {Ls : Array Slot} {st : List Value} {k : Fin 4} {v : Value} (hp : pc' = pc + 1) (hd : decode c.code pc = .ok (.aload_n k, 1)) (hl : Ls[k.val]? = some (.val v)) (hv : v.isRef = true) (k : Go p e below F0 (T.setTop (mkF m pc' Ls (v :: st)))) : Go p e below F0 (T.setTop (mkF m pc Ls st)) := by
  subst hp
  exact Go.step (fun t kt => XS.aloadN X.here hx (g := mkF m pc Ls _) rfl hd hl hv kt) k
theorem Go.aload (X : Stand p l e R s m args below meth c T locs cells slots) (hx : p.tables.exec = Jvm.exec) {pc : Nat} (pc' : Nat) {Ls : Array Slot} {st : List Value} {k : Nat} {v : Value} (hp : pc' = pc + 2) (hd : decode c.code pc = .ok (.aload k, 2)) (hl : Ls[k]? = some (.val v)) (hv : v.isRef = true) (k : Go p e below F0 (T.setTop (mkF m pc' Ls (v :: st)))) : Go p e below F0 (T.setTop (mkF m pc Ls st)) := by
  subst hp
  exact Go.step (fun t kt => XS.aload X.here hx (g := mkF m pc Ls _) rfl hd hl hv kt) k
theorem Go.iconst (X : Stand p l e R s m args below meth c T locs cells slots) (hx : p.tables.exec = Jvm.exec) {pc : Nat} (pc' : Nat) {Ls : Array Slot} {st : List Value} {i : Int} {v : Int32} (hp : pc' = pc + 1) (hd : decode c.code pc = .ok (.iconst i, 1)) (hv : Int32.ofInt i = v) (k : Go p e below F0 (T.setTop (mkF m pc' Ls (.int v :: st)))) : Go p e below F0 (T.setTop (mkF m pc Ls st)) := by
  subst hp
  exact Go.step (fun t kt => XS.iconst X.here hx (g := mkF m pc Ls _) rfl hd (by rw [hv]; exact kt)) k
theorem Go.bipush (X : Stand p l e R s m args below meth c T locs cells slots) (hx : p.tables.exec = Jvm.exec) {pc : Nat} (pc' : Nat) {Ls : Array Slot} {st : List Value} {i : Int} {v : Int32} (hp : pc' = pc + 2) (hd : decode c.code pc = .ok (.bipush i, 2)) (hv : (Int8.ofInt i).toInt32 = v) (k : Go p e below F0 (T.setTop (mkF m pc' Ls (.int v :: st)))) : Go p e below F0 (T.setTop (mkF m pc Ls st)) := by
  subst hp
  exact Go.step (fun t kt => XS.bipush X.here hx (g := mkF m pc Ls _) rfl hd (by rw [hv]; exact kt)) k
theorem Go.sipush (X : Stand p l e R s m args below meth c T locs cells slots) (hx : p.tables.exec = Jvm.exec) {pc : Nat} (pc' : Nat) {Ls : Array Slot} {st : List Value} {i : Int} {v : Int32} (hp : pc' = pc + 3) (hd : decode c.code pc = .ok (.sipush i, 3)) (hv : (Int16.ofInt i).toInt32 = v) (k : Go p e below F0 (T.setTop (mkF m pc' Ls (.int v :: st)))) : Go p e below F0 (T.setTop (mkF m pc Ls st)) := by
  subst hp
  exact Go.step (fun t kt => XS.sipush X.here hx (g := mkF m pc Ls _) rfl hd (by rw [hv]; exact kt)) k
theorem Go.anull (X : Stand p l e R s m args below meth c T locs cells slots) (hx : p.tables.exec = Jvm.exec) {pc : Nat} (pc' : Nat) {Ls : Array Slot} {st : List Value} (hp : pc' = pc + 1) (hd : decode c.code pc = .ok (.aconst_null, 1))  (k : Go p e below F0 (T.setTop (mkF m pc' Ls (.null :: st)))) : Go p e below F0 (T.setTop (mkF m pc Ls st)) := by
  subst hp
  exact Go.step (fun t kt => XS.aconstNull X.here hx (g := mkF m pc Ls _) rfl hd kt) k
theorem Go.iadd (X : Stand p l e R s m args below meth c T locs cells slots) (hx : p.tables.exec = Jvm.exec) {pc : Nat} (pc' : Nat) {Ls : Array Slot} {x y : Int32} {rest : List Value} (hp : pc' = pc + 1) (hd : decode c.code pc = .ok (.iadd, 1))  (k : Go p e below F0 (T.setTop (mkF m pc' Ls (.int (x + y) :: rest)))) : Go p e below F0 (T.setTop (mkF m pc Ls (.int y :: .int x :: rest))) := by
  subst hp
  exact Go.step (fun t kt => XS.iadd X.here hx (g := mkF m pc Ls _) rfl hd rfl kt) k
theorem Go.isub (X : Stand p l e R s m args below meth c T locs cells slots) (hx : p.tables.exec = Jvm.exec) {pc : Nat} (pc' : Nat) {Ls : Array Slot} {x y : Int32} {rest : List Value} (hp : pc' = pc + 1) (hd : decode c.code pc = .ok (.isub, 1))  (k : Go p e below F0 (T.setTop (mkF m pc' Ls (.int (x - y) :: rest)))) : Go p e below F0 (T.setTop (mkF m pc Ls (.int y :: .int x :: rest))) := by
  subst hp
  exact Go.step (fun t kt => XS.isub X.here hx (g := mkF m pc Ls _) rfl hd rfl kt) k
theorem Go.imul (X : Stand p l e R s m args below meth c T locs cells slots) (hx : p.tables.exec = Jvm.exec) {pc : Nat} (pc' : Nat) {Ls : Array Slot} {x y : Int32} {rest : List Value} (hp : pc' = pc + 1) (hd : decode c.code pc = .ok (.imul, 1))  (k : Go p e below F0 (T.setTop (mkF m pc' Ls (.int (x * y) :: rest)))) : Go p e below F0 (T.setTop (mkF m pc Ls (.int y :: .int x :: rest))) := by
  subst hp
  exact Go.step (fun t kt => XS.imul X.here hx (g := mkF m pc Ls _) rfl hd rfl kt) k
theorem Go.iand (X : Stand p l e R s m args below meth c T locs cells slots) (hx : p.tables.exec = Jvm.exec) {pc : Nat} (pc' : Nat) {Ls : Array Slot} {x y : Int32} {rest : List Value} (hp : pc' = pc + 1) (hd : decode c.code pc = .ok (.iand, 1))  (k : Go p e below F0 (T.setTop (mkF m pc' Ls (.int (x &&& y) :: rest)))) : Go p e below F0 (T.setTop (mkF m pc Ls (.int y :: .int x :: rest))) := by
  subst hp
  exact Go.step (fun t kt => XS.iand X.here hx (g := mkF m pc Ls _) rfl hd rfl kt) k
theorem Go.ishl (X : Stand p l e R s m args below meth c T locs cells slots) (hx : p.tables.exec = Jvm.exec) {pc : Nat} (pc' : Nat) {Ls : Array Slot} {x y : Int32} {rest : List Value} (hp : pc' = pc + 1) (hd : decode c.code pc = .ok (.ishl, 1))  (k : Go p e below F0 (T.setTop (mkF m pc' Ls (.int (x <<< (y &&& 31)) :: rest)))) : Go p e below F0 (T.setTop (mkF m pc Ls (.int y :: .int x :: rest))) := by
  subst hp
  exact Go.step (fun t kt => XT.ishl X.here hx (g := mkF m pc Ls _) rfl hd rfl kt) k
theorem Go.ishr (X : Stand p l e R s m args below meth c T locs cells slots) (hx : p.tables.exec = Jvm.exec) {pc : Nat} (pc' : Nat) {Ls : Array Slot} {x y : Int32} {rest : List Value} (hp : pc' = pc + 1) (hd : decode c.code pc = .ok (.ishr, 1))  (k : Go p e below F0 (T.setTop (mkF m pc' Ls (.int (x >>> (y &&& 31)) :: rest)))) : Go p e below F0 (T.setTop (mkF m pc Ls (.int y :: .int x :: rest))) := by
  subst hp
  exact Go.step (fun t kt => XT.ishr X.here hx (g := mkF m pc Ls _) rfl hd rfl kt) k
theorem Go.iushr (X : Stand p l e R s m args below meth c T locs cells slots) (hx : p.tables.exec = Jvm.exec) {pc : Nat} (pc' : Nat) {Ls : Array Slot} {x y : Int32} {rest : List Value} (hp : pc' = pc + 1) (hd : decode c.code pc = .ok (.iushr, 1))  (k : Go p e below F0 (T.setTop (mkF m pc' Ls (.int ((x.toUInt32 >>> (y &&& 31).toUInt32).toInt32) :: rest)))) : Go p e below F0 (T.setTop (mkF m pc Ls (.int y :: .int x :: rest))) := by
  subst hp
  exact Go.step (fun t kt => XT.iushr X.here hx (g := mkF m pc Ls _) rfl hd rfl kt) k
theorem Go.i2b (X : Stand p l e R s m args below meth c T locs cells slots) (hx : p.tables.exec = Jvm.exec) {pc : Nat} (pc' : Nat) {Ls : Array Slot} {x : Int32} {rest : List Value} (hp : pc' = pc + 1) (hd : decode c.code pc = .ok (.i2b, 1))  (k : Go p e below F0 (T.setTop (mkF m pc' Ls (.int (x.toInt8.toInt32) :: rest)))) : Go p e below F0 (T.setTop (mkF m pc Ls (.int x :: rest))) := by
  subst hp
  exact Go.step (fun t kt => XT.i2b X.here hx (g := mkF m pc Ls _) rfl hd rfl kt) k
theorem Go.i2c (X : Stand p l e R s m args below meth c T locs cells slots) (hx : p.tables.exec = Jvm.exec) {pc : Nat} (pc' : Nat) {Ls : Array Slot} {x : Int32} {rest : List Value} (hp : pc' = pc + 1) (hd : decode c.code pc = .ok (.i2c, 1))  (k : Go p e below F0 (T.setTop (mkF m pc' Ls (.int (x.toUInt32.toUInt16.toUInt32.toInt32) :: rest)))) : Go p e below F0 (T.setTop (mkF m pc Ls (.int x :: rest))) := by
  subst hp
  exact Go.step (fun t kt => XT.i2c X.here hx (g := mkF m pc Ls _) rfl hd rfl kt) k
theorem Go.dup (X : Stand p l e R s m args below meth c T locs cells slots) (hx : p.tables.exec = Jvm.exec) {pc : Nat} (pc' : Nat) {Ls : Array Slot} {x : Value} {rest : List Value} (hp : pc' = pc + 1) (hd : decode c.code pc = .ok (.dup, 1)) (hc : x.category = 1) (k : Go p e below F0 (T.setTop (mkF m pc' Ls (x :: x :: rest)))) : Go p e below F0 (T.setTop (mkF m pc Ls (x :: rest))) := by
  subst hp
  exact Go.step (fun t kt => XS.dup X.here hx (g := mkF m pc Ls _) rfl hd rfl hc kt) k
theorem Go.pop (X : Stand p l e R s m args below meth c T locs cells slots) (hx : p.tables.exec = Jvm.exec) {pc : Nat} (pc' : Nat) {Ls : Array Slot} {x : Value} {rest : List Value} (hp : pc' = pc + 1) (hd : decode c.code pc = .ok (.pop, 1)) (hc : x.category = 1) (k : Go p e below F0 (T.setTop (mkF m pc' Ls rest))) : Go p e below F0 (T.setTop (mkF m pc Ls (x :: rest))) := by
  subst hp
  exact Go.step (fun t kt => XT.pop X.here hx (g := mkF m pc Ls _) rfl hd rfl hc kt) k
theorem Go.istoreN (X : Stand p l e R s m args below meth c T locs cells slots) (hx : p.tables.exec = Jvm.exec) {pc : Nat} (pc' : Nat) {Ls : Array Slot} {k : Fin 4} {x : Int32} {rest : List Value} {Ls' : Array Slot} (hp : pc' = pc + 1) (hd : decode c.code pc = .ok (.istore_n k, 1)) (hl : storeLocals Ls k.val (.int x) = some Ls') (k : Go p e below F0 (T.setTop (mkF m pc' Ls' rest))) : Go p e below F0 (T.setTop (mkF m pc Ls (.int x :: rest))) := by
  subst hp
  exact Go.step (fun t kt => XS.istoreN X.here hx (g := mkF m pc Ls _) rfl hd rfl hl kt) k
theorem Go.istore (X : Stand p l e R s m args below meth c T locs cells slots) (hx : p.tables.exec = Jvm.exec) {pc : Nat} (pc' : Nat) {Ls : Array Slot} {k : Nat} {x : Int32} {rest : List Value} {Ls' : Array Slot} (hp : pc' = pc + 2) (hd : decode c.code pc = .ok (.istore k, 2)) (hl : storeLocals Ls k (.int x) = some Ls') (k : Go p e below F0 (T.setTop (mkF m pc' Ls' rest))) : Go p e below F0 (T.setTop (mkF m pc Ls (.int x :: rest))) := by
  subst hp
  exact Go.step (fun t kt => XS.istore X.here hx (g := mkF m pc Ls _) rfl hd rfl hl kt) k
theorem Go.astoreN (X : Stand p l e R s m args below meth c T locs cells slots) (hx : p.tables.exec = Jvm.exec) {pc : Nat} (pc' : Nat) {Ls : Array Slot} {k : Fin 4} {x : Value} {rest : List Value} {Ls' : Array Slot} (hp : pc' = pc + 1) (hd : decode c.code pc = .ok (.astore_n k, 1)) (hv : x.isRef = true) (hl : storeLocals Ls k.val x = some Ls') (k : Go p e below F0 (T.setTop (mkF m pc' Ls' rest))) : Go p e below F0 (T.setTop (mkF m pc Ls (x :: rest))) := by
  subst hp
  exact Go.step (fun t kt => XS.astoreN X.here hx (g := mkF m pc Ls _) rfl hd rfl hv hl kt) k
theorem Go.astore (X : Stand p l e R s m args below meth c T locs cells slots) (hx : p.tables.exec = Jvm.exec) {pc : Nat} (pc' : Nat) {Ls : Array Slot} {k : Nat} {x : Value} {rest : List Value} {Ls' : Array Slot} (hp : pc' = pc + 2) (hd : decode c.code pc = .ok (.astore k, 2)) (hv : x.isRef = true) (hl : storeLocals Ls k x = some Ls') (k : Go p e below F0 (T.setTop (mkF m pc' Ls' rest))) : Go p e below F0 (T.setTop (mkF m pc Ls (x :: rest))) := by
  subst hp
  exact Go.step (fun t kt => XS.astore X.here hx (g := mkF m pc Ls _) rfl hd rfl hv hl kt) k
theorem Go.iinc (X : Stand p l e R s m args below meth c T locs cells slots) (hx : p.tables.exec = Jvm.exec) {pc : Nat} (pc' : Nat) {Ls : Array Slot} {st : List Value} {k : Nat} {cst : Int} {x y : Int32} {Ls' : Array Slot} (hp : pc' = pc + 3) (hd : decode c.code pc = .ok (.iinc k cst, 3)) (hl : Ls[k]? = some (.val (.int x))) (hy : x + Int32.ofInt cst = y) (hl' : storeLocals Ls k (.int y) = some Ls') (k : Go p e below F0 (T.setTop (mkF m pc' Ls' st))) : Go p e below F0 (T.setTop (mkF m pc Ls st)) := by
  subst hp
  exact Go.step (fun t kt => XS.iinc X.here hx (g := mkF m pc Ls _) rfl hd hl (by rw [hy]; exact hl') kt) k
theorem Go.goto (X : Stand p l e R s m args below meth c T locs cells slots) (hx : p.tables.exec = Jvm.exec) {pc : Nat} (pc' : Nat) {Ls : Array Slot} {o : Int} {st : List Value} (hd : decode c.code pc = .ok (.goto o, 3))  (ho : 0 ≤ (pc : Int) + o) (hp : ((pc : Int) + o).toNat = pc') (k : Go p e below F0 (T.setTop (mkF m pc' Ls st))) : Go p e below F0 (T.setTop (mkF m pc Ls st)) :=
  Go.step (fun t kt => XS.goto X.here hx (g := mkF m pc Ls _) rfl rfl hd ho hp kt) k
theorem Go.ifYes (X : Stand p l e R s m args below meth c T locs cells slots) (hx : p.tables.exec = Jvm.exec) {pc : Nat} (pc' : Nat) {Ls : Array Slot} {o : Int} {cd : ClassFile.Cond} {x : Int32} {rest : List Value} (hd : decode c.code pc = .ok (.ifCond cd o, 3)) (hc : if_icmp.holds cd x 0 = true) (ho : 0 ≤ (pc : Int) + o) (hp : ((pc : Int) + o).toNat = pc') (k : Go p e below F0 (T.setTop (mkF m pc' Ls rest))) : Go p e below F0 (T.setTop (mkF m pc Ls (.int x :: rest))) :=
  Go.step (fun t kt => XS.ifYes X.here hx (g := mkF m pc Ls _) rfl rfl hd rfl ((if0 _ _).trans hc) ho hp kt) k
theorem Go.icmpYes (X : Stand p l e R s m args below meth c T locs cells slots) (hx : p.tables.exec = Jvm.exec) {pc : Nat} (pc' : Nat) {Ls : Array Slot} {o : Int} {cd : ClassFile.Cond} {x y : Int32} {rest : List Value} (hd : decode c.code pc = .ok (.if_icmp cd o, 3)) (hc : if_icmp.holds cd x y = true) (ho : 0 ≤ (pc : Int) + o) (hp : ((pc : Int) + o).toNat = pc') (k : Go p e below F0 (T.setTop (mkF m pc' Ls rest))) : Go p e below F0 (T.setTop (mkF m pc Ls (.int y :: .int x :: rest))) :=
  Go.step (fun t kt => XS.icmpYes X.here hx (g := mkF m pc Ls _) rfl rfl hd rfl hc ho hp kt) k
theorem Go.ifnonnullYes (X : Stand p l e R s m args below meth c T locs cells slots) (hx : p.tables.exec = Jvm.exec) {pc : Nat} (pc' : Nat) {Ls : Array Slot} {o : Int} {b : Addr} {rest : List Value} (hd : decode c.code pc = .ok (.ifnonnull o, 3))  (ho : 0 ≤ (pc : Int) + o) (hp : ((pc : Int) + o).toNat = pc') (k : Go p e below F0 (T.setTop (mkF m pc' Ls rest))) : Go p e below F0 (T.setTop (mkF m pc Ls (.ref b :: rest))) :=
  Go.step (fun t kt => XT.ifnonnullYes X.here hx (g := mkF m pc Ls _) rfl rfl hd rfl ho hp kt) k
theorem Go.ifNo (X : Stand p l e R s m args below meth c T locs cells slots) (hx : p.tables.exec = Jvm.exec) {pc : Nat} (pc' : Nat) {Ls : Array Slot} {o : Int} {cd : ClassFile.Cond} {x : Int32} {rest : List Value} (hp : pc' = pc + 3) (hd : decode c.code pc = .ok (.ifCond cd o, 3)) (hc : if_icmp.holds cd x 0 = false) (k : Go p e below F0 (T.setTop (mkF m pc' Ls rest))) : Go p e below F0 (T.setTop (mkF m pc Ls (.int x :: rest))) := by
  subst hp
  exact Go.step (fun t kt => XS.ifNo X.here hx (g := mkF m pc Ls _) rfl hd rfl ((if0 _ _).trans hc) kt) k
theorem Go.icmpNo (X : Stand p l e R s m args below meth c T locs cells slots) (hx : p.tables.exec = Jvm.exec) {pc : Nat} (pc' : Nat) {Ls : Array Slot} {o : Int} {cd : ClassFile.Cond} {x y : Int32} {rest : List Value} (hp : pc' = pc + 3) (hd : decode c.code pc = .ok (.if_icmp cd o, 3)) (hc : if_icmp.holds cd x y = false) (k : Go p e below F0 (T.setTop (mkF m pc' Ls rest))) : Go p e below F0 (T.setTop (mkF m pc Ls (.int y :: .int x :: rest))) := by
  subst hp
  exact Go.step (fun t kt => XS.icmpNo X.here hx (g := mkF m pc Ls _) rfl hd rfl hc kt) k
theorem Go.ifnonnullNo (X : Stand p l e R s m args below meth c T locs cells slots) (hx : p.tables.exec = Jvm.exec) {pc : Nat} (pc' : Nat) {Ls : Array Slot} {o : Int} {rest : List Value} (hp : pc' = pc + 3) (hd : decode c.code pc = .ok (.ifnonnull o, 3))  (k : Go p e below F0 (T.setTop (mkF m pc' Ls rest))) : Go p e below F0 (T.setTop (mkF m pc Ls (.null :: rest))) := by
  subst hp
  exact Go.step (fun t kt => XT.ifnonnullNo X.here hx (g := mkF m pc Ls _) rfl hd rfl kt) k
theorem Go.acmp (X : Stand p l e R s m args below meth c T locs cells slots) (hx : p.tables.exec = Jvm.exec) {pc : Nat} (pc' : Nat) {Ls : Array Slot} {cd : ACond} {x y : Value} {rest : List Value} {o : Int} {same : Bool} (hd : decode c.code pc = .ok (.if_acmp cd o, 3)) (h1 : x.isRef = true) (h2 : y.isRef = true) (hq : decide (x = y) = same) (ho : 0 ≤ (pc : Int) + o) (hp : pc' = if acV cd same = true then ((pc : Int) + o).toNat else pc + 3) (k : Go p e below F0 (T.setTop (mkF m pc' Ls rest))) : Go p e below F0 (T.setTop (mkF m pc Ls (y :: x :: rest))) :=
  Go.step (fun t kt => Jvm.RoadKit.acmp (g := mkF m pc Ls _) X hx rfl h1 h2 rfl hd rfl hq ho hp kt) k
theorem Go.getF (X : Stand p l e R s m args below meth c T locs cells slots) (hx : p.tables.exec = Jvm.exec) (hZ : Z.Warmed39 s.vm) {own : String} {index : Nat} (hown : s.vm.findClass own = some m.cls) {R0 O n d host : String} (wl : (Jvm.Cond.fieldLink own index R0 n d).before a0 Z = true ∨ (Jvm.Cond.fieldLinkNest own index R0 n d host).before a0 Z = true) (via : Via Z R0 O n d) (eT : T.heap = h) {a : Addr} {v : Value} (F : Fld Z h a O n d v) {pc : Nat} (pc' : Nat) {Ls : Array Slot} {rest : List Value} (hp : pc' = pc + 3) (hd : decode c.code pc = .ok (.getfield index, 3))
    (k : ∀ T', T'.heap = h → Stand p l e R s m args below meth c T' locs cells slots → Go p e below F0 (T'.setTop (mkF m pc' Ls (v :: rest)))) : Go p e below F0 (T.setTop (mkF m pc Ls (.ref a :: rest))) := by
  subst hp
  obtain ⟨T', X', e', st⟩ := Jvm.RoadKit.getF X hx hZ hown wl via eT F (g := mkF m pc Ls (.ref a :: rest)) rfl rfl hd
  exact Go.step st (k T' e' X')
theorem Go.getS (X : Stand p l e R s m args below meth c T locs cells slots) (hx : p.tables.exec = Jvm.exec) (hZ : Z.Warmed39 s.vm) {own : String} {index : Nat} (hown : s.vm.findClass own = some m.cls) {R0 O n d host : String} (wl : (Jvm.Cond.fieldLink own index R0 n d).before a0 Z = true ∨ (Jvm.Cond.fieldLinkNest own index R0 n d host).before a0 Z = true) (via : Via Z R0 O n d) (eT : T.heap = h) {v : Value} (F : Sta Z h O n d v) {pc : Nat} (pc' : Nat) {Ls : Array Slot} {rest : List Value} (hp : pc' = pc + 3) (hd : decode c.code pc = .ok (.getstatic index, 3))
    (k : ∀ T', T'.heap = h → Stand p l e R s m args below meth c T' locs cells slots → Go p e below F0 (T'.setTop (mkF m pc' Ls (v :: rest)))) : Go p e below F0 (T.setTop (mkF m pc Ls rest)) := by
  subst hp
  obtain ⟨T', X', e', st⟩ := Jvm.RoadKit.getS2 X hx hZ hown wl via eT F (g := mkF m pc Ls rest) rfl hd
  exact Go.step st (k T' e' X')
theorem Go.putF (X : Stand p l e R s m args below meth c T locs cells slots) (hx : p.tables.exec = Jvm.exec) (hZ : Z.Warmed39 s.vm) {own : String} {index : Nat} (hown : s.vm.findClass own = some m.cls) {R0 O n d host C : String} {kk : Nat} {ty : FieldType} (wl : (Jvm.Cond.fieldLink own index R0 n d).before a0 Z = true ∨ (Jvm.Cond.fieldLinkNest own index R0 n d host).before a0 Z = true) (via : Via Z R0 O n d) (eT : T.heap = h) {a : Addr} {v old : Value} (F : Fld Z h a O n d old) (E : Exa Z h a C) (L : (Jvm.Cond.lays C O n d).before a0 Z = true ∨ ((Jvm.Cond.laysFinal C O n d).before a0 Z = true ∧ own = O ∧ meth.name = "<init>")) (wi : (Jvm.Cond.instantiable C kk).before a0 Z = true) (hty : parseFieldDescriptor d = some ty) (hn : narrow ty v = v) (hf : fits ty v = true) {pc : Nat} (pc' : Nat) {Ls : Array Slot} {rest : List Value} (hp : pc' = pc + 3) (hd : decode c.code pc = .ok (.putfield index, 3))
    (k : ∀ T' h', T'.heap = h' → Wr h h' a (slotOf Z O n d) v → Fld Z h' a O n d v → Stand p l e R s m args below meth c T' (locs ++ [⟨a, slotOf Z O n d⟩]) cells slots → Go p e below F0 (T'.setTop (mkF m pc' Ls rest))) : Go p e below F0 (T.setTop (mkF m pc Ls (v :: .ref a :: rest))) := by
  subst hp
  obtain ⟨T', h', X', e', W, st⟩ := Jvm.RoadKit.putF X hx hZ hown wl via eT F E L wi hty hn hf (g := mkF m pc Ls (v :: .ref a :: rest)) rfl rfl hd
  exact Go.step st (k T' h' e' W (F.same W) X')
theorem Go.putFN (X : Stand p l e R s m args below meth c T locs cells slots) (hx : p.tables.exec = Jvm.exec) (hZ : Z.Warmed39 s.vm) {own : String} {index : Nat} (hown : s.vm.findClass own = some m.cls) {R0 O n d C : String} {kk : Nat} {ty : FieldType} (wl : (Jvm.Cond.fieldLink own index R0 n d).before a0 Z = true) (via : Via Z R0 O n d) (eT : T.heap = h) {a : Addr} {v v' old : Value} (F : Fld Z h a O n d old) (E : Exa Z h a C) (L : (Jvm.Cond.lays C O n d).before a0 Z = true ∨ ((Jvm.Cond.laysFinal C O n d).before a0 Z = true ∧ own = O ∧ meth.name = "<init>")) (wi : (Jvm.Cond.instantiable C kk).before a0 Z = true) (hty : parseFieldDescriptor d = some ty) (hn : narrow ty v = v') (hf : fits ty v' = true) {pc : Nat} (pc' : Nat) {Ls : Array Slot} {rest : List Value} (hp : pc' = pc + 3) (hd : decode c.code pc = .ok (.putfield index, 3))
    (k : ∀ T' h', T'.heap = h' → Wr h h' a (slotOf Z O n d) v' → Fld Z h' a O n d v' → Stand p l e R s m args below meth c T' (locs ++ [⟨a, slotOf Z O n d⟩]) cells slots → Go p e below F0 (T'.setTop (mkF m pc' Ls rest))) : Go p e below F0 (T.setTop (mkF m pc Ls (v :: .ref a :: rest))) := by
  subst hp
  obtain ⟨T', h', X', e', W, st⟩ := Jvm.RoadKit.putFN X hx hZ hown wl via eT F E L wi hty hn hf (g := mkF m pc Ls (v :: .ref a :: rest)) rfl rfl hd
  exact Go.step st (k T' h' e' W (F.same W) X')
theorem Go.new (X : Stand p l e R s m args below meth c T locs cells slots) (hx : p.tables.exec = Jvm.exec) (hZ : Z.Warmed39 s.vm) {own : String} {index : Nat} (hown : s.vm.findClass own = some m.cls) {C : String} {n : Nat} (wl : (Jvm.Cond.classLink own index C).before a0 Z = true) (wi : (Jvm.Cond.instantiable C n).before a0 Z = true) (wz : (Jvm.Cond.initialized C).before a0 Z = true) (eT : T.heap = h) (hc : cells + 1 ≤ R.cells) (hl : slots + n ≤ R.slots) {pc : Nat} (pc' : Nat) {Ls : Array Slot} {rest : List Value} (hp : pc' = pc + 3) (hd : decode c.code pc = .ok (.new index, 3))
    (k : ∀ T' h' a, T'.heap = h' → Ext h h' → a = h.size → Exa Z h' a C → (∀ {O nm d : String} {ty : FieldType}, Laid Z a0 C O nm d → parseFieldDescriptor d = some ty → Fld Z h' a O nm d (defaultValue ty)) → Stand p l e R s m args below meth c T' locs (cells + 1) (slots + n) → Go p e below F0 (T'.setTop (mkF m pc' Ls (.ref a :: rest)))) : Go p e below F0 (T.setTop (mkF m pc Ls rest)) := by
  subst hp
  obtain ⟨T', h', X', e', E, A, D, -, st⟩ := newO X hx hZ hown wl wi wz eT (g := mkF m pc Ls rest) rfl hd hc hl
  exact Go.step st (k T' h' h.size e' E rfl A D X')
theorem Go.newarray (X : Stand p l e R s m args below meth c T locs cells slots) (hx : p.tables.exec = Jvm.exec) (hZ : Z.Warmed39 s.vm) {aty : ArrayType} {ty : FieldType} (hty : newarray.typeOf aty = ty) (wa : (Jvm.Cond.arrayClass ty).before a0 Z = true) (eT : T.heap = h) {n : Int32} (hn : ¬ n < 0) {cap : Nat} (hcap : n.toNatClampNeg ≤ cap) (hb : cap * 8 ≤ 536870912) (hc : cells + 1 ≤ R.cells) (hl : slots + cap ≤ R.slots) {ad : String} (had : "[" ++ ty.toString = ad) (N : Nat) {pc : Nat} (pc' : Nat) {Ls : Array Slot} {rest : List Value} (hp : pc' = pc + 2) (hd : decode c.code pc = .ok (.newarray aty, 2))
    (k : ∀ T' h' a kk, T'.heap = h' → Ext h h' → a = h.size → Arv Z h' a kk ty n (List.replicate N (defaultValue ty)) (defaultValue ty) → Exa Z h' a ad → Stand p l e R s m args below meth c T' locs (cells + 1) (slots + cap) → Go p e below F0 (T'.setTop (mkF m pc' Ls (.ref a :: rest)))) : Go p e below F0 (T.setTop (mkF m pc Ls (.int n :: rest))) := by
  subst hp hty
  obtain ⟨T', h', cA, X', e', E, A, Ex, st⟩ := newPE X hx hZ wa eT (g := mkF m pc Ls (.int n :: rest)) rfl hd rfl hn hcap hb hc hl had
  exact Go.step st (k T' h' h.size cA e' E rfl ((Arv.new A hn).pad (pad_rep [] _ N)) Ex X')
theorem Go.castore (X : Stand p l e R s m args below meth c T locs cells slots) (hx : p.tables.exec = Jvm.exec) (hZ : Z.Warmed39 s.vm) (eT : T.heap = h) {a : Addr} {kk : ClassId} {z : Int32} {vs : List Value} {dv : Value} (V : Arv Z h a kk .char z vs dv) {j : Int32} {x : Int32} (x' : Int32) (hn : nar .char x = x') (hj : ¬ j < 0 ∧ j < z) (i : Nat) (hi : j.toNatClampNeg = i) (hl : i < vs.length) {pc : Nat} (pc' : Nat) {Ls : Array Slot} {rest : List Value} (hp : pc' = pc + 1) (hd : decode c.code pc = .ok (.castore, 1))
    (k : ∀ T' h', T'.heap = h' → Wr h h' a j.toNatClampNeg (.int x') → Arv Z h' a kk .char z (vs.set i (.int x')) dv → Stand p l e R s m args below meth c T' (locs ++ [⟨a, j.toNatClampNeg⟩]) cells slots → Go p e below F0 (T'.setTop (mkF m pc' Ls rest))) : Go p e below F0 (T.setTop (mkF m pc Ls (.int x :: .int j :: .ref a :: rest))) := by
  subst hp hn
  obtain ⟨cl, A, q1, S, q3, H, G⟩ := V
  obtain ⟨T', h', X', e', W, st⟩ := stC X hx hZ eT A (j := j) (x := x) (inb_of S hj) (g := mkF m pc Ls (.int x :: .int j :: .ref a :: rest)) rfl rfl hd
  exact Go.step st (k T' h' e' W (Arv.set A q1 S q3 H G (fits_nar_char x) W i hi hl) X')
theorem Go.bastore (X : Stand p l e R s m args below meth c T locs cells slots) (hx : p.tables.exec = Jvm.exec) (hZ : Z.Warmed39 s.vm) (eT : T.heap = h) {a : Addr} {kk : ClassId} {z : Int32} {vs : List Value} {dv : Value} (V : Arv Z h a kk .byte z vs dv) {j : Int32} {x : Int32} (x' : Int32) (hn : nar .byte x = x') (hj : ¬ j < 0 ∧ j < z) (i : Nat) (hi : j.toNatClampNeg = i) (hl : i < vs.length) {pc : Nat} (pc' : Nat) {Ls : Array Slot} {rest : List Value} (hp : pc' = pc + 1) (hd : decode c.code pc = .ok (.bastore, 1))
    (k : ∀ T' h', T'.heap = h' → Wr h h' a j.toNatClampNeg (.int x') → Arv Z h' a kk .byte z (vs.set i (.int x')) dv → Stand p l e R s m args below meth c T' (locs ++ [⟨a, j.toNatClampNeg⟩]) cells slots → Go p e below F0 (T'.setTop (mkF m pc' Ls rest))) : Go p e below F0 (T.setTop (mkF m pc Ls (.int x :: .int j :: .ref a :: rest))) := by
  subst hp hn
  obtain ⟨cl, A, q1, S, q3, H, G⟩ := V
  obtain ⟨T', h', X', e', W, st⟩ := stB X hx hZ eT A (j := j) (x := x) (inb_of S hj) (g := mkF m pc Ls (.int x :: .int j :: .ref a :: rest)) rfl rfl hd
  exact Go.step st (k T' h' e' W (Arv.set A q1 S q3 H G (fits_nar_byte x) W i hi hl) X')
theorem Go.caload (X : Stand p l e R s m args below meth c T locs cells slots) (hx : p.tables.exec = Jvm.exec) (hZ : Z.Warmed39 s.vm) (eT : T.heap = h) {a : Addr} {kk : ClassId} {z : Int32} {vs : List Value} {dv : Value} (V : Arv Z h a kk .char z vs dv) {j : Int32} {v : Value} (hj : ¬ j < 0 ∧ j < z) (hv : vs.getD j.toNatClampNeg dv = v) {pc : Nat} (pc' : Nat) {Ls : Array Slot} {rest : List Value} (hp : pc' = pc + 1) (hd : decode c.code pc = .ok (.caload, 1)) (k : Go p e below F0 (T.setTop (mkF m pc' Ls (v :: rest)))) : Go p e below F0 (T.setTop (mkF m pc Ls (.int j :: .ref a :: rest))) := by
  subst hp
  obtain ⟨cl, A, q1, S, q3, H, G⟩ := V
  exact Go.step (fun t kt => X.caload hx (j := j) (v := v) (by rw [eT]; exact A.1) (State.isArrayOf_alike hZ.alike A.2.1) A.2.2 (inb_of S hj) (H.at (inb_of S hj) hv) (g := mkF m pc Ls (.int j :: .ref a :: rest)) rfl rfl hd t kt) k
theorem Go.baload (X : Stand p l e R s m args below meth c T locs cells slots) (hx : p.tables.exec = Jvm.exec) (hZ : Z.Warmed39 s.vm) (eT : T.heap = h) {a : Addr} {kk : ClassId} {z : Int32} {vs : List Value} {dv : Value} (V : Arv Z h a kk .byte z vs dv) {j : Int32} {v : Value} (hj : ¬ j < 0 ∧ j < z) (hv : vs.getD j.toNatClampNeg dv = v) {pc : Nat} (pc' : Nat) {Ls : Array Slot} {rest : List Value} (hp : pc' = pc + 1) (hd : decode c.code pc = .ok (.baload, 1)) (k : Go p e below F0 (T.setTop (mkF m pc' Ls (v :: rest)))) : Go p e below F0 (T.setTop (mkF m pc Ls (.int j :: .ref a :: rest))) := by
  subst hp
  obtain ⟨cl, A, q1, S, q3, H, G⟩ := V
  exact Go.step (fun t kt => X.baloadBytes hx (j := j) (v := v) (by rw [eT]; exact A.1) (State.isArrayOf_alike hZ.alike A.2.1) A.2.2 (inb_of S hj) (H.at (inb_of S hj) hv) (g := mkF m pc Ls (.int j :: .ref a :: rest)) rfl rfl hd t kt) k
theorem Go.arraylength (X : Stand p l e R s m args below meth c T locs cells slots) (hx : p.tables.exec = Jvm.exec) (hZ : Z.Warmed39 s.vm) (eT : T.heap = h) {a : Addr} {kk : ClassId} {ty : FieldType} {z : Int32} {vs : List Value} {dv : Value} (V : Arv Z h a kk ty z vs dv) {pc : Nat} (pc' : Nat) {Ls : Array Slot} {rest : List Value} (hp : pc' = pc + 1) (hd : decode c.code pc = .ok (.arraylength, 1)) (k : Go p e below F0 (T.setTop (mkF m pc' Ls (.int z :: rest)))) : Go p e below F0 (T.setTop (mkF m pc Ls (.ref a :: rest))) := by
  subst hp
  obtain ⟨cl, A, q1, S, q3, H, G⟩ := V
  refine Go.step (fun t kt => X.arraylength hx (by rw [eT]; exact A.1) (State.isArrayOf_alike hZ.alike A.2.1) (g := mkF m pc Ls (.ref a :: rest)) rfl rfl hd t kt) ?_
  rw [len_of S q3]
  exact k
theorem Go.castY (X : Stand p l e R s m args below meth c T locs cells slots) (hx : p.tables.exec = Jvm.exec) (hZ : Z.Warmed39 s.vm) {own : String} {index : Nat} (hown : s.vm.findClass own = some m.cls) {K : String} (wl : (Jvm.Cond.classLink own index K).before a0 Z = true) (eT : T.heap = h) {a : Addr} (F : Ins Z h a K true) {pc : Nat} (pc' : Nat) {Ls : Array Slot} {rest : List Value} (hp : pc' = pc + 3) (hd : decode c.code pc = .ok (.checkcast index, 3))
    (k : ∀ T', T'.heap = h → Stand p l e R s m args below meth c T' locs cells slots → Go p e below F0 (T'.setTop (mkF m pc' Ls (.ref a :: rest)))) : Go p e below F0 (T.setTop (mkF m pc Ls (.ref a :: rest))) := by
  subst hp
  obtain ⟨T', X', e', st⟩ := Jvm.RoadKit.castY X hx hZ hown wl eT F (g := mkF m pc Ls (.ref a :: rest)) rfl rfl hd
  exact Go.step st (k T' e' X')
theorem Go.instY (X : Stand p l e R s m args below meth c T locs cells slots) (hx : p.tables.exec = Jvm.exec) (hZ : Z.Warmed39 s.vm) {own : String} {index : Nat} (hown : s.vm.findClass own = some m.cls) {K : String} (wl : (Jvm.Cond.classLink own index K).before a0 Z = true) (eT : T.heap = h) {a : Addr} (F : Ins Z h a K true) {pc : Nat} (pc' : Nat) {Ls : Array Slot} {rest : List Value} (hp : pc' = pc + 3) (hd : decode c.code pc = .ok (.instanceof index, 3))
    (k : ∀ T', T'.heap = h → Stand p l e R s m args below meth c T' locs cells slots → Go p e below F0 (T'.setTop (mkF m pc' Ls (.int 1 :: rest)))) : Go p e below F0 (T.setTop (mkF m pc Ls (.ref a :: rest))) := by
  subst hp
  obtain ⟨T', X', e', st⟩ := Jvm.RoadKit.instY X hx hZ hown wl eT F (g := mkF m pc Ls (.ref a :: rest)) rfl rfl hd
  exact Go.step st (k T' e' X')
theorem Go.initO (X : Stand p l e R s m args below meth c T locs cells slots) (hx : p.tables.exec = Jvm.exec) (hZ : Z.Warmed39 s.vm) {own : String} {index : Nat} (hown : s.vm.findClass own = some m.cls) (w1 : (Jvm.Cond.methodLink own index Lib.objectInit).before a0 Z = true) (w2 : (Jvm.Cond.instanceMethod Lib.objectInit).before a0 Z = true) (w3 : (Jvm.Cond.code Lib.objectInit ⟨#[0xb1]⟩ 1 none).before a0 Z = true) (eT : T.heap = h) {a : Addr} (hf : 1 ≤ R.frames) {W : Nat} {pc : Nat} (pc' : Nat) {Ls : Array Slot} {rest : List Value} (hsz : Ls.size = c.maxLocals) (hW : (rest.map fun v => v.category).sum ≤ W) (hl : W + 12 ≤ R.locals) (hp : pc' = pc + 3) (hd : decode c.code pc = .ok (.invokespecial index, 3))
    (k : ∀ T', T'.heap = h → Stand p l e R s m args below meth c T' locs cells slots → Go p e below F0 (T'.setTop (mkF m pc' Ls rest))) : Go p e below F0 (T.setTop (mkF m pc Ls (.ref a :: rest))) := by
  subst hp
  obtain ⟨T', X', e', st⟩ := Jvm.RoadKit.initO X hx hZ hown w1 w2 w3 eT (g := mkF m pc Ls (.ref a :: rest)) rfl hsz rfl hd hf (W := W) (by show 2 * 0 + _ ≤ _; rw [Nat.mul_zero, Nat.zero_add]; exact hW) hl
  exact Go.step st (k T' e' X')
theorem Go.ldcI (X : Stand p l e R s m args below meth c T locs cells slots) (hx : p.tables.exec = Jvm.exec) (hZ : Z.Warmed39 s.vm) {own : String} {index : Nat} (hown : s.vm.findClass own = some m.cls) {v : Int32} (wl : (Jvm.Cond.constant own index v).before a0 Z = true) {pc : Nat} (pc' : Nat) {Ls : Array Slot} {rest : List Value} (hp : pc' = pc + 2) (hd : decode c.code pc = .ok (.ldc index, 2)) (k : Go p e below F0 (T.setTop (mkF m pc' Ls (.int v :: rest)))) : Go p e below F0 (T.setTop (mkF m pc Ls rest)) := by
  subst hp
  exact Go.step (fun t kt => X.ldcInt hx hown (mvT hZ wl) (g := mkF m pc Ls rest) rfl hd t kt) k
theorem own_nf {C : String} {x z y : MethodName} (ws : (Jvm.Cond.selects C x z).before args s = true) (hz : z.cls = y.cls) : NotFace s y := fun r0 h0 => by
  obtain ⟨c2, r2, m2, q1, q2, q3, q4, kP, hkP, hkPi⟩ := Cond.selects_spec ws
  have hc1 := findClass_of_methodNamed h0
  have hc2 := findClass_of_methodNamed q3
  rw [hz] at hc2
  have e := Option.some.inj (hc1.symm.trans hc2)
  exact ⟨kP, by rw [e]; exact hkP, hkPi⟩
theorem own_sameself {C : String} {x z y : MethodName} (ws : (Jvm.Cond.selects C x z).before args s = true) (hz : z.cls = y.cls) (hinst : (Jvm.Cond.instanceMethod y).before args s = true) (hy : y.cls ≠ "java/lang/invoke/MethodHandle" ∧ y.cls ≠ "java/lang/invoke/VarHandle") : (Jvm.Cond.sameMethod y.cls y.cls y.name y.desc).before args s = true := by
  obtain ⟨c, r, m, h1, h2, h3, h4, kP, h5, h6⟩ := Cond.selects_spec ws
  obtain ⟨mk, methM, hnamed, hmethM, -, -⟩ := Cond.instanceMethod_spec hinst
  have hfound : s.methodFound? y.cls y.name y.desc = some mk := State.methodFound?_of_named hnamed hy
  have hc : s.vm.findClass y.cls = some m.cls := hz ▸ findClass_of_methodNamed h3
  have hn2 : s.methodNamed? ⟨y.cls, y.name, y.desc⟩ = some mk := hnamed
  simp only [Cond.before, Cond.holds, Cond.value, hc, hfound, hn2]
  simp [h5, h6]
theorem own_selfsel {C : String} {y : MethodName} (ws : (Jvm.Cond.selects C y y).before args s = true) (hpriv : s.PrivateAt y) (hinst : (Jvm.Cond.instanceMethod y).before args s = true) (hy : y.cls ≠ "java/lang/invoke/MethodHandle" ∧ y.cls ≠ "java/lang/invoke/VarHandle") : (Jvm.Cond.selects y.cls y y).before args s = true := by
  obtain ⟨c, r, m, h1, h2, h3, h4, kP, h5, h6⟩ := Cond.selects_spec ws
  exact Jvm.Stand.selects_self_of_private (findClass_of_methodNamed h3) h5 h6 hpriv hinst hy
theorem Go.callSB (X : Stand p l e R s m args below meth c T locs cells slots) (hx : p.tables.exec = Jvm.exec) (hZ : Z.Warmed39 s.vm) {own : String} {index : Nat} (hown : s.vm.findClass own = some m.cls) {y : MethodName} {bytes : ByteArray} {maxL : Nat} {ret : Option FieldType} (w1 : (Jvm.Cond.methodLink own index y).before a0 Z = true) (w2 : (Jvm.Cond.static y).before a0 Z = true) (w3 : (Jvm.Cond.initialized y.cls).before a0 Z = true) (w4 : (Jvm.Cond.code y bytes maxL ret).before a0 Z = true) (hy : y.cls ≠ "java/lang/invoke/MethodHandle" ∧ y.cls ≠ "java/lang/invoke/VarHandle") {W : Nat} {Pre : Pt → Array Value → Prop} {Post : Pt → Array Value → Option Value → Pt → Prop} (hK : Back l R p e below s args y 3 W Pre Post) (eT : T.heap = h)  {pc : Nat} (pc' : Nat) {Ls : Array Slot} {stk argsL rest : List Value} (hp : pc' = pc + 3) (hsz : Ls.size = c.maxLocals) (hlen : ∀ sig, parseMethodDescriptor y.desc = some sig → argsL.length = sig.parameters.length) (hst : stk = argsL.reverse ++ rest) (hW : (rest.map fun v => v.category).sum ≤ W) (hd : decode c.code pc = .ok (.invokestatic index, 3)) (hpre : ∀ vm₁, s.WarmedH vm₁ → Pre ⟨T.setVm vm₁, locs, cells, slots⟩ argsL.toArray)
    (k : ∀ (v : Option Value) (vm₁ : Vm) (T' : State) (locs' : List Loc) (cells' slots' : Nat), Stand p l e R s m args below meth c T' locs' cells' slots' → Post ⟨T.setVm vm₁, locs, cells, slots⟩ argsL.toArray v ⟨T', locs', cells', slots'⟩ → Go p e below F0 (T'.setTop (mkF m pc' Ls (v.toList ++ rest)))) : Go p e below F0 (T.setTop (mkF m pc Ls stk)) := by
  subst hp
  obtain ⟨v, vm₁, ⟨T', L', c', n'⟩, -, X', hP, st⟩ := Jvm.LawKit.callS X hx hown (mvT hZ w1) (mvT hZ w2) (mvT hZ w3) (mvT hZ w4) hy hK (g := mkF m pc Ls stk) rfl hsz hlen hst (by show 2 * 0 + _ ≤ _; rw [Nat.mul_zero, Nat.zero_add]; exact hW) hd hpre
  exact Go.step st (k v vm₁ T' L' c' n' X' hP)
theorem Go.callS (X : Stand p l e R s m args below meth c T locs cells slots) (hx : p.tables.exec = Jvm.exec) (hZ : Z.Warmed39 s.vm) {own : String} {index : Nat} (hown : s.vm.findClass own = some m.cls) {y : MethodName} {bytes : ByteArray} {maxL : Nat} {ret : Option FieldType} (w1 : (Jvm.Cond.methodLink own index y).before a0 Z = true) (w2 : (Jvm.Cond.static y).before a0 Z = true) (w3 : (Jvm.Cond.initialized y.cls).before a0 Z = true) (w4 : (Jvm.Cond.code y bytes maxL ret).before a0 Z = true) (hy : y.cls ≠ "java/lang/invoke/MethodHandle" ∧ y.cls ≠ "java/lang/invoke/VarHandle") {rm : Room} {Qc : Option Value → Heap → List Loc → Prop}  (wc : (Jvm.Cond.code y bytes maxL ret).before a0 Z = true) (wz : (Jvm.Cond.initialized y.cls).before a0 Z = true) {as : Array Value} (hC : Ctr l Z y bytes maxL ret rm as h Qc) (eT : T.heap = h)  {pc : Nat} (pc' : Nat) {Ls : Array Slot} {stk argsL rest : List Value} (hp : pc' = pc + 3) (hsz : Ls.size = c.maxLocals) (hlen : ∀ sig, parseMethodDescriptor y.desc = some sig → argsL.length = sig.parameters.length) (hst : stk = argsL.reverse ++ rest) (has : argsL.toArray = as) {W : Nat} (hW : (rest.map fun v => v.category).sum ≤ W) (hf : rm.frames + 1 ≤ R.frames) (hl : W + (maxL + 11) + rm.locals ≤ R.locals) (hc : cells + rm.cells ≤ R.cells) (hs : slots + rm.slots ≤ R.slots) (hd : decode c.code pc = .ok (.invokestatic index, 3))
    (k : ∀ (v : Option Value) (T' : State) (L : List Loc), Qc v T'.heap L → Stand p l e R s m args below meth c T' (locs ++ L) (cells + rm.cells) (slots + rm.slots) → Go p e below F0 (T'.setTop (mkF m pc' Ls (v.toList ++ rest)))) : Go p e below F0 (T.setTop (mkF m pc Ls stk)) :=
  Go.callSB X hx hZ hown w1 w2 w3 w4 hy (backOf (W := W) (hC []) hZ wc wz hf hl) eT  pc' hp hsz hlen hst hW hd (fun _ _ => ⟨has, eT, hc, hs⟩) (fun v vm₁ T' locs' cells' slots' X' ⟨L, hq, h1, h2, h3⟩ => by
    try dsimp only at h1 h2 h3
    subst h1 h2 h3
    exact k v T' L hq X')
theorem Go.callVB (X : Stand p l e R s m args below meth c T locs cells slots) (hx : p.tables.exec = Jvm.exec) (hZ : Z.Warmed39 s.vm) {own : String} {index : Nat} (hown : s.vm.findClass own = some m.cls) {x y : MethodName} {C : String} (w1 : (Jvm.Cond.methodLink own index x).before a0 Z = true) (w2 : (Jvm.Cond.declares x).before a0 Z = true) (nf : NotFace s x) (w3 : (Jvm.Cond.selects C x y).before a0 Z = true) (w4 : (Jvm.Cond.instanceMethod y).before a0 Z = true) (hy : x.cls ≠ "java/lang/invoke/MethodHandle" ∧ x.cls ≠ "java/lang/invoke/VarHandle") {W : Nat} {Pre : Pt → Array Value → Prop} {Post : Pt → Array Value → Option Value → Pt → Prop} (hK : Back l R p e below s args y 3 W Pre Post) (eT : T.heap = h) {a : Addr} (F : Exa Z h a C) {pc : Nat} (pc' : Nat) {Ls : Array Slot} {stk argsL rest : List Value} (hp : pc' = pc + 3) (hsz : Ls.size = c.maxLocals) (hlen : ∀ sig, parseMethodDescriptor x.desc = some sig → argsL.length = sig.parameters.length) (hst : stk = argsL.reverse ++ .ref a :: rest) (hW : (rest.map fun v => v.category).sum ≤ W) (hd : decode c.code pc = .ok (.invokevirtual index, 3)) (hpre : ∀ vm₁, s.WarmedH vm₁ → Pre ⟨T.setVm vm₁, locs, cells, slots⟩ (.ref a :: argsL).toArray)
    (k : ∀ (v : Option Value) (vm₁ : Vm) (T' : State) (locs' : List Loc) (cells' slots' : Nat), Stand p l e R s m args below meth c T' locs' cells' slots' → Post ⟨T.setVm vm₁, locs, cells, slots⟩ (.ref a :: argsL).toArray v ⟨T', locs', cells', slots'⟩ → Go p e below F0 (T'.setTop (mkF m pc' Ls (v.toList ++ rest)))) : Go p e below F0 (T.setTop (mkF m pc Ls stk)) := by
  subst hp
  obtain ⟨cB, kB, q1, q2, q3⟩ := isOf hZ eT F
  obtain ⟨v, vm₁, ⟨T', L', c', n'⟩, -, X', hP, st⟩ := X.virtualBack hx (y := x) (z := y) hown (mvT hZ w1) (mvT hZ w2) nf (mvT hZ w3) (mvT hZ w4) hy hK q1 q3 (g := mkF m pc Ls stk) rfl hsz (Steps.refl _) hlen hst (by show 2 * 0 + _ ≤ _; rw [Nat.mul_zero, Nat.zero_add]; exact hW) hd hpre
  exact Go.step (fun t kt => st.trans kt) (k v vm₁ T' L' c' n' X' hP)
theorem Go.callV (X : Stand p l e R s m args below meth c T locs cells slots) (hx : p.tables.exec = Jvm.exec) (hZ : Z.Warmed39 s.vm) {own : String} {index : Nat} (hown : s.vm.findClass own = some m.cls) {x y : MethodName} {C : String} (w1 : (Jvm.Cond.methodLink own index x).before a0 Z = true) (w2 : (Jvm.Cond.declares x).before a0 Z = true) (nf : NotFace s x) (w3 : (Jvm.Cond.selects C x y).before a0 Z = true) (w4 : (Jvm.Cond.instanceMethod y).before a0 Z = true) (hy : x.cls ≠ "java/lang/invoke/MethodHandle" ∧ x.cls ≠ "java/lang/invoke/VarHandle") {bytes : ByteArray} {maxL : Nat} {ret : Option FieldType} {rm : Room} {Qc : Option Value → Heap → List Loc → Prop}  (wc : (Jvm.Cond.code y bytes maxL ret).before a0 Z = true) (wz : (Jvm.Cond.initialized y.cls).before a0 Z = true) {as : Array Value} (hC : Ctr l Z y bytes maxL ret rm as h Qc) (eT : T.heap = h) {a : Addr} (F : Exa Z h a C) {pc : Nat} (pc' : Nat) {Ls : Array Slot} {stk argsL rest : List Value} (hp : pc' = pc + 3) (hsz : Ls.size = c.maxLocals) (hlen : ∀ sig, parseMethodDescriptor x.desc = some sig → argsL.length = sig.parameters.length) (hst : stk = argsL.reverse ++ .ref a :: rest) (has : (.ref a :: argsL).toArray = as) {W : Nat} (hW : (rest.map fun v => v.category).sum ≤ W) (hf : rm.frames + 1 ≤ R.frames) (hl : W + (maxL + 11) + rm.locals ≤ R.locals) (hc : cells + rm.cells ≤ R.cells) (hs : slots + rm.slots ≤ R.slots) (hd : decode c.code pc = .ok (.invokevirtual index, 3))
    (k : ∀ (v : Option Value) (T' : State) (L : List Loc), Qc v T'.heap L → Stand p l e R s m args below meth c T' (locs ++ L) (cells + rm.cells) (slots + rm.slots) → Go p e below F0 (T'.setTop (mkF m pc' Ls (v.toList ++ rest)))) : Go p e below F0 (T.setTop (mkF m pc Ls stk)) :=
  Go.callVB X hx hZ hown w1 w2 nf w3 w4 hy (backOf (W := W) (hC []) hZ wc wz hf hl) eT F pc' hp hsz hlen hst hW hd (fun _ _ => ⟨has, eT, hc, hs⟩) (fun v vm₁ T' locs' cells' slots' X' ⟨L, hq, h1, h2, h3⟩ => by
    try dsimp only at h1 h2 h3
    subst h1 h2 h3
    exact k v T' L hq X')
theorem Go.callNB (X : Stand p l e R s m args below meth c T locs cells slots) (hx : p.tables.exec = Jvm.exec) (hZ : Z.Warmed39 s.vm) {own : String} {index : Nat} (hown : s.vm.findClass own = some m.cls) {y : MethodName} {bytes : ByteArray} {maxL : Nat} (hn : y.name = "<init>") (w1 : (Jvm.Cond.methodLink own index y).before a0 Z = true) (w2 : (Jvm.Cond.instanceMethod y).before a0 Z = true) (w4 : (Jvm.Cond.code y bytes maxL none).before a0 Z = true) (hy : y.cls ≠ "java/lang/invoke/MethodHandle" ∧ y.cls ≠ "java/lang/invoke/VarHandle") {W : Nat} {Pre : Pt → Array Value → Prop} {Post : Pt → Array Value → Option Value → Pt → Prop} (hK : Back l R p e below s args y 3 W Pre Post) (eT : T.heap = h) {a : Addr} {pc : Nat} (pc' : Nat) {Ls : Array Slot} {stk argsL rest : List Value} (hp : pc' = pc + 3) (hsz : Ls.size = c.maxLocals) (hlen : ∀ sig, parseMethodDescriptor y.desc = some sig → argsL.length = sig.parameters.length) (hst : stk = argsL.reverse ++ .ref a :: rest) (hW : (rest.map fun v => v.category).sum ≤ W) (hd : decode c.code pc = .ok (.invokespecial index, 3)) (hpre : ∀ vm₁, s.WarmedH vm₁ → Pre ⟨T.setVm vm₁, locs, cells, slots⟩ (.ref a :: argsL).toArray)
    (k : ∀ (v : Option Value) (vm₁ : Vm) (T' : State) (locs' : List Loc) (cells' slots' : Nat), Stand p l e R s m args below meth c T' locs' cells' slots' → Post ⟨T.setVm vm₁, locs, cells, slots⟩ (.ref a :: argsL).toArray v ⟨T', locs', cells', slots'⟩ → Go p e below F0 (T'.setTop (mkF m pc' Ls (v.toList ++ rest)))) : Go p e below F0 (T.setTop (mkF m pc Ls stk)) := by
  subst hp
  obtain ⟨v, vm₁, ⟨T', L', c', n'⟩, -, X', hP, st⟩ := X.specialBack hx (y := y) hn hown (mvT hZ w1) (mvT hZ w2) (mvT hZ w4) hy hK (g := mkF m pc Ls stk) rfl hsz (Steps.refl _) (a := a) hlen hst (by show 2 * 0 + _ ≤ _; rw [Nat.mul_zero, Nat.zero_add]; exact hW) hd hpre
  exact Go.step (fun t kt => st.trans kt) (k v vm₁ T' L' c' n' X' hP)
theorem Go.callN (X : Stand p l e R s m args below meth c T locs cells slots) (hx : p.tables.exec = Jvm.exec) (hZ : Z.Warmed39 s.vm) {own : String} {index : Nat} (hown : s.vm.findClass own = some m.cls) {y : MethodName} {bytes : ByteArray} {maxL : Nat} (hn : y.name = "<init>") (w1 : (Jvm.Cond.methodLink own index y).before a0 Z = true) (w2 : (Jvm.Cond.instanceMethod y).before a0 Z = true) (w4 : (Jvm.Cond.code y bytes maxL none).before a0 Z = true) (hy : y.cls ≠ "java/lang/invoke/MethodHandle" ∧ y.cls ≠ "java/lang/invoke/VarHandle") {rm : Room} {Qc : Option Value → Heap → List Loc → Prop}  (wc : (Jvm.Cond.code y bytes maxL none).before a0 Z = true) (wz : (Jvm.Cond.initialized y.cls).before a0 Z = true) {as : Array Value} (hC : Ctr l Z y bytes maxL none rm as h Qc) (eT : T.heap = h) {a : Addr} {pc : Nat} (pc' : Nat) {Ls : Array Slot} {stk argsL rest : List Value} (hp : pc' = pc + 3) (hsz : Ls.size = c.maxLocals) (hlen : ∀ sig, parseMethodDescriptor y.desc = some sig → argsL.length = sig.parameters.length) (hst : stk = argsL.reverse ++ .ref a :: rest) (has : (.ref a :: argsL).toArray = as) {W : Nat} (hW : (rest.map fun v => v.category).sum ≤ W) (hf : rm.frames + 1 ≤ R.frames) (hl : W + (maxL + 11) + rm.locals ≤ R.locals) (hc : cells + rm.cells ≤ R.cells) (hs : slots + rm.slots ≤ R.slots) (hd : decode c.code pc = .ok (.invokespecial index, 3))
    (k : ∀ (v : Option Value) (T' : State) (L : List Loc), Qc v T'.heap L → Stand p l e R s m args below meth c T' (locs ++ L) (cells + rm.cells) (slots + rm.slots) → Go p e below F0 (T'.setTop (mkF m pc' Ls (v.toList ++ rest)))) : Go p e below F0 (T.setTop (mkF m pc Ls stk)) :=
  Go.callNB X hx hZ hown hn w1 w2 w4 hy (backOf (W := W) (hC []) hZ wc wz hf hl) eT  pc' hp hsz hlen hst hW hd (fun _ _ => ⟨has, eT, hc, hs⟩) (fun v vm₁ T' locs' cells' slots' X' ⟨L, hq, h1, h2, h3⟩ => by
    try dsimp only at h1 h2 h3
    subst h1 h2 h3
    exact k v T' L hq X')
theorem Go.callPB (X : Stand p l e R s m args below meth c T locs cells slots) (hx : p.tables.exec = Jvm.exec) (hZ : Z.Warmed39 s.vm) {own : String} {index : Nat} (hown : s.vm.findClass own = some m.cls) {y : MethodName} {bytes : ByteArray} {maxL : Nat} {ret : Option FieldType} {C : String} (w1 : (Jvm.Cond.methodLink own index y).before a0 Z = true) (w2 : (Jvm.Cond.instanceMethod y).before a0 Z = true) (w3 : (Jvm.Cond.selects C y y).before a0 Z = true) (w4 : (Jvm.Cond.privateMethod y).before a0 Z = true) (w5 : (Jvm.Cond.code y bytes maxL ret).before a0 Z = true) (hy : y.cls ≠ "java/lang/invoke/MethodHandle" ∧ y.cls ≠ "java/lang/invoke/VarHandle") {W : Nat} {Pre : Pt → Array Value → Prop} {Post : Pt → Array Value → Option Value → Pt → Prop} (hK : Back l R p e below s args y 3 W Pre Post) (eT : T.heap = h) {a : Addr} (F : Exa Z h a C) {pc : Nat} (pc' : Nat) {Ls : Array Slot} {stk argsL rest : List Value} (hp : pc' = pc + 3) (hsz : Ls.size = c.maxLocals) (hlen : ∀ sig, parseMethodDescriptor y.desc = some sig → argsL.length = sig.parameters.length) (hst : stk = argsL.reverse ++ .ref a :: rest) (hW : (rest.map fun v => v.category).sum ≤ W) (hd : decode c.code pc = .ok (.invokevirtual index, 3)) (hpre : ∀ vm₁, s.WarmedH vm₁ → Pre ⟨T.setVm vm₁, locs, cells, slots⟩ (.ref a :: argsL).toArray)
    (k : ∀ (v : Option Value) (vm₁ : Vm) (T' : State) (locs' : List Loc) (cells' slots' : Nat), Stand p l e R s m args below meth c T' locs' cells' slots' → Post ⟨T.setVm vm₁, locs, cells, slots⟩ (.ref a :: argsL).toArray v ⟨T', locs', cells', slots'⟩ → Go p e below F0 (T'.setTop (mkF m pc' Ls (v.toList ++ rest)))) : Go p e below F0 (T.setTop (mkF m pc Ls stk)) := by
  subst hp
  obtain ⟨cB, q1, q2⟩ := F.cell
  obtain ⟨v, vm₁, ⟨T', L', c', n'⟩, -, X', hP, st⟩ := X.privateBack hx (y := y) hown (mvT hZ w1) (mvT hZ w2) (own_selfsel (mvT hZ w3) (Cond.privateMethod_at (mvP hZ w4 (args := #[]))) (mvT hZ w2) hy) (Cond.privateMethod_at (mvP hZ w4 (args := #[]))) (mvT hZ w5) hy hK (g := mkF m pc Ls stk) rfl hsz (Steps.refl _) (a := a) (by rw [eT]; exact q1) q2 hlen hst (by show 2 * 0 + _ ≤ _; rw [Nat.mul_zero, Nat.zero_add]; exact hW) hd hpre
  exact Go.step (fun t kt => st.trans kt) (k v vm₁ T' L' c' n' X' hP)
theorem Go.callP (X : Stand p l e R s m args below meth c T locs cells slots) (hx : p.tables.exec = Jvm.exec) (hZ : Z.Warmed39 s.vm) {own : String} {index : Nat} (hown : s.vm.findClass own = some m.cls) {y : MethodName} {bytes : ByteArray} {maxL : Nat} {ret : Option FieldType} {C : String} (w1 : (Jvm.Cond.methodLink own index y).before a0 Z = true) (w2 : (Jvm.Cond.instanceMethod y).before a0 Z = true) (w3 : (Jvm.Cond.selects C y y).before a0 Z = true) (w4 : (Jvm.Cond.privateMethod y).before a0 Z = true) (w5 : (Jvm.Cond.code y bytes maxL ret).before a0 Z = true) (hy : y.cls ≠ "java/lang/invoke/MethodHandle" ∧ y.cls ≠ "java/lang/invoke/VarHandle") {rm : Room} {Qc : Option Value → Heap → List Loc → Prop}  (wc : (Jvm.Cond.code y bytes maxL ret).before a0 Z = true) (wz : (Jvm.Cond.initialized y.cls).before a0 Z = true) {as : Array Value} (hC : Ctr l Z y bytes maxL ret rm as h Qc) (eT : T.heap = h) {a : Addr} (F : Exa Z h a C) {pc : Nat} (pc' : Nat) {Ls : Array Slot} {stk argsL rest : List Value} (hp : pc' = pc + 3) (hsz : Ls.size = c.maxLocals) (hlen : ∀ sig, parseMethodDescriptor y.desc = some sig → argsL.length = sig.parameters.length) (hst : stk = argsL.reverse ++ .ref a :: rest) (has : (.ref a :: argsL).toArray = as) {W : Nat} (hW : (rest.map fun v => v.category).sum ≤ W) (hf : rm.frames + 1 ≤ R.frames) (hl : W + (maxL + 11) + rm.locals ≤ R.locals) (hc : cells + rm.cells ≤ R.cells) (hs : slots + rm.slots ≤ R.slots) (hd : decode c.code pc = .ok (.invokevirtual index, 3))
    (k : ∀ (v : Option Value) (T' : State) (L : List Loc), Qc v T'.heap L → Stand p l e R s m args below meth c T' (locs ++ L) (cells + rm.cells) (slots + rm.slots) → Go p e below F0 (T'.setTop (mkF m pc' Ls (v.toList ++ rest)))) : Go p e below F0 (T.setTop (mkF m pc Ls stk)) :=
  Go.callPB X hx hZ hown w1 w2 w3 w4 w5 hy (backOf (W := W) (hC []) hZ wc wz hf hl) eT F pc' hp hsz hlen hst hW hd (fun _ _ => ⟨has, eT, hc, hs⟩) (fun v vm₁ T' locs' cells' slots' X' ⟨L, hq, h1, h2, h3⟩ => by
    try dsimp only at h1 h2 h3
    subst h1 h2 h3
    exact k v T' L hq X')
theorem Go.callUpB (X : Stand p l e R s m args below meth c T locs cells slots) (hx : p.tables.exec = Jvm.exec) (hZ : Z.Warmed39 s.vm) {own : String} {index : Nat} (hown : s.vm.findClass own = some m.cls) {y : MethodName} {bytes : ByteArray} {maxL : Nat} {ret : Option FieldType} {C : String} (w1 : (Jvm.Cond.methodLink own index y).before a0 Z = true) (w2 : (Jvm.Cond.sameMethod y.cls y.cls y.name y.desc).before a0 Z = true) (w3 : (Jvm.Cond.instanceMethod y).before a0 Z = true) (w4 : (Jvm.Cond.superclass own y.cls).before a0 Z = true) (hn : y.name ≠ "<init>") (w5 : (Jvm.Cond.code y bytes maxL ret).before a0 Z = true) {W : Nat} {Pre : Pt → Array Value → Prop} {Post : Pt → Array Value → Option Value → Pt → Prop} (hK : Back l R p e below s args y 3 W Pre Post) (eT : T.heap = h) {a : Addr} (F : Exa Z h a C) {pc : Nat} (pc' : Nat) {Ls : Array Slot} {stk argsL rest : List Value} (hp : pc' = pc + 3) (hsz : Ls.size = c.maxLocals) (hlen : ∀ sig, parseMethodDescriptor y.desc = some sig → argsL.length = sig.parameters.length) (hst : stk = argsL.reverse ++ .ref a :: rest) (hW : (rest.map fun v => v.category).sum ≤ W) (hd : decode c.code pc = .ok (.invokespecial index, 3)) (hpre : ∀ vm₁, s.WarmedH vm₁ → Pre ⟨T.setVm vm₁, locs, cells, slots⟩ (.ref a :: argsL).toArray)
    (k : ∀ (v : Option Value) (vm₁ : Vm) (T' : State) (locs' : List Loc) (cells' slots' : Nat), Stand p l e R s m args below meth c T' locs' cells' slots' → Post ⟨T.setVm vm₁, locs, cells, slots⟩ (.ref a :: argsL).toArray v ⟨T', locs', cells', slots'⟩ → Go p e below F0 (T'.setTop (mkF m pc' Ls (v.toList ++ rest)))) : Go p e below F0 (T.setTop (mkF m pc Ls stk)) := by
  subst hp
  obtain ⟨v, vm₁, ⟨T', L', c', n'⟩, -, X', hP, st⟩ := superBack X hx hZ (y := y) hown w1 w2 w3 w4 hn hK eT (Ins.self F) (g := mkF m pc Ls stk) rfl hsz w5 hlen hst (by show 2 * 0 + _ ≤ _; rw [Nat.mul_zero, Nat.zero_add]; exact hW) hd hpre
  exact Go.step (fun t kt => st.trans kt) (k v vm₁ T' L' c' n' X' hP)
theorem Go.callUp (X : Stand p l e R s m args below meth c T locs cells slots) (hx : p.tables.exec = Jvm.exec) (hZ : Z.Warmed39 s.vm) {own : String} {index : Nat} (hown : s.vm.findClass own = some m.cls) {y : MethodName} {bytes : ByteArray} {maxL : Nat} {ret : Option FieldType} {C : String} (w1 : (Jvm.Cond.methodLink own index y).before a0 Z = true) (w2 : (Jvm.Cond.sameMethod y.cls y.cls y.name y.desc).before a0 Z = true) (w3 : (Jvm.Cond.instanceMethod y).before a0 Z = true) (w4 : (Jvm.Cond.superclass own y.cls).before a0 Z = true) (hn : y.name ≠ "<init>") (w5 : (Jvm.Cond.code y bytes maxL ret).before a0 Z = true) {rm : Room} {Qc : Option Value → Heap → List Loc → Prop}  (wc : (Jvm.Cond.code y bytes maxL ret).before a0 Z = true) (wz : (Jvm.Cond.initialized y.cls).before a0 Z = true) {as : Array Value} (hC : Ctr l Z y bytes maxL ret rm as h Qc) (eT : T.heap = h) {a : Addr} (F : Exa Z h a C) {pc : Nat} (pc' : Nat) {Ls : Array Slot} {stk argsL rest : List Value} (hp : pc' = pc + 3) (hsz : Ls.size = c.maxLocals) (hlen : ∀ sig, parseMethodDescriptor y.desc = some sig → argsL.length = sig.parameters.length) (hst : stk = argsL.reverse ++ .ref a :: rest) (has : (.ref a :: argsL).toArray = as) {W : Nat} (hW : (rest.map fun v => v.category).sum ≤ W) (hf : rm.frames + 1 ≤ R.frames) (hl : W + (maxL + 11) + rm.locals ≤ R.locals) (hc : cells + rm.cells ≤ R.cells) (hs : slots + rm.slots ≤ R.slots) (hd : decode c.code pc = .ok (.invokespecial index, 3))
    (k : ∀ (v : Option Value) (T' : State) (L : List Loc), Qc v T'.heap L → Stand p l e R s m args below meth c T' (locs ++ L) (cells + rm.cells) (slots + rm.slots) → Go p e below F0 (T'.setTop (mkF m pc' Ls (v.toList ++ rest)))) : Go p e below F0 (T.setTop (mkF m pc Ls stk)) :=
  Go.callUpB X hx hZ hown w1 w2 w3 w4 hn w5 (backOf (W := W) (hC []) hZ wc wz hf hl) eT F pc' hp hsz hlen hst hW hd (fun _ _ => ⟨has, eT, hc, hs⟩) (fun v vm₁ T' locs' cells' slots' X' ⟨L, hq, h1, h2, h3⟩ => by
    try dsimp only at h1 h2 h3
    subst h1 h2 h3
    exact k v T' L hq X')
theorem Go.arraycopy (X : Stand p l e R s m args below meth c T locs cells slots) (hx : p.tables.exec = Jvm.exec) (hZ : Z.Warmed39 s.vm) {own : String} {index : Nat} (hown : s.vm.findClass own = some m.cls) (w1 : (Jvm.Cond.methodLink own index Jvm.Stand.acN).before a0 Z = true) (w2 : (Jvm.Cond.native Jvm.Stand.acN).before a0 Z = true) (w3 : (Jvm.Cond.static Jvm.Stand.acN).before a0 Z = true) (w4 : (Jvm.Cond.initialized "java/lang/System").before a0 Z = true) (eT : T.heap = h) {a b : Addr} {k1 k2 : ClassId} {ty : FieldType} {z z' sp dp nn : Int32} {vs vd us : List Value} {dv dd : Value} (A : Arv Z h a k1 ty z vs dv) (B : Arv Z h b k2 ty z' vd dd) (hty : refKind ty = false) (h1 : ¬ sp < 0) (h2 : ¬ dp < 0) (h3 : ¬ nn < 0) (h4 : sp.toNatClampNeg + nn.toNatClampNeg ≤ z.toNatClampNeg) (h5 : dp.toNatClampNeg + nn.toNatClampNeg ≤ z'.toNatClampNeg) (hus : us = (List.range nn.toNatClampNeg).map fun i => vs.getD (sp.toNatClampNeg + i) dv) (hl : dp.toNatClampNeg + nn.toNatClampNeg ≤ vd.length) {n0 : Nat} (N : Fr n0 locs) (ge : n0 ≤ b) (hf : 1 ≤ R.frames) {W : Nat} {pc : Nat} (pc' : Nat) {Ls : Array Slot} {rest : List Value} (hsz : Ls.size = c.maxLocals) (hW : (rest.map fun v => v.category).sum ≤ W) (hlo : W + (nativeFrameWords "java/lang/System" "arraycopy" 5 + 11) ≤ R.locals) (hp : pc' = pc + 3) (hd : decode c.code pc = .ok (.invokestatic index, 3))
    (k : ∀ T' h' L, T'.heap = h' → Fr n0 L → Keep h h' [b] → Arv Z h' b k2 ty z' (vd.take dp.toNatClampNeg ++ us ++ vd.drop (dp.toNatClampNeg + nn.toNatClampNeg)) dd → Stand p l e R s m args below meth c T' L cells slots → Go p e below F0 (T'.setTop (mkF m pc' Ls rest))) : Go p e below F0 (T.setTop (mkF m pc Ls (.int nn :: .int dp :: .ref b :: .int sp :: .ref a :: rest))) := by
  subst hp
  obtain ⟨T', h', L, X', e', N', K', V', st⟩ := cpA X hx hZ hown w1 w2 w3 w4 eT A B (Or.inl ⟨rfl, hty⟩) h1 h2 h3 h4 h5 hus hl N ge (g := mkF m pc Ls (.int nn :: .int dp :: .ref b :: .int sp :: .ref a :: rest)) rfl hsz rfl hd hf (W := W) (by show 2 * 0 + _ ≤ _; rw [Nat.mul_zero, Nat.zero_add]; exact hW) hlo
  exact Go.step st (k T' h' L e' N' K' V' X')
end OwnGo
end Jvm.RoadKit
namespace Jvm.RoadKit
open Sem ClassFile Op Lib Jvm.Stand Jvm.Free Jvm.LawKit
section OwnWide
variable {p : Program} {l : Launch} {e : Env} {R : Room} {s : State} {m : MethodId} {args : Array Value} {below : List Frame} {meth : Method} {c : Code} {T : State} {locs : List Loc} {cells slots kc ks : Nat} {Z : State} {a0 : Array Value} {h : Heap} {Q : Option Value → Heap → List Loc → Prop} {F0 : State → Outcome → Prop} {EL : List (String × Nat)} {vm0 : Vm} {sf : List Addr} {QW : Option Value → Vm → Heap → List Loc → Prop}
/-- the wide end: constants may have been resolved meanwhile -/
def EndW (Z : State) (EL : List (String × Nat)) (s : State) (QW : Option Value → Vm → Heap → List Loc → Prop) (kc ks : Nat) (U : State) (o : Outcome) : Prop :=
  ∃ v L, o = .returned v ∧ QW v U.vm U.heap L ∧ CHr Z EL s.vm s.heap U.vm U.heap ∧ ReturnedEndW s o U L kc ks
def CtrW (l : Launch) (Z : State) (EL : List (String × Nat)) (y : MethodName) (bytes : ByteArray) (maxL : Nat) (ret : Option FieldType) (rm : Room) (as : Array Value) (h : Heap) (sf : List Addr) (QW : Option Value → Vm → Heap → List Loc → Prop) : Prop :=
  ∀ ws : List Jvm.Cond, MetFree l y (head1 (Jvm.Cond.code y bytes maxL ret :: ws) rm) (fun a U => a = as ∧ Z.Warmed39 U.vm ∧ U.heap = h ∧ CHv Z EL U.vm h ∧ ∀ x ∈ sf, Safe Z EL U.vm h x) (fun _ _ _ _ _ => True) (fun _ U o U' => EndW Z EL U QW rm.cells rm.slots U' o)
theorem since0 (s : State) (n : Nat) : s.Since s.vm n := State.WarmedH.since (State.WarmedH.refl s) n
theorem CtrW.of {y : MethodName} {bytes : ByteArray} {maxL : Nat} {ret : Option FieldType} {rm : Room} {as : Array Value} (hp : plainFor y = true)
    (body : ∀ (p : Program) (e : Env) (s : State) (m : MethodId) (below : List Frame) (meth : Method) (c : Code) (T : State), p.tables.exec = Jvm.exec → Z.Warmed39 s.vm → c.code = bytes → c.maxLocals = maxL → s.vm.findClass y.cls = some m.cls → meth.name = y.name → meth.sig.returnType = ret → meth.locks = false → T.heap = h → s.heap = h → s.Since s.vm h.size → CHr Z EL s.vm s.heap s.vm h → (∀ x ∈ sf, Safe Z EL s.vm h x) → Stand p l e rm (s.setVm s.vm) m as below meth c T [] 0 0 →
      Go p e below (EndW Z EL s QW rm.cells rm.slots) (T.setTop (entryFrame m as maxL))) : CtrW l Z EL y bytes maxL ret rm as h sf QW := by
  intro ws
  refine MetFree.of_bodySF hp hisR ?_
  intro p e s m args below meth c s₁ Bd hml0 hP hK
  obtain ⟨rfl, hZ, hh, hC, hs⟩ := hP
  exact body p e s m below meth c s₁ Bd.exec hZ Bd.bytes hml0 (findClass_of_methodNamed Bd.named) (name_of_methodNamed Bd.named Bd.method).1 Bd.returns Bd.notSynchronized (by rw [← hh, Bd.state]; rfl) hh (since0 s _) (by rw [hh]; exact CHr.refl hC) hs (Stand.of_body Bd)
theorem Go.endW (X : Stand p l e R (s.setVm vm0) m args below meth c T locs cells slots) (hx : p.tables.exec = Jvm.exec) {v : Option Value} (hv : meth.sig.returnType = none → v = none) (hlk : meth.locks = false) (hc : cells ≤ kc) (hs : slots ≤ ks) (hZ : Z.Warmed39 vm0) (hEL : EW Z a0 EL) (eT : T.heap = h) {k0 : Nat} (hS : s.Since vm0 k0) (hk : k0 ≤ h.size) (hC : CHr Z EL s.vm s.heap vm0 h) (q : CHr Z EL vm0 h T.vm h → QW v T.vm h locs) {g : JFrame}
    (st : ∀ fs, (∀ (f : JFrame) (acts : List Action), f.method = m → f.locked = none → f.entered = [] → (doReturn e (T.setTop f) acts v).1 = T.setFrames fs) → Steps p.tables e below (T.setTop g) (T.setFrames fs)) : Go p e below (EndW Z EL s QW kc ks) (T.setTop g) := by
  obtain ⟨fs, hr, hrun, hended, hE⟩ := X.leaveW hS (by rw [eT]; exact hk) (v := v) hv hlk
  have hat := CHv.at X hZ hEL hC.1
  refine ⟨_, _, st fs hr, hrun, hended, v, locs, rfl, ?_, ?_, hE.1, hE.2.1, hE.2.2.1, hE.2.2.2.mono hc hs⟩
  · show QW v T.vm T.heap locs
    rw [eT]; exact q hat
  · show CHr Z EL s.vm s.heap T.vm T.heap
    rw [eT]; exact hC.trans hat
theorem Go.retNW (X : Stand p l e R (s.setVm vm0) m args below meth c T locs cells slots) (hx : p.tables.exec = Jvm.exec) (hlk : meth.locks = false) (hZ : Z.Warmed39 vm0) (hEL : EW Z a0 EL) (eT : T.heap = h) {k0 : Nat} (hS : s.Since vm0 k0) (hk : k0 ≤ h.size) (hC : CHr Z EL s.vm s.heap vm0 h) {t : FieldType} (hret : meth.sig.returnType = some t) (ht : t = .boolean ∨ t = .byte ∨ t = .char ∨ t = .short) {pc : Nat} {Ls : Array Slot} {z : Int32} {rest : List Value} (hd : decode c.code pc = .ok (.ireturn, 1)) (hc : cells ≤ kc) (hs : slots ≤ ks) (q : CHr Z EL vm0 h T.vm h → QW (some (.int (nar t z))) T.vm h locs) : Go p e below (EndW Z EL s QW kc ks) (T.setTop (mkF m pc Ls (.int z :: rest))) :=
  Go.endW X hx (fun h => by rw [hret] at h; cases h) hlk hc hs hZ hEL eT hS hk hC q (fun fs hr => Jvm.RoadKit.retN X hx hret ht hd hr)
theorem Go.retRW (X : Stand p l e R (s.setVm vm0) m args below meth c T locs cells slots) (hx : p.tables.exec = Jvm.exec) (hlk : meth.locks = false) (hZ : Z.Warmed39 vm0) (hEL : EW Z a0 EL) (eT : T.heap = h) {k0 : Nat} (hS : s.Since vm0 k0) (hk : k0 ≤ h.size) (hC : CHr Z EL s.vm s.heap vm0 h) {t : FieldType} (hret : meth.sig.returnType = some t) (ht : t.isReference = true) {pc : Nat} {Ls : Array Slot} {v : Value} (hv : v.isRef = true) {rest : List Value} (hd : decode c.code pc = .ok (.areturn, 1)) (hc : cells ≤ kc) (hs : slots ≤ ks) (q : CHr Z EL vm0 h T.vm h → QW (some v) T.vm h locs) : Go p e below (EndW Z EL s QW kc ks) (T.setTop (mkF m pc Ls (v :: rest))) :=
  Go.endW X hx (fun h => by rw [hret] at h; cases h) hlk hc hs hZ hEL eT hS hk hC q (fun fs hr => retOut X hx hret (by rcases ref_cases hv with rfl | ⟨z, rfl⟩ <;> cases t <;> simp [FieldType.isReference] at ht <;> rfl) (Or.inr (Or.inr (Or.inr (Or.inr ⟨rfl, ht, hv⟩)))) hd hr)
theorem CtrW.back {y : MethodName} {bytes : ByteArray} {maxL : Nat} {ret : Option FieldType} {rm : Room} {len W : Nat} {as : Array Value} (hM : CtrW l Z EL y bytes maxL ret rm as h sf QW)
    (hZ : Z.Warmed39 vm0) (wc : (Jvm.Cond.code y bytes maxL ret).before a0 Z = true) (wz : (Jvm.Cond.initialized y.cls).before a0 Z = true) (hf : rm.frames + 1 ≤ R.frames) (hl : W + (maxL + 11) + rm.locals ≤ R.locals) (hEL : EW Z a0 EL) (H : CHv Z EL vm0 h) (hsf : ∀ x ∈ sf, x < h.size ∧ Safe Z EL vm0 h x) :
    BackS l R p e below (s.setVm vm0) args y len W (fun A a => a = as ∧ A.U.heap = h ∧ A.cells + rm.cells ≤ R.cells ∧ A.slots + rm.slots ≤ R.slots)
      (fun A _ v B => ∃ L, QW v B.U.vm B.U.heap L ∧ B.locs = A.locs ++ L ∧ B.cells = A.cells + rm.cells ∧ B.slots = A.slots + rm.slots ∧ CHr Z EL vm0 h B.U.vm B.U.heap) :=
  BackS.of_freeW (bytes := bytes) (maxL := maxL) (ret := ret) (E := fun _ first o t L k n => k = rm.cells ∧ n = rm.slots ∧ (∃ v, o = .returned v ∧ QW v t.vm t.heap L) ∧ CHr Z EL first.vm first.heap t.vm t.heap) (hM []) hf hl
    (fun m meth c A a Y hp => have hU : Z.Warmed39 A.U.vm := wtrans (s := s.setVm vm0) hZ Y.warmed
      ⟨by show (Jvm.Cond.and _ .tt).before a A.U = true; rw [Cond.before_and, mv hU wc]; rfl, mv hU wc, mv hU wz, hp.2.2.1, hp.2.2.2⟩)
    (fun m meth c A a g mk Y hp => have hA := CHv.at Y hZ hEL H
      ⟨hp.1, wtrans (s := s.setVm vm0) hZ Y.warmed, hp.2.1, hA.1, fun x hx => hA.safe (hsf x hx).1 (hsf x hx).2⟩) (fun _ _ _ _ _ _ _ _ _ => trivial)
    (fun _ _ _ _ ⟨v, L, h1, h2, h3, h4⟩ => ⟨L, _, _, h4, rfl, rfl, ⟨v, h1, h2⟩, h3⟩)
    (fun m meth c A a g mk v t L k n Y hp _ _ ⟨e1, e2, ⟨v', e3, e4⟩, e5⟩ => by
      cases e3; subst e1 e2
      refine ⟨L, e4, rfl, rfl, rfl, (CHv.at Y hZ hEL H).trans ?_⟩
      rw [← hp.2.1]; exact e5)
theorem Go.callVW (X : Stand p l e R (s.setVm vm0) m args below meth c T locs cells slots) (hx : p.tables.exec = Jvm.exec) (hZ : Z.Warmed39 vm0) {own : String} {index : Nat} (hown : vm0.findClass own = some m.cls) {x y : MethodName} {C : String} {bytes : ByteArray} {maxL : Nat} {ret : Option FieldType} {rm : Room} (w1 : (Jvm.Cond.methodLink own index x).before a0 Z = true) (w2 : (Jvm.Cond.declares x).before a0 Z = true) (nf : NotFace (s.setVm vm0) x) (w3 : (Jvm.Cond.selects C x y).before a0 Z = true) (w4 : (Jvm.Cond.instanceMethod y).before a0 Z = true) (hy : x.cls ≠ "java/lang/invoke/MethodHandle" ∧ x.cls ≠ "java/lang/invoke/VarHandle") (wc : (Jvm.Cond.code y bytes maxL ret).before a0 Z = true) (wz : (Jvm.Cond.initialized y.cls).before a0 Z = true) {as : Array Value} (hM : CtrW l Z EL y bytes maxL ret rm as h sf QW) (hEL : EW Z a0 EL) (H : CHv Z EL vm0 h) (hsf : ∀ x ∈ sf, x < h.size ∧ Safe Z EL vm0 h x) {k0 : Nat} (hS : s.Since vm0 k0) (hk : k0 ≤ h.size) (eT : T.heap = h) {a : Addr} (F : Exa Z h a C) {pc : Nat} (pc' : Nat) {Ls : Array Slot} {stk argsL rest : List Value} (hp : pc' = pc + 3) (hsz : Ls.size = c.maxLocals) (hlen : ∀ sig, parseMethodDescriptor x.desc = some sig → argsL.length = sig.parameters.length) (hst : stk = argsL.reverse ++ .ref a :: rest) (has : (.ref a :: argsL).toArray = as) {W : Nat} (hW : (rest.map fun v => v.category).sum ≤ W) (hf : rm.frames + 1 ≤ R.frames) (hl : W + (maxL + 11) + rm.locals ≤ R.locals) (hc : cells + rm.cells ≤ R.cells) (hs : slots + rm.slots ≤ R.slots) (hd : decode c.code pc = .ok (.invokevirtual index, 3))
    (k : ∀ (v : Option Value) (T' : State) (L : List Loc) (h' : Heap), T'.heap = h' → QW v T'.vm h' L → CHr Z EL vm0 h T'.vm h' → s.Since T'.vm h'.size → Z.Warmed39 T'.vm → T'.vm.findClass own = some m.cls → Stand p l e R (s.setVm T'.vm) m args below meth c T' (locs ++ L) (cells + rm.cells) (slots + rm.slots) → Go p e below F0 (T'.setTop (mkF m pc' Ls (v.toList ++ rest)))) : Go p e below F0 (T.setTop (mkF m pc Ls stk)) := by
  subst hp
  obtain ⟨cB, kB, q1, q2, q3⟩ := isOf (s := s.setVm vm0) hZ eT F
  obtain ⟨v, vm₁, ⟨T', L', c', n'⟩, -, X', h2, hg, ⟨L, hq, h1, h3, h4, h5⟩, st⟩ := X.virtualBackS hx (y := x) (z := y) hown (mvT (s := s.setVm vm0) hZ w1) (mvT (s := s.setVm vm0) hZ w2) nf (mvT (s := s.setVm vm0) hZ w3) (mvT (s := s.setVm vm0) hZ w4) hy (hM.back (W := W) hZ wc wz hf hl hEL H hsf) q1 q3 (g := mkF m pc Ls stk) rfl hsz (Steps.refl _) hlen hst (by show 2 * 0 + _ ≤ _; rw [Nat.mul_zero, Nat.zero_add]; exact hW) hd (fun _ _ => ⟨has, eT, hc, hs⟩)
  obtain ⟨X2, hS2, hZ2, hown2⟩ := rebS hS (by rw [eT]; exact hk) X' h2 hg hZ hown
  try dsimp only at h1 h3 h4
  subst h1 h3 h4
  exact Go.step (fun t kt => st.trans kt) (k v T' L T'.heap rfl hq h5 hS2 hZ2 hown2 X2)
theorem Go.ldcCH (X : Stand p l e R (s.setVm vm0) m args below meth c T locs cells slots) (hx : p.tables.exec = Jvm.exec) (hZ : Z.Warmed39 vm0) {own text : String} {index : Nat} (hown : vm0.findClass own = some m.cls) (wl : (Jvm.Cond.stringLink own index text).before a0 Z = true) (wS : ∀ a ∈ Bundle.stringAtoms, a.before a0 Z = true) (eT : T.heap = h) {k0 : Nat} (hS : s.Since vm0 k0) (hk : k0 ≤ h.size) (hEL : EW Z a0 EL) (hmem : (own, index) ∈ EL) (H : CHv Z EL vm0 h) {vs : List Value} {z : Int32} (ht : (∀ c ∈ text.toList, c.toNat < 256) ∧ text.toList.map (fun c => Value.int (Jvm.Lit.byteI c.toNat.toUInt16)) = vs) (hz : ¬ z < 0) (hl : z.toNatClampNeg = vs.length) {n : Nat} (hn : 4 * text.toList.length ≤ n) (hbig : n ≤ 536870912) (hc : cells + 2 ≤ R.cells) (hl' : slots + (n + 4) ≤ R.slots) {pc : Nat} (pc' : Nat) {Ls : Array Slot} {rest : List Value} (hp : pc' = pc + 2) (hd : decode c.code pc = .ok (.ldc index, 2))
    (k : ∀ (a : Addr) (T' : State) (h' : Heap) (k1 : Nat) (b : Addr) (kk : ClassId), T'.heap = h' → Ext h h' → s.Since T'.vm k1 → k1 ≤ h'.size → Z.Warmed39 T'.vm → T'.vm.findClass own = some m.cls → Exa Z h' a "java/lang/String" → Fld Z h' a "java/lang/String" "coder" "B" (.int 0) → Fld Z h' a "java/lang/String" "value" "[B" (.ref b) → Arv Z h' b kk .byte z vs (.int 0) → CHr Z EL vm0 h T'.vm h' → (∀ x, Safe Z EL T'.vm h' x → x ≠ a ∧ x ≠ b) → Stand p l e R (s.setVm T'.vm) m args below meth c T' locs (cells + 2) (slots + (n + 4)) → Go p e below F0 (T'.setTop (mkF m pc' Ls (.ref a :: rest)))) : Go p e below F0 (T.setTop (mkF m pc Ls rest)) := by
  subst hp
  obtain ⟨a, T', h', k1, b, kk, X', e', E, hS', hk', hZ', hown', F1, F2, F3, F4, -, -, C, -, hne, st⟩ := Jvm.RoadKit.ldcCH X hx hZ hown wl wS eT hS hk hEL hmem H ht hz hl (g := mkF m pc Ls rest) rfl hd hn hbig hc hl'
  exact Go.step st (k a T' h' k1 b kk e' E hS' hk' hZ' hown' F1 F2 F3 F4 C hne X')
end OwnWide
end Jvm.RoadKit
namespace Jvm.Pilot.@@N@@
open Jvm Jvm.ClassFile Sem Op Lib Jvm.Free Jvm.Stand Jvm.LawKit Jvm.RoadKit Bundle Jvm.Pilot.@@N@@.Jvm.D
set_option maxRecDepth 65536
set_option maxHeartbeats 4000000
abbrev HW (a0 : Array Value) (Z : State) : Prop := ∀ d ∈ tables_1, d.before a0 Z = true
theorem own_tw {Z : State} {a0 : Array Value} (hw : HW a0 Z) (i : Nat) {d : Jvm.Cond} (h : tables_1[i]? = some d) : d.before a0 Z = true := hw d (List.mem_of_getElem? h)
abbrev vI (x : Int32) : Slot := .val (.int x)
abbrev vR (x : Addr) : Slot := .val (.ref x)
abbrev uS : Slot := .unset
abbrev rM (f c s l : Nat) : Room := { frames := f, cells := c, slots := s, locals := l }
theorem nB {a b : Nat} (h : Nat.ble a b = true) : a ≤ b := Nat.le_of_ble_eq_true h
theorem nE {a b : Nat} (h : a = b) : a ≤ b := Nat.le_of_eq h
theorem mG {α : Type} {l : List α} (i : Nat) {a : α} (h : l[i]? = some a) : a ∈ l := List.mem_of_getElem? h
abbrev s0 : String := "java/lang/AbstractStringBuilder"
abbrev s1 : String := "java/lang/String"
abbrev s2 : String := "com/example/rockhopper/rockhopper/model/Validators"
abbrev s3 : String := "java/lang/StringBuilder"
abbrev s4 : String := "coder"
abbrev s5 : String := "value"
abbrev s6 : String := "Ljava/lang/String;"
theorem tw_0 {Z : State} {a0 : Array Value} (hw : HW a0 Z) : (Cond.methodLink "com/example/rockhopper/rockhopper/model/ValidatorsToStringPinLaw" 7 ⟨"com/example/rockhopper/rockhopper/model/ValidatorsToStringPinLaw", "b", "(II)C"⟩).before a0 Z = true := own_tw hw 0 rfl
theorem tw_1 {Z : State} {a0 : Array Value} (hw : HW a0 Z) : (Cond.static ⟨"com/example/rockhopper/rockhopper/model/ValidatorsToStringPinLaw", "b", "(II)C"⟩).before a0 Z = true := own_tw hw 1 rfl
theorem tw_2 {Z : State} {a0 : Array Value} (hw : HW a0 Z) : (Cond.initialized "com/example/rockhopper/rockhopper/model/ValidatorsToStringPinLaw").before a0 Z = true := own_tw hw 2 rfl
theorem tw_3 {Z : State} {a0 : Array Value} (hw : HW a0 Z) : (Cond.code ⟨"com/example/rockhopper/rockhopper/model/ValidatorsToStringPinLaw", "b", "(II)C"⟩ method_3_code 2 (Option.some Jvm.ClassFile.FieldType.char)).before a0 Z = true := own_tw hw 3 rfl
theorem tw_4 {Z : State} {a0 : Array Value} (hw : HW a0 Z) : (Cond.classLink "com/example/rockhopper/rockhopper/model/ValidatorsToStringPinLaw" 13 "java/lang/String").before a0 Z = true := own_tw hw 4 rfl
theorem tw_5 {Z : State} {a0 : Array Value} (hw : HW a0 Z) : (Cond.instantiable "java/lang/String" 4).before a0 Z = true := own_tw hw 5 rfl
theorem tw_6 {Z : State} {a0 : Array Value} (hw : HW a0 Z) : (Cond.initialized "java/lang/String").before a0 Z = true := own_tw hw 6 rfl
theorem tw_7 {Z : State} {a0 : Array Value} (hw : HW a0 Z) : (Cond.arrayClass Jvm.ClassFile.FieldType.char).before a0 Z = true := own_tw hw 7 rfl
theorem tw_8 {Z : State} {a0 : Array Value} (hw : HW a0 Z) : (Cond.methodLink "com/example/rockhopper/rockhopper/model/ValidatorsToStringPinLaw" 15 ⟨"java/lang/String", "<init>", "([C)V"⟩).before a0 Z = true := own_tw hw 8 rfl
theorem tw_9 {Z : State} {a0 : Array Value} (hw : HW a0 Z) : (Cond.instanceMethod ⟨"java/lang/String", "<init>", "([C)V"⟩).before a0 Z = true := own_tw hw 9 rfl
theorem tw_10 {Z : State} {a0 : Array Value} (hw : HW a0 Z) : (Cond.code ⟨"java/lang/String", "<init>", "([C)V"⟩ jdk_42_method_3_code 2 (Option.none : Option Jvm.ClassFile.FieldType)).before a0 Z = true := own_tw hw 10 rfl
theorem tw_11 {Z : State} {a0 : Array Value} (hw : HW a0 Z) : (Cond.methodLink "java/lang/String" 27 ⟨"java/lang/String", "<init>", "([CIILjava/lang/Void;)V"⟩).before a0 Z = true := own_tw hw 11 rfl
theorem tw_12 {Z : State} {a0 : Array Value} (hw : HW a0 Z) : (Cond.instanceMethod ⟨"java/lang/String", "<init>", "([CIILjava/lang/Void;)V"⟩).before a0 Z = true := own_tw hw 12 rfl
theorem tw_14 {Z : State} {a0 : Array Value} (hw : HW a0 Z) : (Cond.code ⟨"java/lang/String", "<init>", "([CIILjava/lang/Void;)V"⟩ jdk_42_method_149_code 6 (Option.none : Option Jvm.ClassFile.FieldType)).before a0 Z = true := own_tw hw 14 rfl
theorem tw_15 {Z : State} {a0 : Array Value} (hw : HW a0 Z) : (Cond.methodLink "java/lang/String" 1 ⟨"java/lang/Object", "<init>", "()V"⟩).before a0 Z = true := own_tw hw 15 rfl
theorem tw_16 {Z : State} {a0 : Array Value} (hw : HW a0 Z) : (Cond.instanceMethod ⟨"java/lang/Object", "<init>", "()V"⟩).before a0 Z = true := own_tw hw 16 rfl
theorem tw_17 {Z : State} {a0 : Array Value} (hw : HW a0 Z) : (Cond.code ⟨"java/lang/Object", "<init>", "()V"⟩ object_method_1_code 1 (Option.none : Option Jvm.ClassFile.FieldType)).before a0 Z = true := own_tw hw 17 rfl
theorem tw_18 {Z : State} {a0 : Array Value} (hw : HW a0 Z) : (Cond.fieldLink "java/lang/String" 38 "java/lang/String" "COMPACT_STRINGS" "Z").before a0 Z = true := own_tw hw 18 rfl
theorem tw_19 {Z : State} {a0 : Array Value} (hw : HW a0 Z) : (Cond.methodLink "java/lang/String" 177 ⟨"java/lang/StringUTF16", "compress", "([CII)[B"⟩).before a0 Z = true := own_tw hw 19 rfl
theorem tw_20 {Z : State} {a0 : Array Value} (hw : HW a0 Z) : (Cond.static ⟨"java/lang/StringUTF16", "compress", "([CII)[B"⟩).before a0 Z = true := own_tw hw 20 rfl
theorem tw_21 {Z : State} {a0 : Array Value} (hw : HW a0 Z) : (Cond.initialized "java/lang/StringUTF16").before a0 Z = true := own_tw hw 21 rfl
theorem tw_22 {Z : State} {a0 : Array Value} (hw : HW a0 Z) : (Cond.code ⟨"java/lang/StringUTF16", "compress", "([CII)[B"⟩ jdk_52_method_16_code 6 (Option.some (Jvm.ClassFile.FieldType.array Jvm.ClassFile.FieldType.byte))).before a0 Z = true := own_tw hw 22 rfl
theorem tw_23 {Z : State} {a0 : Array Value} (hw : HW a0 Z) : (Cond.arrayClass Jvm.ClassFile.FieldType.byte).before a0 Z = true := own_tw hw 23 rfl
theorem tw_24 {Z : State} {a0 : Array Value} (hw : HW a0 Z) : (Cond.methodLink "java/lang/StringUTF16" 115 ⟨"java/lang/StringUTF16", "compress", "([CI[BII)I"⟩).before a0 Z = true := own_tw hw 24 rfl
theorem tw_25 {Z : State} {a0 : Array Value} (hw : HW a0 Z) : (Cond.static ⟨"java/lang/StringUTF16", "compress", "([CI[BII)I"⟩).before a0 Z = true := own_tw hw 25 rfl
theorem tw_26 {Z : State} {a0 : Array Value} (hw : HW a0 Z) : (Cond.code ⟨"java/lang/StringUTF16", "compress", "([CI[BII)I"⟩ jdk_52_method_21_code 7 (Option.some Jvm.ClassFile.FieldType.int)).before a0 Z = true := own_tw hw 26 rfl
theorem tw_27 {Z : State} {a0 : Array Value} (hw : HW a0 Z) : (Cond.methodLink "java/lang/String" 47 ⟨"java/lang/StringUTF16", "coderFromArrayLen", "([BI)B"⟩).before a0 Z = true := own_tw hw 27 rfl
theorem tw_28 {Z : State} {a0 : Array Value} (hw : HW a0 Z) : (Cond.static ⟨"java/lang/StringUTF16", "coderFromArrayLen", "([BI)B"⟩).before a0 Z = true := own_tw hw 28 rfl
theorem tw_29 {Z : State} {a0 : Array Value} (hw : HW a0 Z) : (Cond.code ⟨"java/lang/StringUTF16", "coderFromArrayLen", "([BI)B"⟩ jdk_52_method_15_code 2 (Option.some Jvm.ClassFile.FieldType.byte)).before a0 Z = true := own_tw hw 29 rfl
theorem tw_30 {Z : State} {a0 : Array Value} (hw : HW a0 Z) : (Cond.fieldLink "java/lang/String" 15 "java/lang/String" "coder" "B").before a0 Z = true := own_tw hw 30 rfl
theorem tw_31 {Z : State} {a0 : Array Value} (hw : HW a0 Z) : (Cond.laysFinal "java/lang/String" "java/lang/String" "coder" "B").before a0 Z = true := own_tw hw 31 rfl
theorem tw_32 {Z : State} {a0 : Array Value} (hw : HW a0 Z) : (Cond.fieldLink "java/lang/String" 9 "java/lang/String" "value" "[B").before a0 Z = true := own_tw hw 32 rfl
theorem tw_33 {Z : State} {a0 : Array Value} (hw : HW a0 Z) : (Cond.laysFinal "java/lang/String" "java/lang/String" "value" "[B").before a0 Z = true := own_tw hw 33 rfl
theorem tw_34 {Z : State} {a0 : Array Value} (hw : HW a0 Z) : (Cond.classLink "com/example/rockhopper/rockhopper/model/ValidatorsToStringPinLaw" 18 "com/example/rockhopper/rockhopper/model/Validators").before a0 Z = true := own_tw hw 34 rfl
theorem tw_35 {Z : State} {a0 : Array Value} (hw : HW a0 Z) : (Cond.instantiable "com/example/rockhopper/rockhopper/model/Validators" 2).before a0 Z = true := own_tw hw 35 rfl
theorem tw_36 {Z : State} {a0 : Array Value} (hw : HW a0 Z) : (Cond.initialized "com/example/rockhopper/rockhopper/model/Validators").before a0 Z = true := own_tw hw 36 rfl
theorem tw_37 {Z : State} {a0 : Array Value} (hw : HW a0 Z) : (Cond.methodLink "com/example/rockhopper/rockhopper/model/ValidatorsToStringPinLaw" 20 ⟨"com/example/rockhopper/rockhopper/model/Validators", "<init>", "(Ljava/lang/String;Ljava/lang/String;)V"⟩).before a0 Z = true := own_tw hw 37 rfl
theorem tw_38 {Z : State} {a0 : Array Value} (hw : HW a0 Z) : (Cond.instanceMethod ⟨"com/example/rockhopper/rockhopper/model/Validators", "<init>", "(Ljava/lang/String;Ljava/lang/String;)V"⟩).before a0 Z = true := own_tw hw 38 rfl
theorem tw_39 {Z : State} {a0 : Array Value} (hw : HW a0 Z) : (Cond.code ⟨"com/example/rockhopper/rockhopper/model/Validators", "<init>", "(Ljava/lang/String;Ljava/lang/String;)V"⟩ prog_9_method_1_code 3 (Option.none : Option Jvm.ClassFile.FieldType)).before a0 Z = true := own_tw hw 39 rfl
theorem tw_40 {Z : State} {a0 : Array Value} (hw : HW a0 Z) : (Cond.methodLink "com/example/rockhopper/rockhopper/model/Validators" 1 ⟨"java/lang/Object", "<init>", "()V"⟩).before a0 Z = true := own_tw hw 40 rfl
theorem tw_41 {Z : State} {a0 : Array Value} (hw : HW a0 Z) : (Cond.fieldLink "com/example/rockhopper/rockhopper/model/Validators" 7 "com/example/rockhopper/rockhopper/model/Validators" "etag" "Ljava/lang/String;").before a0 Z = true := own_tw hw 41 rfl
theorem tw_42 {Z : State} {a0 : Array Value} (hw : HW a0 Z) : (Cond.laysFinal "com/example/rockhopper/rockhopper/model/Validators" "com/example/rockhopper/rockhopper/model/Validators" "etag" "Ljava/lang/String;").before a0 Z = true := own_tw hw 42 rfl
theorem tw_43 {Z : State} {a0 : Array Value} (hw : HW a0 Z) : (Cond.fieldLink "com/example/rockhopper/rockhopper/model/Validators" 13 "com/example/rockhopper/rockhopper/model/Validators" "lastModified" "Ljava/lang/String;").before a0 Z = true := own_tw hw 43 rfl
theorem tw_44 {Z : State} {a0 : Array Value} (hw : HW a0 Z) : (Cond.laysFinal "com/example/rockhopper/rockhopper/model/Validators" "com/example/rockhopper/rockhopper/model/Validators" "lastModified" "Ljava/lang/String;").before a0 Z = true := own_tw hw 44 rfl
theorem tw_45 {Z : State} {a0 : Array Value} (hw : HW a0 Z) : (Cond.methodLink "com/example/rockhopper/rockhopper/model/ValidatorsToStringPinLaw" 23 ⟨"com/example/rockhopper/rockhopper/model/Validators", "toString", "()Ljava/lang/String;"⟩).before a0 Z = true := own_tw hw 45 rfl
theorem tw_46 {Z : State} {a0 : Array Value} (hw : HW a0 Z) : (Cond.declares ⟨"com/example/rockhopper/rockhopper/model/Validators", "toString", "()Ljava/lang/String;"⟩).before a0 Z = true := own_tw hw 46 rfl
theorem tw_47 {Z : State} {a0 : Array Value} (hw : HW a0 Z) : (Cond.instanceMethod ⟨"com/example/rockhopper/rockhopper/model/Validators", "toString", "()Ljava/lang/String;"⟩).before a0 Z = true := own_tw hw 47 rfl
theorem tw_48 {Z : State} {a0 : Array Value} (hw : HW a0 Z) : (Cond.selects "com/example/rockhopper/rockhopper/model/Validators" ⟨"com/example/rockhopper/rockhopper/model/Validators", "toString", "()Ljava/lang/String;"⟩ ⟨"com/example/rockhopper/rockhopper/model/Validators", "toString", "()Ljava/lang/String;"⟩).before a0 Z = true := own_tw hw 48 rfl
theorem tw_49 {Z : State} {a0 : Array Value} (hw : HW a0 Z) : (Cond.code ⟨"com/example/rockhopper/rockhopper/model/Validators", "toString", "()Ljava/lang/String;"⟩ prog_9_method_6_code 1 (Option.some (Jvm.ClassFile.FieldType.object "java/lang/String"))).before a0 Z = true := own_tw hw 49 rfl
theorem tw_50 {Z : State} {a0 : Array Value} (hw : HW a0 Z) : (Cond.classLink "com/example/rockhopper/rockhopper/model/Validators" 26 "java/lang/StringBuilder").before a0 Z = true := own_tw hw 50 rfl
theorem tw_51 {Z : State} {a0 : Array Value} (hw : HW a0 Z) : (Cond.instantiable "java/lang/StringBuilder" 4).before a0 Z = true := own_tw hw 51 rfl
theorem tw_52 {Z : State} {a0 : Array Value} (hw : HW a0 Z) : (Cond.initialized "java/lang/StringBuilder").before a0 Z = true := own_tw hw 52 rfl
theorem tw_53 {Z : State} {a0 : Array Value} (hw : HW a0 Z) : (Cond.methodLink "com/example/rockhopper/rockhopper/model/Validators" 28 ⟨"java/lang/StringBuilder", "<init>", "()V"⟩).before a0 Z = true := own_tw hw 53 rfl
theorem tw_54 {Z : State} {a0 : Array Value} (hw : HW a0 Z) : (Cond.instanceMethod ⟨"java/lang/StringBuilder", "<init>", "()V"⟩).before a0 Z = true := own_tw hw 54 rfl
theorem tw_55 {Z : State} {a0 : Array Value} (hw : HW a0 Z) : (Cond.code ⟨"java/lang/StringBuilder", "<init>", "()V"⟩ jdk_67_method_1_code 1 (Option.none : Option Jvm.ClassFile.FieldType)).before a0 Z = true := own_tw hw 55 rfl
theorem tw_56 {Z : State} {a0 : Array Value} (hw : HW a0 Z) : (Cond.methodLink "java/lang/StringBuilder" 1 ⟨"java/lang/AbstractStringBuilder", "<init>", "(I)V"⟩).before a0 Z = true := own_tw hw 56 rfl
theorem tw_57 {Z : State} {a0 : Array Value} (hw : HW a0 Z) : (Cond.instanceMethod ⟨"java/lang/AbstractStringBuilder", "<init>", "(I)V"⟩).before a0 Z = true := own_tw hw 57 rfl
theorem tw_60 {Z : State} {a0 : Array Value} (hw : HW a0 Z) : (Cond.initialized "java/lang/AbstractStringBuilder").before a0 Z = true := own_tw hw 60 rfl
theorem tw_61 {Z : State} {a0 : Array Value} (hw : HW a0 Z) : (Cond.code ⟨"java/lang/AbstractStringBuilder", "<init>", "(I)V"⟩ jdk_68_method_2_code 2 (Option.none : Option Jvm.ClassFile.FieldType)).before a0 Z = true := own_tw hw 61 rfl
theorem tw_62 {Z : State} {a0 : Array Value} (hw : HW a0 Z) : (Cond.methodLink "java/lang/AbstractStringBuilder" 3 ⟨"java/lang/Object", "<init>", "()V"⟩).before a0 Z = true := own_tw hw 62 rfl
theorem tw_63 {Z : State} {a0 : Array Value} (hw : HW a0 Z) : (Cond.fieldLink "java/lang/AbstractStringBuilder" 18 "java/lang/String" "COMPACT_STRINGS" "Z").before a0 Z = true := own_tw hw 63 rfl
theorem tw_64 {Z : State} {a0 : Array Value} (hw : HW a0 Z) : (Cond.fieldLink "java/lang/AbstractStringBuilder" 15 "java/lang/AbstractStringBuilder" "value" "[B").before a0 Z = true := own_tw hw 64 rfl
theorem tw_65 {Z : State} {a0 : Array Value} (hw : HW a0 Z) : (Cond.lays "java/lang/StringBuilder" "java/lang/AbstractStringBuilder" "value" "[B").before a0 Z = true := own_tw hw 65 rfl
theorem tw_66 {Z : State} {a0 : Array Value} (hw : HW a0 Z) : (Cond.fieldLink "java/lang/AbstractStringBuilder" 22 "java/lang/AbstractStringBuilder" "coder" "B").before a0 Z = true := own_tw hw 66 rfl
theorem tw_67 {Z : State} {a0 : Array Value} (hw : HW a0 Z) : (Cond.lays "java/lang/StringBuilder" "java/lang/AbstractStringBuilder" "coder" "B").before a0 Z = true := own_tw hw 67 rfl
theorem tw_68 {Z : State} {a0 : Array Value} (hw : HW a0 Z) : (Cond.stringLink "com/example/rockhopper/rockhopper/model/Validators" 29 "ETag ").before a0 Z = true := own_tw hw 68 rfl
theorem tw_71 {Z : State} {a0 : Array Value} (hw : HW a0 Z) : (Cond.methodLink "com/example/rockhopper/rockhopper/model/Validators" 31 ⟨"java/lang/StringBuilder", "append", "(Ljava/lang/String;)Ljava/lang/StringBuilder;"⟩).before a0 Z = true := own_tw hw 71 rfl
theorem tw_72 {Z : State} {a0 : Array Value} (hw : HW a0 Z) : (Cond.declares ⟨"java/lang/StringBuilder", "append", "(Ljava/lang/String;)Ljava/lang/StringBuilder;"⟩).before a0 Z = true := own_tw hw 72 rfl
theorem tw_73 {Z : State} {a0 : Array Value} (hw : HW a0 Z) : (Cond.instanceMethod ⟨"java/lang/StringBuilder", "append", "(Ljava/lang/String;)Ljava/lang/StringBuilder;"⟩).before a0 Z = true := own_tw hw 73 rfl
theorem tw_74 {Z : State} {a0 : Array Value} (hw : HW a0 Z) : (Cond.selects "java/lang/StringBuilder" ⟨"java/lang/StringBuilder", "append", "(Ljava/lang/String;)Ljava/lang/StringBuilder;"⟩ ⟨"java/lang/StringBuilder", "append", "(Ljava/lang/String;)Ljava/lang/StringBuilder;"⟩).before a0 Z = true := own_tw hw 74 rfl
theorem tw_75 {Z : State} {a0 : Array Value} (hw : HW a0 Z) : (Cond.code ⟨"java/lang/StringBuilder", "append", "(Ljava/lang/String;)Ljava/lang/StringBuilder;"⟩ jdk_67_method_7_code 2 (Option.some (Jvm.ClassFile.FieldType.object "java/lang/StringBuilder"))).before a0 Z = true := own_tw hw 75 rfl
theorem tw_76 {Z : State} {a0 : Array Value} (hw : HW a0 Z) : (Cond.methodLink "java/lang/StringBuilder" 29 ⟨"java/lang/AbstractStringBuilder", "append", "(Ljava/lang/String;)Ljava/lang/AbstractStringBuilder;"⟩).before a0 Z = true := own_tw hw 76 rfl
theorem tw_77 {Z : State} {a0 : Array Value} (hw : HW a0 Z) : (Cond.instanceMethod ⟨"java/lang/AbstractStringBuilder", "append", "(Ljava/lang/String;)Ljava/lang/AbstractStringBuilder;"⟩).before a0 Z = true := own_tw hw 77 rfl
theorem tw_78 {Z : State} {a0 : Array Value} (hw : HW a0 Z) : (Cond.superclass "java/lang/StringBuilder" "java/lang/AbstractStringBuilder").before a0 Z = true := own_tw hw 78 rfl
theorem tw_80 {Z : State} {a0 : Array Value} (hw : HW a0 Z) : (Cond.code ⟨"java/lang/AbstractStringBuilder", "append", "(Ljava/lang/String;)Ljava/lang/AbstractStringBuilder;"⟩ jdk_68_method_22_code 3 (Option.some (Jvm.ClassFile.FieldType.object "java/lang/AbstractStringBuilder"))).before a0 Z = true := own_tw hw 80 rfl
theorem tw_81 {Z : State} {a0 : Array Value} (hw : HW a0 Z) : (Cond.methodLink "java/lang/AbstractStringBuilder" 32 ⟨"java/lang/String", "length", "()I"⟩).before a0 Z = true := own_tw hw 81 rfl
theorem tw_82 {Z : State} {a0 : Array Value} (hw : HW a0 Z) : (Cond.declares ⟨"java/lang/String", "length", "()I"⟩).before a0 Z = true := own_tw hw 82 rfl
theorem tw_83 {Z : State} {a0 : Array Value} (hw : HW a0 Z) : (Cond.instanceMethod ⟨"java/lang/String", "length", "()I"⟩).before a0 Z = true := own_tw hw 83 rfl
theorem tw_84 {Z : State} {a0 : Array Value} (hw : HW a0 Z) : (Cond.selects "java/lang/String" ⟨"java/lang/String", "length", "()I"⟩ ⟨"java/lang/String", "length", "()I"⟩).before a0 Z = true := own_tw hw 84 rfl
theorem tw_85 {Z : State} {a0 : Array Value} (hw : HW a0 Z) : (Cond.code ⟨"java/lang/String", "length", "()I"⟩ jdk_42_method_54_code 1 (Option.some Jvm.ClassFile.FieldType.int)).before a0 Z = true := own_tw hw 85 rfl
theorem tw_86 {Z : State} {a0 : Array Value} (hw : HW a0 Z) : (Cond.methodLink "java/lang/String" 335 ⟨"java/lang/String", "coder", "()B"⟩).before a0 Z = true := own_tw hw 86 rfl
theorem tw_87 {Z : State} {a0 : Array Value} (hw : HW a0 Z) : (Cond.declares ⟨"java/lang/String", "coder", "()B"⟩).before a0 Z = true := own_tw hw 87 rfl
theorem tw_88 {Z : State} {a0 : Array Value} (hw : HW a0 Z) : (Cond.instanceMethod ⟨"java/lang/String", "coder", "()B"⟩).before a0 Z = true := own_tw hw 88 rfl
theorem tw_89 {Z : State} {a0 : Array Value} (hw : HW a0 Z) : (Cond.selects "java/lang/String" ⟨"java/lang/String", "coder", "()B"⟩ ⟨"java/lang/String", "coder", "()B"⟩).before a0 Z = true := own_tw hw 89 rfl
theorem tw_90 {Z : State} {a0 : Array Value} (hw : HW a0 Z) : (Cond.code ⟨"java/lang/String", "coder", "()B"⟩ jdk_42_method_152_code 1 (Option.some Jvm.ClassFile.FieldType.byte)).before a0 Z = true := own_tw hw 90 rfl
theorem tw_91 {Z : State} {a0 : Array Value} (hw : HW a0 Z) : (Cond.fieldLink "java/lang/AbstractStringBuilder" 79 "java/lang/AbstractStringBuilder" "count" "I").before a0 Z = true := own_tw hw 91 rfl
theorem tw_92 {Z : State} {a0 : Array Value} (hw : HW a0 Z) : (Cond.lays "java/lang/StringBuilder" "java/lang/AbstractStringBuilder" "count" "I").before a0 Z = true := own_tw hw 92 rfl
theorem tw_93 {Z : State} {a0 : Array Value} (hw : HW a0 Z) : (Cond.methodLink "java/lang/AbstractStringBuilder" 100 ⟨"java/lang/AbstractStringBuilder", "ensureCapacityInternal", "(I)V"⟩).before a0 Z = true := own_tw hw 93 rfl
theorem tw_94 {Z : State} {a0 : Array Value} (hw : HW a0 Z) : (Cond.instanceMethod ⟨"java/lang/AbstractStringBuilder", "ensureCapacityInternal", "(I)V"⟩).before a0 Z = true := own_tw hw 94 rfl
theorem tw_95 {Z : State} {a0 : Array Value} (hw : HW a0 Z) : (Cond.privateMethod ⟨"java/lang/AbstractStringBuilder", "ensureCapacityInternal", "(I)V"⟩).before a0 Z = true := own_tw hw 95 rfl
theorem tw_96 {Z : State} {a0 : Array Value} (hw : HW a0 Z) : (Cond.selects "java/lang/StringBuilder" ⟨"java/lang/AbstractStringBuilder", "ensureCapacityInternal", "(I)V"⟩ ⟨"java/lang/AbstractStringBuilder", "ensureCapacityInternal", "(I)V"⟩).before a0 Z = true := own_tw hw 96 rfl
theorem tw_97 {Z : State} {a0 : Array Value} (hw : HW a0 Z) : (Cond.code ⟨"java/lang/AbstractStringBuilder", "ensureCapacityInternal", "(I)V"⟩ jdk_68_method_9_code 3 (Option.none : Option Jvm.ClassFile.FieldType)).before a0 Z = true := own_tw hw 97 rfl
theorem tw_98 {Z : State} {a0 : Array Value} (hw : HW a0 Z) : (Cond.methodLink "java/lang/AbstractStringBuilder" 208 ⟨"java/lang/AbstractStringBuilder", "putStringAt", "(ILjava/lang/String;)V"⟩).before a0 Z = true := own_tw hw 98 rfl
theorem tw_99 {Z : State} {a0 : Array Value} (hw : HW a0 Z) : (Cond.instanceMethod ⟨"java/lang/AbstractStringBuilder", "putStringAt", "(ILjava/lang/String;)V"⟩).before a0 Z = true := own_tw hw 99 rfl
theorem tw_100 {Z : State} {a0 : Array Value} (hw : HW a0 Z) : (Cond.privateMethod ⟨"java/lang/AbstractStringBuilder", "putStringAt", "(ILjava/lang/String;)V"⟩).before a0 Z = true := own_tw hw 100 rfl
theorem tw_101 {Z : State} {a0 : Array Value} (hw : HW a0 Z) : (Cond.selects "java/lang/StringBuilder" ⟨"java/lang/AbstractStringBuilder", "putStringAt", "(ILjava/lang/String;)V"⟩ ⟨"java/lang/AbstractStringBuilder", "putStringAt", "(ILjava/lang/String;)V"⟩).before a0 Z = true := own_tw hw 101 rfl
theorem tw_102 {Z : State} {a0 : Array Value} (hw : HW a0 Z) : (Cond.code ⟨"java/lang/AbstractStringBuilder", "putStringAt", "(ILjava/lang/String;)V"⟩ jdk_68_method_73_code 3 (Option.none : Option Jvm.ClassFile.FieldType)).before a0 Z = true := own_tw hw 102 rfl
theorem tw_103 {Z : State} {a0 : Array Value} (hw : HW a0 Z) : (Cond.methodLink "java/lang/AbstractStringBuilder" 397 ⟨"java/lang/AbstractStringBuilder", "inflateIfNeededFor", "(Ljava/lang/String;)V"⟩).before a0 Z = true := own_tw hw 103 rfl
theorem tw_104 {Z : State} {a0 : Array Value} (hw : HW a0 Z) : (Cond.instanceMethod ⟨"java/lang/AbstractStringBuilder", "inflateIfNeededFor", "(Ljava/lang/String;)V"⟩).before a0 Z = true := own_tw hw 104 rfl
theorem tw_105 {Z : State} {a0 : Array Value} (hw : HW a0 Z) : (Cond.privateMethod ⟨"java/lang/AbstractStringBuilder", "inflateIfNeededFor", "(Ljava/lang/String;)V"⟩).before a0 Z = true := own_tw hw 105 rfl
theorem tw_106 {Z : State} {a0 : Array Value} (hw : HW a0 Z) : (Cond.selects "java/lang/StringBuilder" ⟨"java/lang/AbstractStringBuilder", "inflateIfNeededFor", "(Ljava/lang/String;)V"⟩ ⟨"java/lang/AbstractStringBuilder", "inflateIfNeededFor", "(Ljava/lang/String;)V"⟩).before a0 Z = true := own_tw hw 106 rfl
theorem tw_107 {Z : State} {a0 : Array Value} (hw : HW a0 Z) : (Cond.code ⟨"java/lang/AbstractStringBuilder", "inflateIfNeededFor", "(Ljava/lang/String;)V"⟩ jdk_68_method_71_code 2 (Option.none : Option Jvm.ClassFile.FieldType)).before a0 Z = true := own_tw hw 107 rfl
theorem tw_108 {Z : State} {a0 : Array Value} (hw : HW a0 Z) : (Cond.methodLink "java/lang/AbstractStringBuilder" 40 ⟨"java/lang/String", "coder", "()B"⟩).before a0 Z = true := own_tw hw 108 rfl
theorem tw_109 {Z : State} {a0 : Array Value} (hw : HW a0 Z) : (Cond.methodLink "java/lang/AbstractStringBuilder" 399 ⟨"java/lang/String", "getBytes", "([BIB)V"⟩).before a0 Z = true := own_tw hw 109 rfl
theorem tw_110 {Z : State} {a0 : Array Value} (hw : HW a0 Z) : (Cond.declares ⟨"java/lang/String", "getBytes", "([BIB)V"⟩).before a0 Z = true := own_tw hw 110 rfl
theorem tw_111 {Z : State} {a0 : Array Value} (hw : HW a0 Z) : (Cond.instanceMethod ⟨"java/lang/String", "getBytes", "([BIB)V"⟩).before a0 Z = true := own_tw hw 111 rfl
theorem tw_112 {Z : State} {a0 : Array Value} (hw : HW a0 Z) : (Cond.selects "java/lang/String" ⟨"java/lang/String", "getBytes", "([BIB)V"⟩ ⟨"java/lang/String", "getBytes", "([BIB)V"⟩).before a0 Z = true := own_tw hw 112 rfl
theorem tw_113 {Z : State} {a0 : Array Value} (hw : HW a0 Z) : (Cond.code ⟨"java/lang/String", "getBytes", "([BIB)V"⟩ jdk_42_method_147_code 4 (Option.none : Option Jvm.ClassFile.FieldType)).before a0 Z = true := own_tw hw 113 rfl
theorem tw_114 {Z : State} {a0 : Array Value} (hw : HW a0 Z) : (Cond.methodLink "java/lang/String" 212 ⟨"java/lang/System", "arraycopy", "(Ljava/lang/Object;ILjava/lang/Object;II)V"⟩).before a0 Z = true := own_tw hw 114 rfl
theorem tw_115 {Z : State} {a0 : Array Value} (hw : HW a0 Z) : (Cond.static ⟨"java/lang/System", "arraycopy", "(Ljava/lang/Object;ILjava/lang/Object;II)V"⟩).before a0 Z = true := own_tw hw 115 rfl
theorem tw_116 {Z : State} {a0 : Array Value} (hw : HW a0 Z) : (Cond.initialized "java/lang/System").before a0 Z = true := own_tw hw 116 rfl
theorem tw_117 {Z : State} {a0 : Array Value} (hw : HW a0 Z) : (Cond.native ⟨"java/lang/System", "arraycopy", "(Ljava/lang/Object;ILjava/lang/Object;II)V"⟩).before a0 Z = true := own_tw hw 117 rfl
theorem tw_118 {Z : State} {a0 : Array Value} (hw : HW a0 Z) : (Cond.stringLink "com/example/rockhopper/rockhopper/model/Validators" 35 ", Last-Modified ").before a0 Z = true := own_tw hw 118 rfl
theorem tw_119 {Z : State} {a0 : Array Value} (hw : HW a0 Z) : (Cond.methodLink "java/lang/AbstractStringBuilder" 104 ⟨"java/lang/AbstractStringBuilder", "newCapacity", "(I)I"⟩).before a0 Z = true := own_tw hw 119 rfl
theorem tw_120 {Z : State} {a0 : Array Value} (hw : HW a0 Z) : (Cond.instanceMethod ⟨"java/lang/AbstractStringBuilder", "newCapacity", "(I)I"⟩).before a0 Z = true := own_tw hw 120 rfl
theorem tw_121 {Z : State} {a0 : Array Value} (hw : HW a0 Z) : (Cond.privateMethod ⟨"java/lang/AbstractStringBuilder", "newCapacity", "(I)I"⟩).before a0 Z = true := own_tw hw 121 rfl
theorem tw_122 {Z : State} {a0 : Array Value} (hw : HW a0 Z) : (Cond.selects "java/lang/StringBuilder" ⟨"java/lang/AbstractStringBuilder", "newCapacity", "(I)I"⟩ ⟨"java/lang/AbstractStringBuilder", "newCapacity", "(I)I"⟩).before a0 Z = true := own_tw hw 122 rfl
theorem tw_123 {Z : State} {a0 : Array Value} (hw : HW a0 Z) : (Cond.code ⟨"java/lang/AbstractStringBuilder", "newCapacity", "(I)I"⟩ jdk_68_method_10_code 6 (Option.some Jvm.ClassFile.FieldType.int)).before a0 Z = true := own_tw hw 123 rfl
theorem tw_124 {Z : State} {a0 : Array Value} (hw : HW a0 Z) : (Cond.methodLink "java/lang/AbstractStringBuilder" 114 ⟨"jdk/internal/util/ArraysSupport", "newLength", "(III)I"⟩).before a0 Z = true := own_tw hw 124 rfl
theorem tw_125 {Z : State} {a0 : Array Value} (hw : HW a0 Z) : (Cond.static ⟨"jdk/internal/util/ArraysSupport", "newLength", "(III)I"⟩).before a0 Z = true := own_tw hw 125 rfl
theorem tw_126 {Z : State} {a0 : Array Value} (hw : HW a0 Z) : (Cond.initialized "jdk/internal/util/ArraysSupport").before a0 Z = true := own_tw hw 126 rfl
theorem tw_127 {Z : State} {a0 : Array Value} (hw : HW a0 Z) : (Cond.code ⟨"jdk/internal/util/ArraysSupport", "newLength", "(III)I"⟩ jdk_48_method_27_code 4 (Option.some Jvm.ClassFile.FieldType.int)).before a0 Z = true := own_tw hw 127 rfl
theorem tw_128 {Z : State} {a0 : Array Value} (hw : HW a0 Z) : (Cond.methodLink "jdk/internal/util/ArraysSupport" 194 ⟨"java/lang/Math", "max", "(II)I"⟩).before a0 Z = true := own_tw hw 128 rfl
theorem tw_129 {Z : State} {a0 : Array Value} (hw : HW a0 Z) : (Cond.static ⟨"java/lang/Math", "max", "(II)I"⟩).before a0 Z = true := own_tw hw 129 rfl
theorem tw_130 {Z : State} {a0 : Array Value} (hw : HW a0 Z) : (Cond.initialized "java/lang/Math").before a0 Z = true := own_tw hw 130 rfl
theorem tw_131 {Z : State} {a0 : Array Value} (hw : HW a0 Z) : (Cond.code ⟨"java/lang/Math", "max", "(II)I"⟩ jdk_29_method_65_code 2 (Option.some Jvm.ClassFile.FieldType.int)).before a0 Z = true := own_tw hw 131 rfl
theorem tw_132 {Z : State} {a0 : Array Value} (hw : HW a0 Z) : (Cond.constant "jdk/internal/util/ArraysSupport" 200 (2147483639 : Int32)).before a0 Z = true := own_tw hw 132 rfl
theorem tw_133 {Z : State} {a0 : Array Value} (hw : HW a0 Z) : (Cond.constant "java/lang/AbstractStringBuilder" 39 (2147483647 : Int32)).before a0 Z = true := own_tw hw 133 rfl
theorem tw_134 {Z : State} {a0 : Array Value} (hw : HW a0 Z) : (Cond.methodLink "java/lang/AbstractStringBuilder" 108 ⟨"java/util/Arrays", "copyOf", "([BI)[B"⟩).before a0 Z = true := own_tw hw 134 rfl
theorem tw_135 {Z : State} {a0 : Array Value} (hw : HW a0 Z) : (Cond.static ⟨"java/util/Arrays", "copyOf", "([BI)[B"⟩).before a0 Z = true := own_tw hw 135 rfl
theorem tw_136 {Z : State} {a0 : Array Value} (hw : HW a0 Z) : (Cond.initialized "java/util/Arrays").before a0 Z = true := own_tw hw 136 rfl
theorem tw_137 {Z : State} {a0 : Array Value} (hw : HW a0 Z) : (Cond.code ⟨"java/util/Arrays", "copyOf", "([BI)[B"⟩ jdk_65_method_121_code 3 (Option.some (Jvm.ClassFile.FieldType.array Jvm.ClassFile.FieldType.byte))).before a0 Z = true := own_tw hw 137 rfl
theorem tw_138 {Z : State} {a0 : Array Value} (hw : HW a0 Z) : (Cond.methodLink "java/util/Arrays" 304 ⟨"java/lang/Math", "min", "(II)I"⟩).before a0 Z = true := own_tw hw 138 rfl
theorem tw_139 {Z : State} {a0 : Array Value} (hw : HW a0 Z) : (Cond.static ⟨"java/lang/Math", "min", "(II)I"⟩).before a0 Z = true := own_tw hw 139 rfl
theorem tw_140 {Z : State} {a0 : Array Value} (hw : HW a0 Z) : (Cond.code ⟨"java/lang/Math", "min", "(II)I"⟩ jdk_29_method_69_code 2 (Option.some Jvm.ClassFile.FieldType.int)).before a0 Z = true := own_tw hw 140 rfl
theorem tw_141 {Z : State} {a0 : Array Value} (hw : HW a0 Z) : (Cond.methodLink "java/util/Arrays" 150 ⟨"java/lang/System", "arraycopy", "(Ljava/lang/Object;ILjava/lang/Object;II)V"⟩).before a0 Z = true := own_tw hw 141 rfl
theorem tw_142 {Z : State} {a0 : Array Value} (hw : HW a0 Z) : (Cond.methodLink "com/example/rockhopper/rockhopper/model/Validators" 37 ⟨"java/lang/StringBuilder", "toString", "()Ljava/lang/String;"⟩).before a0 Z = true := own_tw hw 142 rfl
theorem tw_143 {Z : State} {a0 : Array Value} (hw : HW a0 Z) : (Cond.declares ⟨"java/lang/StringBuilder", "toString", "()Ljava/lang/String;"⟩).before a0 Z = true := own_tw hw 143 rfl
theorem tw_144 {Z : State} {a0 : Array Value} (hw : HW a0 Z) : (Cond.instanceMethod ⟨"java/lang/StringBuilder", "toString", "()Ljava/lang/String;"⟩).before a0 Z = true := own_tw hw 144 rfl
theorem tw_145 {Z : State} {a0 : Array Value} (hw : HW a0 Z) : (Cond.selects "java/lang/StringBuilder" ⟨"java/lang/StringBuilder", "toString", "()Ljava/lang/String;"⟩ ⟨"java/lang/StringBuilder", "toString", "()Ljava/lang/String;"⟩).before a0 Z = true := own_tw hw 145 rfl
theorem tw_146 {Z : State} {a0 : Array Value} (hw : HW a0 Z) : (Cond.code ⟨"java/lang/StringBuilder", "toString", "()Ljava/lang/String;"⟩ jdk_67_method_42_code 1 (Option.some (Jvm.ClassFile.FieldType.object "java/lang/String"))).before a0 Z = true := own_tw hw 146 rfl
theorem tw_147 {Z : State} {a0 : Array Value} (hw : HW a0 Z) : (Cond.classLink "java/lang/StringBuilder" 18 "java/lang/String").before a0 Z = true := own_tw hw 147 rfl
theorem tw_148 {Z : State} {a0 : Array Value} (hw : HW a0 Z) : (Cond.methodLink "java/lang/StringBuilder" 137 ⟨"java/lang/String", "<init>", "(Ljava/lang/StringBuilder;)V"⟩).before a0 Z = true := own_tw hw 148 rfl
theorem tw_149 {Z : State} {a0 : Array Value} (hw : HW a0 Z) : (Cond.instanceMethod ⟨"java/lang/String", "<init>", "(Ljava/lang/StringBuilder;)V"⟩).before a0 Z = true := own_tw hw 149 rfl
theorem tw_150 {Z : State} {a0 : Array Value} (hw : HW a0 Z) : (Cond.code ⟨"java/lang/String", "<init>", "(Ljava/lang/StringBuilder;)V"⟩ jdk_42_method_53_code 2 (Option.none : Option Jvm.ClassFile.FieldType)).before a0 Z = true := own_tw hw 150 rfl
theorem tw_151 {Z : State} {a0 : Array Value} (hw : HW a0 Z) : (Cond.methodLink "java/lang/String" 489 ⟨"java/lang/String", "<init>", "(Ljava/lang/AbstractStringBuilder;Ljava/lang/Void;)V"⟩).before a0 Z = true := own_tw hw 151 rfl
theorem tw_152 {Z : State} {a0 : Array Value} (hw : HW a0 Z) : (Cond.instanceMethod ⟨"java/lang/String", "<init>", "(Ljava/lang/AbstractStringBuilder;Ljava/lang/Void;)V"⟩).before a0 Z = true := own_tw hw 152 rfl
theorem tw_153 {Z : State} {a0 : Array Value} (hw : HW a0 Z) : (Cond.code ⟨"java/lang/String", "<init>", "(Ljava/lang/AbstractStringBuilder;Ljava/lang/Void;)V"⟩ jdk_42_method_150_code 5 (Option.none : Option Jvm.ClassFile.FieldType)).before a0 Z = true := own_tw hw 153 rfl
theorem tw_154 {Z : State} {a0 : Array Value} (hw : HW a0 Z) : (Cond.methodLink "java/lang/String" 552 ⟨"java/lang/AbstractStringBuilder", "getValue", "()[B"⟩).before a0 Z = true := own_tw hw 154 rfl
theorem tw_155 {Z : State} {a0 : Array Value} (hw : HW a0 Z) : (Cond.declares ⟨"java/lang/AbstractStringBuilder", "getValue", "()[B"⟩).before a0 Z = true := own_tw hw 155 rfl
theorem tw_156 {Z : State} {a0 : Array Value} (hw : HW a0 Z) : (Cond.instanceMethod ⟨"java/lang/AbstractStringBuilder", "getValue", "()[B"⟩).before a0 Z = true := own_tw hw 156 rfl
theorem tw_157 {Z : State} {a0 : Array Value} (hw : HW a0 Z) : (Cond.selects "java/lang/StringBuilder" ⟨"java/lang/AbstractStringBuilder", "getValue", "()[B"⟩ ⟨"java/lang/AbstractStringBuilder", "getValue", "()[B"⟩).before a0 Z = true := own_tw hw 157 rfl
theorem tw_158 {Z : State} {a0 : Array Value} (hw : HW a0 Z) : (Cond.code ⟨"java/lang/AbstractStringBuilder", "getValue", "()[B"⟩ jdk_68_method_64_code 1 (Option.some (Jvm.ClassFile.FieldType.array Jvm.ClassFile.FieldType.byte))).before a0 Z = true := own_tw hw 158 rfl
theorem tw_159 {Z : State} {a0 : Array Value} (hw : HW a0 Z) : (Cond.methodLink "java/lang/String" 549 ⟨"java/lang/AbstractStringBuilder", "length", "()I"⟩).before a0 Z = true := own_tw hw 159 rfl
theorem tw_160 {Z : State} {a0 : Array Value} (hw : HW a0 Z) : (Cond.declares ⟨"java/lang/AbstractStringBuilder", "length", "()I"⟩).before a0 Z = true := own_tw hw 160 rfl
theorem tw_161 {Z : State} {a0 : Array Value} (hw : HW a0 Z) : (Cond.instanceMethod ⟨"java/lang/AbstractStringBuilder", "length", "()I"⟩).before a0 Z = true := own_tw hw 161 rfl
theorem tw_162 {Z : State} {a0 : Array Value} (hw : HW a0 Z) : (Cond.selects "java/lang/StringBuilder" ⟨"java/lang/AbstractStringBuilder", "length", "()I"⟩ ⟨"java/lang/StringBuilder", "length", "()I"⟩).before a0 Z = true := own_tw hw 162 rfl
theorem tw_163 {Z : State} {a0 : Array Value} (hw : HW a0 Z) : (Cond.instanceMethod ⟨"java/lang/StringBuilder", "length", "()I"⟩).before a0 Z = true := own_tw hw 163 rfl
theorem tw_164 {Z : State} {a0 : Array Value} (hw : HW a0 Z) : (Cond.code ⟨"java/lang/StringBuilder", "length", "()I"⟩ jdk_67_method_93_code 1 (Option.some Jvm.ClassFile.FieldType.int)).before a0 Z = true := own_tw hw 164 rfl
theorem tw_165 {Z : State} {a0 : Array Value} (hw : HW a0 Z) : (Cond.methodLink "java/lang/StringBuilder" 343 ⟨"java/lang/AbstractStringBuilder", "length", "()I"⟩).before a0 Z = true := own_tw hw 165 rfl
theorem tw_166 {Z : State} {a0 : Array Value} (hw : HW a0 Z) : (Cond.code ⟨"java/lang/AbstractStringBuilder", "length", "()I"⟩ jdk_68_method_6_code 1 (Option.some Jvm.ClassFile.FieldType.int)).before a0 Z = true := own_tw hw 166 rfl
theorem tw_167 {Z : State} {a0 : Array Value} (hw : HW a0 Z) : (Cond.methodLink "java/lang/String" 1047 ⟨"java/lang/AbstractStringBuilder", "isLatin1", "()Z"⟩).before a0 Z = true := own_tw hw 167 rfl
theorem tw_168 {Z : State} {a0 : Array Value} (hw : HW a0 Z) : (Cond.declares ⟨"java/lang/AbstractStringBuilder", "isLatin1", "()Z"⟩).before a0 Z = true := own_tw hw 168 rfl
theorem tw_169 {Z : State} {a0 : Array Value} (hw : HW a0 Z) : (Cond.instanceMethod ⟨"java/lang/AbstractStringBuilder", "isLatin1", "()Z"⟩).before a0 Z = true := own_tw hw 169 rfl
theorem tw_170 {Z : State} {a0 : Array Value} (hw : HW a0 Z) : (Cond.selects "java/lang/StringBuilder" ⟨"java/lang/AbstractStringBuilder", "isLatin1", "()Z"⟩ ⟨"java/lang/AbstractStringBuilder", "isLatin1", "()Z"⟩).before a0 Z = true := own_tw hw 170 rfl
theorem tw_171 {Z : State} {a0 : Array Value} (hw : HW a0 Z) : (Cond.code ⟨"java/lang/AbstractStringBuilder", "isLatin1", "()Z"⟩ jdk_68_method_68_code 1 (Option.some Jvm.ClassFile.FieldType.boolean)).before a0 Z = true := own_tw hw 171 rfl
theorem tw_172 {Z : State} {a0 : Array Value} (hw : HW a0 Z) : (Cond.methodLink "java/lang/String" 54 ⟨"java/util/Arrays", "copyOfRange", "([BII)[B"⟩).before a0 Z = true := own_tw hw 172 rfl
theorem tw_173 {Z : State} {a0 : Array Value} (hw : HW a0 Z) : (Cond.static ⟨"java/util/Arrays", "copyOfRange", "([BII)[B"⟩).before a0 Z = true := own_tw hw 173 rfl
theorem tw_174 {Z : State} {a0 : Array Value} (hw : HW a0 Z) : (Cond.code ⟨"java/util/Arrays", "copyOfRange", "([BII)[B"⟩ jdk_65_method_132_code 3 (Option.some (Jvm.ClassFile.FieldType.array Jvm.ClassFile.FieldType.byte))).before a0 Z = true := own_tw hw 174 rfl
theorem tw_175 {Z : State} {a0 : Array Value} (hw : HW a0 Z) : (Cond.methodLink "java/util/Arrays" 339 ⟨"java/util/Arrays", "copyOfRangeByte", "([BII)[B"⟩).before a0 Z = true := own_tw hw 175 rfl
theorem tw_176 {Z : State} {a0 : Array Value} (hw : HW a0 Z) : (Cond.static ⟨"java/util/Arrays", "copyOfRangeByte", "([BII)[B"⟩).before a0 Z = true := own_tw hw 176 rfl
theorem tw_177 {Z : State} {a0 : Array Value} (hw : HW a0 Z) : (Cond.code ⟨"java/util/Arrays", "copyOfRangeByte", "([BII)[B"⟩ jdk_65_method_133_code 5 (Option.some (Jvm.ClassFile.FieldType.array Jvm.ClassFile.FieldType.byte))).before a0 Z = true := own_tw hw 177 rfl
theorem tw_178 {Z : State} {a0 : Array Value} (hw : HW a0 Z) : (Cond.methodLink "java/util/Arrays" 343 ⟨"java/util/Arrays", "checkLength", "(II)V"⟩).before a0 Z = true := own_tw hw 178 rfl
theorem tw_179 {Z : State} {a0 : Array Value} (hw : HW a0 Z) : (Cond.static ⟨"java/util/Arrays", "checkLength", "(II)V"⟩).before a0 Z = true := own_tw hw 179 rfl
theorem tw_180 {Z : State} {a0 : Array Value} (hw : HW a0 Z) : (Cond.code ⟨"java/util/Arrays", "checkLength", "(II)V"⟩ jdk_65_method_131_code 2 (Option.none : Option Jvm.ClassFile.FieldType)).before a0 Z = true := own_tw hw 180 rfl
theorem tw_181 {Z : State} {a0 : Array Value} (hw : HW a0 Z) : (Cond.methodLink "com/example/rockhopper/rockhopper/model/ValidatorsToStringPinLaw" 27 ⟨"java/lang/String", "equals", "(Ljava/lang/Object;)Z"⟩).before a0 Z = true := own_tw hw 181 rfl
theorem tw_182 {Z : State} {a0 : Array Value} (hw : HW a0 Z) : (Cond.declares ⟨"java/lang/String", "equals", "(Ljava/lang/Object;)Z"⟩).before a0 Z = true := own_tw hw 182 rfl
theorem tw_183 {Z : State} {a0 : Array Value} (hw : HW a0 Z) : (Cond.instanceMethod ⟨"java/lang/String", "equals", "(Ljava/lang/Object;)Z"⟩).before a0 Z = true := own_tw hw 183 rfl
theorem tw_184 {Z : State} {a0 : Array Value} (hw : HW a0 Z) : (Cond.selects "java/lang/String" ⟨"java/lang/String", "equals", "(Ljava/lang/Object;)Z"⟩ ⟨"java/lang/String", "equals", "(Ljava/lang/Object;)Z"⟩).before a0 Z = true := own_tw hw 184 rfl
theorem tw_185 {Z : State} {a0 : Array Value} (hw : HW a0 Z) : (Cond.code ⟨"java/lang/String", "equals", "(Ljava/lang/Object;)Z"⟩ jdk_42_method_66_code 3 (Option.some Jvm.ClassFile.FieldType.boolean)).before a0 Z = true := own_tw hw 185 rfl
theorem tw_186 {Z : State} {a0 : Array Value} (hw : HW a0 Z) : (Cond.classLink "java/lang/String" 10 "java/lang/String").before a0 Z = true := own_tw hw 186 rfl
theorem tw_187 {Z : State} {a0 : Array Value} (hw : HW a0 Z) : (Cond.methodLink "java/lang/String" 541 ⟨"java/lang/StringLatin1", "equals", "([B[B)Z"⟩).before a0 Z = true := own_tw hw 187 rfl
theorem tw_188 {Z : State} {a0 : Array Value} (hw : HW a0 Z) : (Cond.static ⟨"java/lang/StringLatin1", "equals", "([B[B)Z"⟩).before a0 Z = true := own_tw hw 188 rfl
theorem tw_189 {Z : State} {a0 : Array Value} (hw : HW a0 Z) : (Cond.initialized "java/lang/StringLatin1").before a0 Z = true := own_tw hw 189 rfl
theorem tw_190 {Z : State} {a0 : Array Value} (hw : HW a0 Z) : (Cond.code ⟨"java/lang/StringLatin1", "equals", "([B[B)Z"⟩ jdk_43_method_13_code 3 (Option.some Jvm.ClassFile.FieldType.boolean)).before a0 Z = true := own_tw hw 190 rfl
theorem tw_191 {Z : State} {a0 : Array Value} (hw : HW a0 Z) : (Cond.methodLink "java/lang/AbstractStringBuilder" 204 ⟨"java/lang/AbstractStringBuilder", "appendNull", "()Ljava/lang/AbstractStringBuilder;"⟩).before a0 Z = true := own_tw hw 191 rfl
theorem tw_192 {Z : State} {a0 : Array Value} (hw : HW a0 Z) : (Cond.instanceMethod ⟨"java/lang/AbstractStringBuilder", "appendNull", "()Ljava/lang/AbstractStringBuilder;"⟩).before a0 Z = true := own_tw hw 192 rfl
theorem tw_193 {Z : State} {a0 : Array Value} (hw : HW a0 Z) : (Cond.privateMethod ⟨"java/lang/AbstractStringBuilder", "appendNull", "()Ljava/lang/AbstractStringBuilder;"⟩).before a0 Z = true := own_tw hw 193 rfl
theorem tw_194 {Z : State} {a0 : Array Value} (hw : HW a0 Z) : (Cond.selects "java/lang/StringBuilder" ⟨"java/lang/AbstractStringBuilder", "appendNull", "()Ljava/lang/AbstractStringBuilder;"⟩ ⟨"java/lang/AbstractStringBuilder", "appendNull", "()Ljava/lang/AbstractStringBuilder;"⟩).before a0 Z = true := own_tw hw 194 rfl
theorem tw_195 {Z : State} {a0 : Array Value} (hw : HW a0 Z) : (Cond.code ⟨"java/lang/AbstractStringBuilder", "appendNull", "()Ljava/lang/AbstractStringBuilder;"⟩ jdk_68_method_26_code 3 (Option.some (Jvm.ClassFile.FieldType.object "java/lang/AbstractStringBuilder"))).before a0 Z = true := own_tw hw 195 rfl
theorem tw_196 {Z : State} {a0 : Array Value} (hw : HW a0 Z) : (Cond.methodLink "java/lang/AbstractStringBuilder" 83 ⟨"java/lang/AbstractStringBuilder", "isLatin1", "()Z"⟩).before a0 Z = true := own_tw hw 196 rfl
section OwnStart
variable {args : Array Value} {first s : State} {o : Option Outcome} {idx : List Nat} {t : Term}
end OwnStart

section OwnAuto
theorem own_rlit {k : Int32} {n : Int} (h : k.toInt = n) : n ≤ k.toInt ∧ k.toInt ≤ n := by omega
theorem own_rw {x : Int32} {a b c d : Int} (h : a ≤ x.toInt ∧ x.toInt ≤ b) (h1 : c ≤ a) (h2 : b ≤ d) : c ≤ x.toInt ∧ x.toInt ≤ d := by omega
theorem own_rand {x m z : Int32} {k : Int} (h : (x &&& m) = z) (hm : 0 ≤ m.toInt ∧ m.toInt = k) : 0 ≤ z.toInt ∧ z.toInt ≤ k := by subst h; have := c_and x m hm.1; omega
theorem own_ri2b {x z : Int32} (h : (x.toInt8.toInt32) = z) : -128 ≤ z.toInt ∧ z.toInt ≤ 127 := by subst h; have := c_i2b x; omega
theorem own_rushr {x q z : Int32} {k : Nat} {B : Int} (h : ((x.toUInt32 >>> (q &&& 31).toUInt32).toInt32) = z) (hk : q.toBitVec.toNat % 32 = k) (h0 : 0 < k) (hB : (4294967295 : Int) / ((2 ^ k : Nat) : Int) ≤ B) : 0 ≤ z.toInt ∧ z.toInt ≤ B := by
  subst h
  rw [c_iushr x q k hk h0]
  have h1 : 0 ≤ x.toInt % 4294967296 := Int.emod_nonneg _ (by decide)
  have h2 : x.toInt % 4294967296 ≤ 4294967295 := by have := Int.emod_lt_of_pos x.toInt (by decide : (0 : Int) < 4294967296); omega
  have hp : (0 : Int) < ((2 ^ k : Nat) : Int) := Int.ofNat_lt.mpr (Nat.two_pow_pos k)
  exact ⟨Int.ediv_nonneg h1 (Int.le_of_lt hp), Int.le_trans (Int.ediv_le_ediv hp h2) hB⟩
theorem own_i2c_id {x : Int32} {a b : Int} (hr : a ≤ x.toInt ∧ x.toInt ≤ b) (ha : 0 ≤ a) (hb : b ≤ 65535) : (x.toUInt32.toUInt16.toUInt32.toInt32) = x := by apply Int32.toInt_inj.mp; have := c_i2c x; omega
theorem own_i2b_id {x : Int32} {a b : Int} (hr : a ≤ x.toInt ∧ x.toInt ≤ b) (ha : -128 ≤ a) (hb : b ≤ 127) : (x.toInt8.toInt32) = x := by apply Int32.toInt_inj.mp; have := c_i2b x; omega
theorem own_and_id {x m : Int32} {a b : Int} {k : Nat} (hr : a ≤ x.toInt ∧ x.toInt ≤ b) (hk : k ≤ 31) (hm : m.toBitVec.toNat = 2 ^ k - 1) (ha : 0 ≤ a) (hb : b < ((2 ^ k : Nat) : Int)) : (x &&& m) = x := by
  apply Int32.toInt_inj.mp
  rw [c_mask x m k hk hm]
  exact Int.emod_eq_of_lt (by omega) (by omega)
theorem own_nar_byte {x : Int32} {a b : Int} (hr : a ≤ x.toInt ∧ x.toInt ≤ b) (ha : -128 ≤ a) (hb : b ≤ 127) : nar .byte x = x := own_i2b_id hr ha hb
theorem own_nar_char {x : Int32} {a b : Int} (hr : a ≤ x.toInt ∧ x.toInt ≤ b) (ha : 0 ≤ a) (hb : b ≤ 65535) : nar .char x = x := own_i2c_id hr ha hb
end OwnAuto

def EL0 : List (String × Nat) := [("com/example/rockhopper/rockhopper/model/Validators", 29), ("com/example/rockhopper/rockhopper/model/Validators", 35)]
theorem own_EW {Z : State} {a0 : Array Value} (hw : HW a0 Z) : EW Z a0 EL0 := (EW.cons (tw_68 hw) (by decide) (EW.cons (tw_118 hw) (by decide) EW.nil))
theorem own_SA {Z : State} {a0 : Array Value} (hw : HW a0 Z) : ∀ a ∈ Bundle.stringAtoms, a.before a0 Z = true := fun a ha => hw a ((by decide +kernel : ∀ w ∈ Bundle.stringAtoms, w ∈ tables_1) a ha)
def Glob (Z : State) (gz1 : Int32) (gv5 : Value) : Prop := Sta Z Z.heap "java/lang/String" "COMPACT_STRINGS" "Z" (.int gz1) ∧ Sta Z Z.heap "jdk/internal/util/Preconditions" "SIOOBE_FORMATTER" "Ljava/util/function/BiFunction;" gv5 ∧ ¬ gz1 = (0 : Int32) ∧ gv5.isRef = true
theorem d1_0 : decode method_3_code 0 = .ok (.iload_n 0, 1) := by decide +kernel
theorem d1_1 : decode method_3_code 1 = .ok (.bipush 8, 2) := by decide +kernel
theorem d1_3 : decode method_3_code 3 = .ok (.iload_n 1, 1) := by decide +kernel
theorem d1_4 : decode method_3_code 4 = .ok (.imul, 1) := by decide +kernel
theorem d1_5 : decode method_3_code 5 = .ok (.iushr, 1) := by decide +kernel
theorem d1_6 : decode method_3_code 6 = .ok (.sipush 255, 3) := by decide +kernel
theorem d1_9 : decode method_3_code 9 = .ok (.iand, 1) := by decide +kernel
theorem d1_10 : decode method_3_code 10 = .ok (.i2c, 1) := by decide +kernel
theorem d1_11 : decode method_3_code 11 = .ok (.ireturn, 1) := by decide +kernel
theorem ef_1_II (m : MethodId) (x0 : Int32) (x1 : Int32) : entryFrame m #[(.int x0), (.int x1)] 2 = mkF m 0 #[.val (.int x0), .val (.int x1)] [] := by first | (simp [entryFrame, mkF, argsToLocals, Value.category]; done) | rfl
theorem pn_c0 : plainName "com/example/rockhopper/rockhopper/model/ValidatorsToStringPinLaw" = true := by first | (simp [plainName, overriddenIn]; done) | decide +kernel
theorem au_1 (l : Launch) (Z : State) (a0 : Array Value) (hw : HW a0 Z) (p0 : Int32) (h0 : Heap) (n0 : Nat) (Z0 : n0 ≤ h0.size) :
    Ctr l Z ⟨"com/example/rockhopper/rockhopper/model/ValidatorsToStringPinLaw", "b", "(II)C"⟩ method_3_code 2 (some .char) (rM 0 0 0 0) #[.int p0, .int 0] h0 (fun v h L => ∃ (y0 y1 : Int32), ((p0.toUInt32 >>> ((0 : Int32) &&& 31).toUInt32).toInt32) = y1 ∧ (y1 &&& (255 : Int32)) = y0 ∧ v = some (.int y0) ∧ Fr n0 L ∧ h = h0) := by
 refine Ctr.of (plainFor_of_name pn_c0) ?_
 intro p e s m below meth c T0 hx hZ hby hml hown hnm hret hlk e0 es X0
 refine Go.cast (ef_1_II m p0 (0 : Int32)) ?_
 generalize hFF : EndN s _ _ _ = FF
 refine Go.iloadN X0 hx 1 rfl (hb hby d1_0) rfl ?_
 refine Go.bipush X0 hx 3 rfl (hb hby d1_1) (v := (8 : Int32)) (by decide) ?_
 refine Go.iloadN X0 hx 4 rfl (hb hby d1_3) rfl ?_
 refine Go.imul X0 hx 5 rfl (hb hby d1_4) ?_
 rw [show ((8 : Int32) * (0 : Int32)) = (0 : Int32) from by decide]
 refine Go.iushr X0 hx 6 rfl (hb hby d1_5) ?_
 generalize hz1 : ((p0.toUInt32 >>> ((0 : Int32) &&& 31).toUInt32).toInt32) = z1
 refine Go.sipush X0 hx 9 rfl (hb hby d1_6) (v := (255 : Int32)) (by decide) ?_
 refine Go.iand X0 hx 10 rfl (hb hby d1_9) ?_
 generalize hz2 : (z1 &&& (255 : Int32)) = z2
 refine Go.i2c X0 hx 11 rfl (hb hby d1_10) ?_
 have r3 : 0 ≤ z2.toInt ∧ z2.toInt ≤ 255 := own_rand hz2 (by decide)
 rw [show (z2.toUInt32.toUInt16.toUInt32.toInt32) = z2 from (own_i2c_id r3 (by decide) (by decide))]
 subst hFF
 refine Go.retN X0 hx hlk (t := .char) hret (by simp) (hb hby d1_11) (by decide) (by decide) ?_
 rw [e0]
 exact ⟨z2, z1, hz1, hz2, (congrArg (fun z => some (Value.int z)) (own_nar_char r3 (by decide) (by decide))), (Fr.nil n0), rfl⟩
theorem pd_0 : parseMethodDescriptor "(II)C" = some ⟨[.int, .int], some .char⟩ := by decide +kernel
theorem au_2 (l : Launch) (Z : State) (a0 : Array Value) (hw : HW a0 Z) (p0 : Int32) (h0 : Heap) (n0 : Nat) (Z0 : n0 ≤ h0.size) :
    Ctr l Z ⟨"com/example/rockhopper/rockhopper/model/ValidatorsToStringPinLaw", "b", "(II)C"⟩ method_3_code 2 (some .char) (rM 0 0 0 0) #[.int p0, .int 1] h0 (fun v h L => ∃ (y0 y1 : Int32), ((p0.toUInt32 >>> ((8 : Int32) &&& 31).toUInt32).toInt32) = y1 ∧ (y1 &&& (255 : Int32)) = y0 ∧ v = some (.int y0) ∧ Fr n0 L ∧ h = h0) := by
 refine Ctr.of (plainFor_of_name pn_c0) ?_
 intro p e s m below meth c T0 hx hZ hby hml hown hnm hret hlk e0 es X0
 refine Go.cast (ef_1_II m p0 (1 : Int32)) ?_
 generalize hFF : EndN s _ _ _ = FF
 refine Go.iloadN X0 hx 1 rfl (hb hby d1_0) rfl ?_
 refine Go.bipush X0 hx 3 rfl (hb hby d1_1) (v := (8 : Int32)) (by decide) ?_
 refine Go.iloadN X0 hx 4 rfl (hb hby d1_3) rfl ?_
 refine Go.imul X0 hx 5 rfl (hb hby d1_4) ?_
 rw [show ((8 : Int32) * (1 : Int32)) = (8 : Int32) from by decide]
 refine Go.iushr X0 hx 6 rfl (hb hby d1_5) ?_
 generalize hz1 : ((p0.toUInt32 >>> ((8 : Int32) &&& 31).toUInt32).toInt32) = z1
 refine Go.sipush X0 hx 9 rfl (hb hby d1_6) (v := (255 : Int32)) (by decide) ?_
 refine Go.iand X0 hx 10 rfl (hb hby d1_9) ?_
 have r2 : 0 ≤ z1.toInt ∧ z1.toInt ≤ 16777215 := own_rushr hz1 (k := 8) (by decide) (by decide) (by decide)
 generalize hz3 : (z1 &&& (255 : Int32)) = z3
 refine Go.i2c X0 hx 11 rfl (hb hby d1_10) ?_
 have r4 : 0 ≤ z3.toInt ∧ z3.toInt ≤ 255 := own_rand hz3 (by decide)
 rw [show (z3.toUInt32.toUInt16.toUInt32.toInt32) = z3 from (own_i2c_id r4 (by decide) (by decide))]
 subst hFF
 refine Go.retN X0 hx hlk (t := .char) hret (by simp) (hb hby d1_11) (by decide) (by decide) ?_
 rw [e0]
 exact ⟨z3, z1, hz1, hz3, (congrArg (fun z => some (Value.int z)) (own_nar_char r4 (by decide) (by decide))), (Fr.nil n0), rfl⟩
theorem au_3 (l : Launch) (Z : State) (a0 : Array Value) (hw : HW a0 Z) (p0 : Int32) (h0 : Heap) (n0 : Nat) (Z0 : n0 ≤ h0.size) :
    Ctr l Z ⟨"com/example/rockhopper/rockhopper/model/ValidatorsToStringPinLaw", "b", "(II)C"⟩ method_3_code 2 (some .char) (rM 0 0 0 0) #[.int p0, .int 2] h0 (fun v h L => ∃ (y0 y1 : Int32), ((p0.toUInt32 >>> ((16 : Int32) &&& 31).toUInt32).toInt32) = y1 ∧ (y1 &&& (255 : Int32)) = y0 ∧ v = some (.int y0) ∧ Fr n0 L ∧ h = h0) := by
 refine Ctr.of (plainFor_of_name pn_c0) ?_
 intro p e s m below meth c T0 hx hZ hby hml hown hnm hret hlk e0 es X0
 refine Go.cast (ef_1_II m p0 (2 : Int32)) ?_
 generalize hFF : EndN s _ _ _ = FF
 refine Go.iloadN X0 hx 1 rfl (hb hby d1_0) rfl ?_
 refine Go.bipush X0 hx 3 rfl (hb hby d1_1) (v := (8 : Int32)) (by decide) ?_
 refine Go.iloadN X0 hx 4 rfl (hb hby d1_3) rfl ?_
 refine Go.imul X0 hx 5 rfl (hb hby d1_4) ?_
 rw [show ((8 : Int32) * (2 : Int32)) = (16 : Int32) from by decide]
 refine Go.iushr X0 hx 6 rfl (hb hby d1_5) ?_
 generalize hz1 : ((p0.toUInt32 >>> ((16 : Int32) &&& 31).toUInt32).toInt32) = z1
 refine Go.sipush X0 hx 9 rfl (hb hby d1_6) (v := (255 : Int32)) (by decide) ?_
 refine Go.iand X0 hx 10 rfl (hb hby d1_9) ?_
 have r2 : 0 ≤ z1.toInt ∧ z1.toInt ≤ 65535 := own_rushr hz1 (k := 16) (by decide) (by decide) (by decide)
 generalize hz3 : (z1 &&& (255 : Int32)) = z3
 refine Go.i2c X0 hx 11 rfl (hb hby d1_10) ?_
 have r4 : 0 ≤ z3.toInt ∧ z3.toInt ≤ 255 := own_rand hz3 (by decide)
 rw [show (z3.toUInt32.toUInt16.toUInt32.toInt32) = z3 from (own_i2c_id r4 (by decide) (by decide))]
 subst hFF
 refine Go.retN X0 hx hlk (t := .char) hret (by simp) (hb hby d1_11) (by decide) (by decide) ?_
 rw [e0]
 exact ⟨z3, z1, hz1, hz3, (congrArg (fun z => some (Value.int z)) (own_nar_char r4 (by decide) (by decide))), (Fr.nil n0), rfl⟩
theorem au_4 (l : Launch) (Z : State) (a0 : Array Value) (hw : HW a0 Z) (p0 : Int32) (h0 : Heap) (n0 : Nat) (Z0 : n0 ≤ h0.size) :
    Ctr l Z ⟨"com/example/rockhopper/rockhopper/model/ValidatorsToStringPinLaw", "b", "(II)C"⟩ method_3_code 2 (some .char) (rM 0 0 0 0) #[.int p0, .int 3] h0 (fun v h L => ∃ (y0 : Int32), ((p0.toUInt32 >>> ((24 : Int32) &&& 31).toUInt32).toInt32) = y0 ∧ v = some (.int y0) ∧ Fr n0 L ∧ h = h0) := by
 refine Ctr.of (plainFor_of_name pn_c0) ?_
 intro p e s m below meth c T0 hx hZ hby hml hown hnm hret hlk e0 es X0
 refine Go.cast (ef_1_II m p0 (3 : Int32)) ?_
 generalize hFF : EndN s _ _ _ = FF
 refine Go.iloadN X0 hx 1 rfl (hb hby d1_0) rfl ?_
 refine Go.bipush X0 hx 3 rfl (hb hby d1_1) (v := (8 : Int32)) (by decide) ?_
 refine Go.iloadN X0 hx 4 rfl (hb hby d1_3) rfl ?_
 refine Go.imul X0 hx 5 rfl (hb hby d1_4) ?_
 rw [show ((8 : Int32) * (3 : Int32)) = (24 : Int32) from by decide]
 refine Go.iushr X0 hx 6 rfl (hb hby d1_5) ?_
 generalize hz1 : ((p0.toUInt32 >>> ((24 : Int32) &&& 31).toUInt32).toInt32) = z1
 refine Go.sipush X0 hx 9 rfl (hb hby d1_6) (v := (255 : Int32)) (by decide) ?_
 refine Go.iand X0 hx 10 rfl (hb hby d1_9) ?_
 have r2 : 0 ≤ z1.toInt ∧ z1.toInt ≤ 255 := own_rushr hz1 (k := 24) (by decide) (by decide) (by decide)
 rw [show (z1 &&& (255 : Int32)) = z1 from (own_and_id r2 (k := 8) (by decide) (by decide) (by decide) (by decide))]
 refine Go.i2c X0 hx 11 rfl (hb hby d1_10) ?_
 rw [show (z1.toUInt32.toUInt16.toUInt32.toInt32) = z1 from (own_i2c_id r2 (by decide) (by decide))]
 subst hFF
 refine Go.retN X0 hx hlk (t := .char) hret (by simp) (hb hby d1_11) (by decide) (by decide) ?_
 rw [e0]
 exact ⟨z1, hz1, (congrArg (fun z => some (Value.int z)) (own_nar_char r2 (by decide) (by decide))), (Fr.nil n0), rfl⟩
theorem d2_0 : decode jdk_42_method_3_code 0 = .ok (.aload_n 0, 1) := by decide +kernel
theorem d2_1 : decode jdk_42_method_3_code 1 = .ok (.aload_n 1, 1) := by decide +kernel
theorem d2_2 : decode jdk_42_method_3_code 2 = .ok (.iconst 0, 1) := by decide +kernel
theorem d2_3 : decode jdk_42_method_3_code 3 = .ok (.aload_n 1, 1) := by decide +kernel
theorem d2_4 : decode jdk_42_method_3_code 4 = .ok (.arraylength, 1) := by decide +kernel
theorem d2_5 : decode jdk_42_method_3_code 5 = .ok (.aconst_null, 1) := by decide +kernel
theorem d3_0 : decode jdk_42_method_149_code 0 = .ok (.aload_n 0, 1) := by decide +kernel
theorem d3_1 : decode jdk_42_method_149_code 1 = .ok (.invokespecial 1, 3) := by decide +kernel
theorem d3_4 : decode jdk_42_method_149_code 4 = .ok (.iload_n 3, 1) := by decide +kernel
theorem d3_5 : decode jdk_42_method_149_code 5 = .ok (.ifCond .ne 22, 3) := by decide +kernel
theorem d3_27 : decode jdk_42_method_149_code 27 = .ok (.getstatic 38, 3) := by decide +kernel
theorem d3_30 : decode jdk_42_method_149_code 30 = .ok (.ifCond .eq 28, 3) := by decide +kernel
theorem d3_33 : decode jdk_42_method_149_code 33 = .ok (.aload_n 1, 1) := by decide +kernel
theorem d3_34 : decode jdk_42_method_149_code 34 = .ok (.iload_n 2, 1) := by decide +kernel
theorem d3_35 : decode jdk_42_method_149_code 35 = .ok (.iload_n 3, 1) := by decide +kernel
theorem d5_0 : decode jdk_52_method_16_code 0 = .ok (.iload_n 2, 1) := by decide +kernel
theorem d5_1 : decode jdk_52_method_16_code 1 = .ok (.newarray .byte, 2) := by decide +kernel
theorem d5_3 : decode jdk_52_method_16_code 3 = .ok (.astore_n 3, 1) := by decide +kernel
theorem d5_4 : decode jdk_52_method_16_code 4 = .ok (.aload_n 0, 1) := by decide +kernel
theorem d5_5 : decode jdk_52_method_16_code 5 = .ok (.iload_n 1, 1) := by decide +kernel
theorem d5_6 : decode jdk_52_method_16_code 6 = .ok (.aload_n 3, 1) := by decide +kernel
theorem d5_7 : decode jdk_52_method_16_code 7 = .ok (.iconst 0, 1) := by decide +kernel
theorem d5_8 : decode jdk_52_method_16_code 8 = .ok (.iload_n 2, 1) := by decide +kernel
theorem ef_6_RIRII (m : MethodId) (x0 : Addr) (x1 : Int32) (x2 : Addr) (x3 : Int32) (x4 : Int32) : entryFrame m #[(.ref x0), (.int x1), (.ref x2), (.int x3), (.int x4)] 7 = mkF m 0 #[.val (.ref x0), .val (.int x1), .val (.ref x2), .val (.int x3), .val (.int x4), .unset, .unset] [] := by first | (simp [entryFrame, mkF, argsToLocals, Value.category]; done) | rfl
theorem pn_c1 : plainName "java/lang/StringUTF16" = true := by first | (simp [plainName, overriddenIn]; done) | decide +kernel
theorem own_getDI' (l : List Int32) (n : Nat) (d : Int32) : (l.map Value.int).getD n (.int d) = .int (l.getD n d) := by
  induction l generalizing n with
  | nil => rfl
  | cons a r ih => cases n with
    | zero => rfl
    | succ k => exact ih k
theorem own_ofN {i : Nat} (h : i < 2 ^ 31) : (Int32.ofNat i).toInt = i := Int32.toInt_ofNat_of_lt h
theorem own_ofN0 {i : Nat} (h : i < 2 ^ 31) : ¬ Int32.ofNat i < 0 := by rw [Int32.lt_iff_toInt_lt, own_ofN h]; show ¬ (i : Int) < 0; omega
theorem own_ofNc {i : Nat} (h : i < 2 ^ 31) : (Int32.ofNat i).toNatClampNeg = i := by
  have q := nat_of (own_ofN0 h); rw [own_ofN h] at q; omega
theorem own_ofNlt {i : Nat} {z : Int32} (h : i < 2 ^ 31) (q : (i : Int) < z.toInt) : Int32.ofNat i < z := by rw [Int32.lt_iff_toInt_lt, own_ofN h]; exact q
theorem own_ofNge {i : Nat} {z : Int32} (h : i < 2 ^ 31) (q : z.toInt ≤ (i : Int)) : ¬ Int32.ofNat i < z := by rw [Int32.lt_iff_toInt_lt, own_ofN h]; omega
theorem own_ofNs (i : Nat) : Int32.ofNat i + Int32.ofInt 1 = Int32.ofNat (i + 1) := by rw [Int32.ofNat_add]; rfl
theorem own_ltN {z : Int32} {n : Nat} (h : z.toInt = n) : n < 2 ^ 31 := by have := rng32 z; omega
theorem own_takeS {us vs : List Int32} {i : Nat} (h1 : i < us.length) (h2 : i < vs.length) (ht : us.take i = vs.take i) (he : us.getD i 0 = vs.getD i 0) : us.take (i + 1) = vs.take (i + 1) := by
  rw [List.take_succ, List.take_succ, ht]
  simp only [List.getD_eq_getElem?_getD, List.getElem?_eq_getElem h1, List.getElem?_eq_getElem h2, Option.getD_some] at he
  rw [List.getElem?_eq_getElem h1, List.getElem?_eq_getElem h2, he]
theorem own_mc {f : Int32 → Value} {c : Int32} {v : Value} {x : List Int32} {y : List Value} (h : f c = v) (q : x.map f = y) : (c :: x).map f = v :: y := by rw [← h, ← q]; rfl
theorem own_setR (us : List Value) (k : Nat) (v d : Value) : (us ++ List.replicate (k + 1) d).set us.length v = (us ++ [v]) ++ List.replicate k d := by
  rw [List.set_append_right _ _ (Nat.le_refl _), Nat.sub_self, List.replicate_succ, List.set_cons_zero, List.append_assoc]; rfl
theorem own_rcons {c : Int32} {cs : List Int32} (h : 0 ≤ c.toInt ∧ c.toInt ≤ 255) (q : ∀ i, i < cs.length → 0 ≤ (cs.getD i 0).toInt ∧ (cs.getD i 0).toInt ≤ 255) : ∀ i, i < (c :: cs).length → 0 ≤ ((c :: cs).getD i 0).toInt ∧ ((c :: cs).getD i 0).toInt ≤ 255 := by
  intro i hi
  cases i with
  | zero => exact h
  | succ k => exact q k (Nat.lt_of_succ_lt_succ hi)

theorem d6_0 : decode jdk_52_method_21_code 0 = .ok (.iconst 0, 1) := by decide +kernel
theorem d6_1 : decode jdk_52_method_21_code 1 = .ok (.istore 5, 2) := by decide +kernel
theorem d6_3 : decode jdk_52_method_21_code 3 = .ok (.iload 5, 2) := by decide +kernel
theorem d6_5 : decode jdk_52_method_21_code 5 = .ok (.iload 4, 2) := by decide +kernel
theorem d6_7 : decode jdk_52_method_21_code 7 = .ok (.if_icmp .ge 37, 3) := by decide +kernel
theorem d6_44 : decode jdk_52_method_21_code 44 = .ok (.iload 4, 2) := by decide +kernel
theorem d6_46 : decode jdk_52_method_21_code 46 = .ok (.ireturn, 1) := by decide +kernel
theorem d6_10 : decode jdk_52_method_21_code 10 = .ok (.aload_n 0, 1) := by decide +kernel
theorem d6_11 : decode jdk_52_method_21_code 11 = .ok (.iload_n 1, 1) := by decide +kernel
theorem d6_12 : decode jdk_52_method_21_code 12 = .ok (.caload, 1) := by decide +kernel
theorem d6_13 : decode jdk_52_method_21_code 13 = .ok (.istore 6, 2) := by decide +kernel
theorem d6_15 : decode jdk_52_method_21_code 15 = .ok (.iload 6, 2) := by decide +kernel
theorem d6_17 : decode jdk_52_method_21_code 17 = .ok (.sipush 255, 3) := by decide +kernel
theorem d6_20 : decode jdk_52_method_21_code 20 = .ok (.if_icmp .le 6, 3) := by decide +kernel
theorem d6_26 : decode jdk_52_method_21_code 26 = .ok (.aload_n 2, 1) := by decide +kernel
theorem d6_27 : decode jdk_52_method_21_code 27 = .ok (.iload_n 3, 1) := by decide +kernel
theorem d6_28 : decode jdk_52_method_21_code 28 = .ok (.iload 6, 2) := by decide +kernel
theorem d6_30 : decode jdk_52_method_21_code 30 = .ok (.i2b, 1) := by decide +kernel
theorem d6_31 : decode jdk_52_method_21_code 31 = .ok (.bastore, 1) := by decide +kernel
theorem d6_32 : decode jdk_52_method_21_code 32 = .ok (.iinc 1 1, 3) := by decide +kernel
theorem d6_35 : decode jdk_52_method_21_code 35 = .ok (.iinc 3 1, 3) := by decide +kernel
theorem d6_38 : decode jdk_52_method_21_code 38 = .ok (.iinc 5 1, 3) := by decide +kernel
theorem d6_41 : decode jdk_52_method_21_code 41 = .ok (.goto (-38), 3) := by decide +kernel
theorem gl_co (l : Launch) (Z : State) (a0 : Array Value) (hw : HW a0 Z) (x0 x1 : Addr) (k0 k1 : ClassId) (z : Int32) (cs : List Int32) (h0 : Heap) (n0 : Nat) (P0 : Arv Z h0 x0 k0 .char z (cs.map Value.int) (.int 0)) (P1 : Arv Z h0 x1 k1 .byte z (List.replicate cs.length (.int 0)) (.int 0)) (ha : z.toInt = cs.length) (hr : ∀ i, i < cs.length → 0 ≤ (cs.getD i 0).toInt ∧ (cs.getD i 0).toInt ≤ 255) (ge : n0 ≤ x1) (ne : x0 ≠ x1) :
    Ctr l Z (⟨"java/lang/StringUTF16", "compress", "([CI[BII)I"⟩ : MethodName) jdk_52_method_21_code 7 (some .int) ({ frames := 0, cells := 0, slots := 0, locals := 0 } : Room) #[(.ref x0), (.int 0), (.ref x1), (.int 0), (.int z)] h0 (fun v h L => v = some (.int z) ∧ Fr n0 L ∧ Keep h0 h [x1] ∧ Arv Z h x1 k1 .byte z (cs.map (fun c => Value.int c.toInt8.toInt32)) (.int 0)) := by
  refine Ctr.of (plainFor_of_name pn_c1) ?_
  intro p e s m below meth c T0 hx hZ hby hml hown hnm hret hlk e0 es X0
  refine Go.cast (ef_6_RIRII m x0 (0 : Int32) x1 (0 : Int32) z) ?_
  generalize hFF : EndN s _ _ _ = FF
  have hN := own_ltN ha
  refine Go.iconst X0 hx (pc' := 1) rfl (hb hby d6_0) (v := (0 : Int32)) rfl ?_
  refine Go.istore X0 hx (pc' := 3) rfl (hb hby d6_1) (Ls' := #[.val (.ref x0), .val (.int (Int32.ofNat 0)), .val (.ref x1), .val (.int (Int32.ofNat 0)), .val (.int z), .val (.int (Int32.ofNat 0)), .unset]) rfl ?_
  have loop : ∀ (k i : Nat) (T : State) (h : Heap) (L : List Loc) (sl : Slot), i + k = cs.length → (sl = .unset ∨ ∃ q : Int32, sl = .val (.int q)) → T.heap = h → Stand p l e ({ frames := 0, cells := 0, slots := 0, locals := 0 } : Room) s m #[(.ref x0), (.int 0), (.ref x1), (.int 0), (.int z)] below meth c T L 0 0 → Fr n0 L → Keep h0 h [x1] → Arv Z h x0 k0 .char z (cs.map Value.int) (.int 0) → Arv Z h x1 k1 .byte z (((cs.take i).map (fun c => Value.int c.toInt8.toInt32)) ++ List.replicate k (.int 0)) (.int 0) → Go p e below FF (T.setTop (mkF m 3 #[.val (.ref x0), .val (.int (Int32.ofNat i)), .val (.ref x1), .val (.int (Int32.ofNat i)), .val (.int z), .val (.int (Int32.ofNat i)), sl] [])) := by
    intro k
    induction k with
    | zero =>
      intro i T h L sl hi hs eT X N K Q0 Q1
      have ht : cs.take i = cs := List.take_of_length_le (by omega)
      rw [ht, List.replicate_zero, List.append_nil] at Q1
      refine Go.iload X hx (pc' := 5) rfl (hb hby d6_3) rfl ?_
      refine Go.iload X hx (pc' := 7) rfl (hb hby d6_5) rfl ?_
      refine Go.icmpYes X hx (pc' := 44) (hb hby d6_7) (flt (own_ofNge (by omega) (by omega))).2.1 (by decide) (by decide) ?_
      refine Go.iload X hx (pc' := 46) rfl (hb hby d6_44) rfl ?_
      subst hFF
      refine Go.retI X hx hlk hret (hb hby d6_46) (by decide) (by decide) ?_
      rw [eT]
      exact ⟨rfl, N, K, Q1⟩
    | succ k ih =>
      intro i T h L sl hi hs eT X N K Q0 Q1
      have hj : ¬ Int32.ofNat i < 0 ∧ Int32.ofNat i < z := ⟨own_ofN0 (by omega), own_ofNlt (by omega) (by omega)⟩
      have hc := own_ofNc (i := i) (by omega)
      have r := hr i (by omega)
      have hlt : (cs.take i).length = i := by rw [List.length_take]; omega
      refine Go.iload X hx (pc' := 5) rfl (hb hby d6_3) rfl ?_
      refine Go.iload X hx (pc' := 7) rfl (hb hby d6_5) rfl ?_
      refine Go.icmpNo X hx (pc' := 10) rfl (hb hby d6_7) (tlt hj.2).2.1 ?_
      refine Go.aloadN X hx (pc' := 11) rfl (hb hby d6_10) rfl rfl ?_
      refine Go.iloadN X hx (pc' := 12) rfl (hb hby d6_11) rfl ?_
      refine Go.caload X hx hZ eT Q0 (v := (.int (cs.getD i 0))) hj (by rw [hc]; exact own_getDI' _ _ _) (pc' := 13) rfl (hb hby d6_12) ?_
      refine Go.istore X hx (pc' := 15) rfl (hb hby d6_13) (Ls' := #[.val (.ref x0), .val (.int (Int32.ofNat i)), .val (.ref x1), .val (.int (Int32.ofNat i)), .val (.int z), .val (.int (Int32.ofNat i)), (.val (.int (cs.getD i 0)))]) (by rcases hs with rfl | ⟨q, rfl⟩ <;> rfl) ?_
      refine Go.iload X hx (pc' := 17) rfl (hb hby d6_15) rfl ?_
      refine Go.sipush X hx (pc' := 20) rfl (hb hby d6_17) (v := (255 : Int32)) (by decide) ?_
      refine Go.icmpYes X hx (pc' := 26) (hb hby d6_20) (flt (by rw [Int32.lt_iff_toInt_lt]; show ¬ (255 : Int) < _; omega)).2.2.2 (by decide) (by decide) ?_
      refine Go.aloadN X hx (pc' := 27) rfl (hb hby d6_26) rfl rfl ?_
      refine Go.iloadN X hx (pc' := 28) rfl (hb hby d6_27) rfl ?_
      refine Go.iload X hx (pc' := 30) rfl (hb hby d6_28) rfl ?_
      refine Go.i2b X hx (pc' := 31) rfl (hb hby d6_30) ?_
      have hb8 : nar .byte (cs.getD i 0).toInt8.toInt32 = (cs.getD i 0).toInt8.toInt32 := own_nar_byte (own_ri2b rfl) (by decide) (by decide)
      refine Go.bastore X hx hZ eT Q1 ((cs.getD i 0).toInt8.toInt32) hb8 hj i hc (by simp only [List.length_append, List.length_map, List.length_replicate]; omega) (pc' := 32) rfl (hb hby d6_31) ?_
      intro T' h' e' W V X'
      have V' : Arv Z h' x1 k1 .byte z (((cs.take (i + 1)).map (fun c => Value.int c.toInt8.toInt32)) ++ List.replicate k (.int 0)) (.int 0) := by
        have q := own_setR ((cs.take i).map (fun c => Value.int c.toInt8.toInt32)) k (.int (cs.getD i 0).toInt8.toInt32) (.int 0)
        rw [List.length_map, hlt] at q
        rw [q] at V
        have t1 : cs.take (i + 1) = cs.take i ++ [cs.getD i 0] := by
          rw [List.take_succ, List.getElem?_eq_getElem (by omega), List.getD_eq_getElem?_getD, List.getElem?_eq_getElem (by omega)]; rfl
        rw [t1, List.map_append]; exact V
      refine Go.iinc X' hx (pc' := 35) rfl (hb hby d6_32) rfl (y := Int32.ofNat (i + 1)) (own_ofNs i) (Ls' := #[.val (.ref x0), .val (.int (Int32.ofNat (i + 1))), .val (.ref x1), .val (.int (Int32.ofNat i)), .val (.int z), .val (.int (Int32.ofNat i)), (.val (.int (cs.getD i 0)))]) rfl ?_
      refine Go.iinc X' hx (pc' := 38) rfl (hb hby d6_35) rfl (y := Int32.ofNat (i + 1)) (own_ofNs i) (Ls' := #[.val (.ref x0), .val (.int (Int32.ofNat (i + 1))), .val (.ref x1), .val (.int (Int32.ofNat (i + 1))), .val (.int z), .val (.int (Int32.ofNat i)), (.val (.int (cs.getD i 0)))]) rfl ?_
      refine Go.iinc X' hx (pc' := 41) rfl (hb hby d6_38) rfl (y := Int32.ofNat (i + 1)) (own_ofNs i) (Ls' := #[.val (.ref x0), .val (.int (Int32.ofNat (i + 1))), .val (.ref x1), .val (.int (Int32.ofNat (i + 1))), .val (.int z), .val (.int (Int32.ofNat (i + 1))), (.val (.int (cs.getD i 0)))]) rfl ?_
      refine Go.goto X' hx (pc' := 3) (hb hby d6_41) (by decide) (by decide) ?_
      exact ih (i + 1) T' h' _ _ (by omega) (Or.inr ⟨_, rfl⟩) e' X' (Fr.snoc X' N ge) (K.wr W (Or.inl (List.mem_of_getElem? (i := 0) rfl))) (Q0.other W ne) V'
  exact loop cs.length 0 T0 h0 [] _ (by omega) (Or.inl rfl) e0 X0 (Fr.nil n0) (Keep.refl h0 [x1]) P0 (by simpa using P1)
theorem pd_1 : parseMethodDescriptor "([CI[BII)I" = some ⟨[(.array .char), .int, (.array .byte), .int, .int], some .int⟩ := by decide +kernel
theorem d5_9 : decode jdk_52_method_16_code 9 = .ok (.invokestatic 115, 3) := by decide +kernel
theorem d5_12 : decode jdk_52_method_16_code 12 = .ok (.istore 4, 2) := by decide +kernel
theorem d5_14 : decode jdk_52_method_16_code 14 = .ok (.iload 4, 2) := by decide +kernel
theorem d5_16 : decode jdk_52_method_16_code 16 = .ok (.iload_n 2, 1) := by decide +kernel
theorem d5_17 : decode jdk_52_method_16_code 17 = .ok (.if_icmp .eq 40, 3) := by decide +kernel
theorem d5_57 : decode jdk_52_method_16_code 57 = .ok (.aload_n 3, 1) := by decide +kernel
theorem d5_58 : decode jdk_52_method_16_code 58 = .ok (.areturn, 1) := by decide +kernel
theorem ef_5_RII (m : MethodId) (x0 : Addr) (x1 : Int32) (x2 : Int32) : entryFrame m #[(.ref x0), (.int x1), (.int x2)] 6 = mkF m 0 #[.val (.ref x0), .val (.int x1), .val (.int x2), .unset, .unset, .unset] [] := by first | (simp [entryFrame, mkF, argsToLocals, Value.category]; done) | rfl
theorem au_7 (l : Launch) (Z : State) (a0 : Array Value) (hw : HW a0 Z) (x0 : Addr) (kk0 : ClassId) (p0 p1 p2 p3 : Int32) (h0 : Heap) (n0 : Nat) (Z0 : n0 ≤ h0.size) (P0 : Arv Z h0 x0 kk0 .char (4 : Int32) [.int p0, .int p1, .int p2, .int p3] (.int 0)) (R_p0 : 0 ≤ p0.toInt ∧ p0.toInt ≤ 255) (R_p1 : 0 ≤ p1.toInt ∧ p1.toInt ≤ 255) (R_p2 : 0 ≤ p2.toInt ∧ p2.toInt ≤ 255) (R_p3 : 0 ≤ p3.toInt ∧ p3.toInt ≤ 255) :
    Ctr l Z ⟨"java/lang/StringUTF16", "compress", "([CII)[B"⟩ jdk_52_method_16_code 6 (some (.array .byte)) (rM 1 1 4 18) #[.ref x0, .int 0, .int 4] h0 (fun v h L => ∃ (y0 y1 y2 y3 : Int32) (y4 : Addr) (y5 : ClassId), (p0.toInt8.toInt32) = y0 ∧ (p1.toInt8.toInt32) = y1 ∧ (p2.toInt8.toInt32) = y2 ∧ (p3.toInt8.toInt32) = y3 ∧ v = some (.ref y4) ∧ Fr n0 L ∧ Keep h0 h [] ∧ h0.size ≤ y4 ∧ Arv Z h y4 y5 .byte (4 : Int32) [.int y0, .int y1, .int y2, .int y3] (.int 0) ∧ Exa Z h y4 "[B") := by
 refine Ctr.of (plainFor_of_name pn_c1) ?_
 intro p e s m below meth c T0 hx hZ hby hml hown hnm hret hlk e0 es X0
 refine Go.cast (ef_5_RII m x0 (0 : Int32) (4 : Int32)) ?_
 generalize hFF : EndN s _ _ _ = FF
 refine Go.iloadN X0 hx 1 rfl (hb hby d5_0) rfl ?_
 refine Go.newarray X0 hx hZ (ty := .byte) rfl (tw_23 hw) e0 (by decide) (cap := 4) (by decide) (by decide) (by decide) (by decide) (ad := "[B") (by decide) 4 3 rfl (hb hby d5_1) ?_
 intro T1 h1 b1 k1 e1 E1 g1 V1 A1 X1
 have V1' : Arv Z h1 b1 k1 .byte (4 : Int32) [.int 0, .int 0, .int 0, .int 0] (.int 0) := V1
 refine Go.astoreN X1 hx 4 rfl (hb hby d5_3) (Ls' := #[vR x0, vI 0, vI 4, vR b1, uS, uS]) rfl rfl ?_
 refine Go.aloadN X1 hx 5 rfl (hb hby d5_4) rfl rfl ?_
 refine Go.iloadN X1 hx 6 rfl (hb hby d5_5) rfl ?_
 refine Go.aloadN X1 hx 7 rfl (hb hby d5_6) rfl rfl ?_
 refine Go.iconst X1 hx 8 rfl (hb hby d5_7) (v := (0 : Int32)) rfl ?_
 refine Go.iloadN X1 hx 9 rfl (hb hby d5_8) rfl ?_
 have fk2 := (P0.ext E1)
 have sz4 := Nat.le_trans (Keep.refl h0 []).1 (Nat.le_of_eq g1.symm)
 have ge3 := Nat.le_trans Z0 sz4
 have ne5 := Nat.ne_of_lt (Nat.lt_of_lt_of_le P0.lt (Nat.le_of_eq g1.symm))
 refine Go.callS X1 hx hZ hown (tw_24 hw) (tw_25 hw) (tw_21 hw) (tw_26 hw) (by decide) (tw_26 hw) (tw_21 hw) (gl_co l Z a0 hw x0 b1 kk0 k1 (4 : Int32) [p0, p1, p2, p3] h1 n0 fk2 V1' rfl (own_rcons (own_rw R_p0 (by decide) (by decide)) (own_rcons (own_rw R_p1 (by decide) (by decide)) (own_rcons (own_rw R_p2 (by decide) (by decide)) (own_rcons (own_rw R_p3 (by decide) (by decide)) (fun i hi => absurd hi (Nat.not_lt_zero i)))))) ge3 ne5) e1 (argsL := [.ref x0, .int 0, .ref b1, .int 0, .int 4]) (rest := []) 12 rfl (hml ▸ rfl) (lenOf pd_1 rfl) rfl rfl (W := 0) (nE rfl) (by decide) (by decide) (by decide) (by decide) (hb hby d5_9) ?_
 intro v6 T6 L6 q6 X6
 obtain ⟨h6, e6⟩ : ∃ z, T6.heap = z := ⟨_, rfl⟩
 rw [e6] at q6
 obtain ⟨rfl, N6, K6, V6⟩ := q6
 obtain ⟨z7, hz7⟩ : ∃ y, (p0.toInt8.toInt32) = y := ⟨_, rfl⟩
 obtain ⟨z8, hz8⟩ : ∃ y, (p1.toInt8.toInt32) = y := ⟨_, rfl⟩
 obtain ⟨z9, hz9⟩ : ∃ y, (p2.toInt8.toInt32) = y := ⟨_, rfl⟩
 obtain ⟨z10, hz10⟩ : ∃ y, (p3.toInt8.toInt32) = y := ⟨_, rfl⟩
 rw [show ([p0, p1, p2, p3] : List Int32).map (fun c => Value.int c.toInt8.toInt32) = [.int z7, .int z8, .int z9, .int z10] from (own_mc (congrArg Value.int hz7) (own_mc (congrArg Value.int hz8) (own_mc (congrArg Value.int hz9) (own_mc (congrArg Value.int hz10) rfl))))] at V6
 show Go _ _ _ _ (T6.setTop (mkF m 12 #[vR x0, vI 0, vI 4, vR b1, uS, uS] [.int 4]))
 refine Go.istore X6 hx 14 rfl (hb hby d5_12) (Ls' := #[vR x0, vI 0, vI 4, vR b1, vI 4, uS]) rfl ?_
 refine Go.iload X6 hx 16 rfl (hb hby d5_14) rfl ?_
 refine Go.iloadN X6 hx 17 rfl (hb hby d5_16) rfl ?_
 refine Go.icmpYes X6 hx 57 (hb hby d5_17) (by decide) (by decide) (by decide) ?_
 refine Go.aloadN X6 hx 58 rfl (hb hby d5_57) rfl rfl ?_
 subst hFF
 refine Go.retR X6 hx hlk (t := (.array .byte)) hret rfl rfl (hb hby d5_58) (by decide) (by decide) ?_
 rw [e6]
 have fk11 := (A1.keep K6)
 have Kp12 := ((Keep.refl h0 []).ext E1)
 have Kp13 := (Kp12.trans K6 (allS (Or.inr sz4) all0))
 exact ⟨z7, z8, z9, z10, b1, k1, hz7, hz8, hz9, hz10, rfl, (Fr.app (Fr.nil n0) N6), Kp13, sz4, V6, fk11⟩
theorem pd_2 : parseMethodDescriptor "([CII)[B" = some ⟨[(.array .char), .int, .int], some (.array .byte)⟩ := by decide +kernel
theorem d3_36 : decode jdk_42_method_149_code 36 = .ok (.invokestatic 177, 3) := by decide +kernel
theorem d3_39 : decode jdk_42_method_149_code 39 = .ok (.astore 5, 2) := by decide +kernel
theorem d3_41 : decode jdk_42_method_149_code 41 = .ok (.aload_n 0, 1) := by decide +kernel
theorem d3_42 : decode jdk_42_method_149_code 42 = .ok (.aload 5, 2) := by decide +kernel
theorem d3_44 : decode jdk_42_method_149_code 44 = .ok (.iload_n 3, 1) := by decide +kernel
theorem d7_0 : decode jdk_52_method_15_code 0 = .ok (.iload_n 1, 1) := by decide +kernel
theorem d7_1 : decode jdk_52_method_15_code 1 = .ok (.aload_n 0, 1) := by decide +kernel
theorem d7_2 : decode jdk_52_method_15_code 2 = .ok (.arraylength, 1) := by decide +kernel
theorem d7_3 : decode jdk_52_method_15_code 3 = .ok (.isub, 1) := by decide +kernel
theorem d7_4 : decode jdk_52_method_15_code 4 = .ok (.bipush 31, 2) := by decide +kernel
theorem d7_6 : decode jdk_52_method_15_code 6 = .ok (.iushr, 1) := by decide +kernel
theorem d7_7 : decode jdk_52_method_15_code 7 = .ok (.i2b, 1) := by decide +kernel
theorem d7_8 : decode jdk_52_method_15_code 8 = .ok (.ireturn, 1) := by decide +kernel
theorem ef_7_RI (m : MethodId) (x0 : Addr) (x1 : Int32) : entryFrame m #[(.ref x0), (.int x1)] 2 = mkF m 0 #[.val (.ref x0), .val (.int x1)] [] := by first | (simp [entryFrame, mkF, argsToLocals, Value.category]; done) | rfl
theorem au_8 (l : Launch) (Z : State) (a0 : Array Value) (hw : HW a0 Z) (x0 : Addr) (kk0 : ClassId) (p0 p1 p2 p3 : Int32) (h0 : Heap) (n0 : Nat) (Z0 : n0 ≤ h0.size) (P0 : Arv Z h0 x0 kk0 .byte (4 : Int32) [.int p0, .int p1, .int p2, .int p3] (.int 0)) :
    Ctr l Z ⟨"java/lang/StringUTF16", "coderFromArrayLen", "([BI)B"⟩ jdk_52_method_15_code 2 (some .byte) (rM 0 0 0 0) #[.ref x0, .int 4] h0 (fun v h L => v = some (.int 0) ∧ Fr n0 L ∧ h = h0) := by
 refine Ctr.of (plainFor_of_name pn_c1) ?_
 intro p e s m below meth c T0 hx hZ hby hml hown hnm hret hlk e0 es X0
 refine Go.cast (ef_7_RI m x0 (4 : Int32)) ?_
 generalize hFF : EndN s _ _ _ = FF
 refine Go.iloadN X0 hx 1 rfl (hb hby d7_0) rfl ?_
 refine Go.aloadN X0 hx 2 rfl (hb hby d7_1) rfl rfl ?_
 refine Go.arraylength X0 hx hZ e0 P0 3 rfl (hb hby d7_2) ?_
 refine Go.isub X0 hx 4 rfl (hb hby d7_3) ?_
 rw [show ((4 : Int32) - (4 : Int32)) = (0 : Int32) from by decide]
 refine Go.bipush X0 hx 6 rfl (hb hby d7_4) (v := (31 : Int32)) (by decide) ?_
 refine Go.iushr X0 hx 7 rfl (hb hby d7_6) ?_
 rw [show (((0 : Int32).toUInt32 >>> ((31 : Int32) &&& 31).toUInt32).toInt32) = (0 : Int32) from by decide]
 refine Go.i2b X0 hx 8 rfl (hb hby d7_7) ?_
 rw [show ((0 : Int32).toInt8.toInt32) = (0 : Int32) from by decide]
 subst hFF
 refine Go.retN X0 hx hlk (t := .byte) hret (by simp) (hb hby d7_8) (by decide) (by decide) ?_
 rw [e0]
 exact ⟨(congrArg (fun z => some (Value.int z)) (by decide : nar .byte (0 : Int32) = (0 : Int32))), (Fr.nil n0), rfl⟩
theorem pd_3 : parseMethodDescriptor "([BI)B" = some ⟨[(.array .byte), .int], some .byte⟩ := by decide +kernel
theorem d3_45 : decode jdk_42_method_149_code 45 = .ok (.invokestatic 47, 3) := by decide +kernel
theorem d3_48 : decode jdk_42_method_149_code 48 = .ok (.putfield 15, 3) := by decide +kernel
theorem d3_51 : decode jdk_42_method_149_code 51 = .ok (.aload_n 0, 1) := by decide +kernel
theorem d3_52 : decode jdk_42_method_149_code 52 = .ok (.aload 5, 2) := by decide +kernel
theorem d3_54 : decode jdk_42_method_149_code 54 = .ok (.putfield 9, 3) := by decide +kernel
theorem d3_57 : decode jdk_42_method_149_code 57 = .ok (.return_, 1) := by decide +kernel
theorem ef_3_RRIIN (m : MethodId) (x0 : Addr) (x1 : Addr) (x2 : Int32) (x3 : Int32)  : entryFrame m #[(.ref x0), (.ref x1), (.int x2), (.int x3), .null] 6 = mkF m 0 #[.val (.ref x0), .val (.ref x1), .val (.int x2), .val (.int x3), .val .null, .unset] [] := by first | (simp [entryFrame, mkF, argsToLocals, Value.category]; done) | rfl
theorem pn_c2 : plainName "java/lang/String" = true := by first | (simp [plainName, overriddenIn]; done) | decide +kernel
theorem au_6 (l : Launch) (Z : State) (a0 : Array Value) (hw : HW a0 Z) (x0 x1 : Addr) (kk0 : ClassId) (p0 p1 p2 p3 gz1 : Int32) (gv5 : Value) (h0 : Heap) (n0 : Nat) (Z0 : n0 ≤ h0.size) (O0 : Old Z n0 h0) (G : Glob Z gz1 gv5) (P0 : Exa Z h0 x0 s1) (P1 : Fld Z h0 x0 s1 s4 "B" (.int 0)) (P2 : Fld Z h0 x0 s1 s5 "[B" .null) (P3 : Arv Z h0 x1 kk0 .char (4 : Int32) [.int p0, .int p1, .int p2, .int p3] (.int 0)) (R_p0 : 0 ≤ p0.toInt ∧ p0.toInt ≤ 255) (R_p1 : 0 ≤ p1.toInt ∧ p1.toInt ≤ 255) (R_p2 : 0 ≤ p2.toInt ∧ p2.toInt ≤ 255) (R_p3 : 0 ≤ p3.toInt ∧ p3.toInt ≤ 255) (g_x0 : n0 ≤ x0) :
    Ctr l Z ⟨s1, "<init>", "([CIILjava/lang/Void;)V"⟩ jdk_42_method_149_code 6 none (rM 2 1 4 35) #[.ref x0, .ref x1, .int 0, .int 4, .null] h0 (fun v h L => ∃ (y0 y1 y2 y3 : Int32) (y4 : Addr) (y5 : ClassId), (p0.toInt8.toInt32) = y0 ∧ (p1.toInt8.toInt32) = y1 ∧ (p2.toInt8.toInt32) = y2 ∧ (p3.toInt8.toInt32) = y3 ∧ v = none ∧ Fr n0 L ∧ Keep h0 h [x0] ∧ h0.size ≤ y4 ∧ Exa Z h x0 s1 ∧ Fld Z h x0 s1 s4 "B" (.int 0) ∧ Fld Z h x0 s1 s5 "[B" (.ref y4) ∧ Arv Z h y4 y5 .byte (4 : Int32) [.int y0, .int y1, .int y2, .int y3] (.int 0) ∧ Exa Z h y4 "[B") := by
 refine Ctr.of (plainFor_of_name pn_c2) ?_
 intro p e s m below meth c T0 hx hZ hby hml hown hnm hret hlk e0 es X0
 have G' := G
 obtain ⟨G0, -, G2, -⟩ := G'
 refine Go.cast (ef_3_RRIIN m x0 x1 (0 : Int32) (4 : Int32)) ?_
 generalize hFF : EndN s _ _ _ = FF
 refine Go.aloadN X0 hx 1 rfl (hb hby d3_0) rfl rfl ?_
 refine Go.initO X0 hx hZ hown (tw_15 hw) (tw_16 hw) (tw_17 hw) e0 (by decide) (W := 0) (hml ▸ rfl) (nE rfl) (by decide) (pc' := 4) rfl (hb hby d3_1) ?_
 intro T1 e1 X1
 refine Go.iloadN X1 hx 5 rfl (hb hby d3_4) rfl ?_
 refine Go.ifYes X1 hx 27 (hb hby d3_5) (by decide) (by decide) (by decide) ?_
 have fk2 := G0.ext O0.2
 refine Go.getS X1 hx hZ hown (host := "") (Or.inl (tw_18 hw)) Via.refl e1 fk2 30 rfl (hb hby d3_27) ?_
 intro T3 e3 X3
 refine Go.ifNo X3 hx 33 rfl (hb hby d3_30) (feq G2).1 ?_
 refine Go.aloadN X3 hx 34 rfl (hb hby d3_33) rfl rfl ?_
 refine Go.iloadN X3 hx 35 rfl (hb hby d3_34) rfl ?_
 refine Go.iloadN X3 hx 36 rfl (hb hby d3_35) rfl ?_
 refine Go.callS X3 hx hZ hown (tw_19 hw) (tw_20 hw) (tw_21 hw) (tw_22 hw) (by decide) (tw_22 hw) (tw_21 hw) (au_7 l Z a0 hw x1 kk0 p0 p1 p2 p3 h0 n0 Z0 P3 R_p0 R_p1 R_p2 R_p3) e3 (argsL := [.ref x1, .int 0, .int 4]) (rest := []) 39 rfl (hml ▸ rfl) (lenOf pd_2 rfl) rfl rfl (W := 0) (nE rfl) (by decide) (by decide) (by decide) (by decide) (hb hby d3_36) ?_
 intro v4 T4 L4 q4 X4
 obtain ⟨h4, e4⟩ : ∃ z, T4.heap = z := ⟨_, rfl⟩
 rw [e4] at q4
 obtain ⟨z4_0, z4_1, z4_2, z4_3, b4_0, k4_0, d4_0, d4_1, d4_2, d4_3, rfl, N4, K4, s4_0, F4_0, F4_1⟩ := q4
 show Go _ _ _ _ (T4.setTop (mkF m 39 #[vR x0, vR x1, vI 0, vI 4, .val .null, uS] [.ref b4_0]))
 refine Go.astore X4 hx 41 rfl (hb hby d3_39) (Ls' := #[vR x0, vR x1, vI 0, vI 4, .val .null, vR b4_0]) rfl rfl ?_
 refine Go.aloadN X4 hx 42 rfl (hb hby d3_41) rfl rfl ?_
 refine Go.aload X4 hx 44 rfl (hb hby d3_42) rfl rfl ?_
 refine Go.iloadN X4 hx 45 rfl (hb hby d3_44) rfl ?_
 have r5 : -128 ≤ z4_0.toInt ∧ z4_0.toInt ≤ 127 := own_ri2b d4_0
 have r6 : -128 ≤ z4_1.toInt ∧ z4_1.toInt ≤ 127 := own_ri2b d4_1
 have r7 : -128 ≤ z4_2.toInt ∧ z4_2.toInt ≤ 127 := own_ri2b d4_2
 have r8 : -128 ≤ z4_3.toInt ∧ z4_3.toInt ≤ 127 := own_ri2b d4_3
 have Kp10 := ((Keep.refl h0 [x0]).trans K4 all0)
 have Zn9 := Nat.le_trans Z0 Kp10.1
 refine Go.callS X4 hx hZ hown (tw_27 hw) (tw_28 hw) (tw_21 hw) (tw_29 hw) (by decide) (tw_29 hw) (tw_21 hw) (au_8 l Z a0 hw b4_0 k4_0 z4_0 z4_1 z4_2 z4_3 h4 n0 Zn9 F4_0) e4 (argsL := [.ref b4_0, .int 4]) (rest := [.ref x0]) 48 rfl (hml ▸ rfl) (lenOf pd_3 rfl) rfl rfl (W := 1) (nE rfl) (by decide) (by decide) (by decide) (by decide) (hb hby d3_45) ?_
 intro v11 T11 L11 q11 X11
 obtain ⟨rfl, N11, e11⟩ := q11
 show Go _ _ _ _ (T11.setTop (mkF m 48 #[vR x0, vR x1, vI 0, vI 4, .val .null, vR b4_0] [.int 0, .ref x0]))
 have fk12 := (P1.keep K4 nin0)
 have fk13 := (P0.keep K4)
 refine Go.putFN X11 hx hZ hown (tw_30 hw) Via.refl e11 fk12 fk13 (Or.inr ⟨(tw_31 hw), rfl, hnm⟩) (tw_5 hw) (ty := .byte) (v' := (.int 0)) (by decide) (by decide) (by decide) 51 rfl (hb hby d3_48) ?_
 intro T14 h14 e14 W14 F14 X14
 have N14 := Fr.snoc X14 (Fr.app (Fr.app (Fr.nil n0) N4) N11) g_x0
 refine Go.aloadN X14 hx 52 rfl (hb hby d3_51) rfl rfl ?_
 refine Go.aload X14 hx 54 rfl (hb hby d3_52) rfl rfl ?_
 have fk15 := ((P2.keep K4 nin0).other W14 (Or.inr (slot_ne (Or.inr (tw_33 hw)) (Or.inr (tw_31 hw)) (by decide) (t := (.array .byte)) (t' := .byte) (by decide) (by decide))))
 have fk16 := (fk13.wr W14)
 refine Go.putF X14 hx hZ hown (host := "") (Or.inl (tw_32 hw)) Via.refl e14 fk15 fk16 (Or.inr ⟨(tw_33 hw), rfl, hnm⟩) (tw_5 hw) (ty := (.array .byte)) (by decide) rfl rfl 57 rfl (hb hby d3_54) ?_
 intro T17 h17 e17 W17 F17 X17
 have N17 := Fr.snoc X17 N14 g_x0
 subst hFF
 refine Go.ret0 X17 hx hlk hret (hb hby d3_57) (by decide) (by decide) ?_
 rw [e17]
 have fk18 := (fk16.wr W17)
 have fk19 := (F14.other W17 (Or.inr (slot_ne (Or.inr (tw_31 hw)) (Or.inr (tw_33 hw)) (by decide) (t := .byte) (t' := (.array .byte)) (by decide) (by decide))))
 have ne20 := Nat.ne_of_lt (Nat.lt_of_lt_of_le P0.lt s4_0)
 have fk21 := ((F4_0.other W14 (Ne.symm ne20)).other W17 (Ne.symm ne20))
 have fk22 := ((F4_1.wr W14).wr W17)
 have Kp23 := (Kp10.wr W14 (Or.inl (mG 0 rfl)))
 have Kp24 := (Kp23.wr W17 (Or.inl (mG 0 rfl)))
 have sz25 := Nat.le_trans (Keep.refl h0 [x0]).1 s4_0
 exact ⟨z4_0, z4_1, z4_2, z4_3, b4_0, k4_0, d4_0, d4_1, d4_2, d4_3, rfl, N17, Kp24, sz25, fk18, fk19, F17, fk21, fk22⟩
theorem pd_4 : parseMethodDescriptor "([CIILjava/lang/Void;)V" = some ⟨[(.array .char), .int, .int, (.object "java/lang/Void")], none⟩ := by decide +kernel
theorem d2_6 : decode jdk_42_method_3_code 6 = .ok (.invokespecial 27, 3) := by decide +kernel
theorem d2_9 : decode jdk_42_method_3_code 9 = .ok (.return_, 1) := by decide +kernel
theorem ef_2_RR (m : MethodId) (x0 : Addr) (x1 : Addr) : entryFrame m #[(.ref x0), (.ref x1)] 2 = mkF m 0 #[.val (.ref x0), .val (.ref x1)] [] := by first | (simp [entryFrame, mkF, argsToLocals, Value.category]; done) | rfl
theorem au_5 (l : Launch) (Z : State) (a0 : Array Value) (hw : HW a0 Z) (x0 x1 : Addr) (kk0 : ClassId) (p0 p1 p2 p3 gz1 : Int32) (gv5 : Value) (h0 : Heap) (n0 : Nat) (Z0 : n0 ≤ h0.size) (O0 : Old Z n0 h0) (G : Glob Z gz1 gv5) (P0 : Exa Z h0 x0 s1) (P1 : Fld Z h0 x0 s1 s4 "B" (.int 0)) (P2 : Fld Z h0 x0 s1 s5 "[B" .null) (P3 : Arv Z h0 x1 kk0 .char (4 : Int32) [.int p0, .int p1, .int p2, .int p3] (.int 0)) (R_p0 : 0 ≤ p0.toInt ∧ p0.toInt ≤ 255) (R_p1 : 0 ≤ p1.toInt ∧ p1.toInt ≤ 255) (R_p2 : 0 ≤ p2.toInt ∧ p2.toInt ≤ 255) (R_p3 : 0 ≤ p3.toInt ∧ p3.toInt ≤ 255) (g_x0 : n0 ≤ x0) :
    Ctr l Z ⟨s1, "<init>", "([C)V"⟩ jdk_42_method_3_code 2 none (rM 3 1 4 52) #[.ref x0, .ref x1] h0 (fun v h L => ∃ (y0 y1 y2 y3 : Int32) (y4 : Addr) (y5 : ClassId), (p0.toInt8.toInt32) = y0 ∧ (p1.toInt8.toInt32) = y1 ∧ (p2.toInt8.toInt32) = y2 ∧ (p3.toInt8.toInt32) = y3 ∧ v = none ∧ Fr n0 L ∧ Keep h0 h [x0] ∧ h0.size ≤ y4 ∧ Exa Z h x0 s1 ∧ Fld Z h x0 s1 s4 "B" (.int 0) ∧ Fld Z h x0 s1 s5 "[B" (.ref y4) ∧ Arv Z h y4 y5 .byte (4 : Int32) [.int y0, .int y1, .int y2, .int y3] (.int 0) ∧ Exa Z h y4 "[B") := by
 refine Ctr.of (plainFor_of_name pn_c2) ?_
 intro p e s m below meth c T0 hx hZ hby hml hown hnm hret hlk e0 es X0
 refine Go.cast (ef_2_RR m x0 x1) ?_
 generalize hFF : EndN s _ _ _ = FF
 refine Go.aloadN X0 hx 1 rfl (hb hby d2_0) rfl rfl ?_
 refine Go.aloadN X0 hx 2 rfl (hb hby d2_1) rfl rfl ?_
 refine Go.iconst X0 hx 3 rfl (hb hby d2_2) (v := (0 : Int32)) rfl ?_
 refine Go.aloadN X0 hx 4 rfl (hb hby d2_3) rfl rfl ?_
 refine Go.arraylength X0 hx hZ e0 P3 5 rfl (hb hby d2_4) ?_
 refine Go.anull X0 hx 6 rfl (hb hby d2_5) ?_
 refine Go.callN X0 hx hZ hown rfl (tw_11 hw) (tw_12 hw) (tw_14 hw) (by decide) (tw_14 hw) (tw_6 hw) (au_6 l Z a0 hw x0 x1 kk0 p0 p1 p2 p3 gz1 gv5 h0 n0 Z0 O0 G P0 P1 P2 P3 R_p0 R_p1 R_p2 R_p3 g_x0) e0 (a := x0) (argsL := [.ref x1, .int 0, .int 4, .null]) (rest := []) 9 rfl (hml ▸ rfl) (lenOf pd_4 rfl) rfl rfl (W := 0) (nE rfl) (by decide) (by decide) (by decide) (by decide) (hb hby d2_6) ?_
 intro v1 T1 L1 q1 X1
 obtain ⟨h1, e1⟩ : ∃ z, T1.heap = z := ⟨_, rfl⟩
 rw [e1] at q1
 obtain ⟨z1_0, z1_1, z1_2, z1_3, b1_0, k1_0, d1_0, d1_1, d1_2, d1_3, rfl, N1, K1, s1_0, F1_0, F1_1, F1_2, F1_3, F1_4⟩ := q1
 show Go _ _ _ _ (T1.setTop (mkF m 9 #[vR x0, vR x1] []))
 subst hFF
 refine Go.ret0 X1 hx hlk hret (hb hby d2_9) (by decide) (by decide) ?_
 rw [e1]
 have Kp2 := ((Keep.refl h0 [x0]).trans K1 (allS (Or.inl (mG 0 rfl)) all0))
 have sz3 := Nat.le_trans (Keep.refl h0 [x0]).1 s1_0
 exact ⟨z1_0, z1_1, z1_2, z1_3, b1_0, k1_0, d1_0, d1_1, d1_2, d1_3, rfl, (Fr.app (Fr.nil n0) N1), Kp2, sz3, F1_0, F1_1, F1_2, F1_3, F1_4⟩
theorem pd_5 : parseMethodDescriptor "([C)V" = some ⟨[(.array .char)], none⟩ := by decide +kernel
theorem d8_0 : decode prog_9_method_1_code 0 = .ok (.aload_n 0, 1) := by decide +kernel
theorem d8_1 : decode prog_9_method_1_code 1 = .ok (.invokespecial 1, 3) := by decide +kernel
theorem d8_4 : decode prog_9_method_1_code 4 = .ok (.aload_n 0, 1) := by decide +kernel
theorem d8_5 : decode prog_9_method_1_code 5 = .ok (.aload_n 1, 1) := by decide +kernel
theorem d8_6 : decode prog_9_method_1_code 6 = .ok (.putfield 7, 3) := by decide +kernel
theorem d8_9 : decode prog_9_method_1_code 9 = .ok (.aload_n 0, 1) := by decide +kernel
theorem d8_10 : decode prog_9_method_1_code 10 = .ok (.aload_n 2, 1) := by decide +kernel
theorem d8_11 : decode prog_9_method_1_code 11 = .ok (.putfield 13, 3) := by decide +kernel
theorem d8_14 : decode prog_9_method_1_code 14 = .ok (.return_, 1) := by decide +kernel
theorem ef_8_RRR (m : MethodId) (x0 : Addr) (x1 : Addr) (x2 : Addr) : entryFrame m #[(.ref x0), (.ref x1), (.ref x2)] 3 = mkF m 0 #[.val (.ref x0), .val (.ref x1), .val (.ref x2)] [] := by first | (simp [entryFrame, mkF, argsToLocals, Value.category]; done) | rfl
theorem pn_c3 : plainName "com/example/rockhopper/rockhopper/model/Validators" = true := by first | (simp [plainName, overriddenIn]; done) | decide +kernel
theorem au_9 (l : Launch) (Z : State) (a0 : Array Value) (hw : HW a0 Z) (x0 x1 x2 : Addr) (h0 : Heap) (n0 : Nat) (Z0 : n0 ≤ h0.size) (P0 : Exa Z h0 x0 s2) (P1 : Fld Z h0 x0 s2 "etag" s6 .null) (P2 : Fld Z h0 x0 s2 "lastModified" s6 .null) (g_x0 : n0 ≤ x0) :
    Ctr l Z ⟨s2, "<init>", "(Ljava/lang/String;Ljava/lang/String;)V"⟩ prog_9_method_1_code 3 none (rM 1 0 0 12) #[.ref x0, .ref x1, .ref x2] h0 (fun v h L => v = none ∧ Fr n0 L ∧ Keep h0 h [x0] ∧ Exa Z h x0 s2 ∧ Fld Z h x0 s2 "etag" s6 (.ref x1) ∧ Fld Z h x0 s2 "lastModified" s6 (.ref x2)) := by
 refine Ctr.of (plainFor_of_name pn_c3) ?_
 intro p e s m below meth c T0 hx hZ hby hml hown hnm hret hlk e0 es X0
 refine Go.cast (ef_8_RRR m x0 x1 x2) ?_
 generalize hFF : EndN s _ _ _ = FF
 refine Go.aloadN X0 hx 1 rfl (hb hby d8_0) rfl rfl ?_
 refine Go.initO X0 hx hZ hown (tw_40 hw) (tw_16 hw) (tw_17 hw) e0 (by decide) (W := 0) (hml ▸ rfl) (nE rfl) (by decide) (pc' := 4) rfl (hb hby d8_1) ?_
 intro T1 e1 X1
 refine Go.aloadN X1 hx 5 rfl (hb hby d8_4) rfl rfl ?_
 refine Go.aloadN X1 hx 6 rfl (hb hby d8_5) rfl rfl ?_
 refine Go.putF X1 hx hZ hown (host := "") (Or.inl (tw_41 hw)) Via.refl e1 P1 P0 (Or.inr ⟨(tw_42 hw), rfl, hnm⟩) (tw_35 hw) (ty := (.object s1)) (by decide) rfl rfl 9 rfl (hb hby d8_6) ?_
 intro T2 h2 e2 W2 F2 X2
 have N2 := Fr.snoc X2 (Fr.nil n0) g_x0
 refine Go.aloadN X2 hx 10 rfl (hb hby d8_9) rfl rfl ?_
 refine Go.aloadN X2 hx 11 rfl (hb hby d8_10) rfl rfl ?_
 have fk3 := (P2.other W2 (Or.inr (slot_ne (Or.inr (tw_44 hw)) (Or.inr (tw_42 hw)) (by decide) (t := (.object s1)) (t' := (.object s1)) (by decide) (by decide))))
 have fk4 := (P0.wr W2)
 refine Go.putF X2 hx hZ hown (host := "") (Or.inl (tw_43 hw)) Via.refl e2 fk3 fk4 (Or.inr ⟨(tw_44 hw), rfl, hnm⟩) (tw_35 hw) (ty := (.object s1)) (by decide) rfl rfl 14 rfl (hb hby d8_11) ?_
 intro T5 h5 e5 W5 F5 X5
 have N5 := Fr.snoc X5 N2 g_x0
 subst hFF
 refine Go.ret0 X5 hx hlk hret (hb hby d8_14) (by decide) (by decide) ?_
 rw [e5]
 have fk6 := (fk4.wr W5)
 have fk7 := (F2.other W5 (Or.inr (slot_ne (Or.inr (tw_42 hw)) (Or.inr (tw_44 hw)) (by decide) (t := (.object s1)) (t' := (.object s1)) (by decide) (by decide))))
 have Kp8 := ((Keep.refl h0 [x0]).wr W2 (Or.inl (mG 0 rfl)))
 have Kp9 := (Kp8.wr W5 (Or.inl (mG 0 rfl)))
 exact ⟨rfl, N5, Kp9, fk6, fk7, F5⟩
theorem pd_6 : parseMethodDescriptor "(Ljava/lang/String;Ljava/lang/String;)V" = some ⟨[(.object "java/lang/String"), (.object "java/lang/String")], none⟩ := by decide +kernel
theorem d9_0 : decode prog_9_method_6_code 0 = .ok (.new 26, 3) := by decide +kernel
theorem d9_3 : decode prog_9_method_6_code 3 = .ok (.dup, 1) := by decide +kernel
theorem d10_0 : decode jdk_67_method_1_code 0 = .ok (.aload_n 0, 1) := by decide +kernel
theorem d10_1 : decode jdk_67_method_1_code 1 = .ok (.bipush 16, 2) := by decide +kernel
theorem d11_0 : decode jdk_68_method_2_code 0 = .ok (.aload_n 0, 1) := by decide +kernel
theorem d11_1 : decode jdk_68_method_2_code 1 = .ok (.invokespecial 3, 3) := by decide +kernel
theorem d11_4 : decode jdk_68_method_2_code 4 = .ok (.getstatic 18, 3) := by decide +kernel
theorem d11_7 : decode jdk_68_method_2_code 7 = .ok (.ifCond .eq 18, 3) := by decide +kernel
theorem d11_10 : decode jdk_68_method_2_code 10 = .ok (.aload_n 0, 1) := by decide +kernel
theorem d11_11 : decode jdk_68_method_2_code 11 = .ok (.iload_n 1, 1) := by decide +kernel
theorem d11_12 : decode jdk_68_method_2_code 12 = .ok (.newarray .byte, 2) := by decide +kernel
theorem d11_14 : decode jdk_68_method_2_code 14 = .ok (.putfield 15, 3) := by decide +kernel
theorem d11_17 : decode jdk_68_method_2_code 17 = .ok (.aload_n 0, 1) := by decide +kernel
theorem d11_18 : decode jdk_68_method_2_code 18 = .ok (.iconst 0, 1) := by decide +kernel
theorem d11_19 : decode jdk_68_method_2_code 19 = .ok (.putfield 22, 3) := by decide +kernel
theorem d11_22 : decode jdk_68_method_2_code 22 = .ok (.goto 16, 3) := by decide +kernel
theorem d11_38 : decode jdk_68_method_2_code 38 = .ok (.return_, 1) := by decide +kernel
theorem ef_11_RI (m : MethodId) (x0 : Addr) (x1 : Int32) : entryFrame m #[(.ref x0), (.int x1)] 2 = mkF m 0 #[.val (.ref x0), .val (.int x1)] [] := by first | (simp [entryFrame, mkF, argsToLocals, Value.category]; done) | rfl
theorem pn_c4 : plainName "java/lang/AbstractStringBuilder" = true := by first | (simp [plainName, overriddenIn]; done) | decide +kernel
theorem au_12 (l : Launch) (Z : State) (a0 : Array Value) (hw : HW a0 Z) (x0 : Addr) (gz1 : Int32) (gv5 : Value) (h0 : Heap) (n0 : Nat) (Z0 : n0 ≤ h0.size) (O0 : Old Z n0 h0) (G : Glob Z gz1 gv5) (P0 : Exa Z h0 x0 s3) (P1 : Fld Z h0 x0 s0 s4 "B" (.int 0)) (P2 : Fld Z h0 x0 s0 "count" "I" (.int 0)) (P3 : Fld Z h0 x0 s0 s5 "[B" .null) (g_x0 : n0 ≤ x0) :
    Ctr l Z ⟨s0, "<init>", "(I)V"⟩ jdk_68_method_2_code 2 none (rM 1 1 16 12) #[.ref x0, .int 16] h0 (fun v h L => ∃ (y0 : Addr) (y1 : ClassId), v = none ∧ Fr n0 L ∧ Keep h0 h [x0] ∧ h0.size ≤ y0 ∧ Exa Z h x0 s3 ∧ Fld Z h x0 s0 s4 "B" (.int 0) ∧ Fld Z h x0 s0 "count" "I" (.int 0) ∧ Fld Z h x0 s0 s5 "[B" (.ref y0) ∧ Arv Z h y0 y1 .byte (16 : Int32) [.int 0, .int 0, .int 0, .int 0, .int 0, .int 0, .int 0, .int 0, .int 0, .int 0, .int 0, .int 0, .int 0, .int 0, .int 0, .int 0] (.int 0) ∧ Exa Z h y0 "[B") := by
 refine Ctr.of (plainFor_of_name pn_c4) ?_
 intro p e s m below meth c T0 hx hZ hby hml hown hnm hret hlk e0 es X0
 have G' := G
 obtain ⟨G0, -, G2, -⟩ := G'
 refine Go.cast (ef_11_RI m x0 (16 : Int32)) ?_
 generalize hFF : EndN s _ _ _ = FF
 refine Go.aloadN X0 hx 1 rfl (hb hby d11_0) rfl rfl ?_
 refine Go.initO X0 hx hZ hown (tw_62 hw) (tw_16 hw) (tw_17 hw) e0 (by decide) (W := 0) (hml ▸ rfl) (nE rfl) (by decide) (pc' := 4) rfl (hb hby d11_1) ?_
 intro T1 e1 X1
 have fk2 := G0.ext O0.2
 refine Go.getS X1 hx hZ hown (host := "") (Or.inl (tw_63 hw)) Via.refl e1 fk2 7 rfl (hb hby d11_4) ?_
 intro T3 e3 X3
 refine Go.ifNo X3 hx 10 rfl (hb hby d11_7) (feq G2).1 ?_
 refine Go.aloadN X3 hx 11 rfl (hb hby d11_10) rfl rfl ?_
 refine Go.iloadN X3 hx 12 rfl (hb hby d11_11) rfl ?_
 refine Go.newarray X3 hx hZ (ty := .byte) rfl (tw_23 hw) e3 (by decide) (cap := 16) (by decide) (by decide) (by decide) (by decide) (ad := "[B") (by decide) 16 14 rfl (hb hby d11_12) ?_
 intro T4 h4 b4 k4 e4 E4 g4 V4 A4 X4
 have V4' : Arv Z h4 b4 k4 .byte (16 : Int32) [.int 0, .int 0, .int 0, .int 0, .int 0, .int 0, .int 0, .int 0, .int 0, .int 0, .int 0, .int 0, .int 0, .int 0, .int 0, .int 0] (.int 0) := V4
 have fk5 := (P3.ext E4)
 have fk6 := (P0.ext E4)
 refine Go.putF X4 hx hZ hown (host := "") (Or.inl (tw_64 hw)) Via.refl e4 fk5 fk6 (Or.inl (tw_65 hw)) (tw_51 hw) (ty := (.array .byte)) (by decide) rfl rfl 17 rfl (hb hby d11_14) ?_
 intro T7 h7 e7 W7 F7 X7
 have N7 := Fr.snoc X7 (Fr.nil n0) g_x0
 refine Go.aloadN X7 hx 18 rfl (hb hby d11_17) rfl rfl ?_
 refine Go.iconst X7 hx 19 rfl (hb hby d11_18) (v := (0 : Int32)) rfl ?_
 have fk8 := ((P1.ext E4).other W7 (Or.inr (slot_ne (Or.inl (tw_67 hw)) (Or.inl (tw_65 hw)) (by decide) (t := .byte) (t' := (.array .byte)) (by decide) (by decide))))
 have fk9 := (fk6.wr W7)
 refine Go.putFN X7 hx hZ hown (tw_66 hw) Via.refl e7 fk8 fk9 (Or.inl (tw_67 hw)) (tw_51 hw) (ty := .byte) (v' := (.int 0)) (by decide) (by decide) (by decide) 22 rfl (hb hby d11_19) ?_
 intro T10 h10 e10 W10 F10 X10
 have N10 := Fr.snoc X10 N7 g_x0
 refine Go.goto X10 hx 38 (hb hby d11_22) (by decide) (by decide) ?_
 subst hFF
 refine Go.ret0 X10 hx hlk hret (hb hby d11_38) (by decide) (by decide) ?_
 rw [e10]
 have fk11 := (fk9.wr W10)
 have fk12 := (((P2.ext E4).other W7 (Or.inr (slot_ne (Or.inl (tw_92 hw)) (Or.inl (tw_65 hw)) (by decide) (t := .int) (t' := (.array .byte)) (by decide) (by decide)))).other W10 (Or.inr (slot_ne (Or.inl (tw_92 hw)) (Or.inl (tw_67 hw)) (by decide) (t := .int) (t' := .byte) (by decide) (by decide))))
 have fk13 := (F7.other W10 (Or.inr (slot_ne (Or.inl (tw_65 hw)) (Or.inl (tw_67 hw)) (by decide) (t := (.array .byte)) (t' := .byte) (by decide) (by decide))))
 have ne14 := Nat.ne_of_lt (Nat.lt_of_lt_of_le P0.lt (Nat.le_of_eq g4.symm))
 have fk15 := ((V4'.other W7 (Ne.symm ne14)).other W10 (Ne.symm ne14))
 have fk16 := ((A4.wr W7).wr W10)
 have Kp17 := ((Keep.refl h0 [x0]).ext E4)
 have Kp18 := (Kp17.wr W7 (Or.inl (mG 0 rfl)))
 have Kp19 := (Kp18.wr W10 (Or.inl (mG 0 rfl)))
 have sz20 := Nat.le_trans (Keep.refl h0 [x0]).1 (Nat.le_of_eq g4.symm)
 exact ⟨b4, k4, rfl, N10, Kp19, sz20, fk11, F10, fk12, fk13, fk15, fk16⟩
theorem pd_7 : parseMethodDescriptor "(I)V" = some ⟨[.int], none⟩ := by decide +kernel
theorem d10_3 : decode jdk_67_method_1_code 3 = .ok (.invokespecial 1, 3) := by decide +kernel
theorem d10_6 : decode jdk_67_method_1_code 6 = .ok (.return_, 1) := by decide +kernel
theorem ef_10_R (m : MethodId) (x0 : Addr) : entryFrame m #[(.ref x0)] 1 = mkF m 0 #[.val (.ref x0)] [] := by first | (simp [entryFrame, mkF, argsToLocals, Value.category]; done) | rfl
theorem pn_c5 : plainName "java/lang/StringBuilder" = true := by first | (simp [plainName, overriddenIn]; done) | decide +kernel
theorem au_11 (l : Launch) (Z : State) (a0 : Array Value) (hw : HW a0 Z) (x0 : Addr) (gz1 : Int32) (gv5 : Value) (h0 : Heap) (n0 : Nat) (Z0 : n0 ≤ h0.size) (O0 : Old Z n0 h0) (G : Glob Z gz1 gv5) (P0 : Exa Z h0 x0 s3) (P1 : Fld Z h0 x0 s0 s4 "B" (.int 0)) (P2 : Fld Z h0 x0 s0 "count" "I" (.int 0)) (P3 : Fld Z h0 x0 s0 s5 "[B" .null) (g_x0 : n0 ≤ x0) :
    Ctr l Z ⟨s3, "<init>", "()V"⟩ jdk_67_method_1_code 1 none (rM 2 1 16 25) #[.ref x0] h0 (fun v h L => ∃ (y0 : Addr) (y1 : ClassId), v = none ∧ Fr n0 L ∧ Keep h0 h [x0] ∧ h0.size ≤ y0 ∧ Exa Z h x0 s3 ∧ Fld Z h x0 s0 s4 "B" (.int 0) ∧ Fld Z h x0 s0 "count" "I" (.int 0) ∧ Fld Z h x0 s0 s5 "[B" (.ref y0) ∧ Arv Z h y0 y1 .byte (16 : Int32) [.int 0, .int 0, .int 0, .int 0, .int 0, .int 0, .int 0, .int 0, .int 0, .int 0, .int 0, .int 0, .int 0, .int 0, .int 0, .int 0] (.int 0) ∧ Exa Z h y0 "[B") := by
 refine Ctr.of (plainFor_of_name pn_c5) ?_
 intro p e s m below meth c T0 hx hZ hby hml hown hnm hret hlk e0 es X0
 refine Go.cast (ef_10_R m x0) ?_
 generalize hFF : EndN s _ _ _ = FF
 refine Go.aloadN X0 hx 1 rfl (hb hby d10_0) rfl rfl ?_
 refine Go.bipush X0 hx 3 rfl (hb hby d10_1) (v := (16 : Int32)) (by decide) ?_
 refine Go.callN X0 hx hZ hown rfl (tw_56 hw) (tw_57 hw) (tw_61 hw) (by decide) (tw_61 hw) (tw_60 hw) (au_12 l Z a0 hw x0 gz1 gv5 h0 n0 Z0 O0 G P0 P1 P2 P3 g_x0) e0 (a := x0) (argsL := [.int 16]) (rest := []) 6 rfl (hml ▸ rfl) (lenOf pd_7 rfl) rfl rfl (W := 0) (nE rfl) (by decide) (by decide) (by decide) (by decide) (hb hby d10_3) ?_
 intro v1 T1 L1 q1 X1
 obtain ⟨h1, e1⟩ : ∃ z, T1.heap = z := ⟨_, rfl⟩
 rw [e1] at q1
 obtain ⟨b1_0, k1_0, rfl, N1, K1, s1_0, F1_0, F1_1, F1_2, F1_3, F1_4, F1_5⟩ := q1
 show Go _ _ _ _ (T1.setTop (mkF m 6 #[vR x0] []))
 subst hFF
 refine Go.ret0 X1 hx hlk hret (hb hby d10_6) (by decide) (by decide) ?_
 rw [e1]
 have Kp2 := ((Keep.refl h0 [x0]).trans K1 (allS (Or.inl (mG 0 rfl)) all0))
 have sz3 := Nat.le_trans (Keep.refl h0 [x0]).1 s1_0
 exact ⟨b1_0, k1_0, rfl, (Fr.app (Fr.nil n0) N1), Kp2, sz3, F1_0, F1_1, F1_2, F1_3, F1_4, F1_5⟩
theorem pd_8 : parseMethodDescriptor "()V" = some ⟨[], none⟩ := by decide +kernel
theorem d9_4 : decode prog_9_method_6_code 4 = .ok (.invokespecial 28, 3) := by decide +kernel
theorem d9_7 : decode prog_9_method_6_code 7 = .ok (.ldc 29, 2) := by decide +kernel
theorem d12_0 : decode jdk_67_method_7_code 0 = .ok (.aload_n 0, 1) := by decide +kernel
theorem d12_1 : decode jdk_67_method_7_code 1 = .ok (.aload_n 1, 1) := by decide +kernel
theorem d13_0 : decode jdk_68_method_22_code 0 = .ok (.aload_n 1, 1) := by decide +kernel
theorem d13_1 : decode jdk_68_method_22_code 1 = .ok (.ifnonnull 8, 3) := by decide +kernel
theorem d13_9 : decode jdk_68_method_22_code 9 = .ok (.aload_n 1, 1) := by decide +kernel
theorem d14_0 : decode jdk_42_method_54_code 0 = .ok (.aload_n 0, 1) := by decide +kernel
theorem d14_1 : decode jdk_42_method_54_code 1 = .ok (.getfield 9, 3) := by decide +kernel
theorem d14_4 : decode jdk_42_method_54_code 4 = .ok (.arraylength, 1) := by decide +kernel
theorem d14_5 : decode jdk_42_method_54_code 5 = .ok (.aload_n 0, 1) := by decide +kernel
theorem d15_0 : decode jdk_42_method_152_code 0 = .ok (.getstatic 38, 3) := by decide +kernel
theorem d15_3 : decode jdk_42_method_152_code 3 = .ok (.ifCond .eq 10, 3) := by decide +kernel
theorem d15_6 : decode jdk_42_method_152_code 6 = .ok (.aload_n 0, 1) := by decide +kernel
theorem d15_7 : decode jdk_42_method_152_code 7 = .ok (.getfield 15, 3) := by decide +kernel
theorem d15_10 : decode jdk_42_method_152_code 10 = .ok (.goto 4, 3) := by decide +kernel
theorem d15_14 : decode jdk_42_method_152_code 14 = .ok (.ireturn, 1) := by decide +kernel
theorem ef_15_R (m : MethodId) (x0 : Addr) : entryFrame m #[(.ref x0)] 1 = mkF m 0 #[.val (.ref x0)] [] := by first | (simp [entryFrame, mkF, argsToLocals, Value.category]; done) | rfl
theorem au_17 (l : Launch) (Z : State) (a0 : Array Value) (hw : HW a0 Z) (x0 : Addr) (gz1 : Int32) (gv5 : Value) (h0 : Heap) (n0 : Nat) (Z0 : n0 ≤ h0.size) (O0 : Old Z n0 h0) (G : Glob Z gz1 gv5) (P1 : Fld Z h0 x0 s1 s4 "B" (.int 0)) :
    Ctr l Z ⟨s1, s4, "()B"⟩ jdk_42_method_152_code 1 (some .byte) (rM 0 0 0 0) #[.ref x0] h0 (fun v h L => v = some (.int 0) ∧ Fr n0 L ∧ h = h0) := by
 refine Ctr.of (plainFor_of_name pn_c2) ?_
 intro p e s m below meth c T0 hx hZ hby hml hown hnm hret hlk e0 es X0
 have G' := G
 obtain ⟨G0, -, G2, -⟩ := G'
 refine Go.cast (ef_15_R m x0) ?_
 generalize hFF : EndN s _ _ _ = FF
 have fk1 := G0.ext O0.2
 refine Go.getS X0 hx hZ hown (host := "") (Or.inl (tw_18 hw)) Via.refl e0 fk1 3 rfl (hb hby d15_0) ?_
 intro T2 e2 X2
 refine Go.ifNo X2 hx 6 rfl (hb hby d15_3) (feq G2).1 ?_
 refine Go.aloadN X2 hx 7 rfl (hb hby d15_6) rfl rfl ?_
 refine Go.getF X2 hx hZ hown (host := "") (Or.inl (tw_30 hw)) Via.refl e2 P1 10 rfl (hb hby d15_7) ?_
 intro T3 e3 X3
 refine Go.goto X3 hx 14 (hb hby d15_10) (by decide) (by decide) ?_
 subst hFF
 refine Go.retN X3 hx hlk (t := .byte) hret (by simp) (hb hby d15_14) (by decide) (by decide) ?_
 rw [e3]
 exact ⟨(congrArg (fun z => some (Value.int z)) (by decide : nar .byte (0 : Int32) = (0 : Int32))), (Fr.nil n0), rfl⟩
theorem pd_9 : parseMethodDescriptor "()B" = some ⟨[], some .byte⟩ := by decide +kernel
theorem d14_6 : decode jdk_42_method_54_code 6 = .ok (.invokevirtual 335, 3) := by decide +kernel
theorem d14_9 : decode jdk_42_method_54_code 9 = .ok (.ishr, 1) := by decide +kernel
theorem d14_10 : decode jdk_42_method_54_code 10 = .ok (.ireturn, 1) := by decide +kernel
theorem ef_14_R (m : MethodId) (x0 : Addr) : entryFrame m #[(.ref x0)] 1 = mkF m 0 #[.val (.ref x0)] [] := by first | (simp [entryFrame, mkF, argsToLocals, Value.category]; done) | rfl
theorem au_16 (l : Launch) (Z : State) (a0 : Array Value) (hw : HW a0 Z) (x0 x1 : Addr) (kk0 : ClassId) (gz1 : Int32) (gv5 : Value) (h0 : Heap) (n0 : Nat) (Z0 : n0 ≤ h0.size) (O0 : Old Z n0 h0) (G : Glob Z gz1 gv5) (P0 : Exa Z h0 x0 s1) (P1 : Fld Z h0 x0 s1 s4 "B" (.int 0)) (P2 : Fld Z h0 x0 s1 s5 "[B" (.ref x1)) (P3 : Arv Z h0 x1 kk0 .byte (5 : Int32) [.int 69, .int 84, .int 97, .int 103, .int 32] (.int (0 : Int32))) :
    Ctr l Z ⟨s1, "length", "()I"⟩ jdk_42_method_54_code 1 (some .int) (rM 1 0 0 13) #[.ref x0] h0 (fun v h L => v = some (.int 5) ∧ Fr n0 L ∧ h = h0) := by
 refine Ctr.of (plainFor_of_name pn_c2) ?_
 intro p e s m below meth c T0 hx hZ hby hml hown hnm hret hlk e0 es X0
 refine Go.cast (ef_14_R m x0) ?_
 generalize hFF : EndN s _ _ _ = FF
 refine Go.aloadN X0 hx 1 rfl (hb hby d14_0) rfl rfl ?_
 refine Go.getF X0 hx hZ hown (host := "") (Or.inl (tw_32 hw)) Via.refl e0 P2 4 rfl (hb hby d14_1) ?_
 intro T1 e1 X1
 refine Go.arraylength X1 hx hZ e1 P3 5 rfl (hb hby d14_4) ?_
 refine Go.aloadN X1 hx 6 rfl (hb hby d14_5) rfl rfl ?_
 refine Go.callV X1 hx hZ hown (tw_86 hw) (tw_87 hw) (notFace_of_selects (args := #[]) (mvT hZ (tw_89 hw))) (tw_89 hw) (tw_88 hw) (by decide) (tw_90 hw) (tw_6 hw) (au_17 l Z a0 hw x0 gz1 gv5 h0 n0 Z0 O0 G P1) e1 P0 (argsL := []) (rest := [.int 5]) 9 rfl (hml ▸ rfl) (lenOf pd_9 rfl) rfl rfl (W := 1) (nE rfl) (by decide) (by decide) (by decide) (by decide) (hb hby d14_6) ?_
 intro v2 T2 L2 q2 X2
 obtain ⟨rfl, N2, e2⟩ := q2
 show Go _ _ _ _ (T2.setTop (mkF m 9 #[vR x0] [.int 0, .int 5]))
 refine Go.ishr X2 hx 10 rfl (hb hby d14_9) ?_
 rw [show ((5 : Int32) >>> ((0 : Int32) &&& 31)) = (5 : Int32) from by decide]
 subst hFF
 refine Go.retI X2 hx hlk hret (hb hby d14_10) (by decide) (by decide) ?_
 rw [e2]
 exact ⟨rfl, (Fr.app (Fr.nil n0) N2), rfl⟩
theorem pd_10 : parseMethodDescriptor "()I" = some ⟨[], some .int⟩ := by decide +kernel
theorem d13_10 : decode jdk_68_method_22_code 10 = .ok (.invokevirtual 32, 3) := by decide +kernel
theorem d13_13 : decode jdk_68_method_22_code 13 = .ok (.istore_n 2, 1) := by decide +kernel
theorem d13_14 : decode jdk_68_method_22_code 14 = .ok (.aload_n 0, 1) := by decide +kernel
theorem d13_15 : decode jdk_68_method_22_code 15 = .ok (.aload_n 0, 1) := by decide +kernel
theorem d13_16 : decode jdk_68_method_22_code 16 = .ok (.getfield 79, 3) := by decide +kernel
theorem d13_19 : decode jdk_68_method_22_code 19 = .ok (.iload_n 2, 1) := by decide +kernel
theorem d13_20 : decode jdk_68_method_22_code 20 = .ok (.iadd, 1) := by decide +kernel
theorem d16_0 : decode jdk_68_method_9_code 0 = .ok (.aload_n 0, 1) := by decide +kernel
theorem d16_1 : decode jdk_68_method_9_code 1 = .ok (.getfield 15, 3) := by decide +kernel
theorem d16_4 : decode jdk_68_method_9_code 4 = .ok (.arraylength, 1) := by decide +kernel
theorem d16_5 : decode jdk_68_method_9_code 5 = .ok (.aload_n 0, 1) := by decide +kernel
theorem d16_6 : decode jdk_68_method_9_code 6 = .ok (.getfield 22, 3) := by decide +kernel
theorem d16_9 : decode jdk_68_method_9_code 9 = .ok (.ishr, 1) := by decide +kernel
theorem d16_10 : decode jdk_68_method_9_code 10 = .ok (.istore_n 2, 1) := by decide +kernel
theorem d16_11 : decode jdk_68_method_9_code 11 = .ok (.iload_n 1, 1) := by decide +kernel
theorem d16_12 : decode jdk_68_method_9_code 12 = .ok (.iload_n 2, 1) := by decide +kernel
theorem d16_13 : decode jdk_68_method_9_code 13 = .ok (.isub, 1) := by decide +kernel
theorem d16_14 : decode jdk_68_method_9_code 14 = .ok (.ifCond .le 24, 3) := by decide +kernel
theorem d16_38 : decode jdk_68_method_9_code 38 = .ok (.return_, 1) := by decide +kernel
theorem ef_16_RI (m : MethodId) (x0 : Addr) (x1 : Int32) : entryFrame m #[(.ref x0), (.int x1)] 3 = mkF m 0 #[.val (.ref x0), .val (.int x1), .unset] [] := by first | (simp [entryFrame, mkF, argsToLocals, Value.category]; done) | rfl
theorem au_18 (l : Launch) (Z : State) (a0 : Array Value) (hw : HW a0 Z) (x0 x1 : Addr) (kk0 : ClassId) (h0 : Heap) (n0 : Nat) (Z0 : n0 ≤ h0.size) (P1 : Fld Z h0 x0 s0 s4 "B" (.int 0)) (P3 : Fld Z h0 x0 s0 s5 "[B" (.ref x1)) (P4 : Arv Z h0 x1 kk0 .byte (16 : Int32) [.int 0, .int 0, .int 0, .int 0, .int 0, .int 0, .int 0, .int 0, .int 0, .int 0, .int 0, .int 0, .int 0, .int 0, .int 0, .int 0] (.int 0)) :
    Ctr l Z ⟨s0, "ensureCapacityInternal", "(I)V"⟩ jdk_68_method_9_code 3 none (rM 0 0 0 0) #[.ref x0, .int 5] h0 (fun v h L => v = none ∧ Fr n0 L ∧ h = h0) := by
 refine Ctr.of (plainFor_of_name pn_c4) ?_
 intro p e s m below meth c T0 hx hZ hby hml hown hnm hret hlk e0 es X0
 refine Go.cast (ef_16_RI m x0 (5 : Int32)) ?_
 generalize hFF : EndN s _ _ _ = FF
 refine Go.aloadN X0 hx 1 rfl (hb hby d16_0) rfl rfl ?_
 refine Go.getF X0 hx hZ hown (host := "") (Or.inl (tw_64 hw)) Via.refl e0 P3 4 rfl (hb hby d16_1) ?_
 intro T1 e1 X1
 refine Go.arraylength X1 hx hZ e1 P4 5 rfl (hb hby d16_4) ?_
 refine Go.aloadN X1 hx 6 rfl (hb hby d16_5) rfl rfl ?_
 refine Go.getF X1 hx hZ hown (host := "") (Or.inl (tw_66 hw)) Via.refl e1 P1 9 rfl (hb hby d16_6) ?_
 intro T2 e2 X2
 refine Go.ishr X2 hx 10 rfl (hb hby d16_9) ?_
 rw [show ((16 : Int32) >>> ((0 : Int32) &&& 31)) = (16 : Int32) from by decide]
 refine Go.istoreN X2 hx 11 rfl (hb hby d16_10) (Ls' := #[vR x0, vI 5, vI 16]) rfl ?_
 refine Go.iloadN X2 hx 12 rfl (hb hby d16_11) rfl ?_
 refine Go.iloadN X2 hx 13 rfl (hb hby d16_12) rfl ?_
 refine Go.isub X2 hx 14 rfl (hb hby d16_13) ?_
 rw [show ((5 : Int32) - (16 : Int32)) = (-11 : Int32) from by decide]
 refine Go.ifYes X2 hx 38 (hb hby d16_14) (by decide) (by decide) (by decide) ?_
 subst hFF
 refine Go.ret0 X2 hx hlk hret (hb hby d16_38) (by decide) (by decide) ?_
 rw [e2]
 exact ⟨rfl, (Fr.nil n0), rfl⟩
theorem d13_21 : decode jdk_68_method_22_code 21 = .ok (.invokevirtual 100, 3) := by decide +kernel
theorem d13_24 : decode jdk_68_method_22_code 24 = .ok (.aload_n 0, 1) := by decide +kernel
theorem d13_25 : decode jdk_68_method_22_code 25 = .ok (.aload_n 0, 1) := by decide +kernel
theorem d13_26 : decode jdk_68_method_22_code 26 = .ok (.getfield 79, 3) := by decide +kernel
theorem d13_29 : decode jdk_68_method_22_code 29 = .ok (.aload_n 1, 1) := by decide +kernel
theorem d17_0 : decode jdk_68_method_73_code 0 = .ok (.aload_n 0, 1) := by decide +kernel
theorem d17_1 : decode jdk_68_method_73_code 1 = .ok (.aload_n 2, 1) := by decide +kernel
theorem d18_0 : decode jdk_68_method_71_code 0 = .ok (.getstatic 18, 3) := by decide +kernel
theorem d18_3 : decode jdk_68_method_71_code 3 = .ok (.ifCond .eq 18, 3) := by decide +kernel
theorem d18_6 : decode jdk_68_method_71_code 6 = .ok (.aload_n 0, 1) := by decide +kernel
theorem d18_7 : decode jdk_68_method_71_code 7 = .ok (.getfield 22, 3) := by decide +kernel
theorem d18_10 : decode jdk_68_method_71_code 10 = .ok (.aload_n 1, 1) := by decide +kernel
theorem d18_11 : decode jdk_68_method_71_code 11 = .ok (.invokevirtual 40, 3) := by decide +kernel
theorem d18_14 : decode jdk_68_method_71_code 14 = .ok (.if_icmp .eq 7, 3) := by decide +kernel
theorem d18_21 : decode jdk_68_method_71_code 21 = .ok (.return_, 1) := by decide +kernel
theorem ef_18_RR (m : MethodId) (x0 : Addr) (x1 : Addr) : entryFrame m #[(.ref x0), (.ref x1)] 2 = mkF m 0 #[.val (.ref x0), .val (.ref x1)] [] := by first | (simp [entryFrame, mkF, argsToLocals, Value.category]; done) | rfl
theorem au_20 (l : Launch) (Z : State) (a0 : Array Value) (hw : HW a0 Z) (x0 x1 : Addr) (gz1 : Int32) (gv5 : Value) (h0 : Heap) (n0 : Nat) (Z0 : n0 ≤ h0.size) (O0 : Old Z n0 h0) (G : Glob Z gz1 gv5) (P1 : Fld Z h0 x0 s0 s4 "B" (.int 0)) (P4 : Exa Z h0 x1 s1) (P5 : Fld Z h0 x1 s1 s4 "B" (.int 0)) :
    Ctr l Z ⟨s0, "inflateIfNeededFor", "(Ljava/lang/String;)V"⟩ jdk_68_method_71_code 2 none (rM 1 0 0 13) #[.ref x0, .ref x1] h0 (fun v h L => v = none ∧ Fr n0 L ∧ h = h0) := by
 refine Ctr.of (plainFor_of_name pn_c4) ?_
 intro p e s m below meth c T0 hx hZ hby hml hown hnm hret hlk e0 es X0
 have G' := G
 obtain ⟨G0, -, G2, -⟩ := G'
 refine Go.cast (ef_18_RR m x0 x1) ?_
 generalize hFF : EndN s _ _ _ = FF
 have fk1 := G0.ext O0.2
 refine Go.getS X0 hx hZ hown (host := "") (Or.inl (tw_63 hw)) Via.refl e0 fk1 3 rfl (hb hby d18_0) ?_
 intro T2 e2 X2
 refine Go.ifNo X2 hx 6 rfl (hb hby d18_3) (feq G2).1 ?_
 refine Go.aloadN X2 hx 7 rfl (hb hby d18_6) rfl rfl ?_
 refine Go.getF X2 hx hZ hown (host := "") (Or.inl (tw_66 hw)) Via.refl e2 P1 10 rfl (hb hby d18_7) ?_
 intro T3 e3 X3
 refine Go.aloadN X3 hx 11 rfl (hb hby d18_10) rfl rfl ?_
 refine Go.callV X3 hx hZ hown (tw_108 hw) (tw_87 hw) (notFace_of_selects (args := #[]) (mvT hZ (tw_89 hw))) (tw_89 hw) (tw_88 hw) (by decide) (tw_90 hw) (tw_6 hw) (au_17 l Z a0 hw x1 gz1 gv5 h0 n0 Z0 O0 G P5) e3 P4 (argsL := []) (rest := [.int 0]) 14 rfl (hml ▸ rfl) (lenOf pd_9 rfl) rfl rfl (W := 1) (nE rfl) (by decide) (by decide) (by decide) (by decide) (hb hby d18_11) ?_
 intro v4 T4 L4 q4 X4
 obtain ⟨rfl, N4, e4⟩ := q4
 show Go _ _ _ _ (T4.setTop (mkF m 14 #[vR x0, vR x1] [.int 0, .int 0]))
 refine Go.icmpYes X4 hx 21 (hb hby d18_14) (by decide) (by decide) (by decide) ?_
 subst hFF
 refine Go.ret0 X4 hx hlk hret (hb hby d18_21) (by decide) (by decide) ?_
 rw [e4]
 exact ⟨rfl, (Fr.app (Fr.nil n0) N4), rfl⟩
theorem pd_11 : parseMethodDescriptor "(Ljava/lang/String;)V" = some ⟨[(.object "java/lang/String")], none⟩ := by decide +kernel
theorem d17_2 : decode jdk_68_method_73_code 2 = .ok (.invokevirtual 397, 3) := by decide +kernel
theorem d17_5 : decode jdk_68_method_73_code 5 = .ok (.aload_n 2, 1) := by decide +kernel
theorem d17_6 : decode jdk_68_method_73_code 6 = .ok (.aload_n 0, 1) := by decide +kernel
theorem d17_7 : decode jdk_68_method_73_code 7 = .ok (.getfield 15, 3) := by decide +kernel
theorem d17_10 : decode jdk_68_method_73_code 10 = .ok (.iload_n 1, 1) := by decide +kernel
theorem d17_11 : decode jdk_68_method_73_code 11 = .ok (.aload_n 0, 1) := by decide +kernel
theorem d17_12 : decode jdk_68_method_73_code 12 = .ok (.getfield 22, 3) := by decide +kernel
theorem d19_0 : decode jdk_42_method_147_code 0 = .ok (.aload_n 0, 1) := by decide +kernel
theorem d19_1 : decode jdk_42_method_147_code 1 = .ok (.invokevirtual 335, 3) := by decide +kernel
theorem d19_4 : decode jdk_42_method_147_code 4 = .ok (.iload_n 3, 1) := by decide +kernel
theorem d19_5 : decode jdk_42_method_147_code 5 = .ok (.if_icmp .ne 23, 3) := by decide +kernel
theorem d19_8 : decode jdk_42_method_147_code 8 = .ok (.aload_n 0, 1) := by decide +kernel
theorem d19_9 : decode jdk_42_method_147_code 9 = .ok (.getfield 9, 3) := by decide +kernel
theorem d19_12 : decode jdk_42_method_147_code 12 = .ok (.iconst 0, 1) := by decide +kernel
theorem d19_13 : decode jdk_42_method_147_code 13 = .ok (.aload_n 1, 1) := by decide +kernel
theorem d19_14 : decode jdk_42_method_147_code 14 = .ok (.iload_n 2, 1) := by decide +kernel
theorem d19_15 : decode jdk_42_method_147_code 15 = .ok (.iload_n 3, 1) := by decide +kernel
theorem d19_16 : decode jdk_42_method_147_code 16 = .ok (.ishl, 1) := by decide +kernel
theorem d19_17 : decode jdk_42_method_147_code 17 = .ok (.aload_n 0, 1) := by decide +kernel
theorem d19_18 : decode jdk_42_method_147_code 18 = .ok (.getfield 9, 3) := by decide +kernel
theorem d19_21 : decode jdk_42_method_147_code 21 = .ok (.arraylength, 1) := by decide +kernel
theorem d19_22 : decode jdk_42_method_147_code 22 = .ok (.invokestatic 212, 3) := by decide +kernel
theorem d19_25 : decode jdk_42_method_147_code 25 = .ok (.goto 18, 3) := by decide +kernel
theorem d19_43 : decode jdk_42_method_147_code 43 = .ok (.return_, 1) := by decide +kernel
theorem ef_19_RRII (m : MethodId) (x0 : Addr) (x1 : Addr) (x2 : Int32) (x3 : Int32) : entryFrame m #[(.ref x0), (.ref x1), (.int x2), (.int x3)] 4 = mkF m 0 #[.val (.ref x0), .val (.ref x1), .val (.int x2), .val (.int x3)] [] := by first | (simp [entryFrame, mkF, argsToLocals, Value.category]; done) | rfl
theorem au_21 (l : Launch) (Z : State) (a0 : Array Value) (hw : HW a0 Z) (x0 x1 x2 : Addr) (kk0 kk1 : ClassId) (gz1 : Int32) (gv5 : Value) (h0 : Heap) (n0 : Nat) (Z0 : n0 ≤ h0.size) (O0 : Old Z n0 h0) (G : Glob Z gz1 gv5) (P0 : Exa Z h0 x0 s1) (P1 : Fld Z h0 x0 s1 s4 "B" (.int 0)) (P2 : Fld Z h0 x0 s1 s5 "[B" (.ref x2)) (P3 : Arv Z h0 x1 kk0 .byte (16 : Int32) [.int 0, .int 0, .int 0, .int 0, .int 0, .int 0, .int 0, .int 0, .int 0, .int 0, .int 0, .int 0, .int 0, .int 0, .int 0, .int 0] (.int 0)) (P4 : Exa Z h0 x1 "[B") (P5 : Arv Z h0 x2 kk1 .byte (5 : Int32) [.int 69, .int 84, .int 97, .int 103, .int 32] (.int (0 : Int32))) (g_x1 : n0 ≤ x1) :
    Ctr l Z ⟨s1, "getBytes", "([BIB)V"⟩ jdk_42_method_147_code 4 none (rM 1 0 0 18) #[.ref x0, .ref x1, .int 0, .int 0] h0 (fun v h L => v = none ∧ Fr n0 L ∧ Keep h0 h [x1] ∧ Arv Z h x1 kk0 .byte (16 : Int32) [.int 69, .int 84, .int 97, .int 103, .int 32, .int 0, .int 0, .int 0, .int 0, .int 0, .int 0, .int 0, .int 0, .int 0, .int 0, .int 0] (.int 0) ∧ Exa Z h x1 "[B") := by
 refine Ctr.of (plainFor_of_name pn_c2) ?_
 intro p e s m below meth c T0 hx hZ hby hml hown hnm hret hlk e0 es X0
 refine Go.cast (ef_19_RRII m x0 x1 (0 : Int32) (0 : Int32)) ?_
 generalize hFF : EndN s _ _ _ = FF
 refine Go.aloadN X0 hx 1 rfl (hb hby d19_0) rfl rfl ?_
 refine Go.callV X0 hx hZ hown (tw_86 hw) (tw_87 hw) (notFace_of_selects (args := #[]) (mvT hZ (tw_89 hw))) (tw_89 hw) (tw_88 hw) (by decide) (tw_90 hw) (tw_6 hw) (au_17 l Z a0 hw x0 gz1 gv5 h0 n0 Z0 O0 G P1) e0 P0 (argsL := []) (rest := []) 4 rfl (hml ▸ rfl) (lenOf pd_9 rfl) rfl rfl (W := 0) (nE rfl) (by decide) (by decide) (by decide) (by decide) (hb hby d19_1) ?_
 intro v1 T1 L1 q1 X1
 obtain ⟨rfl, N1, e1⟩ := q1
 show Go _ _ _ _ (T1.setTop (mkF m 4 #[vR x0, vR x1, vI 0, vI 0] [.int 0]))
 refine Go.iloadN X1 hx 5 rfl (hb hby d19_4) rfl ?_
 refine Go.icmpNo X1 hx 8 rfl (hb hby d19_5) (by decide) ?_
 refine Go.aloadN X1 hx 9 rfl (hb hby d19_8) rfl rfl ?_
 refine Go.getF X1 hx hZ hown (host := "") (Or.inl (tw_32 hw)) Via.refl e1 P2 12 rfl (hb hby d19_9) ?_
 intro T2 e2 X2
 refine Go.iconst X2 hx 13 rfl (hb hby d19_12) (v := (0 : Int32)) rfl ?_
 refine Go.aloadN X2 hx 14 rfl (hb hby d19_13) rfl rfl ?_
 refine Go.iloadN X2 hx 15 rfl (hb hby d19_14) rfl ?_
 refine Go.iloadN X2 hx 16 rfl (hb hby d19_15) rfl ?_
 refine Go.ishl X2 hx 17 rfl (hb hby d19_16) ?_
 rw [show ((0 : Int32) <<< ((0 : Int32) &&& 31)) = (0 : Int32) from by decide]
 refine Go.aloadN X2 hx 18 rfl (hb hby d19_17) rfl rfl ?_
 refine Go.getF X2 hx hZ hown (host := "") (Or.inl (tw_32 hw)) Via.refl e2 P2 21 rfl (hb hby d19_18) ?_
 intro T3 e3 X3
 refine Go.arraylength X3 hx hZ e3 P5 22 rfl (hb hby d19_21) ?_
 refine Go.arraycopy X3 hx hZ hown (tw_114 hw) (tw_117 hw) (tw_115 hw) (tw_116 hw) e3 P5 P3 rfl (sp := (0 : Int32)) (dp := (0 : Int32)) (nn := (5 : Int32)) (us := [.int 69, .int 84, .int 97, .int 103, .int 32]) (by decide) (by decide) (by decide) (by decide) (by decide) rfl (nB rfl) (Fr.app (Fr.nil n0) N1) g_x1 (by decide) (W := 0) (hml ▸ rfl) (nE rfl) (by decide) (pc' := 25) rfl (hb hby d19_22) ?_
 intro T4 h4 L4 e4 N4 K4 V4 X4
 have V4' : Arv Z h4 x1 kk0 .byte (16 : Int32) [.int 69, .int 84, .int 97, .int 103, .int 32, .int 0, .int 0, .int 0, .int 0, .int 0, .int 0, .int 0, .int 0, .int 0, .int 0, .int 0] (.int 0) := V4
 refine Go.goto X4 hx 43 (hb hby d19_25) (by decide) (by decide) ?_
 subst hFF
 refine Go.ret0 X4 hx hlk hret (hb hby d19_43) (by decide) (by decide) ?_
 rw [e4]
 have fk5 := (P4.keep K4)
 have Kp6 := ((Keep.refl h0 [x1]).trans K4 (allS (Or.inl (mG 0 rfl)) all0))
 exact ⟨rfl, N4, Kp6, V4', fk5⟩
theorem pd_12 : parseMethodDescriptor "([BIB)V" = some ⟨[(.array .byte), .int, .byte], none⟩ := by decide +kernel
theorem d17_15 : decode jdk_68_method_73_code 15 = .ok (.invokevirtual 399, 3) := by decide +kernel
theorem d17_18 : decode jdk_68_method_73_code 18 = .ok (.return_, 1) := by decide +kernel
theorem ef_17_RIR (m : MethodId) (x0 : Addr) (x1 : Int32) (x2 : Addr) : entryFrame m #[(.ref x0), (.int x1), (.ref x2)] 3 = mkF m 0 #[.val (.ref x0), .val (.int x1), .val (.ref x2)] [] := by first | (simp [entryFrame, mkF, argsToLocals, Value.category]; done) | rfl
theorem au_19 (l : Launch) (Z : State) (a0 : Array Value) (hw : HW a0 Z) (x0 x1 x2 x3 : Addr) (kk0 kk1 : ClassId) (gz1 : Int32) (gv5 : Value) (h0 : Heap) (n0 : Nat) (Z0 : n0 ≤ h0.size) (O0 : Old Z n0 h0) (G : Glob Z gz1 gv5) (P0 : Exa Z h0 x0 s3) (P1 : Fld Z h0 x0 s0 s4 "B" (.int 0)) (P3 : Fld Z h0 x0 s0 s5 "[B" (.ref x2)) (P4 : Exa Z h0 x1 s1) (P5 : Fld Z h0 x1 s1 s4 "B" (.int 0)) (P6 : Fld Z h0 x1 s1 s5 "[B" (.ref x3)) (P7 : Arv Z h0 x2 kk0 .byte (16 : Int32) [.int 0, .int 0, .int 0, .int 0, .int 0, .int 0, .int 0, .int 0, .int 0, .int 0, .int 0, .int 0, .int 0, .int 0, .int 0, .int 0] (.int 0)) (P8 : Exa Z h0 x2 "[B") (P9 : Arv Z h0 x3 kk1 .byte (5 : Int32) [.int 69, .int 84, .int 97, .int 103, .int 32] (.int (0 : Int32))) (g_x2 : n0 ≤ x2) :
    Ctr l Z ⟨s0, "putStringAt", "(ILjava/lang/String;)V"⟩ jdk_68_method_73_code 3 none (rM 2 0 0 33) #[.ref x0, .int 0, .ref x1] h0 (fun v h L => v = none ∧ Fr n0 L ∧ Keep h0 h [x2] ∧ Arv Z h x2 kk0 .byte (16 : Int32) [.int 69, .int 84, .int 97, .int 103, .int 32, .int 0, .int 0, .int 0, .int 0, .int 0, .int 0, .int 0, .int 0, .int 0, .int 0, .int 0] (.int 0) ∧ Exa Z h x2 "[B") := by
 refine Ctr.of (plainFor_of_name pn_c4) ?_
 intro p e s m below meth c T0 hx hZ hby hml hown hnm hret hlk e0 es X0
 refine Go.cast (ef_17_RIR m x0 (0 : Int32) x1) ?_
 generalize hFF : EndN s _ _ _ = FF
 refine Go.aloadN X0 hx 1 rfl (hb hby d17_0) rfl rfl ?_
 refine Go.aloadN X0 hx 2 rfl (hb hby d17_1) rfl rfl ?_
 refine Go.callP X0 hx hZ hown (tw_103 hw) (tw_104 hw) (tw_106 hw) (tw_105 hw) (tw_107 hw) (by decide) (tw_107 hw) (tw_60 hw) (au_20 l Z a0 hw x0 x1 gz1 gv5 h0 n0 Z0 O0 G P1 P4 P5) e0 P0 (argsL := [.ref x1]) (rest := []) 5 rfl (hml ▸ rfl) (lenOf pd_11 rfl) rfl rfl (W := 0) (nE rfl) (by decide) (by decide) (by decide) (by decide) (hb hby d17_2) ?_
 intro v1 T1 L1 q1 X1
 obtain ⟨rfl, N1, e1⟩ := q1
 show Go _ _ _ _ (T1.setTop (mkF m 5 #[vR x0, vI 0, vR x1] []))
 refine Go.aloadN X1 hx 6 rfl (hb hby d17_5) rfl rfl ?_
 refine Go.aloadN X1 hx 7 rfl (hb hby d17_6) rfl rfl ?_
 refine Go.getF X1 hx hZ hown (host := "") (Or.inl (tw_64 hw)) Via.refl e1 P3 10 rfl (hb hby d17_7) ?_
 intro T2 e2 X2
 refine Go.iloadN X2 hx 11 rfl (hb hby d17_10) rfl ?_
 refine Go.aloadN X2 hx 12 rfl (hb hby d17_11) rfl rfl ?_
 refine Go.getF X2 hx hZ hown (host := "") (Or.inl (tw_66 hw)) Via.refl e2 P1 15 rfl (hb hby d17_12) ?_
 intro T3 e3 X3
 refine Go.callV X3 hx hZ hown (tw_109 hw) (tw_110 hw) (notFace_of_selects (args := #[]) (mvT hZ (tw_112 hw))) (tw_112 hw) (tw_111 hw) (by decide) (tw_113 hw) (tw_6 hw) (au_21 l Z a0 hw x1 x2 x3 kk0 kk1 gz1 gv5 h0 n0 Z0 O0 G P4 P5 P6 P7 P8 P9 g_x2) e3 P4 (argsL := [.ref x2, .int 0, .int 0]) (rest := []) 18 rfl (hml ▸ rfl) (lenOf pd_12 rfl) rfl rfl (W := 0) (nE rfl) (by decide) (by decide) (by decide) (by decide) (hb hby d17_15) ?_
 intro v4 T4 L4 q4 X4
 obtain ⟨h4, e4⟩ : ∃ z, T4.heap = z := ⟨_, rfl⟩
 rw [e4] at q4
 obtain ⟨rfl, N4, K4, F4_0, F4_1⟩ := q4
 show Go _ _ _ _ (T4.setTop (mkF m 18 #[vR x0, vI 0, vR x1] []))
 subst hFF
 refine Go.ret0 X4 hx hlk hret (hb hby d17_18) (by decide) (by decide) ?_
 rw [e4]
 have Kp5 := ((Keep.refl h0 [x2]).trans K4 (allS (Or.inl (mG 0 rfl)) all0))
 exact ⟨rfl, (Fr.app (Fr.app (Fr.nil n0) N1) N4), Kp5, F4_0, F4_1⟩
theorem pd_13 : parseMethodDescriptor "(ILjava/lang/String;)V" = some ⟨[.int, (.object "java/lang/String")], none⟩ := by decide +kernel
theorem d13_30 : decode jdk_68_method_22_code 30 = .ok (.invokevirtual 208, 3) := by decide +kernel
theorem d13_33 : decode jdk_68_method_22_code 33 = .ok (.aload_n 0, 1) := by decide +kernel
theorem d13_34 : decode jdk_68_method_22_code 34 = .ok (.dup, 1) := by decide +kernel
theorem d13_35 : decode jdk_68_method_22_code 35 = .ok (.getfield 79, 3) := by decide +kernel
theorem d13_38 : decode jdk_68_method_22_code 38 = .ok (.iload_n 2, 1) := by decide +kernel
theorem d13_39 : decode jdk_68_method_22_code 39 = .ok (.iadd, 1) := by decide +kernel
theorem d13_40 : decode jdk_68_method_22_code 40 = .ok (.putfield 79, 3) := by decide +kernel
theorem d13_43 : decode jdk_68_method_22_code 43 = .ok (.aload_n 0, 1) := by decide +kernel
theorem d13_44 : decode jdk_68_method_22_code 44 = .ok (.areturn, 1) := by decide +kernel
theorem ef_13_RR (m : MethodId) (x0 : Addr) (x1 : Addr) : entryFrame m #[(.ref x0), (.ref x1)] 3 = mkF m 0 #[.val (.ref x0), .val (.ref x1), .unset] [] := by first | (simp [entryFrame, mkF, argsToLocals, Value.category]; done) | rfl
theorem au_15 (l : Launch) (Z : State) (a0 : Array Value) (hw : HW a0 Z) (x0 x1 x2 x3 : Addr) (kk0 kk1 : ClassId) (gz1 : Int32) (gv5 : Value) (h0 : Heap) (n0 : Nat) (Z0 : n0 ≤ h0.size) (O0 : Old Z n0 h0) (G : Glob Z gz1 gv5) (P0 : Exa Z h0 x0 s3) (P1 : Fld Z h0 x0 s0 s4 "B" (.int 0)) (P2 : Fld Z h0 x0 s0 "count" "I" (.int 0)) (P3 : Fld Z h0 x0 s0 s5 "[B" (.ref x2)) (P4 : Exa Z h0 x1 s1) (P5 : Fld Z h0 x1 s1 s4 "B" (.int 0)) (P6 : Fld Z h0 x1 s1 s5 "[B" (.ref x3)) (P7 : Arv Z h0 x2 kk0 .byte (16 : Int32) [.int 0, .int 0, .int 0, .int 0, .int 0, .int 0, .int 0, .int 0, .int 0, .int 0, .int 0, .int 0, .int 0, .int 0, .int 0, .int 0] (.int 0)) (P8 : Exa Z h0 x2 "[B") (P9 : Arv Z h0 x3 kk1 .byte (5 : Int32) [.int 69, .int 84, .int 97, .int 103, .int 32] (.int (0 : Int32))) (g_x2 : n0 ≤ x2) (g_x0 : n0 ≤ x0) (ne_x0_x2 : x0 ≠ x2) :
    Ctr l Z ⟨s0, "append", "(Ljava/lang/String;)Ljava/lang/AbstractStringBuilder;"⟩ jdk_68_method_22_code 3 (some (.object s0)) (rM 3 0 0 47) #[.ref x0, .ref x1] h0 (fun v h L => v = some (.ref x0) ∧ Fr n0 L ∧ Keep h0 h [x0, x2] ∧ Exa Z h x0 s3 ∧ Fld Z h x0 s0 s4 "B" (.int 0) ∧ Fld Z h x0 s0 "count" "I" (.int 5) ∧ Fld Z h x0 s0 s5 "[B" (.ref x2) ∧ Arv Z h x2 kk0 .byte (16 : Int32) [.int 69, .int 84, .int 97, .int 103, .int 32, .int 0, .int 0, .int 0, .int 0, .int 0, .int 0, .int 0, .int 0, .int 0, .int 0, .int 0] (.int 0) ∧ Exa Z h x2 "[B") := by
 refine Ctr.of (plainFor_of_name pn_c4) ?_
 intro p e s m below meth c T0 hx hZ hby hml hown hnm hret hlk e0 es X0
 refine Go.cast (ef_13_RR m x0 x1) ?_
 generalize hFF : EndN s _ _ _ = FF
 refine Go.aloadN X0 hx 1 rfl (hb hby d13_0) rfl rfl ?_
 refine Go.ifnonnullYes X0 hx 9 (hb hby d13_1) (by decide) (by decide) ?_
 refine Go.aloadN X0 hx 10 rfl (hb hby d13_9) rfl rfl ?_
 refine Go.callV X0 hx hZ hown (tw_81 hw) (tw_82 hw) (notFace_of_selects (args := #[]) (mvT hZ (tw_84 hw))) (tw_84 hw) (tw_83 hw) (by decide) (tw_85 hw) (tw_6 hw) (au_16 l Z a0 hw x1 x3 kk1 gz1 gv5 h0 n0 Z0 O0 G P4 P5 P6 P9) e0 P4 (argsL := []) (rest := []) 13 rfl (hml ▸ rfl) (lenOf pd_10 rfl) rfl rfl (W := 0) (nE rfl) (by decide) (by decide) (by decide) (by decide) (hb hby d13_10) ?_
 intro v1 T1 L1 q1 X1
 obtain ⟨rfl, N1, e1⟩ := q1
 show Go _ _ _ _ (T1.setTop (mkF m 13 #[vR x0, vR x1, uS] [.int 5]))
 refine Go.istoreN X1 hx 14 rfl (hb hby d13_13) (Ls' := #[vR x0, vR x1, vI 5]) rfl ?_
 refine Go.aloadN X1 hx 15 rfl (hb hby d13_14) rfl rfl ?_
 refine Go.aloadN X1 hx 16 rfl (hb hby d13_15) rfl rfl ?_
 refine Go.getF X1 hx hZ hown (host := "") (Or.inl (tw_91 hw)) Via.refl e1 P2 19 rfl (hb hby d13_16) ?_
 intro T2 e2 X2
 refine Go.iloadN X2 hx 20 rfl (hb hby d13_19) rfl ?_
 refine Go.iadd X2 hx 21 rfl (hb hby d13_20) ?_
 rw [show ((0 : Int32) + (5 : Int32)) = (5 : Int32) from by decide]
 refine Go.callP X2 hx hZ hown (tw_93 hw) (tw_94 hw) (tw_96 hw) (tw_95 hw) (tw_97 hw) (by decide) (tw_97 hw) (tw_60 hw) (au_18 l Z a0 hw x0 x2 kk0 h0 n0 Z0 P1 P3 P7) e2 P0 (argsL := [.int 5]) (rest := []) 24 rfl (hml ▸ rfl) (lenOf pd_7 rfl) rfl rfl (W := 0) (nE rfl) (by decide) (by decide) (by decide) (by decide) (hb hby d13_21) ?_
 intro v3 T3 L3 q3 X3
 obtain ⟨rfl, N3, e3⟩ := q3
 show Go _ _ _ _ (T3.setTop (mkF m 24 #[vR x0, vR x1, vI 5] []))
 refine Go.aloadN X3 hx 25 rfl (hb hby d13_24) rfl rfl ?_
 refine Go.aloadN X3 hx 26 rfl (hb hby d13_25) rfl rfl ?_
 refine Go.getF X3 hx hZ hown (host := "") (Or.inl (tw_91 hw)) Via.refl e3 P2 29 rfl (hb hby d13_26) ?_
 intro T4 e4 X4
 refine Go.aloadN X4 hx 30 rfl (hb hby d13_29) rfl rfl ?_
 refine Go.callP X4 hx hZ hown (tw_98 hw) (tw_99 hw) (tw_101 hw) (tw_100 hw) (tw_102 hw) (by decide) (tw_102 hw) (tw_60 hw) (au_19 l Z a0 hw x0 x1 x2 x3 kk0 kk1 gz1 gv5 h0 n0 Z0 O0 G P0 P1 P3 P4 P5 P6 P7 P8 P9 g_x2) e4 P0 (argsL := [.int 0, .ref x1]) (rest := []) 33 rfl (hml ▸ rfl) (lenOf pd_13 rfl) rfl rfl (W := 0) (nE rfl) (by decide) (by decide) (by decide) (by decide) (hb hby d13_30) ?_
 intro v5 T5 L5 q5 X5
 obtain ⟨h5, e5⟩ : ∃ z, T5.heap = z := ⟨_, rfl⟩
 rw [e5] at q5
 obtain ⟨rfl, N5, K5, F5_0, F5_1⟩ := q5
 show Go _ _ _ _ (T5.setTop (mkF m 33 #[vR x0, vR x1, vI 5] []))
 refine Go.aloadN X5 hx 34 rfl (hb hby d13_33) rfl rfl ?_
 refine Go.dup X5 hx 35 rfl (hb hby d13_34) rfl ?_
 have fk6 := (P2.keep K5 (ninS ne_x0_x2 nin0))
 refine Go.getF X5 hx hZ hown (host := "") (Or.inl (tw_91 hw)) Via.refl e5 fk6 38 rfl (hb hby d13_35) ?_
 intro T7 e7 X7
 refine Go.iloadN X7 hx 39 rfl (hb hby d13_38) rfl ?_
 refine Go.iadd X7 hx 40 rfl (hb hby d13_39) ?_
 rw [show ((0 : Int32) + (5 : Int32)) = (5 : Int32) from by decide]
 have fk8 := (P0.keep K5)
 refine Go.putF X7 hx hZ hown (host := "") (Or.inl (tw_91 hw)) Via.refl e7 fk6 fk8 (Or.inl (tw_92 hw)) (tw_51 hw) (ty := .int) (by decide) rfl rfl 43 rfl (hb hby d13_40) ?_
 intro T9 h9 e9 W9 F9 X9
 have N9 := Fr.snoc X9 (Fr.app (Fr.app (Fr.app (Fr.nil n0) N1) N3) N5) g_x0
 refine Go.aloadN X9 hx 44 rfl (hb hby d13_43) rfl rfl ?_
 subst hFF
 refine Go.retR X9 hx hlk (t := (.object s0)) hret rfl rfl (hb hby d13_44) (by decide) (by decide) ?_
 rw [e9]
 have fk10 := (fk8.wr W9)
 have fk11 := ((P1.keep K5 (ninS ne_x0_x2 nin0)).other W9 (Or.inr (slot_ne (Or.inl (tw_67 hw)) (Or.inl (tw_92 hw)) (by decide) (t := .byte) (t' := .int) (by decide) (by decide))))
 have fk12 := ((P3.keep K5 (ninS ne_x0_x2 nin0)).other W9 (Or.inr (slot_ne (Or.inl (tw_65 hw)) (Or.inl (tw_92 hw)) (by decide) (t := (.array .byte)) (t' := .int) (by decide) (by decide))))
 have fk13 := (F5_0.other W9 (Ne.symm ne_x0_x2))
 have fk14 := (F5_1.wr W9)
 have Kp15 := ((Keep.refl h0 [x0, x2]).trans K5 (allS (Or.inl (mG 1 rfl)) all0))
 have Kp16 := (Kp15.wr W9 (Or.inl (mG 0 rfl)))
 exact ⟨rfl, N9, Kp16, fk10, fk11, F9, fk12, fk13, fk14⟩
theorem pd_14 : parseMethodDescriptor "(Ljava/lang/String;)Ljava/lang/AbstractStringBuilder;" = some ⟨[(.object "java/lang/String")], some (.object "java/lang/AbstractStringBuilder")⟩ := by decide +kernel
theorem d12_2 : decode jdk_67_method_7_code 2 = .ok (.invokespecial 29, 3) := by decide +kernel
theorem d12_5 : decode jdk_67_method_7_code 5 = .ok (.pop, 1) := by decide +kernel
theorem d12_6 : decode jdk_67_method_7_code 6 = .ok (.aload_n 0, 1) := by decide +kernel
theorem d12_7 : decode jdk_67_method_7_code 7 = .ok (.areturn, 1) := by decide +kernel
theorem ef_12_RR (m : MethodId) (x0 : Addr) (x1 : Addr) : entryFrame m #[(.ref x0), (.ref x1)] 2 = mkF m 0 #[.val (.ref x0), .val (.ref x1)] [] := by first | (simp [entryFrame, mkF, argsToLocals, Value.category]; done) | rfl
theorem au_14 (l : Launch) (Z : State) (a0 : Array Value) (hw : HW a0 Z) (x0 x1 x2 x3 : Addr) (kk0 kk1 : ClassId) (gz1 : Int32) (gv5 : Value) (h0 : Heap) (n0 : Nat) (Z0 : n0 ≤ h0.size) (O0 : Old Z n0 h0) (G : Glob Z gz1 gv5) (P0 : Exa Z h0 x0 s3) (P1 : Fld Z h0 x0 s0 s4 "B" (.int 0)) (P2 : Fld Z h0 x0 s0 "count" "I" (.int 0)) (P3 : Fld Z h0 x0 s0 s5 "[B" (.ref x2)) (P4 : Exa Z h0 x1 s1) (P5 : Fld Z h0 x1 s1 s4 "B" (.int 0)) (P6 : Fld Z h0 x1 s1 s5 "[B" (.ref x3)) (P7 : Arv Z h0 x2 kk0 .byte (16 : Int32) [.int 0, .int 0, .int 0, .int 0, .int 0, .int 0, .int 0, .int 0, .int 0, .int 0, .int 0, .int 0, .int 0, .int 0, .int 0, .int 0] (.int 0)) (P8 : Exa Z h0 x2 "[B") (P9 : Arv Z h0 x3 kk1 .byte (5 : Int32) [.int 69, .int 84, .int 97, .int 103, .int 32] (.int (0 : Int32))) (g_x2 : n0 ≤ x2) (g_x0 : n0 ≤ x0) (ne_x0_x2 : x0 ≠ x2) :
    Ctr l Z ⟨s3, "append", "(Ljava/lang/String;)Ljava/lang/StringBuilder;"⟩ jdk_67_method_7_code 2 (some (.object s3)) (rM 4 0 0 61) #[.ref x0, .ref x1] h0 (fun v h L => v = some (.ref x0) ∧ Fr n0 L ∧ Keep h0 h [x0, x2] ∧ Exa Z h x0 s3 ∧ Fld Z h x0 s0 s4 "B" (.int 0) ∧ Fld Z h x0 s0 "count" "I" (.int 5) ∧ Fld Z h x0 s0 s5 "[B" (.ref x2) ∧ Arv Z h x2 kk0 .byte (16 : Int32) [.int 69, .int 84, .int 97, .int 103, .int 32, .int 0, .int 0, .int 0, .int 0, .int 0, .int 0, .int 0, .int 0, .int 0, .int 0, .int 0] (.int 0) ∧ Exa Z h x2 "[B") := by
 refine Ctr.of (plainFor_of_name pn_c5) ?_
 intro p e s m below meth c T0 hx hZ hby hml hown hnm hret hlk e0 es X0
 refine Go.cast (ef_12_RR m x0 x1) ?_
 generalize hFF : EndN s _ _ _ = FF
 refine Go.aloadN X0 hx 1 rfl (hb hby d12_0) rfl rfl ?_
 refine Go.aloadN X0 hx 2 rfl (hb hby d12_1) rfl rfl ?_
 refine Go.callUp X0 hx hZ hown (tw_76 hw) (own_sameself (tw_96 hw) rfl (tw_77 hw) (by decide)) (tw_77 hw) (tw_78 hw) (by decide) (tw_80 hw) (tw_80 hw) (tw_60 hw) (au_15 l Z a0 hw x0 x1 x2 x3 kk0 kk1 gz1 gv5 h0 n0 Z0 O0 G P0 P1 P2 P3 P4 P5 P6 P7 P8 P9 g_x2 g_x0 ne_x0_x2) e0 P0 (argsL := [.ref x1]) (rest := []) 5 rfl (hml ▸ rfl) (lenOf pd_14 rfl) rfl rfl (W := 0) (nE rfl) (by decide) (by decide) (by decide) (by decide) (hb hby d12_2) ?_
 intro v1 T1 L1 q1 X1
 obtain ⟨h1, e1⟩ : ∃ z, T1.heap = z := ⟨_, rfl⟩
 rw [e1] at q1
 obtain ⟨rfl, N1, K1, F1_0, F1_1, F1_2, F1_3, F1_4, F1_5⟩ := q1
 show Go _ _ _ _ (T1.setTop (mkF m 5 #[vR x0, vR x1] [.ref x0]))
 refine Go.pop X1 hx 6 rfl (hb hby d12_5) rfl ?_
 refine Go.aloadN X1 hx 7 rfl (hb hby d12_6) rfl rfl ?_
 subst hFF
 refine Go.retR X1 hx hlk (t := (.object s3)) hret rfl rfl (hb hby d12_7) (by decide) (by decide) ?_
 rw [e1]
 have Kp2 := ((Keep.refl h0 [x0, x2]).trans K1 (allS (Or.inl (mG 0 rfl)) (allS (Or.inl (mG 1 rfl)) all0)))
 exact ⟨rfl, (Fr.app (Fr.nil n0) N1), Kp2, F1_0, F1_1, F1_2, F1_3, F1_4, F1_5⟩
theorem pd_15 : parseMethodDescriptor "(Ljava/lang/String;)Ljava/lang/StringBuilder;" = some ⟨[(.object "java/lang/String")], some (.object "java/lang/StringBuilder")⟩ := by decide +kernel
theorem d9_9 : decode prog_9_method_6_code 9 = .ok (.invokevirtual 31, 3) := by decide +kernel
theorem d9_12 : decode prog_9_method_6_code 12 = .ok (.aload_n 0, 1) := by decide +kernel
theorem d9_13 : decode prog_9_method_6_code 13 = .ok (.getfield 7, 3) := by decide +kernel
theorem au_25 (l : Launch) (Z : State) (a0 : Array Value) (hw : HW a0 Z) (x0 : Addr) (gz1 : Int32) (gv5 : Value) (h0 : Heap) (n0 : Nat) (Z0 : n0 ≤ h0.size) (O0 : Old Z n0 h0) (G : Glob Z gz1 gv5) (P1 : Fld Z h0 x0 s1 s4 "B" (.int 0)) :
    Ctr l Z ⟨s1, s4, "()B"⟩ jdk_42_method_152_code 1 (some .byte) (rM 0 0 0 0) #[.ref x0] h0 (fun v h L => v = some (.int 0) ∧ Fr n0 L ∧ h = h0) := by
 refine Ctr.of (plainFor_of_name pn_c2) ?_
 intro p e s m below meth c T0 hx hZ hby hml hown hnm hret hlk e0 es X0
 have G' := G
 obtain ⟨G0, -, G2, -⟩ := G'
 refine Go.cast (ef_15_R m x0) ?_
 generalize hFF : EndN s _ _ _ = FF
 have fk1 := G0.ext O0.2
 refine Go.getS X0 hx hZ hown (host := "") (Or.inl (tw_18 hw)) Via.refl e0 fk1 3 rfl (hb hby d15_0) ?_
 intro T2 e2 X2
 refine Go.ifNo X2 hx 6 rfl (hb hby d15_3) (feq G2).1 ?_
 refine Go.aloadN X2 hx 7 rfl (hb hby d15_6) rfl rfl ?_
 refine Go.getF X2 hx hZ hown (host := "") (Or.inl (tw_30 hw)) Via.refl e2 P1 10 rfl (hb hby d15_7) ?_
 intro T3 e3 X3
 refine Go.goto X3 hx 14 (hb hby d15_10) (by decide) (by decide) ?_
 subst hFF
 refine Go.retN X3 hx hlk (t := .byte) hret (by simp) (hb hby d15_14) (by decide) (by decide) ?_
 rw [e3]
 exact ⟨(congrArg (fun z => some (Value.int z)) (by decide : nar .byte (0 : Int32) = (0 : Int32))), (Fr.nil n0), rfl⟩
theorem au_24 (l : Launch) (Z : State) (a0 : Array Value) (hw : HW a0 Z) (x0 x1 : Addr) (kk0 : ClassId) (p0 p1 p2 p3 gz1 : Int32) (gv5 : Value) (h0 : Heap) (n0 : Nat) (Z0 : n0 ≤ h0.size) (O0 : Old Z n0 h0) (G : Glob Z gz1 gv5) (P0 : Exa Z h0 x0 s1) (P1 : Fld Z h0 x0 s1 s4 "B" (.int 0)) (P2 : Fld Z h0 x0 s1 s5 "[B" (.ref x1)) (P3 : Arv Z h0 x1 kk0 .byte (4 : Int32) [.int p0, .int p1, .int p2, .int p3] (.int 0)) :
    Ctr l Z ⟨s1, "length", "()I"⟩ jdk_42_method_54_code 1 (some .int) (rM 1 0 0 13) #[.ref x0] h0 (fun v h L => v = some (.int 4) ∧ Fr n0 L ∧ h = h0) := by
 refine Ctr.of (plainFor_of_name pn_c2) ?_
 intro p e s m below meth c T0 hx hZ hby hml hown hnm hret hlk e0 es X0
 refine Go.cast (ef_14_R m x0) ?_
 generalize hFF : EndN s _ _ _ = FF
 refine Go.aloadN X0 hx 1 rfl (hb hby d14_0) rfl rfl ?_
 refine Go.getF X0 hx hZ hown (host := "") (Or.inl (tw_32 hw)) Via.refl e0 P2 4 rfl (hb hby d14_1) ?_
 intro T1 e1 X1
 refine Go.arraylength X1 hx hZ e1 P3 5 rfl (hb hby d14_4) ?_
 refine Go.aloadN X1 hx 6 rfl (hb hby d14_5) rfl rfl ?_
 refine Go.callV X1 hx hZ hown (tw_86 hw) (tw_87 hw) (notFace_of_selects (args := #[]) (mvT hZ (tw_89 hw))) (tw_89 hw) (tw_88 hw) (by decide) (tw_90 hw) (tw_6 hw) (au_25 l Z a0 hw x0 gz1 gv5 h0 n0 Z0 O0 G P1) e1 P0 (argsL := []) (rest := [.int 4]) 9 rfl (hml ▸ rfl) (lenOf pd_9 rfl) rfl rfl (W := 1) (nE rfl) (by decide) (by decide) (by decide) (by decide) (hb hby d14_6) ?_
 intro v2 T2 L2 q2 X2
 obtain ⟨rfl, N2, e2⟩ := q2
 show Go _ _ _ _ (T2.setTop (mkF m 9 #[vR x0] [.int 0, .int 4]))
 refine Go.ishr X2 hx 10 rfl (hb hby d14_9) ?_
 rw [show ((4 : Int32) >>> ((0 : Int32) &&& 31)) = (4 : Int32) from by decide]
 subst hFF
 refine Go.retI X2 hx hlk hret (hb hby d14_10) (by decide) (by decide) ?_
 rw [e2]
 exact ⟨rfl, (Fr.app (Fr.nil n0) N2), rfl⟩
theorem au_26 (l : Launch) (Z : State) (a0 : Array Value) (hw : HW a0 Z) (x0 x1 : Addr) (kk0 : ClassId) (h0 : Heap) (n0 : Nat) (Z0 : n0 ≤ h0.size) (P1 : Fld Z h0 x0 s0 s4 "B" (.int 0)) (P3 : Fld Z h0 x0 s0 s5 "[B" (.ref x1)) (P4 : Arv Z h0 x1 kk0 .byte (16 : Int32) [.int 69, .int 84, .int 97, .int 103, .int 32, .int 0, .int 0, .int 0, .int 0, .int 0, .int 0, .int 0, .int 0, .int 0, .int 0, .int 0] (.int 0)) :
    Ctr l Z ⟨s0, "ensureCapacityInternal", "(I)V"⟩ jdk_68_method_9_code 3 none (rM 0 0 0 0) #[.ref x0, .int 9] h0 (fun v h L => v = none ∧ Fr n0 L ∧ h = h0) := by
 refine Ctr.of (plainFor_of_name pn_c4) ?_
 intro p e s m below meth c T0 hx hZ hby hml hown hnm hret hlk e0 es X0
 refine Go.cast (ef_16_RI m x0 (9 : Int32)) ?_
 generalize hFF : EndN s _ _ _ = FF
 refine Go.aloadN X0 hx 1 rfl (hb hby d16_0) rfl rfl ?_
 refine Go.getF X0 hx hZ hown (host := "") (Or.inl (tw_64 hw)) Via.refl e0 P3 4 rfl (hb hby d16_1) ?_
 intro T1 e1 X1
 refine Go.arraylength X1 hx hZ e1 P4 5 rfl (hb hby d16_4) ?_
 refine Go.aloadN X1 hx 6 rfl (hb hby d16_5) rfl rfl ?_
 refine Go.getF X1 hx hZ hown (host := "") (Or.inl (tw_66 hw)) Via.refl e1 P1 9 rfl (hb hby d16_6) ?_
 intro T2 e2 X2
 refine Go.ishr X2 hx 10 rfl (hb hby d16_9) ?_
 rw [show ((16 : Int32) >>> ((0 : Int32) &&& 31)) = (16 : Int32) from by decide]
 refine Go.istoreN X2 hx 11 rfl (hb hby d16_10) (Ls' := #[vR x0, vI 9, vI 16]) rfl ?_
 refine Go.iloadN X2 hx 12 rfl (hb hby d16_11) rfl ?_
 refine Go.iloadN X2 hx 13 rfl (hb hby d16_12) rfl ?_
 refine Go.isub X2 hx 14 rfl (hb hby d16_13) ?_
 rw [show ((9 : Int32) - (16 : Int32)) = (-7 : Int32) from by decide]
 refine Go.ifYes X2 hx 38 (hb hby d16_14) (by decide) (by decide) (by decide) ?_
 subst hFF
 refine Go.ret0 X2 hx hlk hret (hb hby d16_38) (by decide) (by decide) ?_
 rw [e2]
 exact ⟨rfl, (Fr.nil n0), rfl⟩
theorem au_28 (l : Launch) (Z : State) (a0 : Array Value) (hw : HW a0 Z) (x0 x1 : Addr) (gz1 : Int32) (gv5 : Value) (h0 : Heap) (n0 : Nat) (Z0 : n0 ≤ h0.size) (O0 : Old Z n0 h0) (G : Glob Z gz1 gv5) (P1 : Fld Z h0 x0 s0 s4 "B" (.int 0)) (P4 : Exa Z h0 x1 s1) (P5 : Fld Z h0 x1 s1 s4 "B" (.int 0)) :
    Ctr l Z ⟨s0, "inflateIfNeededFor", "(Ljava/lang/String;)V"⟩ jdk_68_method_71_code 2 none (rM 1 0 0 13) #[.ref x0, .ref x1] h0 (fun v h L => v = none ∧ Fr n0 L ∧ h = h0) := by
 refine Ctr.of (plainFor_of_name pn_c4) ?_
 intro p e s m below meth c T0 hx hZ hby hml hown hnm hret hlk e0 es X0
 have G' := G
 obtain ⟨G0, -, G2, -⟩ := G'
 refine Go.cast (ef_18_RR m x0 x1) ?_
 generalize hFF : EndN s _ _ _ = FF
 have fk1 := G0.ext O0.2
 refine Go.getS X0 hx hZ hown (host := "") (Or.inl (tw_63 hw)) Via.refl e0 fk1 3 rfl (hb hby d18_0) ?_
 intro T2 e2 X2
 refine Go.ifNo X2 hx 6 rfl (hb hby d18_3) (feq G2).1 ?_
 refine Go.aloadN X2 hx 7 rfl (hb hby d18_6) rfl rfl ?_
 refine Go.getF X2 hx hZ hown (host := "") (Or.inl (tw_66 hw)) Via.refl e2 P1 10 rfl (hb hby d18_7) ?_
 intro T3 e3 X3
 refine Go.aloadN X3 hx 11 rfl (hb hby d18_10) rfl rfl ?_
 refine Go.callV X3 hx hZ hown (tw_108 hw) (tw_87 hw) (notFace_of_selects (args := #[]) (mvT hZ (tw_89 hw))) (tw_89 hw) (tw_88 hw) (by decide) (tw_90 hw) (tw_6 hw) (au_25 l Z a0 hw x1 gz1 gv5 h0 n0 Z0 O0 G P5) e3 P4 (argsL := []) (rest := [.int 0]) 14 rfl (hml ▸ rfl) (lenOf pd_9 rfl) rfl rfl (W := 1) (nE rfl) (by decide) (by decide) (by decide) (by decide) (hb hby d18_11) ?_
 intro v4 T4 L4 q4 X4
 obtain ⟨rfl, N4, e4⟩ := q4
 show Go _ _ _ _ (T4.setTop (mkF m 14 #[vR x0, vR x1] [.int 0, .int 0]))
 refine Go.icmpYes X4 hx 21 (hb hby d18_14) (by decide) (by decide) (by decide) ?_
 subst hFF
 refine Go.ret0 X4 hx hlk hret (hb hby d18_21) (by decide) (by decide) ?_
 rw [e4]
 exact ⟨rfl, (Fr.app (Fr.nil n0) N4), rfl⟩
theorem au_29 (l : Launch) (Z : State) (a0 : Array Value) (hw : HW a0 Z) (x0 x1 x2 : Addr) (kk0 kk1 : ClassId) (p0 p1 p2 p3 gz1 : Int32) (gv5 : Value) (h0 : Heap) (n0 : Nat) (Z0 : n0 ≤ h0.size) (O0 : Old Z n0 h0) (G : Glob Z gz1 gv5) (P0 : Exa Z h0 x0 s1) (P1 : Fld Z h0 x0 s1 s4 "B" (.int 0)) (P2 : Fld Z h0 x0 s1 s5 "[B" (.ref x2)) (P3 : Arv Z h0 x1 kk0 .byte (16 : Int32) [.int 69, .int 84, .int 97, .int 103, .int 32, .int 0, .int 0, .int 0, .int 0, .int 0, .int 0, .int 0, .int 0, .int 0, .int 0, .int 0] (.int 0)) (P4 : Exa Z h0 x1 "[B") (P5 : Arv Z h0 x2 kk1 .byte (4 : Int32) [.int p0, .int p1, .int p2, .int p3] (.int 0)) (g_x1 : n0 ≤ x1) :
    Ctr l Z ⟨s1, "getBytes", "([BIB)V"⟩ jdk_42_method_147_code 4 none (rM 1 0 0 18) #[.ref x0, .ref x1, .int 5, .int 0] h0 (fun v h L => v = none ∧ Fr n0 L ∧ Keep h0 h [x1] ∧ Arv Z h x1 kk0 .byte (16 : Int32) [.int 69, .int 84, .int 97, .int 103, .int 32, .int p0, .int p1, .int p2, .int p3, .int 0, .int 0, .int 0, .int 0, .int 0, .int 0, .int 0] (.int 0) ∧ Exa Z h x1 "[B") := by
 refine Ctr.of (plainFor_of_name pn_c2) ?_
 intro p e s m below meth c T0 hx hZ hby hml hown hnm hret hlk e0 es X0
 refine Go.cast (ef_19_RRII m x0 x1 (5 : Int32) (0 : Int32)) ?_
 generalize hFF : EndN s _ _ _ = FF
 refine Go.aloadN X0 hx 1 rfl (hb hby d19_0) rfl rfl ?_
 refine Go.callV X0 hx hZ hown (tw_86 hw) (tw_87 hw) (notFace_of_selects (args := #[]) (mvT hZ (tw_89 hw))) (tw_89 hw) (tw_88 hw) (by decide) (tw_90 hw) (tw_6 hw) (au_25 l Z a0 hw x0 gz1 gv5 h0 n0 Z0 O0 G P1) e0 P0 (argsL := []) (rest := []) 4 rfl (hml ▸ rfl) (lenOf pd_9 rfl) rfl rfl (W := 0) (nE rfl) (by decide) (by decide) (by decide) (by decide) (hb hby d19_1) ?_
 intro v1 T1 L1 q1 X1
 obtain ⟨rfl, N1, e1⟩ := q1
 show Go _ _ _ _ (T1.setTop (mkF m 4 #[vR x0, vR x1, vI 5, vI 0] [.int 0]))
 refine Go.iloadN X1 hx 5 rfl (hb hby d19_4) rfl ?_
 refine Go.icmpNo X1 hx 8 rfl (hb hby d19_5) (by decide) ?_
 refine Go.aloadN X1 hx 9 rfl (hb hby d19_8) rfl rfl ?_
 refine Go.getF X1 hx hZ hown (host := "") (Or.inl (tw_32 hw)) Via.refl e1 P2 12 rfl (hb hby d19_9) ?_
 intro T2 e2 X2
 refine Go.iconst X2 hx 13 rfl (hb hby d19_12) (v := (0 : Int32)) rfl ?_
 refine Go.aloadN X2 hx 14 rfl (hb hby d19_13) rfl rfl ?_
 refine Go.iloadN X2 hx 15 rfl (hb hby d19_14) rfl ?_
 refine Go.iloadN X2 hx 16 rfl (hb hby d19_15) rfl ?_
 refine Go.ishl X2 hx 17 rfl (hb hby d19_16) ?_
 rw [show ((5 : Int32) <<< ((0 : Int32) &&& 31)) = (5 : Int32) from by decide]
 refine Go.aloadN X2 hx 18 rfl (hb hby d19_17) rfl rfl ?_
 refine Go.getF X2 hx hZ hown (host := "") (Or.inl (tw_32 hw)) Via.refl e2 P2 21 rfl (hb hby d19_18) ?_
 intro T3 e3 X3
 refine Go.arraylength X3 hx hZ e3 P5 22 rfl (hb hby d19_21) ?_
 refine Go.arraycopy X3 hx hZ hown (tw_114 hw) (tw_117 hw) (tw_115 hw) (tw_116 hw) e3 P5 P3 rfl (sp := (0 : Int32)) (dp := (5 : Int32)) (nn := (4 : Int32)) (us := [.int p0, .int p1, .int p2, .int p3]) (by decide) (by decide) (by decide) (by decide) (by decide) rfl (nB rfl) (Fr.app (Fr.nil n0) N1) g_x1 (by decide) (W := 0) (hml ▸ rfl) (nE rfl) (by decide) (pc' := 25) rfl (hb hby d19_22) ?_
 intro T4 h4 L4 e4 N4 K4 V4 X4
 have V4' : Arv Z h4 x1 kk0 .byte (16 : Int32) [.int 69, .int 84, .int 97, .int 103, .int 32, .int p0, .int p1, .int p2, .int p3, .int 0, .int 0, .int 0, .int 0, .int 0, .int 0, .int 0] (.int 0) := V4
 refine Go.goto X4 hx 43 (hb hby d19_25) (by decide) (by decide) ?_
 subst hFF
 refine Go.ret0 X4 hx hlk hret (hb hby d19_43) (by decide) (by decide) ?_
 rw [e4]
 have fk5 := (P4.keep K4)
 have Kp6 := ((Keep.refl h0 [x1]).trans K4 (allS (Or.inl (mG 0 rfl)) all0))
 exact ⟨rfl, N4, Kp6, V4', fk5⟩
theorem au_27 (l : Launch) (Z : State) (a0 : Array Value) (hw : HW a0 Z) (x0 x1 x2 x3 : Addr) (kk0 kk1 : ClassId) (p0 p1 p2 p3 gz1 : Int32) (gv5 : Value) (h0 : Heap) (n0 : Nat) (Z0 : n0 ≤ h0.size) (O0 : Old Z n0 h0) (G : Glob Z gz1 gv5) (P0 : Exa Z h0 x0 s3) (P1 : Fld Z h0 x0 s0 s4 "B" (.int 0)) (P3 : Fld Z h0 x0 s0 s5 "[B" (.ref x2)) (P4 : Exa Z h0 x1 s1) (P5 : Fld Z h0 x1 s1 s4 "B" (.int 0)) (P6 : Fld Z h0 x1 s1 s5 "[B" (.ref x3)) (P7 : Arv Z h0 x2 kk0 .byte (16 : Int32) [.int 69, .int 84, .int 97, .int 103, .int 32, .int 0, .int 0, .int 0, .int 0, .int 0, .int 0, .int 0, .int 0, .int 0, .int 0, .int 0] (.int 0)) (P8 : Exa Z h0 x2 "[B") (P9 : Arv Z h0 x3 kk1 .byte (4 : Int32) [.int p0, .int p1, .int p2, .int p3] (.int 0)) (g_x2 : n0 ≤ x2) :
    Ctr l Z ⟨s0, "putStringAt", "(ILjava/lang/String;)V"⟩ jdk_68_method_73_code 3 none (rM 2 0 0 33) #[.ref x0, .int 5, .ref x1] h0 (fun v h L => v = none ∧ Fr n0 L ∧ Keep h0 h [x2] ∧ Arv Z h x2 kk0 .byte (16 : Int32) [.int 69, .int 84, .int 97, .int 103, .int 32, .int p0, .int p1, .int p2, .int p3, .int 0, .int 0, .int 0, .int 0, .int 0, .int 0, .int 0] (.int 0) ∧ Exa Z h x2 "[B") := by
 refine Ctr.of (plainFor_of_name pn_c4) ?_
 intro p e s m below meth c T0 hx hZ hby hml hown hnm hret hlk e0 es X0
 refine Go.cast (ef_17_RIR m x0 (5 : Int32) x1) ?_
 generalize hFF : EndN s _ _ _ = FF
 refine Go.aloadN X0 hx 1 rfl (hb hby d17_0) rfl rfl ?_
 refine Go.aloadN X0 hx 2 rfl (hb hby d17_1) rfl rfl ?_
 refine Go.callP X0 hx hZ hown (tw_103 hw) (tw_104 hw) (tw_106 hw) (tw_105 hw) (tw_107 hw) (by decide) (tw_107 hw) (tw_60 hw) (au_28 l Z a0 hw x0 x1 gz1 gv5 h0 n0 Z0 O0 G P1 P4 P5) e0 P0 (argsL := [.ref x1]) (rest := []) 5 rfl (hml ▸ rfl) (lenOf pd_11 rfl) rfl rfl (W := 0) (nE rfl) (by decide) (by decide) (by decide) (by decide) (hb hby d17_2) ?_
 intro v1 T1 L1 q1 X1
 obtain ⟨rfl, N1, e1⟩ := q1
 show Go _ _ _ _ (T1.setTop (mkF m 5 #[vR x0, vI 5, vR x1] []))
 refine Go.aloadN X1 hx 6 rfl (hb hby d17_5) rfl rfl ?_
 refine Go.aloadN X1 hx 7 rfl (hb hby d17_6) rfl rfl ?_
 refine Go.getF X1 hx hZ hown (host := "") (Or.inl (tw_64 hw)) Via.refl e1 P3 10 rfl (hb hby d17_7) ?_
 intro T2 e2 X2
 refine Go.iloadN X2 hx 11 rfl (hb hby d17_10) rfl ?_
 refine Go.aloadN X2 hx 12 rfl (hb hby d17_11) rfl rfl ?_
 refine Go.getF X2 hx hZ hown (host := "") (Or.inl (tw_66 hw)) Via.refl e2 P1 15 rfl (hb hby d17_12) ?_
 intro T3 e3 X3
 refine Go.callV X3 hx hZ hown (tw_109 hw) (tw_110 hw) (notFace_of_selects (args := #[]) (mvT hZ (tw_112 hw))) (tw_112 hw) (tw_111 hw) (by decide) (tw_113 hw) (tw_6 hw) (au_29 l Z a0 hw x1 x2 x3 kk0 kk1 p0 p1 p2 p3 gz1 gv5 h0 n0 Z0 O0 G P4 P5 P6 P7 P8 P9 g_x2) e3 P4 (argsL := [.ref x2, .int 5, .int 0]) (rest := []) 18 rfl (hml ▸ rfl) (lenOf pd_12 rfl) rfl rfl (W := 0) (nE rfl) (by decide) (by decide) (by decide) (by decide) (hb hby d17_15) ?_
 intro v4 T4 L4 q4 X4
 obtain ⟨h4, e4⟩ : ∃ z, T4.heap = z := ⟨_, rfl⟩
 rw [e4] at q4
 obtain ⟨rfl, N4, K4, F4_0, F4_1⟩ := q4
 show Go _ _ _ _ (T4.setTop (mkF m 18 #[vR x0, vI 5, vR x1] []))
 subst hFF
 refine Go.ret0 X4 hx hlk hret (hb hby d17_18) (by decide) (by decide) ?_
 rw [e4]
 have Kp5 := ((Keep.refl h0 [x2]).trans K4 (allS (Or.inl (mG 0 rfl)) all0))
 exact ⟨rfl, (Fr.app (Fr.app (Fr.nil n0) N1) N4), Kp5, F4_0, F4_1⟩
theorem au_23 (l : Launch) (Z : State) (a0 : Array Value) (hw : HW a0 Z) (x0 x1 x2 x3 : Addr) (kk0 kk1 : ClassId) (p0 p1 p2 p3 gz1 : Int32) (gv5 : Value) (h0 : Heap) (n0 : Nat) (Z0 : n0 ≤ h0.size) (O0 : Old Z n0 h0) (G : Glob Z gz1 gv5) (P0 : Exa Z h0 x0 s3) (P1 : Fld Z h0 x0 s0 s4 "B" (.int 0)) (P2 : Fld Z h0 x0 s0 "count" "I" (.int 5)) (P3 : Fld Z h0 x0 s0 s5 "[B" (.ref x2)) (P4 : Exa Z h0 x1 s1) (P5 : Fld Z h0 x1 s1 s4 "B" (.int 0)) (P6 : Fld Z h0 x1 s1 s5 "[B" (.ref x3)) (P7 : Arv Z h0 x2 kk0 .byte (16 : Int32) [.int 69, .int 84, .int 97, .int 103, .int 32, .int 0, .int 0, .int 0, .int 0, .int 0, .int 0, .int 0, .int 0, .int 0, .int 0, .int 0] (.int 0)) (P8 : Exa Z h0 x2 "[B") (P9 : Arv Z h0 x3 kk1 .byte (4 : Int32) [.int p0, .int p1, .int p2, .int p3] (.int 0)) (g_x2 : n0 ≤ x2) (g_x0 : n0 ≤ x0) (ne_x0_x2 : x0 ≠ x2) :
    Ctr l Z ⟨s0, "append", "(Ljava/lang/String;)Ljava/lang/AbstractStringBuilder;"⟩ jdk_68_method_22_code 3 (some (.object s0)) (rM 3 0 0 47) #[.ref x0, .ref x1] h0 (fun v h L => v = some (.ref x0) ∧ Fr n0 L ∧ Keep h0 h [x0, x2] ∧ Exa Z h x0 s3 ∧ Fld Z h x0 s0 s4 "B" (.int 0) ∧ Fld Z h x0 s0 "count" "I" (.int 9) ∧ Fld Z h x0 s0 s5 "[B" (.ref x2) ∧ Arv Z h x2 kk0 .byte (16 : Int32) [.int 69, .int 84, .int 97, .int 103, .int 32, .int p0, .int p1, .int p2, .int p3, .int 0, .int 0, .int 0, .int 0, .int 0, .int 0, .int 0] (.int 0) ∧ Exa Z h x2 "[B") := by
 refine Ctr.of (plainFor_of_name pn_c4) ?_
 intro p e s m below meth c T0 hx hZ hby hml hown hnm hret hlk e0 es X0
 refine Go.cast (ef_13_RR m x0 x1) ?_
 generalize hFF : EndN s _ _ _ = FF
 refine Go.aloadN X0 hx 1 rfl (hb hby d13_0) rfl rfl ?_
 refine Go.ifnonnullYes X0 hx 9 (hb hby d13_1) (by decide) (by decide) ?_
 refine Go.aloadN X0 hx 10 rfl (hb hby d13_9) rfl rfl ?_
 refine Go.callV X0 hx hZ hown (tw_81 hw) (tw_82 hw) (notFace_of_selects (args := #[]) (mvT hZ (tw_84 hw))) (tw_84 hw) (tw_83 hw) (by decide) (tw_85 hw) (tw_6 hw) (au_24 l Z a0 hw x1 x3 kk1 p0 p1 p2 p3 gz1 gv5 h0 n0 Z0 O0 G P4 P5 P6 P9) e0 P4 (argsL := []) (rest := []) 13 rfl (hml ▸ rfl) (lenOf pd_10 rfl) rfl rfl (W := 0) (nE rfl) (by decide) (by decide) (by decide) (by decide) (hb hby d13_10) ?_
 intro v1 T1 L1 q1 X1
 obtain ⟨rfl, N1, e1⟩ := q1
 show Go _ _ _ _ (T1.setTop (mkF m 13 #[vR x0, vR x1, uS] [.int 4]))
 refine Go.istoreN X1 hx 14 rfl (hb hby d13_13) (Ls' := #[vR x0, vR x1, vI 4]) rfl ?_
 refine Go.aloadN X1 hx 15 rfl (hb hby d13_14) rfl rfl ?_
 refine Go.aloadN X1 hx 16 rfl (hb hby d13_15) rfl rfl ?_
 refine Go.getF X1 hx hZ hown (host := "") (Or.inl (tw_91 hw)) Via.refl e1 P2 19 rfl (hb hby d13_16) ?_
 intro T2 e2 X2
 refine Go.iloadN X2 hx 20 rfl (hb hby d13_19) rfl ?_
 refine Go.iadd X2 hx 21 rfl (hb hby d13_20) ?_
 rw [show ((5 : Int32) + (4 : Int32)) = (9 : Int32) from by decide]
 refine Go.callP X2 hx hZ hown (tw_93 hw) (tw_94 hw) (tw_96 hw) (tw_95 hw) (tw_97 hw) (by decide) (tw_97 hw) (tw_60 hw) (au_26 l Z a0 hw x0 x2 kk0 h0 n0 Z0 P1 P3 P7) e2 P0 (argsL := [.int 9]) (rest := []) 24 rfl (hml ▸ rfl) (lenOf pd_7 rfl) rfl rfl (W := 0) (nE rfl) (by decide) (by decide) (by decide) (by decide) (hb hby d13_21) ?_
 intro v3 T3 L3 q3 X3
 obtain ⟨rfl, N3, e3⟩ := q3
 show Go _ _ _ _ (T3.setTop (mkF m 24 #[vR x0, vR x1, vI 4] []))
 refine Go.aloadN X3 hx 25 rfl (hb hby d13_24) rfl rfl ?_
 refine Go.aloadN X3 hx 26 rfl (hb hby d13_25) rfl rfl ?_
 refine Go.getF X3 hx hZ hown (host := "") (Or.inl (tw_91 hw)) Via.refl e3 P2 29 rfl (hb hby d13_26) ?_
 intro T4 e4 X4
 refine Go.aloadN X4 hx 30 rfl (hb hby d13_29) rfl rfl ?_
 refine Go.callP X4 hx hZ hown (tw_98 hw) (tw_99 hw) (tw_101 hw) (tw_100 hw) (tw_102 hw) (by decide) (tw_102 hw) (tw_60 hw) (au_27 l Z a0 hw x0 x1 x2 x3 kk0 kk1 p0 p1 p2 p3 gz1 gv5 h0 n0 Z0 O0 G P0 P1 P3 P4 P5 P6 P7 P8 P9 g_x2) e4 P0 (argsL := [.int 5, .ref x1]) (rest := []) 33 rfl (hml ▸ rfl) (lenOf pd_13 rfl) rfl rfl (W := 0) (nE rfl) (by decide) (by decide) (by decide) (by decide) (hb hby d13_30) ?_
 intro v5 T5 L5 q5 X5
 obtain ⟨h5, e5⟩ : ∃ z, T5.heap = z := ⟨_, rfl⟩
 rw [e5] at q5
 obtain ⟨rfl, N5, K5, F5_0, F5_1⟩ := q5
 show Go _ _ _ _ (T5.setTop (mkF m 33 #[vR x0, vR x1, vI 4] []))
 refine Go.aloadN X5 hx 34 rfl (hb hby d13_33) rfl rfl ?_
 refine Go.dup X5 hx 35 rfl (hb hby d13_34) rfl ?_
 have fk6 := (P2.keep K5 (ninS ne_x0_x2 nin0))
 refine Go.getF X5 hx hZ hown (host := "") (Or.inl (tw_91 hw)) Via.refl e5 fk6 38 rfl (hb hby d13_35) ?_
 intro T7 e7 X7
 refine Go.iloadN X7 hx 39 rfl (hb hby d13_38) rfl ?_
 refine Go.iadd X7 hx 40 rfl (hb hby d13_39) ?_
 rw [show ((5 : Int32) + (4 : Int32)) = (9 : Int32) from by decide]
 have fk8 := (P0.keep K5)
 refine Go.putF X7 hx hZ hown (host := "") (Or.inl (tw_91 hw)) Via.refl e7 fk6 fk8 (Or.inl (tw_92 hw)) (tw_51 hw) (ty := .int) (by decide) rfl rfl 43 rfl (hb hby d13_40) ?_
 intro T9 h9 e9 W9 F9 X9
 have N9 := Fr.snoc X9 (Fr.app (Fr.app (Fr.app (Fr.nil n0) N1) N3) N5) g_x0
 refine Go.aloadN X9 hx 44 rfl (hb hby d13_43) rfl rfl ?_
 subst hFF
 refine Go.retR X9 hx hlk (t := (.object s0)) hret rfl rfl (hb hby d13_44) (by decide) (by decide) ?_
 rw [e9]
 have fk10 := (fk8.wr W9)
 have fk11 := ((P1.keep K5 (ninS ne_x0_x2 nin0)).other W9 (Or.inr (slot_ne (Or.inl (tw_67 hw)) (Or.inl (tw_92 hw)) (by decide) (t := .byte) (t' := .int) (by decide) (by decide))))
 have fk12 := ((P3.keep K5 (ninS ne_x0_x2 nin0)).other W9 (Or.inr (slot_ne (Or.inl (tw_65 hw)) (Or.inl (tw_92 hw)) (by decide) (t := (.array .byte)) (t' := .int) (by decide) (by decide))))
 have fk13 := (F5_0.other W9 (Ne.symm ne_x0_x2))
 have fk14 := (F5_1.wr W9)
 have Kp15 := ((Keep.refl h0 [x0, x2]).trans K5 (allS (Or.inl (mG 1 rfl)) all0))
 have Kp16 := (Kp15.wr W9 (Or.inl (mG 0 rfl)))
 exact ⟨rfl, N9, Kp16, fk10, fk11, F9, fk12, fk13, fk14⟩
theorem au_22 (l : Launch) (Z : State) (a0 : Array Value) (hw : HW a0 Z) (x0 x1 x2 x3 : Addr) (kk0 kk1 : ClassId) (p0 p1 p2 p3 gz1 : Int32) (gv5 : Value) (h0 : Heap) (n0 : Nat) (Z0 : n0 ≤ h0.size) (O0 : Old Z n0 h0) (G : Glob Z gz1 gv5) (P0 : Exa Z h0 x0 s3) (P1 : Fld Z h0 x0 s0 s4 "B" (.int 0)) (P2 : Fld Z h0 x0 s0 "count" "I" (.int 5)) (P3 : Fld Z h0 x0 s0 s5 "[B" (.ref x2)) (P4 : Exa Z h0 x1 s1) (P5 : Fld Z h0 x1 s1 s4 "B" (.int 0)) (P6 : Fld Z h0 x1 s1 s5 "[B" (.ref x3)) (P7 : Arv Z h0 x2 kk0 .byte (16 : Int32) [.int 69, .int 84, .int 97, .int 103, .int 32, .int 0, .int 0, .int 0, .int 0, .int 0, .int 0, .int 0, .int 0, .int 0, .int 0, .int 0] (.int 0)) (P8 : Exa Z h0 x2 "[B") (P9 : Arv Z h0 x3 kk1 .byte (4 : Int32) [.int p0, .int p1, .int p2, .int p3] (.int 0)) (g_x2 : n0 ≤ x2) (g_x0 : n0 ≤ x0) (ne_x0_x2 : x0 ≠ x2) :
    Ctr l Z ⟨s3, "append", "(Ljava/lang/String;)Ljava/lang/StringBuilder;"⟩ jdk_67_method_7_code 2 (some (.object s3)) (rM 4 0 0 61) #[.ref x0, .ref x1] h0 (fun v h L => v = some (.ref x0) ∧ Fr n0 L ∧ Keep h0 h [x0, x2] ∧ Exa Z h x0 s3 ∧ Fld Z h x0 s0 s4 "B" (.int 0) ∧ Fld Z h x0 s0 "count" "I" (.int 9) ∧ Fld Z h x0 s0 s5 "[B" (.ref x2) ∧ Arv Z h x2 kk0 .byte (16 : Int32) [.int 69, .int 84, .int 97, .int 103, .int 32, .int p0, .int p1, .int p2, .int p3, .int 0, .int 0, .int 0, .int 0, .int 0, .int 0, .int 0] (.int 0) ∧ Exa Z h x2 "[B") := by
 refine Ctr.of (plainFor_of_name pn_c5) ?_
 intro p e s m below meth c T0 hx hZ hby hml hown hnm hret hlk e0 es X0
 refine Go.cast (ef_12_RR m x0 x1) ?_
 generalize hFF : EndN s _ _ _ = FF
 refine Go.aloadN X0 hx 1 rfl (hb hby d12_0) rfl rfl ?_
 refine Go.aloadN X0 hx 2 rfl (hb hby d12_1) rfl rfl ?_
 refine Go.callUp X0 hx hZ hown (tw_76 hw) (own_sameself (tw_96 hw) rfl (tw_77 hw) (by decide)) (tw_77 hw) (tw_78 hw) (by decide) (tw_80 hw) (tw_80 hw) (tw_60 hw) (au_23 l Z a0 hw x0 x1 x2 x3 kk0 kk1 p0 p1 p2 p3 gz1 gv5 h0 n0 Z0 O0 G P0 P1 P2 P3 P4 P5 P6 P7 P8 P9 g_x2 g_x0 ne_x0_x2) e0 P0 (argsL := [.ref x1]) (rest := []) 5 rfl (hml ▸ rfl) (lenOf pd_14 rfl) rfl rfl (W := 0) (nE rfl) (by decide) (by decide) (by decide) (by decide) (hb hby d12_2) ?_
 intro v1 T1 L1 q1 X1
 obtain ⟨h1, e1⟩ : ∃ z, T1.heap = z := ⟨_, rfl⟩
 rw [e1] at q1
 obtain ⟨rfl, N1, K1, F1_0, F1_1, F1_2, F1_3, F1_4, F1_5⟩ := q1
 show Go _ _ _ _ (T1.setTop (mkF m 5 #[vR x0, vR x1] [.ref x0]))
 refine Go.pop X1 hx 6 rfl (hb hby d12_5) rfl ?_
 refine Go.aloadN X1 hx 7 rfl (hb hby d12_6) rfl rfl ?_
 subst hFF
 refine Go.retR X1 hx hlk (t := (.object s3)) hret rfl rfl (hb hby d12_7) (by decide) (by decide) ?_
 rw [e1]
 have Kp2 := ((Keep.refl h0 [x0, x2]).trans K1 (allS (Or.inl (mG 0 rfl)) (allS (Or.inl (mG 1 rfl)) all0)))
 exact ⟨rfl, (Fr.app (Fr.nil n0) N1), Kp2, F1_0, F1_1, F1_2, F1_3, F1_4, F1_5⟩
theorem d9_16 : decode prog_9_method_6_code 16 = .ok (.invokevirtual 31, 3) := by decide +kernel
theorem d9_19 : decode prog_9_method_6_code 19 = .ok (.ldc 35, 2) := by decide +kernel
theorem au_33 (l : Launch) (Z : State) (a0 : Array Value) (hw : HW a0 Z) (x0 : Addr) (gz1 : Int32) (gv5 : Value) (h0 : Heap) (n0 : Nat) (Z0 : n0 ≤ h0.size) (O0 : Old Z n0 h0) (G : Glob Z gz1 gv5) (P1 : Fld Z h0 x0 s1 s4 "B" (.int 0)) :
    Ctr l Z ⟨s1, s4, "()B"⟩ jdk_42_method_152_code 1 (some .byte) (rM 0 0 0 0) #[.ref x0] h0 (fun v h L => v = some (.int 0) ∧ Fr n0 L ∧ h = h0) := by
 refine Ctr.of (plainFor_of_name pn_c2) ?_
 intro p e s m below meth c T0 hx hZ hby hml hown hnm hret hlk e0 es X0
 have G' := G
 obtain ⟨G0, -, G2, -⟩ := G'
 refine Go.cast (ef_15_R m x0) ?_
 generalize hFF : EndN s _ _ _ = FF
 have fk1 := G0.ext O0.2
 refine Go.getS X0 hx hZ hown (host := "") (Or.inl (tw_18 hw)) Via.refl e0 fk1 3 rfl (hb hby d15_0) ?_
 intro T2 e2 X2
 refine Go.ifNo X2 hx 6 rfl (hb hby d15_3) (feq G2).1 ?_
 refine Go.aloadN X2 hx 7 rfl (hb hby d15_6) rfl rfl ?_
 refine Go.getF X2 hx hZ hown (host := "") (Or.inl (tw_30 hw)) Via.refl e2 P1 10 rfl (hb hby d15_7) ?_
 intro T3 e3 X3
 refine Go.goto X3 hx 14 (hb hby d15_10) (by decide) (by decide) ?_
 subst hFF
 refine Go.retN X3 hx hlk (t := .byte) hret (by simp) (hb hby d15_14) (by decide) (by decide) ?_
 rw [e3]
 exact ⟨(congrArg (fun z => some (Value.int z)) (by decide : nar .byte (0 : Int32) = (0 : Int32))), (Fr.nil n0), rfl⟩
theorem au_32 (l : Launch) (Z : State) (a0 : Array Value) (hw : HW a0 Z) (x0 x1 : Addr) (kk0 : ClassId) (gz1 : Int32) (gv5 : Value) (h0 : Heap) (n0 : Nat) (Z0 : n0 ≤ h0.size) (O0 : Old Z n0 h0) (G : Glob Z gz1 gv5) (P0 : Exa Z h0 x0 s1) (P1 : Fld Z h0 x0 s1 s4 "B" (.int 0)) (P2 : Fld Z h0 x0 s1 s5 "[B" (.ref x1)) (P3 : Arv Z h0 x1 kk0 .byte (16 : Int32) [.int 44, .int 32, .int 76, .int 97, .int 115, .int 116, .int 45, .int 77, .int 111, .int 100, .int 105, .int 102, .int 105, .int 101, .int 100, .int 32] (.int (0 : Int32))) :
    Ctr l Z ⟨s1, "length", "()I"⟩ jdk_42_method_54_code 1 (some .int) (rM 1 0 0 13) #[.ref x0] h0 (fun v h L => v = some (.int 16) ∧ Fr n0 L ∧ h = h0) := by
 refine Ctr.of (plainFor_of_name pn_c2) ?_
 intro p e s m below meth c T0 hx hZ hby hml hown hnm hret hlk e0 es X0
 refine Go.cast (ef_14_R m x0) ?_
 generalize hFF : EndN s _ _ _ = FF
 refine Go.aloadN X0 hx 1 rfl (hb hby d14_0) rfl rfl ?_
 refine Go.getF X0 hx hZ hown (host := "") (Or.inl (tw_32 hw)) Via.refl e0 P2 4 rfl (hb hby d14_1) ?_
 intro T1 e1 X1
 refine Go.arraylength X1 hx hZ e1 P3 5 rfl (hb hby d14_4) ?_
 refine Go.aloadN X1 hx 6 rfl (hb hby d14_5) rfl rfl ?_
 refine Go.callV X1 hx hZ hown (tw_86 hw) (tw_87 hw) (notFace_of_selects (args := #[]) (mvT hZ (tw_89 hw))) (tw_89 hw) (tw_88 hw) (by decide) (tw_90 hw) (tw_6 hw) (au_33 l Z a0 hw x0 gz1 gv5 h0 n0 Z0 O0 G P1) e1 P0 (argsL := []) (rest := [.int 16]) 9 rfl (hml ▸ rfl) (lenOf pd_9 rfl) rfl rfl (W := 1) (nE rfl) (by decide) (by decide) (by decide) (by decide) (hb hby d14_6) ?_
 intro v2 T2 L2 q2 X2
 obtain ⟨rfl, N2, e2⟩ := q2
 show Go _ _ _ _ (T2.setTop (mkF m 9 #[vR x0] [.int 0, .int 16]))
 refine Go.ishr X2 hx 10 rfl (hb hby d14_9) ?_
 rw [show ((16 : Int32) >>> ((0 : Int32) &&& 31)) = (16 : Int32) from by decide]
 subst hFF
 refine Go.retI X2 hx hlk hret (hb hby d14_10) (by decide) (by decide) ?_
 rw [e2]
 exact ⟨rfl, (Fr.app (Fr.nil n0) N2), rfl⟩
theorem d16_17 : decode jdk_68_method_9_code 17 = .ok (.aload_n 0, 1) := by decide +kernel
theorem d16_18 : decode jdk_68_method_9_code 18 = .ok (.aload_n 0, 1) := by decide +kernel
theorem d16_19 : decode jdk_68_method_9_code 19 = .ok (.getfield 15, 3) := by decide +kernel
theorem d16_22 : decode jdk_68_method_9_code 22 = .ok (.aload_n 0, 1) := by decide +kernel
theorem d16_23 : decode jdk_68_method_9_code 23 = .ok (.iload_n 1, 1) := by decide +kernel
theorem d20_0 : decode jdk_68_method_10_code 0 = .ok (.aload_n 0, 1) := by decide +kernel
theorem d20_1 : decode jdk_68_method_10_code 1 = .ok (.getfield 15, 3) := by decide +kernel
theorem d20_4 : decode jdk_68_method_10_code 4 = .ok (.arraylength, 1) := by decide +kernel
theorem d20_5 : decode jdk_68_method_10_code 5 = .ok (.istore_n 2, 1) := by decide +kernel
theorem d20_6 : decode jdk_68_method_10_code 6 = .ok (.iload_n 1, 1) := by decide +kernel
theorem d20_7 : decode jdk_68_method_10_code 7 = .ok (.aload_n 0, 1) := by decide +kernel
theorem d20_8 : decode jdk_68_method_10_code 8 = .ok (.getfield 22, 3) := by decide +kernel
theorem d20_11 : decode jdk_68_method_10_code 11 = .ok (.ishl, 1) := by decide +kernel
theorem d20_12 : decode jdk_68_method_10_code 12 = .ok (.istore_n 3, 1) := by decide +kernel
theorem d20_13 : decode jdk_68_method_10_code 13 = .ok (.iload_n 3, 1) := by decide +kernel
theorem d20_14 : decode jdk_68_method_10_code 14 = .ok (.iload_n 2, 1) := by decide +kernel
theorem d20_15 : decode jdk_68_method_10_code 15 = .ok (.isub, 1) := by decide +kernel
theorem d20_16 : decode jdk_68_method_10_code 16 = .ok (.istore 4, 2) := by decide +kernel
theorem d20_18 : decode jdk_68_method_10_code 18 = .ok (.iload_n 2, 1) := by decide +kernel
theorem d20_19 : decode jdk_68_method_10_code 19 = .ok (.iload 4, 2) := by decide +kernel
theorem d20_21 : decode jdk_68_method_10_code 21 = .ok (.iload_n 2, 1) := by decide +kernel
theorem d20_22 : decode jdk_68_method_10_code 22 = .ok (.iconst 2, 1) := by decide +kernel
theorem d20_23 : decode jdk_68_method_10_code 23 = .ok (.aload_n 0, 1) := by decide +kernel
theorem d20_24 : decode jdk_68_method_10_code 24 = .ok (.getfield 22, 3) := by decide +kernel
theorem d20_27 : decode jdk_68_method_10_code 27 = .ok (.ishl, 1) := by decide +kernel
theorem d20_28 : decode jdk_68_method_10_code 28 = .ok (.iadd, 1) := by decide +kernel
theorem d21_0 : decode jdk_48_method_27_code 0 = .ok (.iload_n 0, 1) := by decide +kernel
theorem d21_1 : decode jdk_48_method_27_code 1 = .ok (.iload_n 1, 1) := by decide +kernel
theorem d21_2 : decode jdk_48_method_27_code 2 = .ok (.iload_n 2, 1) := by decide +kernel
theorem d22_0 : decode jdk_29_method_65_code 0 = .ok (.iload_n 0, 1) := by decide +kernel
theorem d22_1 : decode jdk_29_method_65_code 1 = .ok (.iload_n 1, 1) := by decide +kernel
theorem d22_2 : decode jdk_29_method_65_code 2 = .ok (.if_icmp .lt 7, 3) := by decide +kernel
theorem d22_9 : decode jdk_29_method_65_code 9 = .ok (.iload_n 1, 1) := by decide +kernel
theorem d22_10 : decode jdk_29_method_65_code 10 = .ok (.ireturn, 1) := by decide +kernel
theorem ef_22_II (m : MethodId) (x0 : Int32) (x1 : Int32) : entryFrame m #[(.int x0), (.int x1)] 2 = mkF m 0 #[.val (.int x0), .val (.int x1)] [] := by first | (simp [entryFrame, mkF, argsToLocals, Value.category]; done) | rfl
theorem au_37 (l : Launch) (Z : State) (a0 : Array Value) (hw : HW a0 Z)  (h0 : Heap) (n0 : Nat) (Z0 : n0 ≤ h0.size) :
    Ctr l Z ⟨"java/lang/Math", "max", "(II)I"⟩ jdk_29_method_65_code 2 (some .int) (rM 0 0 0 0) #[.int 9, .int 18] h0 (fun v h L => v = some (.int 18) ∧ Fr n0 L ∧ h = h0) := by
 refine Ctr.of (Jvm.Free.JP.mathPlain rfl (by decide +kernel)) ?_
 intro p e s m below meth c T0 hx hZ hby hml hown hnm hret hlk e0 es X0
 refine Go.cast (ef_22_II m (9 : Int32) (18 : Int32)) ?_
 generalize hFF : EndN s _ _ _ = FF
 refine Go.iloadN X0 hx 1 rfl (hb hby d22_0) rfl ?_
 refine Go.iloadN X0 hx 2 rfl (hb hby d22_1) rfl ?_
 refine Go.icmpYes X0 hx 9 (hb hby d22_2) (by decide) (by decide) (by decide) ?_
 refine Go.iloadN X0 hx 10 rfl (hb hby d22_9) rfl ?_
 subst hFF
 refine Go.retI X0 hx hlk hret (hb hby d22_10) (by decide) (by decide) ?_
 rw [e0]
 exact ⟨rfl, (Fr.nil n0), rfl⟩
theorem pd_16 : parseMethodDescriptor "(II)I" = some ⟨[.int, .int], some .int⟩ := by decide +kernel
theorem d21_3 : decode jdk_48_method_27_code 3 = .ok (.invokestatic 194, 3) := by decide +kernel
theorem d21_6 : decode jdk_48_method_27_code 6 = .ok (.iadd, 1) := by decide +kernel
theorem d21_7 : decode jdk_48_method_27_code 7 = .ok (.istore_n 3, 1) := by decide +kernel
theorem d21_8 : decode jdk_48_method_27_code 8 = .ok (.iconst 0, 1) := by decide +kernel
theorem d21_9 : decode jdk_48_method_27_code 9 = .ok (.iload_n 3, 1) := by decide +kernel
theorem d21_10 : decode jdk_48_method_27_code 10 = .ok (.if_icmp .ge 11, 3) := by decide +kernel
theorem d21_13 : decode jdk_48_method_27_code 13 = .ok (.iload_n 3, 1) := by decide +kernel
theorem d21_14 : decode jdk_48_method_27_code 14 = .ok (.ldc 200, 2) := by decide +kernel
theorem d21_16 : decode jdk_48_method_27_code 16 = .ok (.if_icmp .gt 5, 3) := by decide +kernel
theorem d21_19 : decode jdk_48_method_27_code 19 = .ok (.iload_n 3, 1) := by decide +kernel
theorem d21_20 : decode jdk_48_method_27_code 20 = .ok (.ireturn, 1) := by decide +kernel
theorem ef_21_III (m : MethodId) (x0 : Int32) (x1 : Int32) (x2 : Int32) : entryFrame m #[(.int x0), (.int x1), (.int x2)] 4 = mkF m 0 #[.val (.int x0), .val (.int x1), .val (.int x2), .unset] [] := by first | (simp [entryFrame, mkF, argsToLocals, Value.category]; done) | rfl
theorem pn_c6 : plainName "jdk/internal/util/ArraysSupport" = true := by first | (simp [plainName, overriddenIn]; done) | decide +kernel
theorem au_36 (l : Launch) (Z : State) (a0 : Array Value) (hw : HW a0 Z)  (h0 : Heap) (n0 : Nat) (Z0 : n0 ≤ h0.size) :
    Ctr l Z ⟨"jdk/internal/util/ArraysSupport", "newLength", "(III)I"⟩ jdk_48_method_27_code 4 (some .int) (rM 1 0 0 14) #[.int 16, .int 9, .int 18] h0 (fun v h L => v = some (.int 34) ∧ Fr n0 L ∧ h = h0) := by
 refine Ctr.of (plainFor_of_name pn_c6) ?_
 intro p e s m below meth c T0 hx hZ hby hml hown hnm hret hlk e0 es X0
 refine Go.cast (ef_21_III m (16 : Int32) (9 : Int32) (18 : Int32)) ?_
 generalize hFF : EndN s _ _ _ = FF
 refine Go.iloadN X0 hx 1 rfl (hb hby d21_0) rfl ?_
 refine Go.iloadN X0 hx 2 rfl (hb hby d21_1) rfl ?_
 refine Go.iloadN X0 hx 3 rfl (hb hby d21_2) rfl ?_
 refine Go.callS X0 hx hZ hown (tw_128 hw) (tw_129 hw) (tw_130 hw) (tw_131 hw) (by decide) (tw_131 hw) (tw_130 hw) (au_37 l Z a0 hw h0 n0 Z0) e0 (argsL := [.int 9, .int 18]) (rest := [.int 16]) 6 rfl (hml ▸ rfl) (lenOf pd_16 rfl) rfl rfl (W := 1) (nE rfl) (by decide) (by decide) (by decide) (by decide) (hb hby d21_3) ?_
 intro v1 T1 L1 q1 X1
 obtain ⟨rfl, N1, e1⟩ := q1
 show Go _ _ _ _ (T1.setTop (mkF m 6 #[vI 16, vI 9, vI 18, uS] [.int 18, .int 16]))
 refine Go.iadd X1 hx 7 rfl (hb hby d21_6) ?_
 rw [show ((16 : Int32) + (18 : Int32)) = (34 : Int32) from by decide]
 refine Go.istoreN X1 hx 8 rfl (hb hby d21_7) (Ls' := #[vI 16, vI 9, vI 18, vI 34]) rfl ?_
 refine Go.iconst X1 hx 9 rfl (hb hby d21_8) (v := (0 : Int32)) rfl ?_
 refine Go.iloadN X1 hx 10 rfl (hb hby d21_9) rfl ?_
 refine Go.icmpNo X1 hx 13 rfl (hb hby d21_10) (by decide) ?_
 refine Go.iloadN X1 hx 14 rfl (hb hby d21_13) rfl ?_
 refine Go.ldcI X1 hx hZ hown (tw_132 hw) 16 rfl (hb hby d21_14) ?_
 refine Go.icmpNo X1 hx 19 rfl (hb hby d21_16) (by decide) ?_
 refine Go.iloadN X1 hx 20 rfl (hb hby d21_19) rfl ?_
 subst hFF
 refine Go.retI X1 hx hlk hret (hb hby d21_20) (by decide) (by decide) ?_
 rw [e1]
 exact ⟨rfl, (Fr.app (Fr.nil n0) N1), rfl⟩
theorem pd_17 : parseMethodDescriptor "(III)I" = some ⟨[.int, .int, .int], some .int⟩ := by decide +kernel
theorem d20_29 : decode jdk_68_method_10_code 29 = .ok (.invokestatic 114, 3) := by decide +kernel
theorem d20_32 : decode jdk_68_method_10_code 32 = .ok (.istore 5, 2) := by decide +kernel
theorem d20_34 : decode jdk_68_method_10_code 34 = .ok (.iload 5, 2) := by decide +kernel
theorem d20_36 : decode jdk_68_method_10_code 36 = .ok (.ldc 39, 2) := by decide +kernel
theorem d20_38 : decode jdk_68_method_10_code 38 = .ok (.if_icmp .ne 13, 3) := by decide +kernel
theorem d20_51 : decode jdk_68_method_10_code 51 = .ok (.iload 5, 2) := by decide +kernel
theorem d20_53 : decode jdk_68_method_10_code 53 = .ok (.aload_n 0, 1) := by decide +kernel
theorem d20_54 : decode jdk_68_method_10_code 54 = .ok (.getfield 22, 3) := by decide +kernel
theorem d20_57 : decode jdk_68_method_10_code 57 = .ok (.ishr, 1) := by decide +kernel
theorem d20_58 : decode jdk_68_method_10_code 58 = .ok (.ireturn, 1) := by decide +kernel
theorem ef_20_RI (m : MethodId) (x0 : Addr) (x1 : Int32) : entryFrame m #[(.ref x0), (.int x1)] 6 = mkF m 0 #[.val (.ref x0), .val (.int x1), .unset, .unset, .unset, .unset] [] := by first | (simp [entryFrame, mkF, argsToLocals, Value.category]; done) | rfl
theorem au_35 (l : Launch) (Z : State) (a0 : Array Value) (hw : HW a0 Z) (x0 x1 : Addr) (kk0 : ClassId) (p0 p1 p2 p3 : Int32) (h0 : Heap) (n0 : Nat) (Z0 : n0 ≤ h0.size) (P1 : Fld Z h0 x0 s0 s4 "B" (.int 0)) (P3 : Fld Z h0 x0 s0 s5 "[B" (.ref x1)) (P4 : Arv Z h0 x1 kk0 .byte (16 : Int32) [.int 69, .int 84, .int 97, .int 103, .int 32, .int p0, .int p1, .int p2, .int p3, .int 0, .int 0, .int 0, .int 0, .int 0, .int 0, .int 0] (.int 0)) :
    Ctr l Z ⟨s0, "newCapacity", "(I)I"⟩ jdk_68_method_10_code 6 (some .int) (rM 2 0 0 29) #[.ref x0, .int 25] h0 (fun v h L => v = some (.int 34) ∧ Fr n0 L ∧ h = h0) := by
 refine Ctr.of (plainFor_of_name pn_c4) ?_
 intro p e s m below meth c T0 hx hZ hby hml hown hnm hret hlk e0 es X0
 refine Go.cast (ef_20_RI m x0 (25 : Int32)) ?_
 generalize hFF : EndN s _ _ _ = FF
 refine Go.aloadN X0 hx 1 rfl (hb hby d20_0) rfl rfl ?_
 refine Go.getF X0 hx hZ hown (host := "") (Or.inl (tw_64 hw)) Via.refl e0 P3 4 rfl (hb hby d20_1) ?_
 intro T1 e1 X1
 refine Go.arraylength X1 hx hZ e1 P4 5 rfl (hb hby d20_4) ?_
 refine Go.istoreN X1 hx 6 rfl (hb hby d20_5) (Ls' := #[vR x0, vI 25, vI 16, uS, uS, uS]) rfl ?_
 refine Go.iloadN X1 hx 7 rfl (hb hby d20_6) rfl ?_
 refine Go.aloadN X1 hx 8 rfl (hb hby d20_7) rfl rfl ?_
 refine Go.getF X1 hx hZ hown (host := "") (Or.inl (tw_66 hw)) Via.refl e1 P1 11 rfl (hb hby d20_8) ?_
 intro T2 e2 X2
 refine Go.ishl X2 hx 12 rfl (hb hby d20_11) ?_
 rw [show ((25 : Int32) <<< ((0 : Int32) &&& 31)) = (25 : Int32) from by decide]
 refine Go.istoreN X2 hx 13 rfl (hb hby d20_12) (Ls' := #[vR x0, vI 25, vI 16, vI 25, uS, uS]) rfl ?_
 refine Go.iloadN X2 hx 14 rfl (hb hby d20_13) rfl ?_
 refine Go.iloadN X2 hx 15 rfl (hb hby d20_14) rfl ?_
 refine Go.isub X2 hx 16 rfl (hb hby d20_15) ?_
 rw [show ((25 : Int32) - (16 : Int32)) = (9 : Int32) from by decide]
 refine Go.istore X2 hx 18 rfl (hb hby d20_16) (Ls' := #[vR x0, vI 25, vI 16, vI 25, vI 9, uS]) rfl ?_
 refine Go.iloadN X2 hx 19 rfl (hb hby d20_18) rfl ?_
 refine Go.iload X2 hx 21 rfl (hb hby d20_19) rfl ?_
 refine Go.iloadN X2 hx 22 rfl (hb hby d20_21) rfl ?_
 refine Go.iconst X2 hx 23 rfl (hb hby d20_22) (v := (2 : Int32)) rfl ?_
 refine Go.aloadN X2 hx 24 rfl (hb hby d20_23) rfl rfl ?_
 refine Go.getF X2 hx hZ hown (host := "") (Or.inl (tw_66 hw)) Via.refl e2 P1 27 rfl (hb hby d20_24) ?_
 intro T3 e3 X3
 refine Go.ishl X3 hx 28 rfl (hb hby d20_27) ?_
 rw [show ((2 : Int32) <<< ((0 : Int32) &&& 31)) = (2 : Int32) from by decide]
 refine Go.iadd X3 hx 29 rfl (hb hby d20_28) ?_
 rw [show ((16 : Int32) + (2 : Int32)) = (18 : Int32) from by decide]
 refine Go.callS X3 hx hZ hown (tw_124 hw) (tw_125 hw) (tw_126 hw) (tw_127 hw) (by decide) (tw_127 hw) (tw_126 hw) (au_36 l Z a0 hw h0 n0 Z0) e3 (argsL := [.int 16, .int 9, .int 18]) (rest := []) 32 rfl (hml ▸ rfl) (lenOf pd_17 rfl) rfl rfl (W := 0) (nE rfl) (by decide) (by decide) (by decide) (by decide) (hb hby d20_29) ?_
 intro v4 T4 L4 q4 X4
 obtain ⟨rfl, N4, e4⟩ := q4
 show Go _ _ _ _ (T4.setTop (mkF m 32 #[vR x0, vI 25, vI 16, vI 25, vI 9, uS] [.int 34]))
 refine Go.istore X4 hx 34 rfl (hb hby d20_32) (Ls' := #[vR x0, vI 25, vI 16, vI 25, vI 9, vI 34]) rfl ?_
 refine Go.iload X4 hx 36 rfl (hb hby d20_34) rfl ?_
 refine Go.ldcI X4 hx hZ hown (tw_133 hw) 38 rfl (hb hby d20_36) ?_
 refine Go.icmpYes X4 hx 51 (hb hby d20_38) (by decide) (by decide) (by decide) ?_
 refine Go.iload X4 hx 53 rfl (hb hby d20_51) rfl ?_
 refine Go.aloadN X4 hx 54 rfl (hb hby d20_53) rfl rfl ?_
 refine Go.getF X4 hx hZ hown (host := "") (Or.inl (tw_66 hw)) Via.refl e4 P1 57 rfl (hb hby d20_54) ?_
 intro T5 e5 X5
 refine Go.ishr X5 hx 58 rfl (hb hby d20_57) ?_
 rw [show ((34 : Int32) >>> ((0 : Int32) &&& 31)) = (34 : Int32) from by decide]
 subst hFF
 refine Go.retI X5 hx hlk hret (hb hby d20_58) (by decide) (by decide) ?_
 rw [e5]
 exact ⟨rfl, (Fr.app (Fr.nil n0) N4), rfl⟩
theorem pd_18 : parseMethodDescriptor "(I)I" = some ⟨[.int], some .int⟩ := by decide +kernel
theorem d16_24 : decode jdk_68_method_9_code 24 = .ok (.invokevirtual 104, 3) := by decide +kernel
theorem d16_27 : decode jdk_68_method_9_code 27 = .ok (.aload_n 0, 1) := by decide +kernel
theorem d16_28 : decode jdk_68_method_9_code 28 = .ok (.getfield 22, 3) := by decide +kernel
theorem d16_31 : decode jdk_68_method_9_code 31 = .ok (.ishl, 1) := by decide +kernel
theorem d23_0 : decode jdk_65_method_121_code 0 = .ok (.iload_n 1, 1) := by decide +kernel
theorem d23_1 : decode jdk_65_method_121_code 1 = .ok (.aload_n 0, 1) := by decide +kernel
theorem d23_2 : decode jdk_65_method_121_code 2 = .ok (.arraylength, 1) := by decide +kernel
theorem d23_3 : decode jdk_65_method_121_code 3 = .ok (.if_icmp .ne 11, 3) := by decide +kernel
theorem d23_14 : decode jdk_65_method_121_code 14 = .ok (.iload_n 1, 1) := by decide +kernel
theorem d23_15 : decode jdk_65_method_121_code 15 = .ok (.newarray .byte, 2) := by decide +kernel
theorem d23_17 : decode jdk_65_method_121_code 17 = .ok (.astore_n 2, 1) := by decide +kernel
theorem d23_18 : decode jdk_65_method_121_code 18 = .ok (.aload_n 0, 1) := by decide +kernel
theorem d23_19 : decode jdk_65_method_121_code 19 = .ok (.iconst 0, 1) := by decide +kernel
theorem d23_20 : decode jdk_65_method_121_code 20 = .ok (.aload_n 2, 1) := by decide +kernel
theorem d23_21 : decode jdk_65_method_121_code 21 = .ok (.iconst 0, 1) := by decide +kernel
theorem d23_22 : decode jdk_65_method_121_code 22 = .ok (.aload_n 0, 1) := by decide +kernel
theorem d23_23 : decode jdk_65_method_121_code 23 = .ok (.arraylength, 1) := by decide +kernel
theorem d23_24 : decode jdk_65_method_121_code 24 = .ok (.iload_n 1, 1) := by decide +kernel
theorem d24_0 : decode jdk_29_method_69_code 0 = .ok (.iload_n 0, 1) := by decide +kernel
theorem d24_1 : decode jdk_29_method_69_code 1 = .ok (.iload_n 1, 1) := by decide +kernel
theorem d24_2 : decode jdk_29_method_69_code 2 = .ok (.if_icmp .gt 7, 3) := by decide +kernel
theorem d24_5 : decode jdk_29_method_69_code 5 = .ok (.iload_n 0, 1) := by decide +kernel
theorem d24_6 : decode jdk_29_method_69_code 6 = .ok (.goto 4, 3) := by decide +kernel
theorem d24_10 : decode jdk_29_method_69_code 10 = .ok (.ireturn, 1) := by decide +kernel
theorem ef_24_II (m : MethodId) (x0 : Int32) (x1 : Int32) : entryFrame m #[(.int x0), (.int x1)] 2 = mkF m 0 #[.val (.int x0), .val (.int x1)] [] := by first | (simp [entryFrame, mkF, argsToLocals, Value.category]; done) | rfl
theorem au_39 (l : Launch) (Z : State) (a0 : Array Value) (hw : HW a0 Z)  (h0 : Heap) (n0 : Nat) (Z0 : n0 ≤ h0.size) :
    Ctr l Z ⟨"java/lang/Math", "min", "(II)I"⟩ jdk_29_method_69_code 2 (some .int) (rM 0 0 0 0) #[.int 16, .int 34] h0 (fun v h L => v = some (.int 16) ∧ Fr n0 L ∧ h = h0) := by
 refine Ctr.of (Jvm.Free.JP.mathPlain rfl (by decide +kernel)) ?_
 intro p e s m below meth c T0 hx hZ hby hml hown hnm hret hlk e0 es X0
 refine Go.cast (ef_24_II m (16 : Int32) (34 : Int32)) ?_
 generalize hFF : EndN s _ _ _ = FF
 refine Go.iloadN X0 hx 1 rfl (hb hby d24_0) rfl ?_
 refine Go.iloadN X0 hx 2 rfl (hb hby d24_1) rfl ?_
 refine Go.icmpNo X0 hx 5 rfl (hb hby d24_2) (by decide) ?_
 refine Go.iloadN X0 hx 6 rfl (hb hby d24_5) rfl ?_
 refine Go.goto X0 hx 10 (hb hby d24_6) (by decide) (by decide) ?_
 subst hFF
 refine Go.retI X0 hx hlk hret (hb hby d24_10) (by decide) (by decide) ?_
 rw [e0]
 exact ⟨rfl, (Fr.nil n0), rfl⟩
theorem d23_25 : decode jdk_65_method_121_code 25 = .ok (.invokestatic 304, 3) := by decide +kernel
theorem d23_28 : decode jdk_65_method_121_code 28 = .ok (.invokestatic 150, 3) := by decide +kernel
theorem d23_31 : decode jdk_65_method_121_code 31 = .ok (.aload_n 2, 1) := by decide +kernel
theorem d23_32 : decode jdk_65_method_121_code 32 = .ok (.areturn, 1) := by decide +kernel
theorem ef_23_RI (m : MethodId) (x0 : Addr) (x1 : Int32) : entryFrame m #[(.ref x0), (.int x1)] 3 = mkF m 0 #[.val (.ref x0), .val (.int x1), .unset] [] := by first | (simp [entryFrame, mkF, argsToLocals, Value.category]; done) | rfl
theorem pn_c7 : plainName "java/util/Arrays" = true := by first | (simp [plainName, overriddenIn]; done) | decide +kernel
theorem au_38 (l : Launch) (Z : State) (a0 : Array Value) (hw : HW a0 Z) (x0 : Addr) (kk0 : ClassId) (p0 p1 p2 p3 : Int32) (h0 : Heap) (n0 : Nat) (Z0 : n0 ≤ h0.size) (P0 : Arv Z h0 x0 kk0 .byte (16 : Int32) [.int 69, .int 84, .int 97, .int 103, .int 32, .int p0, .int p1, .int p2, .int p3, .int 0, .int 0, .int 0, .int 0, .int 0, .int 0, .int 0] (.int 0)) :
    Ctr l Z ⟨"java/util/Arrays", "copyOf", "([BI)[B"⟩ jdk_65_method_121_code 3 (some (.array .byte)) (rM 1 1 34 18) #[.ref x0, .int 34] h0 (fun v h L => ∃ (y0 : Addr) (y1 : ClassId), v = some (.ref y0) ∧ Fr n0 L ∧ Keep h0 h [] ∧ h0.size ≤ y0 ∧ Arv Z h y0 y1 .byte (34 : Int32) [.int 69, .int 84, .int 97, .int 103, .int 32, .int p0, .int p1, .int p2, .int p3, .int 0, .int 0, .int 0, .int 0, .int 0, .int 0, .int 0, .int 0, .int 0, .int 0, .int 0, .int 0, .int 0, .int 0, .int 0, .int 0, .int 0, .int 0, .int 0, .int 0, .int 0, .int 0, .int 0, .int 0, .int 0] (.int 0) ∧ Exa Z h y0 "[B") := by
 refine Ctr.of (plainFor_of_name pn_c7) ?_
 intro p e s m below meth c T0 hx hZ hby hml hown hnm hret hlk e0 es X0
 refine Go.cast (ef_23_RI m x0 (34 : Int32)) ?_
 generalize hFF : EndN s _ _ _ = FF
 refine Go.iloadN X0 hx 1 rfl (hb hby d23_0) rfl ?_
 refine Go.aloadN X0 hx 2 rfl (hb hby d23_1) rfl rfl ?_
 refine Go.arraylength X0 hx hZ e0 P0 3 rfl (hb hby d23_2) ?_
 refine Go.icmpYes X0 hx 14 (hb hby d23_3) (by decide) (by decide) (by decide) ?_
 refine Go.iloadN X0 hx 15 rfl (hb hby d23_14) rfl ?_
 refine Go.newarray X0 hx hZ (ty := .byte) rfl (tw_23 hw) e0 (by decide) (cap := 34) (by decide) (by decide) (by decide) (by decide) (ad := "[B") (by decide) 34 17 rfl (hb hby d23_15) ?_
 intro T1 h1 b1 k1 e1 E1 g1 V1 A1 X1
 have V1' : Arv Z h1 b1 k1 .byte (34 : Int32) [.int 0, .int 0, .int 0, .int 0, .int 0, .int 0, .int 0, .int 0, .int 0, .int 0, .int 0, .int 0, .int 0, .int 0, .int 0, .int 0, .int 0, .int 0, .int 0, .int 0, .int 0, .int 0, .int 0, .int 0, .int 0, .int 0, .int 0, .int 0, .int 0, .int 0, .int 0, .int 0, .int 0, .int 0] (.int 0) := V1
 refine Go.astoreN X1 hx 18 rfl (hb hby d23_17) (Ls' := #[vR x0, vI 34, vR b1]) rfl rfl ?_
 refine Go.aloadN X1 hx 19 rfl (hb hby d23_18) rfl rfl ?_
 refine Go.iconst X1 hx 20 rfl (hb hby d23_19) (v := (0 : Int32)) rfl ?_
 refine Go.aloadN X1 hx 21 rfl (hb hby d23_20) rfl rfl ?_
 refine Go.iconst X1 hx 22 rfl (hb hby d23_21) (v := (0 : Int32)) rfl ?_
 refine Go.aloadN X1 hx 23 rfl (hb hby d23_22) rfl rfl ?_
 have fk2 := (P0.ext E1)
 refine Go.arraylength X1 hx hZ e1 fk2 24 rfl (hb hby d23_23) ?_
 refine Go.iloadN X1 hx 25 rfl (hb hby d23_24) rfl ?_
 have Kp4 := ((Keep.refl h0 []).ext E1)
 have Zn3 := Nat.le_trans Z0 Kp4.1
 refine Go.callS X1 hx hZ hown (tw_138 hw) (tw_139 hw) (tw_130 hw) (tw_140 hw) (by decide) (tw_140 hw) (tw_130 hw) (au_39 l Z a0 hw h1 n0 Zn3) e1 (argsL := [.int 16, .int 34]) (rest := [.int 0, .ref b1, .int 0, .ref x0]) 28 rfl (hml ▸ rfl) (lenOf pd_16 rfl) rfl rfl (W := 4) (nE rfl) (by decide) (by decide) (by decide) (by decide) (hb hby d23_25) ?_
 intro v5 T5 L5 q5 X5
 obtain ⟨rfl, N5, e5⟩ := q5
 show Go _ _ _ _ (T5.setTop (mkF m 28 #[vR x0, vI 34, vR b1] [.int 16, .int 0, .ref b1, .int 0, .ref x0]))
 have sz7 := Nat.le_trans (Keep.refl h0 []).1 (Nat.le_of_eq g1.symm)
 have ge6 := Nat.le_trans Z0 sz7
 refine Go.arraycopy X5 hx hZ hown (tw_141 hw) (tw_117 hw) (tw_115 hw) (tw_116 hw) e5 fk2 V1' rfl (sp := (0 : Int32)) (dp := (0 : Int32)) (nn := (16 : Int32)) (us := [.int 69, .int 84, .int 97, .int 103, .int 32, .int p0, .int p1, .int p2, .int p3, .int 0, .int 0, .int 0, .int 0, .int 0, .int 0, .int 0]) (by decide) (by decide) (by decide) (by decide) (by decide) rfl (nB rfl) (Fr.app (Fr.nil n0) N5) ge6 (by decide) (W := 0) (hml ▸ rfl) (nE rfl) (by decide) (pc' := 31) rfl (hb hby d23_28) ?_
 intro T8 h8 L8 e8 N8 K8 V8 X8
 have V8' : Arv Z h8 b1 k1 .byte (34 : Int32) [.int 69, .int 84, .int 97, .int 103, .int 32, .int p0, .int p1, .int p2, .int p3, .int 0, .int 0, .int 0, .int 0, .int 0, .int 0, .int 0, .int 0, .int 0, .int 0, .int 0, .int 0, .int 0, .int 0, .int 0, .int 0, .int 0, .int 0, .int 0, .int 0, .int 0, .int 0, .int 0, .int 0, .int 0] (.int 0) := V8
 refine Go.aloadN X8 hx 32 rfl (hb hby d23_31) rfl rfl ?_
 subst hFF
 refine Go.retR X8 hx hlk (t := (.array .byte)) hret rfl rfl (hb hby d23_32) (by decide) (by decide) ?_
 rw [e8]
 have fk9 := (A1.keep K8)
 have Kp10 := (Kp4.trans K8 (allS (Or.inr sz7) all0))
 exact ⟨b1, k1, rfl, N8, Kp10, sz7, V8', fk9⟩
theorem pd_19 : parseMethodDescriptor "([BI)[B" = some ⟨[(.array .byte), .int], some (.array .byte)⟩ := by decide +kernel
theorem d16_32 : decode jdk_68_method_9_code 32 = .ok (.invokestatic 108, 3) := by decide +kernel
theorem d16_35 : decode jdk_68_method_9_code 35 = .ok (.putfield 15, 3) := by decide +kernel
theorem au_34 (l : Launch) (Z : State) (a0 : Array Value) (hw : HW a0 Z) (x0 x1 : Addr) (kk0 : ClassId) (p0 p1 p2 p3 : Int32) (h0 : Heap) (n0 : Nat) (Z0 : n0 ≤ h0.size) (P0 : Exa Z h0 x0 s3) (P1 : Fld Z h0 x0 s0 s4 "B" (.int 0)) (P2 : Fld Z h0 x0 s0 "count" "I" (.int 9)) (P3 : Fld Z h0 x0 s0 s5 "[B" (.ref x1)) (P4 : Arv Z h0 x1 kk0 .byte (16 : Int32) [.int 69, .int 84, .int 97, .int 103, .int 32, .int p0, .int p1, .int p2, .int p3, .int 0, .int 0, .int 0, .int 0, .int 0, .int 0, .int 0] (.int 0)) (g_x0 : n0 ≤ x0) :
    Ctr l Z ⟨s0, "ensureCapacityInternal", "(I)V"⟩ jdk_68_method_9_code 3 none (rM 3 1 34 48) #[.ref x0, .int 25] h0 (fun v h L => ∃ (y0 : Addr) (y1 : ClassId), v = none ∧ Fr n0 L ∧ Keep h0 h [x0] ∧ h0.size ≤ y0 ∧ Exa Z h x0 s3 ∧ Fld Z h x0 s0 s4 "B" (.int 0) ∧ Fld Z h x0 s0 "count" "I" (.int 9) ∧ Fld Z h x0 s0 s5 "[B" (.ref y0) ∧ Arv Z h y0 y1 .byte (34 : Int32) [.int 69, .int 84, .int 97, .int 103, .int 32, .int p0, .int p1, .int p2, .int p3, .int 0, .int 0, .int 0, .int 0, .int 0, .int 0, .int 0, .int 0, .int 0, .int 0, .int 0, .int 0, .int 0, .int 0, .int 0, .int 0, .int 0, .int 0, .int 0, .int 0, .int 0, .int 0, .int 0, .int 0, .int 0] (.int 0) ∧ Exa Z h y0 "[B") := by
 refine Ctr.of (plainFor_of_name pn_c4) ?_
 intro p e s m below meth c T0 hx hZ hby hml hown hnm hret hlk e0 es X0
 refine Go.cast (ef_16_RI m x0 (25 : Int32)) ?_
 generalize hFF : EndN s _ _ _ = FF
 refine Go.aloadN X0 hx 1 rfl (hb hby d16_0) rfl rfl ?_
 refine Go.getF X0 hx hZ hown (host := "") (Or.inl (tw_64 hw)) Via.refl e0 P3 4 rfl (hb hby d16_1) ?_
 intro T1 e1 X1
 refine Go.arraylength X1 hx hZ e1 P4 5 rfl (hb hby d16_4) ?_
 refine Go.aloadN X1 hx 6 rfl (hb hby d16_5) rfl rfl ?_
 refine Go.getF X1 hx hZ hown (host := "") (Or.inl (tw_66 hw)) Via.refl e1 P1 9 rfl (hb hby d16_6) ?_
 intro T2 e2 X2
 refine Go.ishr X2 hx 10 rfl (hb hby d16_9) ?_
 rw [show ((16 : Int32) >>> ((0 : Int32) &&& 31)) = (16 : Int32) from by decide]
 refine Go.istoreN X2 hx 11 rfl (hb hby d16_10) (Ls' := #[vR x0, vI 25, vI 16]) rfl ?_
 refine Go.iloadN X2 hx 12 rfl (hb hby d16_11) rfl ?_
 refine Go.iloadN X2 hx 13 rfl (hb hby d16_12) rfl ?_
 refine Go.isub X2 hx 14 rfl (hb hby d16_13) ?_
 rw [show ((25 : Int32) - (16 : Int32)) = (9 : Int32) from by decide]
 refine Go.ifNo X2 hx 17 rfl (hb hby d16_14) (by decide) ?_
 refine Go.aloadN X2 hx 18 rfl (hb hby d16_17) rfl rfl ?_
 refine Go.aloadN X2 hx 19 rfl (hb hby d16_18) rfl rfl ?_
 refine Go.getF X2 hx hZ hown (host := "") (Or.inl (tw_64 hw)) Via.refl e2 P3 22 rfl (hb hby d16_19) ?_
 intro T3 e3 X3
 refine Go.aloadN X3 hx 23 rfl (hb hby d16_22) rfl rfl ?_
 refine Go.iloadN X3 hx 24 rfl (hb hby d16_23) rfl ?_
 refine Go.callP X3 hx hZ hown (tw_119 hw) (tw_120 hw) (tw_122 hw) (tw_121 hw) (tw_123 hw) (by decide) (tw_123 hw) (tw_60 hw) (au_35 l Z a0 hw x0 x1 kk0 p0 p1 p2 p3 h0 n0 Z0 P1 P3 P4) e3 P0 (argsL := [.int 25]) (rest := [.ref x1, .ref x0]) 27 rfl (hml ▸ rfl) (lenOf pd_18 rfl) rfl rfl (W := 2) (nE rfl) (by decide) (by decide) (by decide) (by decide) (hb hby d16_24) ?_
 intro v4 T4 L4 q4 X4
 obtain ⟨rfl, N4, e4⟩ := q4
 show Go _ _ _ _ (T4.setTop (mkF m 27 #[vR x0, vI 25, vI 16] [.int 34, .ref x1, .ref x0]))
 refine Go.aloadN X4 hx 28 rfl (hb hby d16_27) rfl rfl ?_
 refine Go.getF X4 hx hZ hown (host := "") (Or.inl (tw_66 hw)) Via.refl e4 P1 31 rfl (hb hby d16_28) ?_
 intro T5 e5 X5
 refine Go.ishl X5 hx 32 rfl (hb hby d16_31) ?_
 rw [show ((34 : Int32) <<< ((0 : Int32) &&& 31)) = (34 : Int32) from by decide]
 refine Go.callS X5 hx hZ hown (tw_134 hw) (tw_135 hw) (tw_136 hw) (tw_137 hw) (by decide) (tw_137 hw) (tw_136 hw) (au_38 l Z a0 hw x1 kk0 p0 p1 p2 p3 h0 n0 Z0 P4) e5 (argsL := [.ref x1, .int 34]) (rest := [.ref x0]) 35 rfl (hml ▸ rfl) (lenOf pd_19 rfl) rfl rfl (W := 1) (nE rfl) (by decide) (by decide) (by decide) (by decide) (hb hby d16_32) ?_
 intro v6 T6 L6 q6 X6
 obtain ⟨h6, e6⟩ : ∃ z, T6.heap = z := ⟨_, rfl⟩
 rw [e6] at q6
 obtain ⟨b6_0, k6_0, rfl, N6, K6, s6_0, F6_0, F6_1⟩ := q6
 show Go _ _ _ _ (T6.setTop (mkF m 35 #[vR x0, vI 25, vI 16] [.ref b6_0, .ref x0]))
 have fk7 := (P3.keep K6 nin0)
 have fk8 := (P0.keep K6)
 refine Go.putF X6 hx hZ hown (host := "") (Or.inl (tw_64 hw)) Via.refl e6 fk7 fk8 (Or.inl (tw_65 hw)) (tw_51 hw) (ty := (.array .byte)) (by decide) rfl rfl 38 rfl (hb hby d16_35) ?_
 intro T9 h9 e9 W9 F9 X9
 have N9 := Fr.snoc X9 (Fr.app (Fr.app (Fr.nil n0) N4) N6) g_x0
 subst hFF
 refine Go.ret0 X9 hx hlk hret (hb hby d16_38) (by decide) (by decide) ?_
 rw [e9]
 have fk10 := (fk8.wr W9)
 have fk11 := ((P1.keep K6 nin0).other W9 (Or.inr (slot_ne (Or.inl (tw_67 hw)) (Or.inl (tw_65 hw)) (by decide) (t := .byte) (t' := (.array .byte)) (by decide) (by decide))))
 have fk12 := ((P2.keep K6 nin0).other W9 (Or.inr (slot_ne (Or.inl (tw_92 hw)) (Or.inl (tw_65 hw)) (by decide) (t := .int) (t' := (.array .byte)) (by decide) (by decide))))
 have ne13 := Nat.ne_of_lt (Nat.lt_of_lt_of_le P0.lt s6_0)
 have fk14 := (F6_0.other W9 (Ne.symm ne13))
 have fk15 := (F6_1.wr W9)
 have Kp16 := ((Keep.refl h0 [x0]).trans K6 all0)
 have Kp17 := (Kp16.wr W9 (Or.inl (mG 0 rfl)))
 have sz18 := Nat.le_trans (Keep.refl h0 [x0]).1 s6_0
 exact ⟨b6_0, k6_0, rfl, N9, Kp17, sz18, fk10, fk11, fk12, F9, fk14, fk15⟩
theorem au_41 (l : Launch) (Z : State) (a0 : Array Value) (hw : HW a0 Z) (x0 x1 : Addr) (gz1 : Int32) (gv5 : Value) (h0 : Heap) (n0 : Nat) (Z0 : n0 ≤ h0.size) (O0 : Old Z n0 h0) (G : Glob Z gz1 gv5) (P1 : Fld Z h0 x0 s0 s4 "B" (.int 0)) (P4 : Exa Z h0 x1 s1) (P5 : Fld Z h0 x1 s1 s4 "B" (.int 0)) :
    Ctr l Z ⟨s0, "inflateIfNeededFor", "(Ljava/lang/String;)V"⟩ jdk_68_method_71_code 2 none (rM 1 0 0 13) #[.ref x0, .ref x1] h0 (fun v h L => v = none ∧ Fr n0 L ∧ h = h0) := by
 refine Ctr.of (plainFor_of_name pn_c4) ?_
 intro p e s m below meth c T0 hx hZ hby hml hown hnm hret hlk e0 es X0
 have G' := G
 obtain ⟨G0, -, G2, -⟩ := G'
 refine Go.cast (ef_18_RR m x0 x1) ?_
 generalize hFF : EndN s _ _ _ = FF
 have fk1 := G0.ext O0.2
 refine Go.getS X0 hx hZ hown (host := "") (Or.inl (tw_63 hw)) Via.refl e0 fk1 3 rfl (hb hby d18_0) ?_
 intro T2 e2 X2
 refine Go.ifNo X2 hx 6 rfl (hb hby d18_3) (feq G2).1 ?_
 refine Go.aloadN X2 hx 7 rfl (hb hby d18_6) rfl rfl ?_
 refine Go.getF X2 hx hZ hown (host := "") (Or.inl (tw_66 hw)) Via.refl e2 P1 10 rfl (hb hby d18_7) ?_
 intro T3 e3 X3
 refine Go.aloadN X3 hx 11 rfl (hb hby d18_10) rfl rfl ?_
 refine Go.callV X3 hx hZ hown (tw_108 hw) (tw_87 hw) (notFace_of_selects (args := #[]) (mvT hZ (tw_89 hw))) (tw_89 hw) (tw_88 hw) (by decide) (tw_90 hw) (tw_6 hw) (au_33 l Z a0 hw x1 gz1 gv5 h0 n0 Z0 O0 G P5) e3 P4 (argsL := []) (rest := [.int 0]) 14 rfl (hml ▸ rfl) (lenOf pd_9 rfl) rfl rfl (W := 1) (nE rfl) (by decide) (by decide) (by decide) (by decide) (hb hby d18_11) ?_
 intro v4 T4 L4 q4 X4
 obtain ⟨rfl, N4, e4⟩ := q4
 show Go _ _ _ _ (T4.setTop (mkF m 14 #[vR x0, vR x1] [.int 0, .int 0]))
 refine Go.icmpYes X4 hx 21 (hb hby d18_14) (by decide) (by decide) (by decide) ?_
 subst hFF
 refine Go.ret0 X4 hx hlk hret (hb hby d18_21) (by decide) (by decide) ?_
 rw [e4]
 exact ⟨rfl, (Fr.app (Fr.nil n0) N4), rfl⟩
theorem au_42 (l : Launch) (Z : State) (a0 : Array Value) (hw : HW a0 Z) (x0 x1 x2 : Addr) (kk0 : ClassId) (p0 p1 p2 p3 : Int32) (kk1 : ClassId) (gz1 : Int32) (gv5 : Value) (h0 : Heap) (n0 : Nat) (Z0 : n0 ≤ h0.size) (O0 : Old Z n0 h0) (G : Glob Z gz1 gv5) (P0 : Exa Z h0 x0 s1) (P1 : Fld Z h0 x0 s1 s4 "B" (.int 0)) (P2 : Fld Z h0 x0 s1 s5 "[B" (.ref x2)) (P3 : Arv Z h0 x1 kk0 .byte (34 : Int32) [.int 69, .int 84, .int 97, .int 103, .int 32, .int p0, .int p1, .int p2, .int p3, .int 0, .int 0, .int 0, .int 0, .int 0, .int 0, .int 0, .int 0, .int 0, .int 0, .int 0, .int 0, .int 0, .int 0, .int 0, .int 0, .int 0, .int 0, .int 0, .int 0, .int 0, .int 0, .int 0, .int 0, .int 0] (.int 0)) (P4 : Exa Z h0 x1 "[B") (P5 : Arv Z h0 x2 kk1 .byte (16 : Int32) [.int 44, .int 32, .int 76, .int 97, .int 115, .int 116, .int 45, .int 77, .int 111, .int 100, .int 105, .int 102, .int 105, .int 101, .int 100, .int 32] (.int (0 : Int32))) (g_x1 : n0 ≤ x1) :
    Ctr l Z ⟨s1, "getBytes", "([BIB)V"⟩ jdk_42_method_147_code 4 none (rM 1 0 0 18) #[.ref x0, .ref x1, .int 9, .int 0] h0 (fun v h L => v = none ∧ Fr n0 L ∧ Keep h0 h [x1] ∧ Arv Z h x1 kk0 .byte (34 : Int32) [.int 69, .int 84, .int 97, .int 103, .int 32, .int p0, .int p1, .int p2, .int p3, .int 44, .int 32, .int 76, .int 97, .int 115, .int 116, .int 45, .int 77, .int 111, .int 100, .int 105, .int 102, .int 105, .int 101, .int 100, .int 32, .int 0, .int 0, .int 0, .int 0, .int 0, .int 0, .int 0, .int 0, .int 0] (.int 0) ∧ Exa Z h x1 "[B") := by
 refine Ctr.of (plainFor_of_name pn_c2) ?_
 intro p e s m below meth c T0 hx hZ hby hml hown hnm hret hlk e0 es X0
 refine Go.cast (ef_19_RRII m x0 x1 (9 : Int32) (0 : Int32)) ?_
 generalize hFF : EndN s _ _ _ = FF
 refine Go.aloadN X0 hx 1 rfl (hb hby d19_0) rfl rfl ?_
 refine Go.callV X0 hx hZ hown (tw_86 hw) (tw_87 hw) (notFace_of_selects (args := #[]) (mvT hZ (tw_89 hw))) (tw_89 hw) (tw_88 hw) (by decide) (tw_90 hw) (tw_6 hw) (au_33 l Z a0 hw x0 gz1 gv5 h0 n0 Z0 O0 G P1) e0 P0 (argsL := []) (rest := []) 4 rfl (hml ▸ rfl) (lenOf pd_9 rfl) rfl rfl (W := 0) (nE rfl) (by decide) (by decide) (by decide) (by decide) (hb hby d19_1) ?_
 intro v1 T1 L1 q1 X1
 obtain ⟨rfl, N1, e1⟩ := q1
 show Go _ _ _ _ (T1.setTop (mkF m 4 #[vR x0, vR x1, vI 9, vI 0] [.int 0]))
 refine Go.iloadN X1 hx 5 rfl (hb hby d19_4) rfl ?_
 refine Go.icmpNo X1 hx 8 rfl (hb hby d19_5) (by decide) ?_
 refine Go.aloadN X1 hx 9 rfl (hb hby d19_8) rfl rfl ?_
 refine Go.getF X1 hx hZ hown (host := "") (Or.inl (tw_32 hw)) Via.refl e1 P2 12 rfl (hb hby d19_9) ?_
 intro T2 e2 X2
 refine Go.iconst X2 hx 13 rfl (hb hby d19_12) (v := (0 : Int32)) rfl ?_
 refine Go.aloadN X2 hx 14 rfl (hb hby d19_13) rfl rfl ?_
 refine Go.iloadN X2 hx 15 rfl (hb hby d19_14) rfl ?_
 refine Go.iloadN X2 hx 16 rfl (hb hby d19_15) rfl ?_
 refine Go.ishl X2 hx 17 rfl (hb hby d19_16) ?_
 rw [show ((9 : Int32) <<< ((0 : Int32) &&& 31)) = (9 : Int32) from by decide]
 refine Go.aloadN X2 hx 18 rfl (hb hby d19_17) rfl rfl ?_
 refine Go.getF X2 hx hZ hown (host := "") (Or.inl (tw_32 hw)) Via.refl e2 P2 21 rfl (hb hby d19_18) ?_
 intro T3 e3 X3
 refine Go.arraylength X3 hx hZ e3 P5 22 rfl (hb hby d19_21) ?_
 refine Go.arraycopy X3 hx hZ hown (tw_114 hw) (tw_117 hw) (tw_115 hw) (tw_116 hw) e3 P5 P3 rfl (sp := (0 : Int32)) (dp := (9 : Int32)) (nn := (16 : Int32)) (us := [.int 44, .int 32, .int 76, .int 97, .int 115, .int 116, .int 45, .int 77, .int 111, .int 100, .int 105, .int 102, .int 105, .int 101, .int 100, .int 32]) (by decide) (by decide) (by decide) (by decide) (by decide) rfl (nB rfl) (Fr.app (Fr.nil n0) N1) g_x1 (by decide) (W := 0) (hml ▸ rfl) (nE rfl) (by decide) (pc' := 25) rfl (hb hby d19_22) ?_
 intro T4 h4 L4 e4 N4 K4 V4 X4
 have V4' : Arv Z h4 x1 kk0 .byte (34 : Int32) [.int 69, .int 84, .int 97, .int 103, .int 32, .int p0, .int p1, .int p2, .int p3, .int 44, .int 32, .int 76, .int 97, .int 115, .int 116, .int 45, .int 77, .int 111, .int 100, .int 105, .int 102, .int 105, .int 101, .int 100, .int 32, .int 0, .int 0, .int 0, .int 0, .int 0, .int 0, .int 0, .int 0, .int 0] (.int 0) := V4
 refine Go.goto X4 hx 43 (hb hby d19_25) (by decide) (by decide) ?_
 subst hFF
 refine Go.ret0 X4 hx hlk hret (hb hby d19_43) (by decide) (by decide) ?_
 rw [e4]
 have fk5 := (P4.keep K4)
 have Kp6 := ((Keep.refl h0 [x1]).trans K4 (allS (Or.inl (mG 0 rfl)) all0))
 exact ⟨rfl, N4, Kp6, V4', fk5⟩
theorem au_40 (l : Launch) (Z : State) (a0 : Array Value) (hw : HW a0 Z) (x0 x1 x2 x3 : Addr) (kk0 : ClassId) (p0 p1 p2 p3 : Int32) (kk1 : ClassId) (gz1 : Int32) (gv5 : Value) (h0 : Heap) (n0 : Nat) (Z0 : n0 ≤ h0.size) (O0 : Old Z n0 h0) (G : Glob Z gz1 gv5) (P0 : Exa Z h0 x0 s3) (P1 : Fld Z h0 x0 s0 s4 "B" (.int 0)) (P3 : Fld Z h0 x0 s0 s5 "[B" (.ref x2)) (P4 : Exa Z h0 x1 s1) (P5 : Fld Z h0 x1 s1 s4 "B" (.int 0)) (P6 : Fld Z h0 x1 s1 s5 "[B" (.ref x3)) (P7 : Arv Z h0 x2 kk0 .byte (34 : Int32) [.int 69, .int 84, .int 97, .int 103, .int 32, .int p0, .int p1, .int p2, .int p3, .int 0, .int 0, .int 0, .int 0, .int 0, .int 0, .int 0, .int 0, .int 0, .int 0, .int 0, .int 0, .int 0, .int 0, .int 0, .int 0, .int 0, .int 0, .int 0, .int 0, .int 0, .int 0, .int 0, .int 0, .int 0] (.int 0)) (P8 : Exa Z h0 x2 "[B") (P9 : Arv Z h0 x3 kk1 .byte (16 : Int32) [.int 44, .int 32, .int 76, .int 97, .int 115, .int 116, .int 45, .int 77, .int 111, .int 100, .int 105, .int 102, .int 105, .int 101, .int 100, .int 32] (.int (0 : Int32))) (g_x2 : n0 ≤ x2) :
    Ctr l Z ⟨s0, "putStringAt", "(ILjava/lang/String;)V"⟩ jdk_68_method_73_code 3 none (rM 2 0 0 33) #[.ref x0, .int 9, .ref x1] h0 (fun v h L => v = none ∧ Fr n0 L ∧ Keep h0 h [x2] ∧ Arv Z h x2 kk0 .byte (34 : Int32) [.int 69, .int 84, .int 97, .int 103, .int 32, .int p0, .int p1, .int p2, .int p3, .int 44, .int 32, .int 76, .int 97, .int 115, .int 116, .int 45, .int 77, .int 111, .int 100, .int 105, .int 102, .int 105, .int 101, .int 100, .int 32, .int 0, .int 0, .int 0, .int 0, .int 0, .int 0, .int 0, .int 0, .int 0] (.int 0) ∧ Exa Z h x2 "[B") := by
 refine Ctr.of (plainFor_of_name pn_c4) ?_
 intro p e s m below meth c T0 hx hZ hby hml hown hnm hret hlk e0 es X0
 refine Go.cast (ef_17_RIR m x0 (9 : Int32) x1) ?_
 generalize hFF : EndN s _ _ _ = FF
 refine Go.aloadN X0 hx 1 rfl (hb hby d17_0) rfl rfl ?_
 refine Go.aloadN X0 hx 2 rfl (hb hby d17_1) rfl rfl ?_
 refine Go.callP X0 hx hZ hown (tw_103 hw) (tw_104 hw) (tw_106 hw) (tw_105 hw) (tw_107 hw) (by decide) (tw_107 hw) (tw_60 hw) (au_41 l Z a0 hw x0 x1 gz1 gv5 h0 n0 Z0 O0 G P1 P4 P5) e0 P0 (argsL := [.ref x1]) (rest := []) 5 rfl (hml ▸ rfl) (lenOf pd_11 rfl) rfl rfl (W := 0) (nE rfl) (by decide) (by decide) (by decide) (by decide) (hb hby d17_2) ?_
 intro v1 T1 L1 q1 X1
 obtain ⟨rfl, N1, e1⟩ := q1
 show Go _ _ _ _ (T1.setTop (mkF m 5 #[vR x0, vI 9, vR x1] []))
 refine Go.aloadN X1 hx 6 rfl (hb hby d17_5) rfl rfl ?_
 refine Go.aloadN X1 hx 7 rfl (hb hby d17_6) rfl rfl ?_
 refine Go.getF X1 hx hZ hown (host := "") (Or.inl (tw_64 hw)) Via.refl e1 P3 10 rfl (hb hby d17_7) ?_
 intro T2 e2 X2
 refine Go.iloadN X2 hx 11 rfl (hb hby d17_10) rfl ?_
 refine Go.aloadN X2 hx 12 rfl (hb hby d17_11) rfl rfl ?_
 refine Go.getF X2 hx hZ hown (host := "") (Or.inl (tw_66 hw)) Via.refl e2 P1 15 rfl (hb hby d17_12) ?_
 intro T3 e3 X3
 refine Go.callV X3 hx hZ hown (tw_109 hw) (tw_110 hw) (notFace_of_selects (args := #[]) (mvT hZ (tw_112 hw))) (tw_112 hw) (tw_111 hw) (by decide) (tw_113 hw) (tw_6 hw) (au_42 l Z a0 hw x1 x2 x3 kk0 p0 p1 p2 p3 kk1 gz1 gv5 h0 n0 Z0 O0 G P4 P5 P6 P7 P8 P9 g_x2) e3 P4 (argsL := [.ref x2, .int 9, .int 0]) (rest := []) 18 rfl (hml ▸ rfl) (lenOf pd_12 rfl) rfl rfl (W := 0) (nE rfl) (by decide) (by decide) (by decide) (by decide) (hb hby d17_15) ?_
 intro v4 T4 L4 q4 X4
 obtain ⟨h4, e4⟩ : ∃ z, T4.heap = z := ⟨_, rfl⟩
 rw [e4] at q4
 obtain ⟨rfl, N4, K4, F4_0, F4_1⟩ := q4
 show Go _ _ _ _ (T4.setTop (mkF m 18 #[vR x0, vI 9, vR x1] []))
 subst hFF
 refine Go.ret0 X4 hx hlk hret (hb hby d17_18) (by decide) (by decide) ?_
 rw [e4]
 have Kp5 := ((Keep.refl h0 [x2]).trans K4 (allS (Or.inl (mG 0 rfl)) all0))
 exact ⟨rfl, (Fr.app (Fr.app (Fr.nil n0) N1) N4), Kp5, F4_0, F4_1⟩
theorem au_31 (l : Launch) (Z : State) (a0 : Array Value) (hw : HW a0 Z) (x0 x1 x2 x3 : Addr) (kk0 : ClassId) (p0 p1 p2 p3 : Int32) (kk1 : ClassId) (gz1 : Int32) (gv5 : Value) (h0 : Heap) (n0 : Nat) (Z0 : n0 ≤ h0.size) (O0 : Old Z n0 h0) (G : Glob Z gz1 gv5) (P0 : Exa Z h0 x0 s3) (P1 : Fld Z h0 x0 s0 s4 "B" (.int 0)) (P2 : Fld Z h0 x0 s0 "count" "I" (.int 9)) (P3 : Fld Z h0 x0 s0 s5 "[B" (.ref x2)) (P4 : Exa Z h0 x1 s1) (P5 : Fld Z h0 x1 s1 s4 "B" (.int 0)) (P6 : Fld Z h0 x1 s1 s5 "[B" (.ref x3)) (P7 : Arv Z h0 x2 kk0 .byte (16 : Int32) [.int 69, .int 84, .int 97, .int 103, .int 32, .int p0, .int p1, .int p2, .int p3, .int 0, .int 0, .int 0, .int 0, .int 0, .int 0, .int 0] (.int 0)) (P9 : Arv Z h0 x3 kk1 .byte (16 : Int32) [.int 44, .int 32, .int 76, .int 97, .int 115, .int 116, .int 45, .int 77, .int 111, .int 100, .int 105, .int 102, .int 105, .int 101, .int 100, .int 32] (.int (0 : Int32))) (g_x0 : n0 ≤ x0) (ne_x1_x0 : x1 ≠ x0) (ne_x3_x0 : x3 ≠ x0) :
    Ctr l Z ⟨s0, "append", "(Ljava/lang/String;)Ljava/lang/AbstractStringBuilder;"⟩ jdk_68_method_22_code 3 (some (.object s0)) (rM 4 1 34 62) #[.ref x0, .ref x1] h0 (fun v h L => ∃ (y0 : Addr) (y1 : ClassId), v = some (.ref x0) ∧ Fr n0 L ∧ Keep h0 h [x0] ∧ h0.size ≤ y0 ∧ Exa Z h x0 s3 ∧ Fld Z h x0 s0 s4 "B" (.int 0) ∧ Fld Z h x0 s0 "count" "I" (.int 25) ∧ Fld Z h x0 s0 s5 "[B" (.ref y0) ∧ Arv Z h y0 y1 .byte (34 : Int32) [.int 69, .int 84, .int 97, .int 103, .int 32, .int p0, .int p1, .int p2, .int p3, .int 44, .int 32, .int 76, .int 97, .int 115, .int 116, .int 45, .int 77, .int 111, .int 100, .int 105, .int 102, .int 105, .int 101, .int 100, .int 32, .int 0, .int 0, .int 0, .int 0, .int 0, .int 0, .int 0, .int 0, .int 0] (.int 0) ∧ Exa Z h y0 "[B") := by
 refine Ctr.of (plainFor_of_name pn_c4) ?_
 intro p e s m below meth c T0 hx hZ hby hml hown hnm hret hlk e0 es X0
 refine Go.cast (ef_13_RR m x0 x1) ?_
 generalize hFF : EndN s _ _ _ = FF
 refine Go.aloadN X0 hx 1 rfl (hb hby d13_0) rfl rfl ?_
 refine Go.ifnonnullYes X0 hx 9 (hb hby d13_1) (by decide) (by decide) ?_
 refine Go.aloadN X0 hx 10 rfl (hb hby d13_9) rfl rfl ?_
 refine Go.callV X0 hx hZ hown (tw_81 hw) (tw_82 hw) (notFace_of_selects (args := #[]) (mvT hZ (tw_84 hw))) (tw_84 hw) (tw_83 hw) (by decide) (tw_85 hw) (tw_6 hw) (au_32 l Z a0 hw x1 x3 kk1 gz1 gv5 h0 n0 Z0 O0 G P4 P5 P6 P9) e0 P4 (argsL := []) (rest := []) 13 rfl (hml ▸ rfl) (lenOf pd_10 rfl) rfl rfl (W := 0) (nE rfl) (by decide) (by decide) (by decide) (by decide) (hb hby d13_10) ?_
 intro v1 T1 L1 q1 X1
 obtain ⟨rfl, N1, e1⟩ := q1
 show Go _ _ _ _ (T1.setTop (mkF m 13 #[vR x0, vR x1, uS] [.int 16]))
 refine Go.istoreN X1 hx 14 rfl (hb hby d13_13) (Ls' := #[vR x0, vR x1, vI 16]) rfl ?_
 refine Go.aloadN X1 hx 15 rfl (hb hby d13_14) rfl rfl ?_
 refine Go.aloadN X1 hx 16 rfl (hb hby d13_15) rfl rfl ?_
 refine Go.getF X1 hx hZ hown (host := "") (Or.inl (tw_91 hw)) Via.refl e1 P2 19 rfl (hb hby d13_16) ?_
 intro T2 e2 X2
 refine Go.iloadN X2 hx 20 rfl (hb hby d13_19) rfl ?_
 refine Go.iadd X2 hx 21 rfl (hb hby d13_20) ?_
 rw [show ((9 : Int32) + (16 : Int32)) = (25 : Int32) from by decide]
 refine Go.callP X2 hx hZ hown (tw_93 hw) (tw_94 hw) (tw_96 hw) (tw_95 hw) (tw_97 hw) (by decide) (tw_97 hw) (tw_60 hw) (au_34 l Z a0 hw x0 x2 kk0 p0 p1 p2 p3 h0 n0 Z0 P0 P1 P2 P3 P7 g_x0) e2 P0 (argsL := [.int 25]) (rest := []) 24 rfl (hml ▸ rfl) (lenOf pd_7 rfl) rfl rfl (W := 0) (nE rfl) (by decide) (by decide) (by decide) (by decide) (hb hby d13_21) ?_
 intro v3 T3 L3 q3 X3
 obtain ⟨h3, e3⟩ : ∃ z, T3.heap = z := ⟨_, rfl⟩
 rw [e3] at q3
 obtain ⟨b3_0, k3_0, rfl, N3, K3, s3_0, F3_0, F3_1, F3_2, F3_3, F3_4, F3_5⟩ := q3
 show Go _ _ _ _ (T3.setTop (mkF m 24 #[vR x0, vR x1, vI 16] []))
 refine Go.aloadN X3 hx 25 rfl (hb hby d13_24) rfl rfl ?_
 refine Go.aloadN X3 hx 26 rfl (hb hby d13_25) rfl rfl ?_
 refine Go.getF X3 hx hZ hown (host := "") (Or.inl (tw_91 hw)) Via.refl e3 F3_2 29 rfl (hb hby d13_26) ?_
 intro T4 e4 X4
 refine Go.aloadN X4 hx 30 rfl (hb hby d13_29) rfl rfl ?_
 have Kp6 := ((Keep.refl h0 [x0]).trans K3 (allS (Or.inl (mG 0 rfl)) all0))
 have Zn5 := Nat.le_trans Z0 Kp6.1
 have O7 := (O0.keep K3 (allS g_x0 all0))
 have fk8 := (P4.keep K3)
 have fk9 := (P5.keep K3 (ninS ne_x1_x0 nin0))
 have fk10 := (P6.keep K3 (ninS ne_x1_x0 nin0))
 have fk11 := (P9.keep K3 (ninS ne_x3_x0 nin0))
 have sz13 := Nat.le_trans (Keep.refl h0 [x0]).1 s3_0
 have ge12 := Nat.le_trans Z0 sz13
 refine Go.callP X4 hx hZ hown (tw_98 hw) (tw_99 hw) (tw_101 hw) (tw_100 hw) (tw_102 hw) (by decide) (tw_102 hw) (tw_60 hw) (au_40 l Z a0 hw x0 x1 b3_0 x3 k3_0 p0 p1 p2 p3 kk1 gz1 gv5 h3 n0 Zn5 O7 G F3_0 F3_1 F3_3 fk8 fk9 fk10 F3_4 F3_5 fk11 ge12) e4 F3_0 (argsL := [.int 9, .ref x1]) (rest := []) 33 rfl (hml ▸ rfl) (lenOf pd_13 rfl) rfl rfl (W := 0) (nE rfl) (by decide) (by decide) (by decide) (by decide) (hb hby d13_30) ?_
 intro v14 T14 L14 q14 X14
 obtain ⟨h14, e14⟩ : ∃ z, T14.heap = z := ⟨_, rfl⟩
 rw [e14] at q14
 obtain ⟨rfl, N14, K14, F14_0, F14_1⟩ := q14
 show Go _ _ _ _ (T14.setTop (mkF m 33 #[vR x0, vR x1, vI 16] []))
 refine Go.aloadN X14 hx 34 rfl (hb hby d13_33) rfl rfl ?_
 refine Go.dup X14 hx 35 rfl (hb hby d13_34) rfl ?_
 have ne15 := Nat.ne_of_lt (Nat.lt_of_lt_of_le P0.lt s3_0)
 have fk16 := (F3_2.keep K14 (ninS ne15 nin0))
 refine Go.getF X14 hx hZ hown (host := "") (Or.inl (tw_91 hw)) Via.refl e14 fk16 38 rfl (hb hby d13_35) ?_
 intro T17 e17 X17
 refine Go.iloadN X17 hx 39 rfl (hb hby d13_38) rfl ?_
 refine Go.iadd X17 hx 40 rfl (hb hby d13_39) ?_
 rw [show ((9 : Int32) + (16 : Int32)) = (25 : Int32) from by decide]
 have fk18 := (F3_0.keep K14)
 refine Go.putF X17 hx hZ hown (host := "") (Or.inl (tw_91 hw)) Via.refl e17 fk16 fk18 (Or.inl (tw_92 hw)) (tw_51 hw) (ty := .int) (by decide) rfl rfl 43 rfl (hb hby d13_40) ?_
 intro T19 h19 e19 W19 F19 X19
 have N19 := Fr.snoc X19 (Fr.app (Fr.app (Fr.app (Fr.nil n0) N1) N3) N14) g_x0
 refine Go.aloadN X19 hx 44 rfl (hb hby d13_43) rfl rfl ?_
 subst hFF
 refine Go.retR X19 hx hlk (t := (.object s0)) hret rfl rfl (hb hby d13_44) (by decide) (by decide) ?_
 rw [e19]
 have fk20 := (fk18.wr W19)
 have fk21 := ((F3_1.keep K14 (ninS ne15 nin0)).other W19 (Or.inr (slot_ne (Or.inl (tw_67 hw)) (Or.inl (tw_92 hw)) (by decide) (t := .byte) (t' := .int) (by decide) (by decide))))
 have fk22 := ((F3_3.keep K14 (ninS ne15 nin0)).other W19 (Or.inr (slot_ne (Or.inl (tw_65 hw)) (Or.inl (tw_92 hw)) (by decide) (t := (.array .byte)) (t' := .int) (by decide) (by decide))))
 have fk23 := (F14_0.other W19 (Ne.symm ne15))
 have fk24 := (F14_1.wr W19)
 have Kp25 := (Kp6.trans K14 (allS (Or.inr sz13) all0))
 have Kp26 := (Kp25.wr W19 (Or.inl (mG 0 rfl)))
 exact ⟨b3_0, k3_0, rfl, N19, Kp26, sz13, fk20, fk21, F19, fk22, fk23, fk24⟩
theorem au_30 (l : Launch) (Z : State) (a0 : Array Value) (hw : HW a0 Z) (x0 x1 x2 x3 : Addr) (kk0 : ClassId) (p0 p1 p2 p3 : Int32) (kk1 : ClassId) (gz1 : Int32) (gv5 : Value) (h0 : Heap) (n0 : Nat) (Z0 : n0 ≤ h0.size) (O0 : Old Z n0 h0) (G : Glob Z gz1 gv5) (P0 : Exa Z h0 x0 s3) (P1 : Fld Z h0 x0 s0 s4 "B" (.int 0)) (P2 : Fld Z h0 x0 s0 "count" "I" (.int 9)) (P3 : Fld Z h0 x0 s0 s5 "[B" (.ref x2)) (P4 : Exa Z h0 x1 s1) (P5 : Fld Z h0 x1 s1 s4 "B" (.int 0)) (P6 : Fld Z h0 x1 s1 s5 "[B" (.ref x3)) (P7 : Arv Z h0 x2 kk0 .byte (16 : Int32) [.int 69, .int 84, .int 97, .int 103, .int 32, .int p0, .int p1, .int p2, .int p3, .int 0, .int 0, .int 0, .int 0, .int 0, .int 0, .int 0] (.int 0)) (P9 : Arv Z h0 x3 kk1 .byte (16 : Int32) [.int 44, .int 32, .int 76, .int 97, .int 115, .int 116, .int 45, .int 77, .int 111, .int 100, .int 105, .int 102, .int 105, .int 101, .int 100, .int 32] (.int (0 : Int32))) (g_x0 : n0 ≤ x0) (ne_x1_x0 : x1 ≠ x0) (ne_x3_x0 : x3 ≠ x0) :
    Ctr l Z ⟨s3, "append", "(Ljava/lang/String;)Ljava/lang/StringBuilder;"⟩ jdk_67_method_7_code 2 (some (.object s3)) (rM 5 1 34 76) #[.ref x0, .ref x1] h0 (fun v h L => ∃ (y0 : Addr) (y1 : ClassId), v = some (.ref x0) ∧ Fr n0 L ∧ Keep h0 h [x0] ∧ h0.size ≤ y0 ∧ Exa Z h x0 s3 ∧ Fld Z h x0 s0 s4 "B" (.int 0) ∧ Fld Z h x0 s0 "count" "I" (.int 25) ∧ Fld Z h x0 s0 s5 "[B" (.ref y0) ∧ Arv Z h y0 y1 .byte (34 : Int32) [.int 69, .int 84, .int 97, .int 103, .int 32, .int p0, .int p1, .int p2, .int p3, .int 44, .int 32, .int 76, .int 97, .int 115, .int 116, .int 45, .int 77, .int 111, .int 100, .int 105, .int 102, .int 105, .int 101, .int 100, .int 32, .int 0, .int 0, .int 0, .int 0, .int 0, .int 0, .int 0, .int 0, .int 0] (.int 0) ∧ Exa Z h y0 "[B") := by
 refine Ctr.of (plainFor_of_name pn_c5) ?_
 intro p e s m below meth c T0 hx hZ hby hml hown hnm hret hlk e0 es X0
 refine Go.cast (ef_12_RR m x0 x1) ?_
 generalize hFF : EndN s _ _ _ = FF
 refine Go.aloadN X0 hx 1 rfl (hb hby d12_0) rfl rfl ?_
 refine Go.aloadN X0 hx 2 rfl (hb hby d12_1) rfl rfl ?_
 refine Go.callUp X0 hx hZ hown (tw_76 hw) (own_sameself (tw_96 hw) rfl (tw_77 hw) (by decide)) (tw_77 hw) (tw_78 hw) (by decide) (tw_80 hw) (tw_80 hw) (tw_60 hw) (au_31 l Z a0 hw x0 x1 x2 x3 kk0 p0 p1 p2 p3 kk1 gz1 gv5 h0 n0 Z0 O0 G P0 P1 P2 P3 P4 P5 P6 P7 P9 g_x0 ne_x1_x0 ne_x3_x0) e0 P0 (argsL := [.ref x1]) (rest := []) 5 rfl (hml ▸ rfl) (lenOf pd_14 rfl) rfl rfl (W := 0) (nE rfl) (by decide) (by decide) (by decide) (by decide) (hb hby d12_2) ?_
 intro v1 T1 L1 q1 X1
 obtain ⟨h1, e1⟩ : ∃ z, T1.heap = z := ⟨_, rfl⟩
 rw [e1] at q1
 obtain ⟨b1_0, k1_0, rfl, N1, K1, s1_0, F1_0, F1_1, F1_2, F1_3, F1_4, F1_5⟩ := q1
 show Go _ _ _ _ (T1.setTop (mkF m 5 #[vR x0, vR x1] [.ref x0]))
 refine Go.pop X1 hx 6 rfl (hb hby d12_5) rfl ?_
 refine Go.aloadN X1 hx 7 rfl (hb hby d12_6) rfl rfl ?_
 subst hFF
 refine Go.retR X1 hx hlk (t := (.object s3)) hret rfl rfl (hb hby d12_7) (by decide) (by decide) ?_
 rw [e1]
 have Kp2 := ((Keep.refl h0 [x0]).trans K1 (allS (Or.inl (mG 0 rfl)) all0))
 have sz3 := Nat.le_trans (Keep.refl h0 [x0]).1 s1_0
 exact ⟨b1_0, k1_0, rfl, (Fr.app (Fr.nil n0) N1), Kp2, sz3, F1_0, F1_1, F1_2, F1_3, F1_4, F1_5⟩
theorem d9_21 : decode prog_9_method_6_code 21 = .ok (.invokevirtual 31, 3) := by decide +kernel
theorem d9_24 : decode prog_9_method_6_code 24 = .ok (.aload_n 0, 1) := by decide +kernel
theorem d9_25 : decode prog_9_method_6_code 25 = .ok (.getfield 13, 3) := by decide +kernel
theorem au_45 (l : Launch) (Z : State) (a0 : Array Value) (hw : HW a0 Z) (x0 x1 : Addr) (kk0 : ClassId) (p0 p1 p2 p3 : Int32) (h0 : Heap) (n0 : Nat) (Z0 : n0 ≤ h0.size) (P1 : Fld Z h0 x0 s0 s4 "B" (.int 0)) (P3 : Fld Z h0 x0 s0 s5 "[B" (.ref x1)) (P4 : Arv Z h0 x1 kk0 .byte (34 : Int32) [.int 69, .int 84, .int 97, .int 103, .int 32, .int p0, .int p1, .int p2, .int p3, .int 44, .int 32, .int 76, .int 97, .int 115, .int 116, .int 45, .int 77, .int 111, .int 100, .int 105, .int 102, .int 105, .int 101, .int 100, .int 32, .int 0, .int 0, .int 0, .int 0, .int 0, .int 0, .int 0, .int 0, .int 0] (.int 0)) :
    Ctr l Z ⟨s0, "ensureCapacityInternal", "(I)V"⟩ jdk_68_method_9_code 3 none (rM 0 0 0 0) #[.ref x0, .int 29] h0 (fun v h L => v = none ∧ Fr n0 L ∧ h = h0) := by
 refine Ctr.of (plainFor_of_name pn_c4) ?_
 intro p e s m below meth c T0 hx hZ hby hml hown hnm hret hlk e0 es X0
 refine Go.cast (ef_16_RI m x0 (29 : Int32)) ?_
 generalize hFF : EndN s _ _ _ = FF
 refine Go.aloadN X0 hx 1 rfl (hb hby d16_0) rfl rfl ?_
 refine Go.getF X0 hx hZ hown (host := "") (Or.inl (tw_64 hw)) Via.refl e0 P3 4 rfl (hb hby d16_1) ?_
 intro T1 e1 X1
 refine Go.arraylength X1 hx hZ e1 P4 5 rfl (hb hby d16_4) ?_
 refine Go.aloadN X1 hx 6 rfl (hb hby d16_5) rfl rfl ?_
 refine Go.getF X1 hx hZ hown (host := "") (Or.inl (tw_66 hw)) Via.refl e1 P1 9 rfl (hb hby d16_6) ?_
 intro T2 e2 X2
 refine Go.ishr X2 hx 10 rfl (hb hby d16_9) ?_
 rw [show ((34 : Int32) >>> ((0 : Int32) &&& 31)) = (34 : Int32) from by decide]
 refine Go.istoreN X2 hx 11 rfl (hb hby d16_10) (Ls' := #[vR x0, vI 29, vI 34]) rfl ?_
 refine Go.iloadN X2 hx 12 rfl (hb hby d16_11) rfl ?_
 refine Go.iloadN X2 hx 13 rfl (hb hby d16_12) rfl ?_
 refine Go.isub X2 hx 14 rfl (hb hby d16_13) ?_
 rw [show ((29 : Int32) - (34 : Int32)) = (-5 : Int32) from by decide]
 refine Go.ifYes X2 hx 38 (hb hby d16_14) (by decide) (by decide) (by decide) ?_
 subst hFF
 refine Go.ret0 X2 hx hlk hret (hb hby d16_38) (by decide) (by decide) ?_
 rw [e2]
 exact ⟨rfl, (Fr.nil n0), rfl⟩
theorem au_47 (l : Launch) (Z : State) (a0 : Array Value) (hw : HW a0 Z) (x0 x1 : Addr) (gz1 : Int32) (gv5 : Value) (h0 : Heap) (n0 : Nat) (Z0 : n0 ≤ h0.size) (O0 : Old Z n0 h0) (G : Glob Z gz1 gv5) (P1 : Fld Z h0 x0 s0 s4 "B" (.int 0)) (P4 : Exa Z h0 x1 s1) (P5 : Fld Z h0 x1 s1 s4 "B" (.int 0)) :
    Ctr l Z ⟨s0, "inflateIfNeededFor", "(Ljava/lang/String;)V"⟩ jdk_68_method_71_code 2 none (rM 1 0 0 13) #[.ref x0, .ref x1] h0 (fun v h L => v = none ∧ Fr n0 L ∧ h = h0) := by
 refine Ctr.of (plainFor_of_name pn_c4) ?_
 intro p e s m below meth c T0 hx hZ hby hml hown hnm hret hlk e0 es X0
 have G' := G
 obtain ⟨G0, -, G2, -⟩ := G'
 refine Go.cast (ef_18_RR m x0 x1) ?_
 generalize hFF : EndN s _ _ _ = FF
 have fk1 := G0.ext O0.2
 refine Go.getS X0 hx hZ hown (host := "") (Or.inl (tw_63 hw)) Via.refl e0 fk1 3 rfl (hb hby d18_0) ?_
 intro T2 e2 X2
 refine Go.ifNo X2 hx 6 rfl (hb hby d18_3) (feq G2).1 ?_
 refine Go.aloadN X2 hx 7 rfl (hb hby d18_6) rfl rfl ?_
 refine Go.getF X2 hx hZ hown (host := "") (Or.inl (tw_66 hw)) Via.refl e2 P1 10 rfl (hb hby d18_7) ?_
 intro T3 e3 X3
 refine Go.aloadN X3 hx 11 rfl (hb hby d18_10) rfl rfl ?_
 refine Go.callV X3 hx hZ hown (tw_108 hw) (tw_87 hw) (notFace_of_selects (args := #[]) (mvT hZ (tw_89 hw))) (tw_89 hw) (tw_88 hw) (by decide) (tw_90 hw) (tw_6 hw) (au_25 l Z a0 hw x1 gz1 gv5 h0 n0 Z0 O0 G P5) e3 P4 (argsL := []) (rest := [.int 0]) 14 rfl (hml ▸ rfl) (lenOf pd_9 rfl) rfl rfl (W := 1) (nE rfl) (by decide) (by decide) (by decide) (by decide) (hb hby d18_11) ?_
 intro v4 T4 L4 q4 X4
 obtain ⟨rfl, N4, e4⟩ := q4
 show Go _ _ _ _ (T4.setTop (mkF m 14 #[vR x0, vR x1] [.int 0, .int 0]))
 refine Go.icmpYes X4 hx 21 (hb hby d18_14) (by decide) (by decide) (by decide) ?_
 subst hFF
 refine Go.ret0 X4 hx hlk hret (hb hby d18_21) (by decide) (by decide) ?_
 rw [e4]
 exact ⟨rfl, (Fr.app (Fr.nil n0) N4), rfl⟩
theorem au_48 (l : Launch) (Z : State) (a0 : Array Value) (hw : HW a0 Z) (x0 x1 x2 : Addr) (kk0 : ClassId) (p0 p1 p2 p3 : Int32) (kk1 : ClassId) (p4 p5 p6 p7 gz1 : Int32) (gv5 : Value) (h0 : Heap) (n0 : Nat) (Z0 : n0 ≤ h0.size) (O0 : Old Z n0 h0) (G : Glob Z gz1 gv5) (P0 : Exa Z h0 x0 s1) (P1 : Fld Z h0 x0 s1 s4 "B" (.int 0)) (P2 : Fld Z h0 x0 s1 s5 "[B" (.ref x2)) (P3 : Arv Z h0 x1 kk0 .byte (34 : Int32) [.int 69, .int 84, .int 97, .int 103, .int 32, .int p0, .int p1, .int p2, .int p3, .int 44, .int 32, .int 76, .int 97, .int 115, .int 116, .int 45, .int 77, .int 111, .int 100, .int 105, .int 102, .int 105, .int 101, .int 100, .int 32, .int 0, .int 0, .int 0, .int 0, .int 0, .int 0, .int 0, .int 0, .int 0] (.int 0)) (P4 : Exa Z h0 x1 "[B") (P5 : Arv Z h0 x2 kk1 .byte (4 : Int32) [.int p4, .int p5, .int p6, .int p7] (.int 0)) (g_x1 : n0 ≤ x1) :
    Ctr l Z ⟨s1, "getBytes", "([BIB)V"⟩ jdk_42_method_147_code 4 none (rM 1 0 0 18) #[.ref x0, .ref x1, .int 25, .int 0] h0 (fun v h L => v = none ∧ Fr n0 L ∧ Keep h0 h [x1] ∧ Arv Z h x1 kk0 .byte (34 : Int32) [.int 69, .int 84, .int 97, .int 103, .int 32, .int p0, .int p1, .int p2, .int p3, .int 44, .int 32, .int 76, .int 97, .int 115, .int 116, .int 45, .int 77, .int 111, .int 100, .int 105, .int 102, .int 105, .int 101, .int 100, .int 32, .int p4, .int p5, .int p6, .int p7, .int 0, .int 0, .int 0, .int 0, .int 0] (.int 0) ∧ Exa Z h x1 "[B") := by
 refine Ctr.of (plainFor_of_name pn_c2) ?_
 intro p e s m below meth c T0 hx hZ hby hml hown hnm hret hlk e0 es X0
 refine Go.cast (ef_19_RRII m x0 x1 (25 : Int32) (0 : Int32)) ?_
 generalize hFF : EndN s _ _ _ = FF
 refine Go.aloadN X0 hx 1 rfl (hb hby d19_0) rfl rfl ?_
 refine Go.callV X0 hx hZ hown (tw_86 hw) (tw_87 hw) (notFace_of_selects (args := #[]) (mvT hZ (tw_89 hw))) (tw_89 hw) (tw_88 hw) (by decide) (tw_90 hw) (tw_6 hw) (au_25 l Z a0 hw x0 gz1 gv5 h0 n0 Z0 O0 G P1) e0 P0 (argsL := []) (rest := []) 4 rfl (hml ▸ rfl) (lenOf pd_9 rfl) rfl rfl (W := 0) (nE rfl) (by decide) (by decide) (by decide) (by decide) (hb hby d19_1) ?_
 intro v1 T1 L1 q1 X1
 obtain ⟨rfl, N1, e1⟩ := q1
 show Go _ _ _ _ (T1.setTop (mkF m 4 #[vR x0, vR x1, vI 25, vI 0] [.int 0]))
 refine Go.iloadN X1 hx 5 rfl (hb hby d19_4) rfl ?_
 refine Go.icmpNo X1 hx 8 rfl (hb hby d19_5) (by decide) ?_
 refine Go.aloadN X1 hx 9 rfl (hb hby d19_8) rfl rfl ?_
 refine Go.getF X1 hx hZ hown (host := "") (Or.inl (tw_32 hw)) Via.refl e1 P2 12 rfl (hb hby d19_9) ?_
 intro T2 e2 X2
 refine Go.iconst X2 hx 13 rfl (hb hby d19_12) (v := (0 : Int32)) rfl ?_
 refine Go.aloadN X2 hx 14 rfl (hb hby d19_13) rfl rfl ?_
 refine Go.iloadN X2 hx 15 rfl (hb hby d19_14) rfl ?_
 refine Go.iloadN X2 hx 16 rfl (hb hby d19_15) rfl ?_
 refine Go.ishl X2 hx 17 rfl (hb hby d19_16) ?_
 rw [show ((25 : Int32) <<< ((0 : Int32) &&& 31)) = (25 : Int32) from by decide]
 refine Go.aloadN X2 hx 18 rfl (hb hby d19_17) rfl rfl ?_
 refine Go.getF X2 hx hZ hown (host := "") (Or.inl (tw_32 hw)) Via.refl e2 P2 21 rfl (hb hby d19_18) ?_
 intro T3 e3 X3
 refine Go.arraylength X3 hx hZ e3 P5 22 rfl (hb hby d19_21) ?_
 refine Go.arraycopy X3 hx hZ hown (tw_114 hw) (tw_117 hw) (tw_115 hw) (tw_116 hw) e3 P5 P3 rfl (sp := (0 : Int32)) (dp := (25 : Int32)) (nn := (4 : Int32)) (us := [.int p4, .int p5, .int p6, .int p7]) (by decide) (by decide) (by decide) (by decide) (by decide) rfl (nB rfl) (Fr.app (Fr.nil n0) N1) g_x1 (by decide) (W := 0) (hml ▸ rfl) (nE rfl) (by decide) (pc' := 25) rfl (hb hby d19_22) ?_
 intro T4 h4 L4 e4 N4 K4 V4 X4
 have V4' : Arv Z h4 x1 kk0 .byte (34 : Int32) [.int 69, .int 84, .int 97, .int 103, .int 32, .int p0, .int p1, .int p2, .int p3, .int 44, .int 32, .int 76, .int 97, .int 115, .int 116, .int 45, .int 77, .int 111, .int 100, .int 105, .int 102, .int 105, .int 101, .int 100, .int 32, .int p4, .int p5, .int p6, .int p7, .int 0, .int 0, .int 0, .int 0, .int 0] (.int 0) := V4
 refine Go.goto X4 hx 43 (hb hby d19_25) (by decide) (by decide) ?_
 subst hFF
 refine Go.ret0 X4 hx hlk hret (hb hby d19_43) (by decide) (by decide) ?_
 rw [e4]
 have fk5 := (P4.keep K4)
 have Kp6 := ((Keep.refl h0 [x1]).trans K4 (allS (Or.inl (mG 0 rfl)) all0))
 exact ⟨rfl, N4, Kp6, V4', fk5⟩
theorem au_46 (l : Launch) (Z : State) (a0 : Array Value) (hw : HW a0 Z) (x0 x1 x2 x3 : Addr) (kk0 : ClassId) (p0 p1 p2 p3 : Int32) (kk1 : ClassId) (p4 p5 p6 p7 gz1 : Int32) (gv5 : Value) (h0 : Heap) (n0 : Nat) (Z0 : n0 ≤ h0.size) (O0 : Old Z n0 h0) (G : Glob Z gz1 gv5) (P0 : Exa Z h0 x0 s3) (P1 : Fld Z h0 x0 s0 s4 "B" (.int 0)) (P3 : Fld Z h0 x0 s0 s5 "[B" (.ref x2)) (P4 : Exa Z h0 x1 s1) (P5 : Fld Z h0 x1 s1 s4 "B" (.int 0)) (P6 : Fld Z h0 x1 s1 s5 "[B" (.ref x3)) (P7 : Arv Z h0 x2 kk0 .byte (34 : Int32) [.int 69, .int 84, .int 97, .int 103, .int 32, .int p0, .int p1, .int p2, .int p3, .int 44, .int 32, .int 76, .int 97, .int 115, .int 116, .int 45, .int 77, .int 111, .int 100, .int 105, .int 102, .int 105, .int 101, .int 100, .int 32, .int 0, .int 0, .int 0, .int 0, .int 0, .int 0, .int 0, .int 0, .int 0] (.int 0)) (P8 : Exa Z h0 x2 "[B") (P9 : Arv Z h0 x3 kk1 .byte (4 : Int32) [.int p4, .int p5, .int p6, .int p7] (.int 0)) (g_x2 : n0 ≤ x2) :
    Ctr l Z ⟨s0, "putStringAt", "(ILjava/lang/String;)V"⟩ jdk_68_method_73_code 3 none (rM 2 0 0 33) #[.ref x0, .int 25, .ref x1] h0 (fun v h L => v = none ∧ Fr n0 L ∧ Keep h0 h [x2] ∧ Arv Z h x2 kk0 .byte (34 : Int32) [.int 69, .int 84, .int 97, .int 103, .int 32, .int p0, .int p1, .int p2, .int p3, .int 44, .int 32, .int 76, .int 97, .int 115, .int 116, .int 45, .int 77, .int 111, .int 100, .int 105, .int 102, .int 105, .int 101, .int 100, .int 32, .int p4, .int p5, .int p6, .int p7, .int 0, .int 0, .int 0, .int 0, .int 0] (.int 0) ∧ Exa Z h x2 "[B") := by
 refine Ctr.of (plainFor_of_name pn_c4) ?_
 intro p e s m below meth c T0 hx hZ hby hml hown hnm hret hlk e0 es X0
 refine Go.cast (ef_17_RIR m x0 (25 : Int32) x1) ?_
 generalize hFF : EndN s _ _ _ = FF
 refine Go.aloadN X0 hx 1 rfl (hb hby d17_0) rfl rfl ?_
 refine Go.aloadN X0 hx 2 rfl (hb hby d17_1) rfl rfl ?_
 refine Go.callP X0 hx hZ hown (tw_103 hw) (tw_104 hw) (tw_106 hw) (tw_105 hw) (tw_107 hw) (by decide) (tw_107 hw) (tw_60 hw) (au_47 l Z a0 hw x0 x1 gz1 gv5 h0 n0 Z0 O0 G P1 P4 P5) e0 P0 (argsL := [.ref x1]) (rest := []) 5 rfl (hml ▸ rfl) (lenOf pd_11 rfl) rfl rfl (W := 0) (nE rfl) (by decide) (by decide) (by decide) (by decide) (hb hby d17_2) ?_
 intro v1 T1 L1 q1 X1
 obtain ⟨rfl, N1, e1⟩ := q1
 show Go _ _ _ _ (T1.setTop (mkF m 5 #[vR x0, vI 25, vR x1] []))
 refine Go.aloadN X1 hx 6 rfl (hb hby d17_5) rfl rfl ?_
 refine Go.aloadN X1 hx 7 rfl (hb hby d17_6) rfl rfl ?_
 refine Go.getF X1 hx hZ hown (host := "") (Or.inl (tw_64 hw)) Via.refl e1 P3 10 rfl (hb hby d17_7) ?_
 intro T2 e2 X2
 refine Go.iloadN X2 hx 11 rfl (hb hby d17_10) rfl ?_
 refine Go.aloadN X2 hx 12 rfl (hb hby d17_11) rfl rfl ?_
 refine Go.getF X2 hx hZ hown (host := "") (Or.inl (tw_66 hw)) Via.refl e2 P1 15 rfl (hb hby d17_12) ?_
 intro T3 e3 X3
 refine Go.callV X3 hx hZ hown (tw_109 hw) (tw_110 hw) (notFace_of_selects (args := #[]) (mvT hZ (tw_112 hw))) (tw_112 hw) (tw_111 hw) (by decide) (tw_113 hw) (tw_6 hw) (au_48 l Z a0 hw x1 x2 x3 kk0 p0 p1 p2 p3 kk1 p4 p5 p6 p7 gz1 gv5 h0 n0 Z0 O0 G P4 P5 P6 P7 P8 P9 g_x2) e3 P4 (argsL := [.ref x2, .int 25, .int 0]) (rest := []) 18 rfl (hml ▸ rfl) (lenOf pd_12 rfl) rfl rfl (W := 0) (nE rfl) (by decide) (by decide) (by decide) (by decide) (hb hby d17_15) ?_
 intro v4 T4 L4 q4 X4
 obtain ⟨h4, e4⟩ : ∃ z, T4.heap = z := ⟨_, rfl⟩
 rw [e4] at q4
 obtain ⟨rfl, N4, K4, F4_0, F4_1⟩ := q4
 show Go _ _ _ _ (T4.setTop (mkF m 18 #[vR x0, vI 25, vR x1] []))
 subst hFF
 refine Go.ret0 X4 hx hlk hret (hb hby d17_18) (by decide) (by decide) ?_
 rw [e4]
 have Kp5 := ((Keep.refl h0 [x2]).trans K4 (allS (Or.inl (mG 0 rfl)) all0))
 exact ⟨rfl, (Fr.app (Fr.app (Fr.nil n0) N1) N4), Kp5, F4_0, F4_1⟩
theorem au_44 (l : Launch) (Z : State) (a0 : Array Value) (hw : HW a0 Z) (x0 x1 x2 x3 : Addr) (kk0 : ClassId) (p0 p1 p2 p3 : Int32) (kk1 : ClassId) (p4 p5 p6 p7 gz1 : Int32) (gv5 : Value) (h0 : Heap) (n0 : Nat) (Z0 : n0 ≤ h0.size) (O0 : Old Z n0 h0) (G : Glob Z gz1 gv5) (P0 : Exa Z h0 x0 s3) (P1 : Fld Z h0 x0 s0 s4 "B" (.int 0)) (P2 : Fld Z h0 x0 s0 "count" "I" (.int 25)) (P3 : Fld Z h0 x0 s0 s5 "[B" (.ref x2)) (P4 : Exa Z h0 x1 s1) (P5 : Fld Z h0 x1 s1 s4 "B" (.int 0)) (P6 : Fld Z h0 x1 s1 s5 "[B" (.ref x3)) (P7 : Arv Z h0 x2 kk0 .byte (34 : Int32) [.int 69, .int 84, .int 97, .int 103, .int 32, .int p0, .int p1, .int p2, .int p3, .int 44, .int 32, .int 76, .int 97, .int 115, .int 116, .int 45, .int 77, .int 111, .int 100, .int 105, .int 102, .int 105, .int 101, .int 100, .int 32, .int 0, .int 0, .int 0, .int 0, .int 0, .int 0, .int 0, .int 0, .int 0] (.int 0)) (P8 : Exa Z h0 x2 "[B") (P9 : Arv Z h0 x3 kk1 .byte (4 : Int32) [.int p4, .int p5, .int p6, .int p7] (.int 0)) (g_x2 : n0 ≤ x2) (g_x0 : n0 ≤ x0) (ne_x0_x2 : x0 ≠ x2) :
    Ctr l Z ⟨s0, "append", "(Ljava/lang/String;)Ljava/lang/AbstractStringBuilder;"⟩ jdk_68_method_22_code 3 (some (.object s0)) (rM 3 0 0 47) #[.ref x0, .ref x1] h0 (fun v h L => v = some (.ref x0) ∧ Fr n0 L ∧ Keep h0 h [x0, x2] ∧ Exa Z h x0 s3 ∧ Fld Z h x0 s0 s4 "B" (.int 0) ∧ Fld Z h x0 s0 "count" "I" (.int 29) ∧ Fld Z h x0 s0 s5 "[B" (.ref x2) ∧ Arv Z h x2 kk0 .byte (34 : Int32) [.int 69, .int 84, .int 97, .int 103, .int 32, .int p0, .int p1, .int p2, .int p3, .int 44, .int 32, .int 76, .int 97, .int 115, .int 116, .int 45, .int 77, .int 111, .int 100, .int 105, .int 102, .int 105, .int 101, .int 100, .int 32, .int p4, .int p5, .int p6, .int p7, .int 0, .int 0, .int 0, .int 0, .int 0] (.int 0) ∧ Exa Z h x2 "[B") := by
 refine Ctr.of (plainFor_of_name pn_c4) ?_
 intro p e s m below meth c T0 hx hZ hby hml hown hnm hret hlk e0 es X0
 refine Go.cast (ef_13_RR m x0 x1) ?_
 generalize hFF : EndN s _ _ _ = FF
 refine Go.aloadN X0 hx 1 rfl (hb hby d13_0) rfl rfl ?_
 refine Go.ifnonnullYes X0 hx 9 (hb hby d13_1) (by decide) (by decide) ?_
 refine Go.aloadN X0 hx 10 rfl (hb hby d13_9) rfl rfl ?_
 refine Go.callV X0 hx hZ hown (tw_81 hw) (tw_82 hw) (notFace_of_selects (args := #[]) (mvT hZ (tw_84 hw))) (tw_84 hw) (tw_83 hw) (by decide) (tw_85 hw) (tw_6 hw) (au_24 l Z a0 hw x1 x3 kk1 p4 p5 p6 p7 gz1 gv5 h0 n0 Z0 O0 G P4 P5 P6 P9) e0 P4 (argsL := []) (rest := []) 13 rfl (hml ▸ rfl) (lenOf pd_10 rfl) rfl rfl (W := 0) (nE rfl) (by decide) (by decide) (by decide) (by decide) (hb hby d13_10) ?_
 intro v1 T1 L1 q1 X1
 obtain ⟨rfl, N1, e1⟩ := q1
 show Go _ _ _ _ (T1.setTop (mkF m 13 #[vR x0, vR x1, uS] [.int 4]))
 refine Go.istoreN X1 hx 14 rfl (hb hby d13_13) (Ls' := #[vR x0, vR x1, vI 4]) rfl ?_
 refine Go.aloadN X1 hx 15 rfl (hb hby d13_14) rfl rfl ?_
 refine Go.aloadN X1 hx 16 rfl (hb hby d13_15) rfl rfl ?_
 refine Go.getF X1 hx hZ hown (host := "") (Or.inl (tw_91 hw)) Via.refl e1 P2 19 rfl (hb hby d13_16) ?_
 intro T2 e2 X2
 refine Go.iloadN X2 hx 20 rfl (hb hby d13_19) rfl ?_
 refine Go.iadd X2 hx 21 rfl (hb hby d13_20) ?_
 rw [show ((25 : Int32) + (4 : Int32)) = (29 : Int32) from by decide]
 refine Go.callP X2 hx hZ hown (tw_93 hw) (tw_94 hw) (tw_96 hw) (tw_95 hw) (tw_97 hw) (by decide) (tw_97 hw) (tw_60 hw) (au_45 l Z a0 hw x0 x2 kk0 p0 p1 p2 p3 h0 n0 Z0 P1 P3 P7) e2 P0 (argsL := [.int 29]) (rest := []) 24 rfl (hml ▸ rfl) (lenOf pd_7 rfl) rfl rfl (W := 0) (nE rfl) (by decide) (by decide) (by decide) (by decide) (hb hby d13_21) ?_
 intro v3 T3 L3 q3 X3
 obtain ⟨rfl, N3, e3⟩ := q3
 show Go _ _ _ _ (T3.setTop (mkF m 24 #[vR x0, vR x1, vI 4] []))
 refine Go.aloadN X3 hx 25 rfl (hb hby d13_24) rfl rfl ?_
 refine Go.aloadN X3 hx 26 rfl (hb hby d13_25) rfl rfl ?_
 refine Go.getF X3 hx hZ hown (host := "") (Or.inl (tw_91 hw)) Via.refl e3 P2 29 rfl (hb hby d13_26) ?_
 intro T4 e4 X4
 refine Go.aloadN X4 hx 30 rfl (hb hby d13_29) rfl rfl ?_
 refine Go.callP X4 hx hZ hown (tw_98 hw) (tw_99 hw) (tw_101 hw) (tw_100 hw) (tw_102 hw) (by decide) (tw_102 hw) (tw_60 hw) (au_46 l Z a0 hw x0 x1 x2 x3 kk0 p0 p1 p2 p3 kk1 p4 p5 p6 p7 gz1 gv5 h0 n0 Z0 O0 G P0 P1 P3 P4 P5 P6 P7 P8 P9 g_x2) e4 P0 (argsL := [.int 25, .ref x1]) (rest := []) 33 rfl (hml ▸ rfl) (lenOf pd_13 rfl) rfl rfl (W := 0) (nE rfl) (by decide) (by decide) (by decide) (by decide) (hb hby d13_30) ?_
 intro v5 T5 L5 q5 X5
 obtain ⟨h5, e5⟩ : ∃ z, T5.heap = z := ⟨_, rfl⟩
 rw [e5] at q5
 obtain ⟨rfl, N5, K5, F5_0, F5_1⟩ := q5
 show Go _ _ _ _ (T5.setTop (mkF m 33 #[vR x0, vR x1, vI 4] []))
 refine Go.aloadN X5 hx 34 rfl (hb hby d13_33) rfl rfl ?_
 refine Go.dup X5 hx 35 rfl (hb hby d13_34) rfl ?_
 have fk6 := (P2.keep K5 (ninS ne_x0_x2 nin0))
 refine Go.getF X5 hx hZ hown (host := "") (Or.inl (tw_91 hw)) Via.refl e5 fk6 38 rfl (hb hby d13_35) ?_
 intro T7 e7 X7
 refine Go.iloadN X7 hx 39 rfl (hb hby d13_38) rfl ?_
 refine Go.iadd X7 hx 40 rfl (hb hby d13_39) ?_
 rw [show ((25 : Int32) + (4 : Int32)) = (29 : Int32) from by decide]
 have fk8 := (P0.keep K5)
 refine Go.putF X7 hx hZ hown (host := "") (Or.inl (tw_91 hw)) Via.refl e7 fk6 fk8 (Or.inl (tw_92 hw)) (tw_51 hw) (ty := .int) (by decide) rfl rfl 43 rfl (hb hby d13_40) ?_
 intro T9 h9 e9 W9 F9 X9
 have N9 := Fr.snoc X9 (Fr.app (Fr.app (Fr.app (Fr.nil n0) N1) N3) N5) g_x0
 refine Go.aloadN X9 hx 44 rfl (hb hby d13_43) rfl rfl ?_
 subst hFF
 refine Go.retR X9 hx hlk (t := (.object s0)) hret rfl rfl (hb hby d13_44) (by decide) (by decide) ?_
 rw [e9]
 have fk10 := (fk8.wr W9)
 have fk11 := ((P1.keep K5 (ninS ne_x0_x2 nin0)).other W9 (Or.inr (slot_ne (Or.inl (tw_67 hw)) (Or.inl (tw_92 hw)) (by decide) (t := .byte) (t' := .int) (by decide) (by decide))))
 have fk12 := ((P3.keep K5 (ninS ne_x0_x2 nin0)).other W9 (Or.inr (slot_ne (Or.inl (tw_65 hw)) (Or.inl (tw_92 hw)) (by decide) (t := (.array .byte)) (t' := .int) (by decide) (by decide))))
 have fk13 := (F5_0.other W9 (Ne.symm ne_x0_x2))
 have fk14 := (F5_1.wr W9)
 have Kp15 := ((Keep.refl h0 [x0, x2]).trans K5 (allS (Or.inl (mG 1 rfl)) all0))
 have Kp16 := (Kp15.wr W9 (Or.inl (mG 0 rfl)))
 exact ⟨rfl, N9, Kp16, fk10, fk11, F9, fk12, fk13, fk14⟩
theorem au_43 (l : Launch) (Z : State) (a0 : Array Value) (hw : HW a0 Z) (x0 x1 x2 x3 : Addr) (kk0 : ClassId) (p0 p1 p2 p3 : Int32) (kk1 : ClassId) (p4 p5 p6 p7 gz1 : Int32) (gv5 : Value) (h0 : Heap) (n0 : Nat) (Z0 : n0 ≤ h0.size) (O0 : Old Z n0 h0) (G : Glob Z gz1 gv5) (P0 : Exa Z h0 x0 s3) (P1 : Fld Z h0 x0 s0 s4 "B" (.int 0)) (P2 : Fld Z h0 x0 s0 "count" "I" (.int 25)) (P3 : Fld Z h0 x0 s0 s5 "[B" (.ref x2)) (P4 : Exa Z h0 x1 s1) (P5 : Fld Z h0 x1 s1 s4 "B" (.int 0)) (P6 : Fld Z h0 x1 s1 s5 "[B" (.ref x3)) (P7 : Arv Z h0 x2 kk0 .byte (34 : Int32) [.int 69, .int 84, .int 97, .int 103, .int 32, .int p0, .int p1, .int p2, .int p3, .int 44, .int 32, .int 76, .int 97, .int 115, .int 116, .int 45, .int 77, .int 111, .int 100, .int 105, .int 102, .int 105, .int 101, .int 100, .int 32, .int 0, .int 0, .int 0, .int 0, .int 0, .int 0, .int 0, .int 0, .int 0] (.int 0)) (P8 : Exa Z h0 x2 "[B") (P9 : Arv Z h0 x3 kk1 .byte (4 : Int32) [.int p4, .int p5, .int p6, .int p7] (.int 0)) (g_x2 : n0 ≤ x2) (g_x0 : n0 ≤ x0) (ne_x0_x2 : x0 ≠ x2) :
    Ctr l Z ⟨s3, "append", "(Ljava/lang/String;)Ljava/lang/StringBuilder;"⟩ jdk_67_method_7_code 2 (some (.object s3)) (rM 4 0 0 61) #[.ref x0, .ref x1] h0 (fun v h L => v = some (.ref x0) ∧ Fr n0 L ∧ Keep h0 h [x0, x2] ∧ Exa Z h x0 s3 ∧ Fld Z h x0 s0 s4 "B" (.int 0) ∧ Fld Z h x0 s0 "count" "I" (.int 29) ∧ Fld Z h x0 s0 s5 "[B" (.ref x2) ∧ Arv Z h x2 kk0 .byte (34 : Int32) [.int 69, .int 84, .int 97, .int 103, .int 32, .int p0, .int p1, .int p2, .int p3, .int 44, .int 32, .int 76, .int 97, .int 115, .int 116, .int 45, .int 77, .int 111, .int 100, .int 105, .int 102, .int 105, .int 101, .int 100, .int 32, .int p4, .int p5, .int p6, .int p7, .int 0, .int 0, .int 0, .int 0, .int 0] (.int 0) ∧ Exa Z h x2 "[B") := by
 refine Ctr.of (plainFor_of_name pn_c5) ?_
 intro p e s m below meth c T0 hx hZ hby hml hown hnm hret hlk e0 es X0
 refine Go.cast (ef_12_RR m x0 x1) ?_
 generalize hFF : EndN s _ _ _ = FF
 refine Go.aloadN X0 hx 1 rfl (hb hby d12_0) rfl rfl ?_
 refine Go.aloadN X0 hx 2 rfl (hb hby d12_1) rfl rfl ?_
 refine Go.callUp X0 hx hZ hown (tw_76 hw) (own_sameself (tw_96 hw) rfl (tw_77 hw) (by decide)) (tw_77 hw) (tw_78 hw) (by decide) (tw_80 hw) (tw_80 hw) (tw_60 hw) (au_44 l Z a0 hw x0 x1 x2 x3 kk0 p0 p1 p2 p3 kk1 p4 p5 p6 p7 gz1 gv5 h0 n0 Z0 O0 G P0 P1 P2 P3 P4 P5 P6 P7 P8 P9 g_x2 g_x0 ne_x0_x2) e0 P0 (argsL := [.ref x1]) (rest := []) 5 rfl (hml ▸ rfl) (lenOf pd_14 rfl) rfl rfl (W := 0) (nE rfl) (by decide) (by decide) (by decide) (by decide) (hb hby d12_2) ?_
 intro v1 T1 L1 q1 X1
 obtain ⟨h1, e1⟩ : ∃ z, T1.heap = z := ⟨_, rfl⟩
 rw [e1] at q1
 obtain ⟨rfl, N1, K1, F1_0, F1_1, F1_2, F1_3, F1_4, F1_5⟩ := q1
 show Go _ _ _ _ (T1.setTop (mkF m 5 #[vR x0, vR x1] [.ref x0]))
 refine Go.pop X1 hx 6 rfl (hb hby d12_5) rfl ?_
 refine Go.aloadN X1 hx 7 rfl (hb hby d12_6) rfl rfl ?_
 subst hFF
 refine Go.retR X1 hx hlk (t := (.object s3)) hret rfl rfl (hb hby d12_7) (by decide) (by decide) ?_
 rw [e1]
 have Kp2 := ((Keep.refl h0 [x0, x2]).trans K1 (allS (Or.inl (mG 0 rfl)) (allS (Or.inl (mG 1 rfl)) all0)))
 exact ⟨rfl, (Fr.app (Fr.nil n0) N1), Kp2, F1_0, F1_1, F1_2, F1_3, F1_4, F1_5⟩
theorem d9_28 : decode prog_9_method_6_code 28 = .ok (.invokevirtual 31, 3) := by decide +kernel
theorem d25_0 : decode jdk_67_method_42_code 0 = .ok (.new 18, 3) := by decide +kernel
theorem d25_3 : decode jdk_67_method_42_code 3 = .ok (.dup, 1) := by decide +kernel
theorem d25_4 : decode jdk_67_method_42_code 4 = .ok (.aload_n 0, 1) := by decide +kernel
theorem d26_0 : decode jdk_42_method_53_code 0 = .ok (.aload_n 0, 1) := by decide +kernel
theorem d26_1 : decode jdk_42_method_53_code 1 = .ok (.aload_n 1, 1) := by decide +kernel
theorem d26_2 : decode jdk_42_method_53_code 2 = .ok (.aconst_null, 1) := by decide +kernel
theorem d27_0 : decode jdk_42_method_150_code 0 = .ok (.aload_n 0, 1) := by decide +kernel
theorem d27_1 : decode jdk_42_method_150_code 1 = .ok (.invokespecial 1, 3) := by decide +kernel
theorem d27_4 : decode jdk_42_method_150_code 4 = .ok (.aload_n 1, 1) := by decide +kernel
theorem d28_0 : decode jdk_68_method_64_code 0 = .ok (.aload_n 0, 1) := by decide +kernel
theorem d28_1 : decode jdk_68_method_64_code 1 = .ok (.getfield 15, 3) := by decide +kernel
theorem d28_4 : decode jdk_68_method_64_code 4 = .ok (.areturn, 1) := by decide +kernel
theorem ef_28_R (m : MethodId) (x0 : Addr) : entryFrame m #[(.ref x0)] 1 = mkF m 0 #[.val (.ref x0)] [] := by first | (simp [entryFrame, mkF, argsToLocals, Value.category]; done) | rfl
theorem au_52 (l : Launch) (Z : State) (a0 : Array Value) (hw : HW a0 Z) (x0 x1 : Addr) (h0 : Heap) (n0 : Nat) (Z0 : n0 ≤ h0.size) (P3 : Fld Z h0 x0 s0 s5 "[B" (.ref x1)) :
    Ctr l Z ⟨s0, "getValue", "()[B"⟩ jdk_68_method_64_code 1 (some (.array .byte)) (rM 0 0 0 0) #[.ref x0] h0 (fun v h L => v = some (.ref x1) ∧ Fr n0 L ∧ h = h0) := by
 refine Ctr.of (plainFor_of_name pn_c4) ?_
 intro p e s m below meth c T0 hx hZ hby hml hown hnm hret hlk e0 es X0
 refine Go.cast (ef_28_R m x0) ?_
 generalize hFF : EndN s _ _ _ = FF
 refine Go.aloadN X0 hx 1 rfl (hb hby d28_0) rfl rfl ?_
 refine Go.getF X0 hx hZ hown (host := "") (Or.inl (tw_64 hw)) Via.refl e0 P3 4 rfl (hb hby d28_1) ?_
 intro T1 e1 X1
 subst hFF
 refine Go.retR X1 hx hlk (t := (.array .byte)) hret rfl rfl (hb hby d28_4) (by decide) (by decide) ?_
 rw [e1]
 exact ⟨rfl, (Fr.nil n0), rfl⟩
theorem pd_20 : parseMethodDescriptor "()[B" = some ⟨[], some (.array .byte)⟩ := by decide +kernel
theorem d27_5 : decode jdk_42_method_150_code 5 = .ok (.invokevirtual 552, 3) := by decide +kernel
theorem d27_8 : decode jdk_42_method_150_code 8 = .ok (.astore_n 3, 1) := by decide +kernel
theorem d27_9 : decode jdk_42_method_150_code 9 = .ok (.aload_n 1, 1) := by decide +kernel
theorem d29_0 : decode jdk_67_method_93_code 0 = .ok (.aload_n 0, 1) := by decide +kernel
theorem d30_0 : decode jdk_68_method_6_code 0 = .ok (.aload_n 0, 1) := by decide +kernel
theorem d30_1 : decode jdk_68_method_6_code 1 = .ok (.getfield 79, 3) := by decide +kernel
theorem d30_4 : decode jdk_68_method_6_code 4 = .ok (.ireturn, 1) := by decide +kernel
theorem ef_30_R (m : MethodId) (x0 : Addr) : entryFrame m #[(.ref x0)] 1 = mkF m 0 #[.val (.ref x0)] [] := by first | (simp [entryFrame, mkF, argsToLocals, Value.category]; done) | rfl
theorem au_54 (l : Launch) (Z : State) (a0 : Array Value) (hw : HW a0 Z) (x0 : Addr) (h0 : Heap) (n0 : Nat) (Z0 : n0 ≤ h0.size) (P2 : Fld Z h0 x0 s0 "count" "I" (.int 29)) :
    Ctr l Z ⟨s0, "length", "()I"⟩ jdk_68_method_6_code 1 (some .int) (rM 0 0 0 0) #[.ref x0] h0 (fun v h L => v = some (.int 29) ∧ Fr n0 L ∧ h = h0) := by
 refine Ctr.of (plainFor_of_name pn_c4) ?_
 intro p e s m below meth c T0 hx hZ hby hml hown hnm hret hlk e0 es X0
 refine Go.cast (ef_30_R m x0) ?_
 generalize hFF : EndN s _ _ _ = FF
 refine Go.aloadN X0 hx 1 rfl (hb hby d30_0) rfl rfl ?_
 refine Go.getF X0 hx hZ hown (host := "") (Or.inl (tw_91 hw)) Via.refl e0 P2 4 rfl (hb hby d30_1) ?_
 intro T1 e1 X1
 subst hFF
 refine Go.retI X1 hx hlk hret (hb hby d30_4) (by decide) (by decide) ?_
 rw [e1]
 exact ⟨rfl, (Fr.nil n0), rfl⟩
theorem d29_1 : decode jdk_67_method_93_code 1 = .ok (.invokespecial 343, 3) := by decide +kernel
theorem d29_4 : decode jdk_67_method_93_code 4 = .ok (.ireturn, 1) := by decide +kernel
theorem ef_29_R (m : MethodId) (x0 : Addr) : entryFrame m #[(.ref x0)] 1 = mkF m 0 #[.val (.ref x0)] [] := by first | (simp [entryFrame, mkF, argsToLocals, Value.category]; done) | rfl
theorem au_53 (l : Launch) (Z : State) (a0 : Array Value) (hw : HW a0 Z) (x0 : Addr) (h0 : Heap) (n0 : Nat) (Z0 : n0 ≤ h0.size) (P0 : Exa Z h0 x0 s3) (P2 : Fld Z h0 x0 s0 "count" "I" (.int 29)) :
    Ctr l Z ⟨s3, "length", "()I"⟩ jdk_67_method_93_code 1 (some .int) (rM 1 0 0 12) #[.ref x0] h0 (fun v h L => v = some (.int 29) ∧ Fr n0 L ∧ h = h0) := by
 refine Ctr.of (plainFor_of_name pn_c5) ?_
 intro p e s m below meth c T0 hx hZ hby hml hown hnm hret hlk e0 es X0
 refine Go.cast (ef_29_R m x0) ?_
 generalize hFF : EndN s _ _ _ = FF
 refine Go.aloadN X0 hx 1 rfl (hb hby d29_0) rfl rfl ?_
 refine Go.callUp X0 hx hZ hown (tw_165 hw) (own_sameself (tw_96 hw) rfl (tw_161 hw) (by decide)) (tw_161 hw) (tw_78 hw) (by decide) (tw_166 hw) (tw_166 hw) (tw_60 hw) (au_54 l Z a0 hw x0 h0 n0 Z0 P2) e0 P0 (argsL := []) (rest := []) 4 rfl (hml ▸ rfl) (lenOf pd_10 rfl) rfl rfl (W := 0) (nE rfl) (by decide) (by decide) (by decide) (by decide) (hb hby d29_1) ?_
 intro v1 T1 L1 q1 X1
 obtain ⟨rfl, N1, e1⟩ := q1
 show Go _ _ _ _ (T1.setTop (mkF m 4 #[vR x0] [.int 29]))
 subst hFF
 refine Go.retI X1 hx hlk hret (hb hby d29_4) (by decide) (by decide) ?_
 rw [e1]
 exact ⟨rfl, (Fr.app (Fr.nil n0) N1), rfl⟩
theorem d27_10 : decode jdk_42_method_150_code 10 = .ok (.invokevirtual 549, 3) := by decide +kernel
theorem d27_13 : decode jdk_42_method_150_code 13 = .ok (.istore 4, 2) := by decide +kernel
theorem d27_15 : decode jdk_42_method_150_code 15 = .ok (.aload_n 1, 1) := by decide +kernel
theorem d31_0 : decode jdk_68_method_68_code 0 = .ok (.getstatic 18, 3) := by decide +kernel
theorem d31_3 : decode jdk_68_method_68_code 3 = .ok (.ifCond .eq 14, 3) := by decide +kernel
theorem d31_6 : decode jdk_68_method_68_code 6 = .ok (.aload_n 0, 1) := by decide +kernel
theorem d31_7 : decode jdk_68_method_68_code 7 = .ok (.getfield 22, 3) := by decide +kernel
theorem d31_10 : decode jdk_68_method_68_code 10 = .ok (.ifCond .ne 7, 3) := by decide +kernel
theorem d31_13 : decode jdk_68_method_68_code 13 = .ok (.iconst 1, 1) := by decide +kernel
theorem d31_14 : decode jdk_68_method_68_code 14 = .ok (.goto 4, 3) := by decide +kernel
theorem d31_18 : decode jdk_68_method_68_code 18 = .ok (.ireturn, 1) := by decide +kernel
theorem ef_31_R (m : MethodId) (x0 : Addr) : entryFrame m #[(.ref x0)] 1 = mkF m 0 #[.val (.ref x0)] [] := by first | (simp [entryFrame, mkF, argsToLocals, Value.category]; done) | rfl
theorem au_55 (l : Launch) (Z : State) (a0 : Array Value) (hw : HW a0 Z) (x0 : Addr) (gz1 : Int32) (gv5 : Value) (h0 : Heap) (n0 : Nat) (Z0 : n0 ≤ h0.size) (O0 : Old Z n0 h0) (G : Glob Z gz1 gv5) (P1 : Fld Z h0 x0 s0 s4 "B" (.int 0)) :
    Ctr l Z ⟨s0, "isLatin1", "()Z"⟩ jdk_68_method_68_code 1 (some .boolean) (rM 0 0 0 0) #[.ref x0] h0 (fun v h L => v = some (.int 1) ∧ Fr n0 L ∧ h = h0) := by
 refine Ctr.of (plainFor_of_name pn_c4) ?_
 intro p e s m below meth c T0 hx hZ hby hml hown hnm hret hlk e0 es X0
 have G' := G
 obtain ⟨G0, -, G2, -⟩ := G'
 refine Go.cast (ef_31_R m x0) ?_
 generalize hFF : EndN s _ _ _ = FF
 have fk1 := G0.ext O0.2
 refine Go.getS X0 hx hZ hown (host := "") (Or.inl (tw_63 hw)) Via.refl e0 fk1 3 rfl (hb hby d31_0) ?_
 intro T2 e2 X2
 refine Go.ifNo X2 hx 6 rfl (hb hby d31_3) (feq G2).1 ?_
 refine Go.aloadN X2 hx 7 rfl (hb hby d31_6) rfl rfl ?_
 refine Go.getF X2 hx hZ hown (host := "") (Or.inl (tw_66 hw)) Via.refl e2 P1 10 rfl (hb hby d31_7) ?_
 intro T3 e3 X3
 refine Go.ifNo X3 hx 13 rfl (hb hby d31_10) (by decide) ?_
 refine Go.iconst X3 hx 14 rfl (hb hby d31_13) (v := (1 : Int32)) rfl ?_
 refine Go.goto X3 hx 18 (hb hby d31_14) (by decide) (by decide) ?_
 subst hFF
 refine Go.retN X3 hx hlk (t := .boolean) hret (by simp) (hb hby d31_18) (by decide) (by decide) ?_
 rw [e3]
 exact ⟨(congrArg (fun z => some (Value.int z)) (by decide : nar .boolean (1 : Int32) = (1 : Int32))), (Fr.nil n0), rfl⟩
theorem pd_21 : parseMethodDescriptor "()Z" = some ⟨[], some .boolean⟩ := by decide +kernel
theorem d27_16 : decode jdk_42_method_150_code 16 = .ok (.invokevirtual 1047, 3) := by decide +kernel
theorem d27_19 : decode jdk_42_method_150_code 19 = .ok (.ifCond .eq 22, 3) := by decide +kernel
theorem d27_22 : decode jdk_42_method_150_code 22 = .ok (.aload_n 0, 1) := by decide +kernel
theorem d27_23 : decode jdk_42_method_150_code 23 = .ok (.iconst 0, 1) := by decide +kernel
theorem d27_24 : decode jdk_42_method_150_code 24 = .ok (.putfield 15, 3) := by decide +kernel
theorem d27_27 : decode jdk_42_method_150_code 27 = .ok (.aload_n 0, 1) := by decide +kernel
theorem d27_28 : decode jdk_42_method_150_code 28 = .ok (.aload_n 3, 1) := by decide +kernel
theorem d27_29 : decode jdk_42_method_150_code 29 = .ok (.iconst 0, 1) := by decide +kernel
theorem d27_30 : decode jdk_42_method_150_code 30 = .ok (.iload 4, 2) := by decide +kernel
theorem d32_0 : decode jdk_65_method_132_code 0 = .ok (.iload_n 1, 1) := by decide +kernel
theorem d32_1 : decode jdk_65_method_132_code 1 = .ok (.ifCond .ne 9, 3) := by decide +kernel
theorem d32_4 : decode jdk_65_method_132_code 4 = .ok (.iload_n 2, 1) := by decide +kernel
theorem d32_5 : decode jdk_65_method_132_code 5 = .ok (.aload_n 0, 1) := by decide +kernel
theorem d32_6 : decode jdk_65_method_132_code 6 = .ok (.arraylength, 1) := by decide +kernel
theorem d32_7 : decode jdk_65_method_132_code 7 = .ok (.if_icmp .eq 10, 3) := by decide +kernel
theorem d32_10 : decode jdk_65_method_132_code 10 = .ok (.aload_n 0, 1) := by decide +kernel
theorem d32_11 : decode jdk_65_method_132_code 11 = .ok (.iload_n 1, 1) := by decide +kernel
theorem d32_12 : decode jdk_65_method_132_code 12 = .ok (.iload_n 2, 1) := by decide +kernel
theorem d33_0 : decode jdk_65_method_133_code 0 = .ok (.iload_n 1, 1) := by decide +kernel
theorem d33_1 : decode jdk_65_method_133_code 1 = .ok (.iload_n 2, 1) := by decide +kernel
theorem d34_0 : decode jdk_65_method_131_code 0 = .ok (.iload_n 1, 1) := by decide +kernel
theorem d34_1 : decode jdk_65_method_131_code 1 = .ok (.iload_n 0, 1) := by decide +kernel
theorem d34_2 : decode jdk_65_method_131_code 2 = .ok (.if_icmp .ge 35, 3) := by decide +kernel
theorem d34_37 : decode jdk_65_method_131_code 37 = .ok (.return_, 1) := by decide +kernel
theorem ef_34_II (m : MethodId) (x0 : Int32) (x1 : Int32) : entryFrame m #[(.int x0), (.int x1)] 2 = mkF m 0 #[.val (.int x0), .val (.int x1)] [] := by first | (simp [entryFrame, mkF, argsToLocals, Value.category]; done) | rfl
theorem au_58 (l : Launch) (Z : State) (a0 : Array Value) (hw : HW a0 Z)  (h0 : Heap) (n0 : Nat) (Z0 : n0 ≤ h0.size) :
    Ctr l Z ⟨"java/util/Arrays", "checkLength", "(II)V"⟩ jdk_65_method_131_code 2 none (rM 0 0 0 0) #[.int 0, .int 29] h0 (fun v h L => v = none ∧ Fr n0 L ∧ h = h0) := by
 refine Ctr.of (plainFor_of_name pn_c7) ?_
 intro p e s m below meth c T0 hx hZ hby hml hown hnm hret hlk e0 es X0
 refine Go.cast (ef_34_II m (0 : Int32) (29 : Int32)) ?_
 generalize hFF : EndN s _ _ _ = FF
 refine Go.iloadN X0 hx 1 rfl (hb hby d34_0) rfl ?_
 refine Go.iloadN X0 hx 2 rfl (hb hby d34_1) rfl ?_
 refine Go.icmpYes X0 hx 37 (hb hby d34_2) (by decide) (by decide) (by decide) ?_
 subst hFF
 refine Go.ret0 X0 hx hlk hret (hb hby d34_37) (by decide) (by decide) ?_
 rw [e0]
 exact ⟨rfl, (Fr.nil n0), rfl⟩
theorem pd_22 : parseMethodDescriptor "(II)V" = some ⟨[.int, .int], none⟩ := by decide +kernel
theorem d33_2 : decode jdk_65_method_133_code 2 = .ok (.invokestatic 343, 3) := by decide +kernel
theorem d33_5 : decode jdk_65_method_133_code 5 = .ok (.iload_n 2, 1) := by decide +kernel
theorem d33_6 : decode jdk_65_method_133_code 6 = .ok (.iload_n 1, 1) := by decide +kernel
theorem d33_7 : decode jdk_65_method_133_code 7 = .ok (.isub, 1) := by decide +kernel
theorem d33_8 : decode jdk_65_method_133_code 8 = .ok (.istore_n 3, 1) := by decide +kernel
theorem d33_9 : decode jdk_65_method_133_code 9 = .ok (.iload_n 3, 1) := by decide +kernel
theorem d33_10 : decode jdk_65_method_133_code 10 = .ok (.newarray .byte, 2) := by decide +kernel
theorem d33_12 : decode jdk_65_method_133_code 12 = .ok (.astore 4, 2) := by decide +kernel
theorem d33_14 : decode jdk_65_method_133_code 14 = .ok (.aload_n 0, 1) := by decide +kernel
theorem d33_15 : decode jdk_65_method_133_code 15 = .ok (.iload_n 1, 1) := by decide +kernel
theorem d33_16 : decode jdk_65_method_133_code 16 = .ok (.aload 4, 2) := by decide +kernel
theorem d33_18 : decode jdk_65_method_133_code 18 = .ok (.iconst 0, 1) := by decide +kernel
theorem d33_19 : decode jdk_65_method_133_code 19 = .ok (.aload_n 0, 1) := by decide +kernel
theorem d33_20 : decode jdk_65_method_133_code 20 = .ok (.arraylength, 1) := by decide +kernel
theorem d33_21 : decode jdk_65_method_133_code 21 = .ok (.iload_n 1, 1) := by decide +kernel
theorem d33_22 : decode jdk_65_method_133_code 22 = .ok (.isub, 1) := by decide +kernel
theorem d33_23 : decode jdk_65_method_133_code 23 = .ok (.iload_n 3, 1) := by decide +kernel
theorem d24_9 : decode jdk_29_method_69_code 9 = .ok (.iload_n 1, 1) := by decide +kernel
theorem au_59 (l : Launch) (Z : State) (a0 : Array Value) (hw : HW a0 Z)  (h0 : Heap) (n0 : Nat) (Z0 : n0 ≤ h0.size) :
    Ctr l Z ⟨"java/lang/Math", "min", "(II)I"⟩ jdk_29_method_69_code 2 (some .int) (rM 0 0 0 0) #[.int 34, .int 29] h0 (fun v h L => v = some (.int 29) ∧ Fr n0 L ∧ h = h0) := by
 refine Ctr.of (Jvm.Free.JP.mathPlain rfl (by decide +kernel)) ?_
 intro p e s m below meth c T0 hx hZ hby hml hown hnm hret hlk e0 es X0
 refine Go.cast (ef_24_II m (34 : Int32) (29 : Int32)) ?_
 generalize hFF : EndN s _ _ _ = FF
 refine Go.iloadN X0 hx 1 rfl (hb hby d24_0) rfl ?_
 refine Go.iloadN X0 hx 2 rfl (hb hby d24_1) rfl ?_
 refine Go.icmpYes X0 hx 9 (hb hby d24_2) (by decide) (by decide) (by decide) ?_
 refine Go.iloadN X0 hx 10 rfl (hb hby d24_9) rfl ?_
 subst hFF
 refine Go.retI X0 hx hlk hret (hb hby d24_10) (by decide) (by decide) ?_
 rw [e0]
 exact ⟨rfl, (Fr.nil n0), rfl⟩
theorem d33_24 : decode jdk_65_method_133_code 24 = .ok (.invokestatic 304, 3) := by decide +kernel
theorem d33_27 : decode jdk_65_method_133_code 27 = .ok (.invokestatic 150, 3) := by decide +kernel
theorem d33_30 : decode jdk_65_method_133_code 30 = .ok (.aload 4, 2) := by decide +kernel
theorem d33_32 : decode jdk_65_method_133_code 32 = .ok (.areturn, 1) := by decide +kernel
theorem ef_33_RII (m : MethodId) (x0 : Addr) (x1 : Int32) (x2 : Int32) : entryFrame m #[(.ref x0), (.int x1), (.int x2)] 5 = mkF m 0 #[.val (.ref x0), .val (.int x1), .val (.int x2), .unset, .unset] [] := by first | (simp [entryFrame, mkF, argsToLocals, Value.category]; done) | rfl
theorem au_57 (l : Launch) (Z : State) (a0 : Array Value) (hw : HW a0 Z) (x0 : Addr) (kk0 : ClassId) (p0 p1 p2 p3 p4 p5 p6 p7 : Int32) (h0 : Heap) (n0 : Nat) (Z0 : n0 ≤ h0.size) (P0 : Arv Z h0 x0 kk0 .byte (34 : Int32) [.int 69, .int 84, .int 97, .int 103, .int 32, .int p0, .int p1, .int p2, .int p3, .int 44, .int 32, .int 76, .int 97, .int 115, .int 116, .int 45, .int 77, .int 111, .int 100, .int 105, .int 102, .int 105, .int 101, .int 100, .int 32, .int p4, .int p5, .int p6, .int p7, .int 0, .int 0, .int 0, .int 0, .int 0] (.int 0)) :
    Ctr l Z ⟨"java/util/Arrays", "copyOfRangeByte", "([BII)[B"⟩ jdk_65_method_133_code 5 (some (.array .byte)) (rM 1 1 29 18) #[.ref x0, .int 0, .int 29] h0 (fun v h L => ∃ (y0 : Addr) (y1 : ClassId), v = some (.ref y0) ∧ Fr n0 L ∧ Keep h0 h [] ∧ h0.size ≤ y0 ∧ Arv Z h y0 y1 .byte (29 : Int32) [.int 69, .int 84, .int 97, .int 103, .int 32, .int p0, .int p1, .int p2, .int p3, .int 44, .int 32, .int 76, .int 97, .int 115, .int 116, .int 45, .int 77, .int 111, .int 100, .int 105, .int 102, .int 105, .int 101, .int 100, .int 32, .int p4, .int p5, .int p6, .int p7] (.int 0) ∧ Exa Z h y0 "[B") := by
 refine Ctr.of (plainFor_of_name pn_c7) ?_
 intro p e s m below meth c T0 hx hZ hby hml hown hnm hret hlk e0 es X0
 refine Go.cast (ef_33_RII m x0 (0 : Int32) (29 : Int32)) ?_
 generalize hFF : EndN s _ _ _ = FF
 refine Go.iloadN X0 hx 1 rfl (hb hby d33_0) rfl ?_
 refine Go.iloadN X0 hx 2 rfl (hb hby d33_1) rfl ?_
 refine Go.callS X0 hx hZ hown (tw_178 hw) (tw_179 hw) (tw_136 hw) (tw_180 hw) (by decide) (tw_180 hw) (tw_136 hw) (au_58 l Z a0 hw h0 n0 Z0) e0 (argsL := [.int 0, .int 29]) (rest := []) 5 rfl (hml ▸ rfl) (lenOf pd_22 rfl) rfl rfl (W := 0) (nE rfl) (by decide) (by decide) (by decide) (by decide) (hb hby d33_2) ?_
 intro v1 T1 L1 q1 X1
 obtain ⟨rfl, N1, e1⟩ := q1
 show Go _ _ _ _ (T1.setTop (mkF m 5 #[vR x0, vI 0, vI 29, uS, uS] []))
 refine Go.iloadN X1 hx 6 rfl (hb hby d33_5) rfl ?_
 refine Go.iloadN X1 hx 7 rfl (hb hby d33_6) rfl ?_
 refine Go.isub X1 hx 8 rfl (hb hby d33_7) ?_
 rw [show ((29 : Int32) - (0 : Int32)) = (29 : Int32) from by decide]
 refine Go.istoreN X1 hx 9 rfl (hb hby d33_8) (Ls' := #[vR x0, vI 0, vI 29, vI 29, uS]) rfl ?_
 refine Go.iloadN X1 hx 10 rfl (hb hby d33_9) rfl ?_
 refine Go.newarray X1 hx hZ (ty := .byte) rfl (tw_23 hw) e1 (by decide) (cap := 29) (by decide) (by decide) (by decide) (by decide) (ad := "[B") (by decide) 29 12 rfl (hb hby d33_10) ?_
 intro T2 h2 b2 k2 e2 E2 g2 V2 A2 X2
 have V2' : Arv Z h2 b2 k2 .byte (29 : Int32) [.int 0, .int 0, .int 0, .int 0, .int 0, .int 0, .int 0, .int 0, .int 0, .int 0, .int 0, .int 0, .int 0, .int 0, .int 0, .int 0, .int 0, .int 0, .int 0, .int 0, .int 0, .int 0, .int 0, .int 0, .int 0, .int 0, .int 0, .int 0, .int 0] (.int 0) := V2
 refine Go.astore X2 hx 14 rfl (hb hby d33_12) (Ls' := #[vR x0, vI 0, vI 29, vI 29, vR b2]) rfl rfl ?_
 refine Go.aloadN X2 hx 15 rfl (hb hby d33_14) rfl rfl ?_
 refine Go.iloadN X2 hx 16 rfl (hb hby d33_15) rfl ?_
 refine Go.aload X2 hx 18 rfl (hb hby d33_16) rfl rfl ?_
 refine Go.iconst X2 hx 19 rfl (hb hby d33_18) (v := (0 : Int32)) rfl ?_
 refine Go.aloadN X2 hx 20 rfl (hb hby d33_19) rfl rfl ?_
 have fk3 := (P0.ext E2)
 refine Go.arraylength X2 hx hZ e2 fk3 21 rfl (hb hby d33_20) ?_
 refine Go.iloadN X2 hx 22 rfl (hb hby d33_21) rfl ?_
 refine Go.isub X2 hx 23 rfl (hb hby d33_22) ?_
 rw [show ((34 : Int32) - (0 : Int32)) = (34 : Int32) from by decide]
 refine Go.iloadN X2 hx 24 rfl (hb hby d33_23) rfl ?_
 have Kp5 := ((Keep.refl h0 []).ext E2)
 have Zn4 := Nat.le_trans Z0 Kp5.1
 refine Go.callS X2 hx hZ hown (tw_138 hw) (tw_139 hw) (tw_130 hw) (tw_140 hw) (by decide) (tw_140 hw) (tw_130 hw) (au_59 l Z a0 hw h2 n0 Zn4) e2 (argsL := [.int 34, .int 29]) (rest := [.int 0, .ref b2, .int 0, .ref x0]) 27 rfl (hml ▸ rfl) (lenOf pd_16 rfl) rfl rfl (W := 4) (nE rfl) (by decide) (by decide) (by decide) (by decide) (hb hby d33_24) ?_
 intro v6 T6 L6 q6 X6
 obtain ⟨rfl, N6, e6⟩ := q6
 show Go _ _ _ _ (T6.setTop (mkF m 27 #[vR x0, vI 0, vI 29, vI 29, vR b2] [.int 29, .int 0, .ref b2, .int 0, .ref x0]))
 have sz8 := Nat.le_trans (Keep.refl h0 []).1 (Nat.le_of_eq g2.symm)
 have ge7 := Nat.le_trans Z0 sz8
 refine Go.arraycopy X6 hx hZ hown (tw_141 hw) (tw_117 hw) (tw_115 hw) (tw_116 hw) e6 fk3 V2' rfl (sp := (0 : Int32)) (dp := (0 : Int32)) (nn := (29 : Int32)) (us := [.int 69, .int 84, .int 97, .int 103, .int 32, .int p0, .int p1, .int p2, .int p3, .int 44, .int 32, .int 76, .int 97, .int 115, .int 116, .int 45, .int 77, .int 111, .int 100, .int 105, .int 102, .int 105, .int 101, .int 100, .int 32, .int p4, .int p5, .int p6, .int p7]) (by decide) (by decide) (by decide) (by decide) (by decide) rfl (nB rfl) (Fr.app (Fr.app (Fr.nil n0) N1) N6) ge7 (by decide) (W := 0) (hml ▸ rfl) (nE rfl) (by decide) (pc' := 30) rfl (hb hby d33_27) ?_
 intro T9 h9 L9 e9 N9 K9 V9 X9
 have V9' : Arv Z h9 b2 k2 .byte (29 : Int32) [.int 69, .int 84, .int 97, .int 103, .int 32, .int p0, .int p1, .int p2, .int p3, .int 44, .int 32, .int 76, .int 97, .int 115, .int 116, .int 45, .int 77, .int 111, .int 100, .int 105, .int 102, .int 105, .int 101, .int 100, .int 32, .int p4, .int p5, .int p6, .int p7] (.int 0) := V9
 refine Go.aload X9 hx 32 rfl (hb hby d33_30) rfl rfl ?_
 subst hFF
 refine Go.retR X9 hx hlk (t := (.array .byte)) hret rfl rfl (hb hby d33_32) (by decide) (by decide) ?_
 rw [e9]
 have fk10 := (A2.keep K9)
 have Kp11 := (Kp5.trans K9 (allS (Or.inr sz8) all0))
 exact ⟨b2, k2, rfl, N9, Kp11, sz8, V9', fk10⟩
theorem pd_23 : parseMethodDescriptor "([BII)[B" = some ⟨[(.array .byte), .int, .int], some (.array .byte)⟩ := by decide +kernel
theorem d32_13 : decode jdk_65_method_132_code 13 = .ok (.invokestatic 339, 3) := by decide +kernel
theorem d32_16 : decode jdk_65_method_132_code 16 = .ok (.areturn, 1) := by decide +kernel
theorem ef_32_RII (m : MethodId) (x0 : Addr) (x1 : Int32) (x2 : Int32) : entryFrame m #[(.ref x0), (.int x1), (.int x2)] 3 = mkF m 0 #[.val (.ref x0), .val (.int x1), .val (.int x2)] [] := by first | (simp [entryFrame, mkF, argsToLocals, Value.category]; done) | rfl
theorem au_56 (l : Launch) (Z : State) (a0 : Array Value) (hw : HW a0 Z) (x0 : Addr) (kk0 : ClassId) (p0 p1 p2 p3 p4 p5 p6 p7 : Int32) (h0 : Heap) (n0 : Nat) (Z0 : n0 ≤ h0.size) (P0 : Arv Z h0 x0 kk0 .byte (34 : Int32) [.int 69, .int 84, .int 97, .int 103, .int 32, .int p0, .int p1, .int p2, .int p3, .int 44, .int 32, .int 76, .int 97, .int 115, .int 116, .int 45, .int 77, .int 111, .int 100, .int 105, .int 102, .int 105, .int 101, .int 100, .int 32, .int p4, .int p5, .int p6, .int p7, .int 0, .int 0, .int 0, .int 0, .int 0] (.int 0)) :
    Ctr l Z ⟨"java/util/Arrays", "copyOfRange", "([BII)[B"⟩ jdk_65_method_132_code 3 (some (.array .byte)) (rM 2 1 29 34) #[.ref x0, .int 0, .int 29] h0 (fun v h L => ∃ (y0 : Addr) (y1 : ClassId), v = some (.ref y0) ∧ Fr n0 L ∧ Keep h0 h [] ∧ h0.size ≤ y0 ∧ Arv Z h y0 y1 .byte (29 : Int32) [.int 69, .int 84, .int 97, .int 103, .int 32, .int p0, .int p1, .int p2, .int p3, .int 44, .int 32, .int 76, .int 97, .int 115, .int 116, .int 45, .int 77, .int 111, .int 100, .int 105, .int 102, .int 105, .int 101, .int 100, .int 32, .int p4, .int p5, .int p6, .int p7] (.int 0) ∧ Exa Z h y0 "[B") := by
 refine Ctr.of (plainFor_of_name pn_c7) ?_
 intro p e s m below meth c T0 hx hZ hby hml hown hnm hret hlk e0 es X0
 refine Go.cast (ef_32_RII m x0 (0 : Int32) (29 : Int32)) ?_
 generalize hFF : EndN s _ _ _ = FF
 refine Go.iloadN X0 hx 1 rfl (hb hby d32_0) rfl ?_
 refine Go.ifNo X0 hx 4 rfl (hb hby d32_1) (by decide) ?_
 refine Go.iloadN X0 hx 5 rfl (hb hby d32_4) rfl ?_
 refine Go.aloadN X0 hx 6 rfl (hb hby d32_5) rfl rfl ?_
 refine Go.arraylength X0 hx hZ e0 P0 7 rfl (hb hby d32_6) ?_
 refine Go.icmpNo X0 hx 10 rfl (hb hby d32_7) (by decide) ?_
 refine Go.aloadN X0 hx 11 rfl (hb hby d32_10) rfl rfl ?_
 refine Go.iloadN X0 hx 12 rfl (hb hby d32_11) rfl ?_
 refine Go.iloadN X0 hx 13 rfl (hb hby d32_12) rfl ?_
 refine Go.callS X0 hx hZ hown (tw_175 hw) (tw_176 hw) (tw_136 hw) (tw_177 hw) (by decide) (tw_177 hw) (tw_136 hw) (au_57 l Z a0 hw x0 kk0 p0 p1 p2 p3 p4 p5 p6 p7 h0 n0 Z0 P0) e0 (argsL := [.ref x0, .int 0, .int 29]) (rest := []) 16 rfl (hml ▸ rfl) (lenOf pd_23 rfl) rfl rfl (W := 0) (nE rfl) (by decide) (by decide) (by decide) (by decide) (hb hby d32_13) ?_
 intro v1 T1 L1 q1 X1
 obtain ⟨h1, e1⟩ : ∃ z, T1.heap = z := ⟨_, rfl⟩
 rw [e1] at q1
 obtain ⟨b1_0, k1_0, rfl, N1, K1, s1_0, F1_0, F1_1⟩ := q1
 show Go _ _ _ _ (T1.setTop (mkF m 16 #[vR x0, vI 0, vI 29] [.ref b1_0]))
 subst hFF
 refine Go.retR X1 hx hlk (t := (.array .byte)) hret rfl rfl (hb hby d32_16) (by decide) (by decide) ?_
 rw [e1]
 have Kp2 := ((Keep.refl h0 []).trans K1 all0)
 have sz3 := Nat.le_trans (Keep.refl h0 []).1 s1_0
 exact ⟨b1_0, k1_0, rfl, (Fr.app (Fr.nil n0) N1), Kp2, sz3, F1_0, F1_1⟩
theorem d27_32 : decode jdk_42_method_150_code 32 = .ok (.invokestatic 54, 3) := by decide +kernel
theorem d27_35 : decode jdk_42_method_150_code 35 = .ok (.putfield 9, 3) := by decide +kernel
theorem d27_38 : decode jdk_42_method_150_code 38 = .ok (.goto 59, 3) := by decide +kernel
theorem d27_97 : decode jdk_42_method_150_code 97 = .ok (.return_, 1) := by decide +kernel
theorem ef_27_RRN (m : MethodId) (x0 : Addr) (x1 : Addr)  : entryFrame m #[(.ref x0), (.ref x1), .null] 5 = mkF m 0 #[.val (.ref x0), .val (.ref x1), .val .null, .unset, .unset] [] := by first | (simp [entryFrame, mkF, argsToLocals, Value.category]; done) | rfl
theorem au_51 (l : Launch) (Z : State) (a0 : Array Value) (hw : HW a0 Z) (x0 x1 x2 : Addr) (kk0 : ClassId) (p0 p1 p2 p3 p4 p5 p6 p7 gz1 : Int32) (gv5 : Value) (h0 : Heap) (n0 : Nat) (Z0 : n0 ≤ h0.size) (O0 : Old Z n0 h0) (G : Glob Z gz1 gv5) (P0 : Exa Z h0 x0 s1) (P1 : Fld Z h0 x0 s1 s4 "B" (.int 0)) (P2 : Fld Z h0 x0 s1 s5 "[B" .null) (P3 : Exa Z h0 x1 s3) (P4 : Fld Z h0 x1 s0 s4 "B" (.int 0)) (P5 : Fld Z h0 x1 s0 "count" "I" (.int 29)) (P6 : Fld Z h0 x1 s0 s5 "[B" (.ref x2)) (P7 : Arv Z h0 x2 kk0 .byte (34 : Int32) [.int 69, .int 84, .int 97, .int 103, .int 32, .int p0, .int p1, .int p2, .int p3, .int 44, .int 32, .int 76, .int 97, .int 115, .int 116, .int 45, .int 77, .int 111, .int 100, .int 105, .int 102, .int 105, .int 101, .int 100, .int 32, .int p4, .int p5, .int p6, .int p7, .int 0, .int 0, .int 0, .int 0, .int 0] (.int 0)) (g_x0 : n0 ≤ x0) (ne_x2_x0 : x2 ≠ x0) :
    Ctr l Z ⟨s1, "<init>", "(Ljava/lang/AbstractStringBuilder;Ljava/lang/Void;)V"⟩ jdk_42_method_150_code 5 none (rM 3 1 29 49) #[.ref x0, .ref x1, .null] h0 (fun v h L => ∃ (y0 : Addr) (y1 : ClassId), v = none ∧ Fr n0 L ∧ Keep h0 h [x0] ∧ h0.size ≤ y0 ∧ Exa Z h x0 s1 ∧ Fld Z h x0 s1 s4 "B" (.int 0) ∧ Fld Z h x0 s1 s5 "[B" (.ref y0) ∧ Arv Z h y0 y1 .byte (29 : Int32) [.int 69, .int 84, .int 97, .int 103, .int 32, .int p0, .int p1, .int p2, .int p3, .int 44, .int 32, .int 76, .int 97, .int 115, .int 116, .int 45, .int 77, .int 111, .int 100, .int 105, .int 102, .int 105, .int 101, .int 100, .int 32, .int p4, .int p5, .int p6, .int p7] (.int 0) ∧ Exa Z h y0 "[B") := by
 refine Ctr.of (plainFor_of_name pn_c2) ?_
 intro p e s m below meth c T0 hx hZ hby hml hown hnm hret hlk e0 es X0
 refine Go.cast (ef_27_RRN m x0 x1) ?_
 generalize hFF : EndN s _ _ _ = FF
 refine Go.aloadN X0 hx 1 rfl (hb hby d27_0) rfl rfl ?_
 refine Go.initO X0 hx hZ hown (tw_15 hw) (tw_16 hw) (tw_17 hw) e0 (by decide) (W := 0) (hml ▸ rfl) (nE rfl) (by decide) (pc' := 4) rfl (hb hby d27_1) ?_
 intro T1 e1 X1
 refine Go.aloadN X1 hx 5 rfl (hb hby d27_4) rfl rfl ?_
 refine Go.callV X1 hx hZ hown (tw_154 hw) (tw_155 hw) (notFace_of_selects (args := #[]) (mvT hZ (tw_157 hw))) (tw_157 hw) (tw_156 hw) (by decide) (tw_158 hw) (tw_60 hw) (au_52 l Z a0 hw x1 x2 h0 n0 Z0 P6) e1 P3 (argsL := []) (rest := []) 8 rfl (hml ▸ rfl) (lenOf pd_20 rfl) rfl rfl (W := 0) (nE rfl) (by decide) (by decide) (by decide) (by decide) (hb hby d27_5) ?_
 intro v2 T2 L2 q2 X2
 obtain ⟨rfl, N2, e2⟩ := q2
 show Go _ _ _ _ (T2.setTop (mkF m 8 #[vR x0, vR x1, .val .null, uS, uS] [.ref x2]))
 refine Go.astoreN X2 hx 9 rfl (hb hby d27_8) (Ls' := #[vR x0, vR x1, .val .null, vR x2, uS]) rfl rfl ?_
 refine Go.aloadN X2 hx 10 rfl (hb hby d27_9) rfl rfl ?_
 refine Go.callV X2 hx hZ hown (tw_159 hw) (tw_160 hw) (own_nf (args := #[]) (mvT hZ (tw_96 hw)) rfl) (tw_162 hw) (tw_163 hw) (by decide) (tw_164 hw) (tw_52 hw) (au_53 l Z a0 hw x1 h0 n0 Z0 P3 P5) e2 P3 (argsL := []) (rest := []) 13 rfl (hml ▸ rfl) (lenOf pd_10 rfl) rfl rfl (W := 0) (nE rfl) (by decide) (by decide) (by decide) (by decide) (hb hby d27_10) ?_
 intro v3 T3 L3 q3 X3
 obtain ⟨rfl, N3, e3⟩ := q3
 show Go _ _ _ _ (T3.setTop (mkF m 13 #[vR x0, vR x1, .val .null, vR x2, uS] [.int 29]))
 refine Go.istore X3 hx 15 rfl (hb hby d27_13) (Ls' := #[vR x0, vR x1, .val .null, vR x2, vI 29]) rfl ?_
 refine Go.aloadN X3 hx 16 rfl (hb hby d27_15) rfl rfl ?_
 refine Go.callV X3 hx hZ hown (tw_167 hw) (tw_168 hw) (notFace_of_selects (args := #[]) (mvT hZ (tw_170 hw))) (tw_170 hw) (tw_169 hw) (by decide) (tw_171 hw) (tw_60 hw) (au_55 l Z a0 hw x1 gz1 gv5 h0 n0 Z0 O0 G P4) e3 P3 (argsL := []) (rest := []) 19 rfl (hml ▸ rfl) (lenOf pd_21 rfl) rfl rfl (W := 0) (nE rfl) (by decide) (by decide) (by decide) (by decide) (hb hby d27_16) ?_
 intro v4 T4 L4 q4 X4
 obtain ⟨rfl, N4, e4⟩ := q4
 show Go _ _ _ _ (T4.setTop (mkF m 19 #[vR x0, vR x1, .val .null, vR x2, vI 29] [.int 1]))
 refine Go.ifNo X4 hx 22 rfl (hb hby d27_19) (by decide) ?_
 refine Go.aloadN X4 hx 23 rfl (hb hby d27_22) rfl rfl ?_
 refine Go.iconst X4 hx 24 rfl (hb hby d27_23) (v := (0 : Int32)) rfl ?_
 refine Go.putFN X4 hx hZ hown (tw_30 hw) Via.refl e4 P1 P0 (Or.inr ⟨(tw_31 hw), rfl, hnm⟩) (tw_5 hw) (ty := .byte) (v' := (.int 0)) (by decide) (by decide) (by decide) 27 rfl (hb hby d27_24) ?_
 intro T5 h5 e5 W5 F5 X5
 have N5 := Fr.snoc X5 (Fr.app (Fr.app (Fr.app (Fr.nil n0) N2) N3) N4) g_x0
 refine Go.aloadN X5 hx 28 rfl (hb hby d27_27) rfl rfl ?_
 refine Go.aloadN X5 hx 29 rfl (hb hby d27_28) rfl rfl ?_
 refine Go.iconst X5 hx 30 rfl (hb hby d27_29) (v := (0 : Int32)) rfl ?_
 refine Go.iload X5 hx 32 rfl (hb hby d27_30) rfl ?_
 have Kp7 := ((Keep.refl h0 [x0]).wr W5 (Or.inl (mG 0 rfl)))
 have Zn6 := Nat.le_trans Z0 Kp7.1
 have fk8 := (P7.other W5 ne_x2_x0)
 refine Go.callS X5 hx hZ hown (tw_172 hw) (tw_173 hw) (tw_136 hw) (tw_174 hw) (by decide) (tw_174 hw) (tw_136 hw) (au_56 l Z a0 hw x2 kk0 p0 p1 p2 p3 p4 p5 p6 p7 h5 n0 Zn6 fk8) e5 (argsL := [.ref x2, .int 0, .int 29]) (rest := [.ref x0]) 35 rfl (hml ▸ rfl) (lenOf pd_23 rfl) rfl rfl (W := 1) (nE rfl) (by decide) (by decide) (by decide) (by decide) (hb hby d27_32) ?_
 intro v9 T9 L9 q9 X9
 obtain ⟨h9, e9⟩ : ∃ z, T9.heap = z := ⟨_, rfl⟩
 rw [e9] at q9
 obtain ⟨b9_0, k9_0, rfl, N9, K9, s9_0, F9_0, F9_1⟩ := q9
 show Go _ _ _ _ (T9.setTop (mkF m 35 #[vR x0, vR x1, .val .null, vR x2, vI 29] [.ref b9_0, .ref x0]))
 have fk10 := ((P2.other W5 (Or.inr (slot_ne (Or.inr (tw_33 hw)) (Or.inr (tw_31 hw)) (by decide) (t := (.array .byte)) (t' := .byte) (by decide) (by decide)))).keep K9 nin0)
 have fk11 := ((P0.wr W5).keep K9)
 refine Go.putF X9 hx hZ hown (host := "") (Or.inl (tw_32 hw)) Via.refl e9 fk10 fk11 (Or.inr ⟨(tw_33 hw), rfl, hnm⟩) (tw_5 hw) (ty := (.array .byte)) (by decide) rfl rfl 38 rfl (hb hby d27_35) ?_
 intro T12 h12 e12 W12 F12 X12
 have N12 := Fr.snoc X12 (Fr.app N5 N9) g_x0
 refine Go.goto X12 hx 97 (hb hby d27_38) (by decide) (by decide) ?_
 subst hFF
 refine Go.ret0 X12 hx hlk hret (hb hby d27_97) (by decide) (by decide) ?_
 rw [e12]
 have fk13 := (fk11.wr W12)
 have fk14 := ((F5.keep K9 nin0).other W12 (Or.inr (slot_ne (Or.inr (tw_31 hw)) (Or.inr (tw_33 hw)) (by decide) (t := .byte) (t' := (.array .byte)) (by decide) (by decide))))
 have fk16 := (P0.wr W5)
 have ne15 := Nat.ne_of_lt (Nat.lt_of_lt_of_le fk16.lt s9_0)
 have fk17 := (F9_0.other W12 (Ne.symm ne15))
 have fk18 := (F9_1.wr W12)
 have Kp19 := (Kp7.trans K9 all0)
 have Kp20 := (Kp19.wr W12 (Or.inl (mG 0 rfl)))
 have sz21 := Nat.le_trans Kp7.1 s9_0
 exact ⟨b9_0, k9_0, rfl, N12, Kp20, sz21, fk13, fk14, F12, fk17, fk18⟩
theorem pd_24 : parseMethodDescriptor "(Ljava/lang/AbstractStringBuilder;Ljava/lang/Void;)V" = some ⟨[(.object "java/lang/AbstractStringBuilder"), (.object "java/lang/Void")], none⟩ := by decide +kernel
theorem d26_3 : decode jdk_42_method_53_code 3 = .ok (.invokespecial 489, 3) := by decide +kernel
theorem d26_6 : decode jdk_42_method_53_code 6 = .ok (.return_, 1) := by decide +kernel
theorem ef_26_RR (m : MethodId) (x0 : Addr) (x1 : Addr) : entryFrame m #[(.ref x0), (.ref x1)] 2 = mkF m 0 #[.val (.ref x0), .val (.ref x1)] [] := by first | (simp [entryFrame, mkF, argsToLocals, Value.category]; done) | rfl
theorem au_50 (l : Launch) (Z : State) (a0 : Array Value) (hw : HW a0 Z) (x0 x1 x2 : Addr) (kk0 : ClassId) (p0 p1 p2 p3 p4 p5 p6 p7 gz1 : Int32) (gv5 : Value) (h0 : Heap) (n0 : Nat) (Z0 : n0 ≤ h0.size) (O0 : Old Z n0 h0) (G : Glob Z gz1 gv5) (P0 : Exa Z h0 x0 s1) (P1 : Fld Z h0 x0 s1 s4 "B" (.int 0)) (P2 : Fld Z h0 x0 s1 s5 "[B" .null) (P3 : Exa Z h0 x1 s3) (P4 : Fld Z h0 x1 s0 s4 "B" (.int 0)) (P5 : Fld Z h0 x1 s0 "count" "I" (.int 29)) (P6 : Fld Z h0 x1 s0 s5 "[B" (.ref x2)) (P7 : Arv Z h0 x2 kk0 .byte (34 : Int32) [.int 69, .int 84, .int 97, .int 103, .int 32, .int p0, .int p1, .int p2, .int p3, .int 44, .int 32, .int 76, .int 97, .int 115, .int 116, .int 45, .int 77, .int 111, .int 100, .int 105, .int 102, .int 105, .int 101, .int 100, .int 32, .int p4, .int p5, .int p6, .int p7, .int 0, .int 0, .int 0, .int 0, .int 0] (.int 0)) (g_x0 : n0 ≤ x0) (ne_x2_x0 : x2 ≠ x0) :
    Ctr l Z ⟨s1, "<init>", "(Ljava/lang/StringBuilder;)V"⟩ jdk_42_method_53_code 2 none (rM 4 1 29 65) #[.ref x0, .ref x1] h0 (fun v h L => ∃ (y0 : Addr) (y1 : ClassId), v = none ∧ Fr n0 L ∧ Keep h0 h [x0] ∧ h0.size ≤ y0 ∧ Exa Z h x0 s1 ∧ Fld Z h x0 s1 s4 "B" (.int 0) ∧ Fld Z h x0 s1 s5 "[B" (.ref y0) ∧ Arv Z h y0 y1 .byte (29 : Int32) [.int 69, .int 84, .int 97, .int 103, .int 32, .int p0, .int p1, .int p2, .int p3, .int 44, .int 32, .int 76, .int 97, .int 115, .int 116, .int 45, .int 77, .int 111, .int 100, .int 105, .int 102, .int 105, .int 101, .int 100, .int 32, .int p4, .int p5, .int p6, .int p7] (.int 0) ∧ Exa Z h y0 "[B") := by
 refine Ctr.of (plainFor_of_name pn_c2) ?_
 intro p e s m below meth c T0 hx hZ hby hml hown hnm hret hlk e0 es X0
 refine Go.cast (ef_26_RR m x0 x1) ?_
 generalize hFF : EndN s _ _ _ = FF
 refine Go.aloadN X0 hx 1 rfl (hb hby d26_0) rfl rfl ?_
 refine Go.aloadN X0 hx 2 rfl (hb hby d26_1) rfl rfl ?_
 refine Go.anull X0 hx 3 rfl (hb hby d26_2) ?_
 refine Go.callN X0 hx hZ hown rfl (tw_151 hw) (tw_152 hw) (tw_153 hw) (by decide) (tw_153 hw) (tw_6 hw) (au_51 l Z a0 hw x0 x1 x2 kk0 p0 p1 p2 p3 p4 p5 p6 p7 gz1 gv5 h0 n0 Z0 O0 G P0 P1 P2 P3 P4 P5 P6 P7 g_x0 ne_x2_x0) e0 (a := x0) (argsL := [.ref x1, .null]) (rest := []) 6 rfl (hml ▸ rfl) (lenOf pd_24 rfl) rfl rfl (W := 0) (nE rfl) (by decide) (by decide) (by decide) (by decide) (hb hby d26_3) ?_
 intro v1 T1 L1 q1 X1
 obtain ⟨h1, e1⟩ : ∃ z, T1.heap = z := ⟨_, rfl⟩
 rw [e1] at q1
 obtain ⟨b1_0, k1_0, rfl, N1, K1, s1_0, F1_0, F1_1, F1_2, F1_3, F1_4⟩ := q1
 show Go _ _ _ _ (T1.setTop (mkF m 6 #[vR x0, vR x1] []))
 subst hFF
 refine Go.ret0 X1 hx hlk hret (hb hby d26_6) (by decide) (by decide) ?_
 rw [e1]
 have Kp2 := ((Keep.refl h0 [x0]).trans K1 (allS (Or.inl (mG 0 rfl)) all0))
 have sz3 := Nat.le_trans (Keep.refl h0 [x0]).1 s1_0
 exact ⟨b1_0, k1_0, rfl, (Fr.app (Fr.nil n0) N1), Kp2, sz3, F1_0, F1_1, F1_2, F1_3, F1_4⟩
theorem pd_25 : parseMethodDescriptor "(Ljava/lang/StringBuilder;)V" = some ⟨[(.object "java/lang/StringBuilder")], none⟩ := by decide +kernel
theorem d25_5 : decode jdk_67_method_42_code 5 = .ok (.invokespecial 137, 3) := by decide +kernel
theorem d25_8 : decode jdk_67_method_42_code 8 = .ok (.areturn, 1) := by decide +kernel
theorem ef_25_R (m : MethodId) (x0 : Addr) : entryFrame m #[(.ref x0)] 1 = mkF m 0 #[.val (.ref x0)] [] := by first | (simp [entryFrame, mkF, argsToLocals, Value.category]; done) | rfl
theorem au_49 (l : Launch) (Z : State) (a0 : Array Value) (hw : HW a0 Z) (x0 x1 : Addr) (kk0 : ClassId) (p0 p1 p2 p3 p4 p5 p6 p7 gz1 : Int32) (gv5 : Value) (h0 : Heap) (n0 : Nat) (Z0 : n0 ≤ h0.size) (O0 : Old Z n0 h0) (G : Glob Z gz1 gv5) (P0 : Exa Z h0 x0 s3) (P1 : Fld Z h0 x0 s0 s4 "B" (.int 0)) (P2 : Fld Z h0 x0 s0 "count" "I" (.int 29)) (P3 : Fld Z h0 x0 s0 s5 "[B" (.ref x1)) (P4 : Arv Z h0 x1 kk0 .byte (34 : Int32) [.int 69, .int 84, .int 97, .int 103, .int 32, .int p0, .int p1, .int p2, .int p3, .int 44, .int 32, .int 76, .int 97, .int 115, .int 116, .int 45, .int 77, .int 111, .int 100, .int 105, .int 102, .int 105, .int 101, .int 100, .int 32, .int p4, .int p5, .int p6, .int p7, .int 0, .int 0, .int 0, .int 0, .int 0] (.int 0)) :
    Ctr l Z ⟨s3, "toString", "()Ljava/lang/String;"⟩ jdk_67_method_42_code 1 (some (.object s1)) (rM 5 2 33 79) #[.ref x0] h0 (fun v h L => ∃ (y0 y1 : Addr) (y2 : ClassId), v = some (.ref y0) ∧ Fr n0 L ∧ Keep h0 h [] ∧ h0.size ≤ y0 ∧ h0.size ≤ y1 ∧ y1 ≠ y0 ∧ Exa Z h y0 s1 ∧ Fld Z h y0 s1 s4 "B" (.int 0) ∧ Fld Z h y0 s1 s5 "[B" (.ref y1) ∧ Arv Z h y1 y2 .byte (29 : Int32) [.int 69, .int 84, .int 97, .int 103, .int 32, .int p0, .int p1, .int p2, .int p3, .int 44, .int 32, .int 76, .int 97, .int 115, .int 116, .int 45, .int 77, .int 111, .int 100, .int 105, .int 102, .int 105, .int 101, .int 100, .int 32, .int p4, .int p5, .int p6, .int p7] (.int 0) ∧ Exa Z h y1 "[B") := by
 refine Ctr.of (plainFor_of_name pn_c5) ?_
 intro p e s m below meth c T0 hx hZ hby hml hown hnm hret hlk e0 es X0
 refine Go.cast (ef_25_R m x0) ?_
 generalize hFF : EndN s _ _ _ = FF
 refine Go.new X0 hx hZ hown (tw_147 hw) (tw_5 hw) (tw_6 hw) e0 (by decide) (by decide) 3 rfl (hb hby d25_0) ?_
 intro T1 h1 b1 e1 E1 g1 A1 D1 X1
 have b1_coder : Fld Z h1 b1 s1 s4 "B" (.int 0) := D1 (Or.inr (tw_31 hw)) (ty := .byte) (by decide)
 have b1_value : Fld Z h1 b1 s1 s5 "[B" .null := D1 (Or.inr (tw_33 hw)) (ty := (.array .byte)) (by decide)
 refine Go.dup X1 hx 4 rfl (hb hby d25_3) rfl ?_
 refine Go.aloadN X1 hx 5 rfl (hb hby d25_4) rfl rfl ?_
 have Kp3 := ((Keep.refl h0 []).ext E1)
 have Zn2 := Nat.le_trans Z0 Kp3.1
 have O4 := (O0.ext E1)
 have fk5 := (P0.ext E1)
 have fk6 := (P1.ext E1)
 have fk7 := (P2.ext E1)
 have fk8 := (P3.ext E1)
 have fk9 := (P4.ext E1)
 have sz11 := Nat.le_trans (Keep.refl h0 []).1 (Nat.le_of_eq g1.symm)
 have ge10 := Nat.le_trans Z0 sz11
 have ne12 := Nat.ne_of_lt (Nat.lt_of_lt_of_le P4.lt (Nat.le_of_eq g1.symm))
 refine Go.callN X1 hx hZ hown rfl (tw_148 hw) (tw_149 hw) (tw_150 hw) (by decide) (tw_150 hw) (tw_6 hw) (au_50 l Z a0 hw b1 x0 x1 kk0 p0 p1 p2 p3 p4 p5 p6 p7 gz1 gv5 h1 n0 Zn2 O4 G A1 b1_coder b1_value fk5 fk6 fk7 fk8 fk9 ge10 ne12) e1 (a := b1) (argsL := [.ref x0]) (rest := [.ref b1]) 8 rfl (hml ▸ rfl) (lenOf pd_25 rfl) rfl rfl (W := 1) (nE rfl) (by decide) (by decide) (by decide) (by decide) (hb hby d25_5) ?_
 intro v13 T13 L13 q13 X13
 obtain ⟨h13, e13⟩ : ∃ z, T13.heap = z := ⟨_, rfl⟩
 rw [e13] at q13
 obtain ⟨b13_0, k13_0, rfl, N13, K13, s13_0, F13_0, F13_1, F13_2, F13_3, F13_4⟩ := q13
 show Go _ _ _ _ (T13.setTop (mkF m 8 #[vR x0] [.ref b1]))
 subst hFF
 refine Go.retR X13 hx hlk (t := (.object s1)) hret rfl rfl (hb hby d25_8) (by decide) (by decide) ?_
 rw [e13]
 have Kp14 := (Kp3.trans K13 (allS (Or.inr sz11) all0))
 have sz15 := Nat.le_trans Kp3.1 s13_0
 have ne16 := Nat.ne_of_lt (Nat.lt_of_lt_of_le A1.lt s13_0)
 exact ⟨b1, b13_0, k13_0, rfl, (Fr.app (Fr.nil n0) N13), Kp14, sz11, sz15, (Ne.symm ne16), F13_0, F13_1, F13_2, F13_3, F13_4⟩
theorem pd_26 : parseMethodDescriptor "()Ljava/lang/String;" = some ⟨[], some (.object "java/lang/String")⟩ := by decide +kernel
theorem d9_31 : decode prog_9_method_6_code 31 = .ok (.invokevirtual 37, 3) := by decide +kernel
theorem d9_34 : decode prog_9_method_6_code 34 = .ok (.areturn, 1) := by decide +kernel
theorem ef_9_R (m : MethodId) (x0 : Addr) : entryFrame m #[(.ref x0)] 1 = mkF m 0 #[.val (.ref x0)] [] := by first | (simp [entryFrame, mkF, argsToLocals, Value.category]; done) | rfl
theorem au_13 (l : Launch) (Z : State) (a0 : Array Value) (hw : HW a0 Z) (x0 x1 x2 x3 x4 : Addr) (kk0 : ClassId) (p0 p1 p2 p3 : Int32) (kk1 : ClassId) (p4 p5 p6 p7 gz1 : Int32) (gv5 : Value) (h0 : Heap) (n0 : Nat) (Z0 : n0 ≤ h0.size) (O0 : Old Z n0 h0) (G : Glob Z gz1 gv5) (P0 : Exa Z h0 x0 s2) (P1 : Fld Z h0 x0 s2 "etag" s6 (.ref x1)) (P2 : Fld Z h0 x0 s2 "lastModified" s6 (.ref x2)) (P3 : Exa Z h0 x1 s1) (P4 : Fld Z h0 x1 s1 s4 "B" (.int 0)) (P5 : Fld Z h0 x1 s1 s5 "[B" (.ref x3)) (P6 : Exa Z h0 x2 s1) (P7 : Fld Z h0 x2 s1 s4 "B" (.int 0)) (P8 : Fld Z h0 x2 s1 s5 "[B" (.ref x4)) (P9 : Arv Z h0 x3 kk0 .byte (4 : Int32) [.int p0, .int p1, .int p2, .int p3] (.int 0)) (P11 : Arv Z h0 x4 kk1 .byte (4 : Int32) [.int p4, .int p5, .int p6, .int p7] (.int 0)) :
    CtrW l Z EL0 ⟨s2, "toString", "()Ljava/lang/String;"⟩ prog_9_method_6_code 1 (some (.object s1)) (rM 6 9 179 91) #[.ref x0] h0 [] (fun v vm h L => ∃ (y0 y1 : Addr) (y2 : ClassId), v = some (.ref y0) ∧ Fr n0 L ∧ Keep h0 h [] ∧ h0.size ≤ y0 ∧ h0.size ≤ y1 ∧ y1 ≠ y0 ∧ Safe Z EL0 vm h y0 ∧ Safe Z EL0 vm h y1 ∧ Exa Z h y0 s1 ∧ Fld Z h y0 s1 s4 "B" (.int 0) ∧ Fld Z h y0 s1 s5 "[B" (.ref y1) ∧ Arv Z h y1 y2 .byte (29 : Int32) [.int 69, .int 84, .int 97, .int 103, .int 32, .int p0, .int p1, .int p2, .int p3, .int 44, .int 32, .int 76, .int 97, .int 115, .int 116, .int 45, .int 77, .int 111, .int 100, .int 105, .int 102, .int 105, .int 101, .int 100, .int 32, .int p4, .int p5, .int p6, .int p7] (.int 0) ∧ Exa Z h y1 "[B") := by
 refine CtrW.of (plainFor_of_name pn_c3) ?_
 intro p e s m below meth c T0 hx hZ hby hml hown hnm hret hlk e0 es hS0 C0 hsf X0
 have G' := G
 obtain ⟨-, -, -, -⟩ := G'
 refine Go.cast (ef_9_R m x0) ?_
 generalize hFF : EndW Z EL0 s _ _ _ = FF
 refine Go.new X0 hx hZ hown (tw_50 hw) (tw_51 hw) (tw_52 hw) e0 (by decide) (by decide) 3 rfl (hb hby d9_0) ?_
 intro T1 h1 b1 e1 E1 g1 A1 D1 X1
 have b1_value : Fld Z h1 b1 s0 s5 "[B" .null := D1 (Or.inl (tw_65 hw)) (ty := (.array .byte)) (by decide)
 have b1_coder : Fld Z h1 b1 s0 s4 "B" (.int 0) := D1 (Or.inl (tw_67 hw)) (ty := .byte) (by decide)
 have b1_count : Fld Z h1 b1 s0 "count" "I" (.int 0) := D1 (Or.inl (tw_92 hw)) (ty := .int) (by decide)
 refine Go.dup X1 hx 4 rfl (hb hby d9_3) rfl ?_
 have Kp3 := ((Keep.refl h0 []).ext E1)
 have Zn2 := Nat.le_trans Z0 Kp3.1
 have O4 := (O0.ext E1)
 have sz6 := Nat.le_trans (Keep.refl h0 []).1 (Nat.le_of_eq g1.symm)
 have ge5 := Nat.le_trans Z0 sz6
 refine Go.callN X1 hx hZ hown rfl (tw_53 hw) (tw_54 hw) (tw_55 hw) (by decide) (tw_55 hw) (tw_52 hw) (au_11 l Z a0 hw b1 gz1 gv5 h1 n0 Zn2 O4 G A1 b1_coder b1_count b1_value ge5) e1 (a := b1) (argsL := []) (rest := [.ref b1]) 7 rfl (hml ▸ rfl) (lenOf pd_8 rfl) rfl rfl (W := 1) (nE rfl) (by decide) (by decide) (by decide) (by decide) (hb hby d9_4) ?_
 intro v7 T7 L7 q7 X7
 obtain ⟨h7, e7⟩ : ∃ z, T7.heap = z := ⟨_, rfl⟩
 rw [e7] at q7
 obtain ⟨b7_0, k7_0, rfl, N7, K7, s7_0, F7_0, F7_1, F7_2, F7_3, F7_4, F7_5⟩ := q7
 show Go _ _ _ _ (T7.setTop (mkF m 7 #[vR x0] [.ref b1]))
 have C8 := (C0.trans (CHr.ext E1 C0.1))
 have fk9 := (Safe.ext E1 C0.1 (Safe.new (Nat.le_of_eq g1.symm) : Safe Z EL0 s.vm h0 b1))
 have C10 := (C8.trans (CHr.keep K7 (sfS fk9 sf0) C8.1))
 have hk11 := (Nat.le_trans (Nat.le_trans (Nat.le_refl _) E1.1) K7.1)
 refine Go.ldcCH X7 hx hZ hown (tw_68 hw) (own_SA hw) e7 hS0 hk11 (own_EW hw) (mG 0 rfl) C10.1 (vs := [(.int (69 : Int32)), (.int (84 : Int32)), (.int (97 : Int32)), (.int (103 : Int32)), (.int (32 : Int32))]) (z := (5 : Int32)) (by decide) (by decide) rfl (n := 20) (by decide) (by decide) (by decide) (by decide) 9 rfl (hb hby d9_7) ?_
 intro a12 T12 h12 j12 b12 k12 e12 E12 S12 i12 Z12 O12 A12 F12 G12 V12 C12 D12 X12
 have Kp14 := (Kp3.trans K7 (allS (Or.inr sz6) all0))
 have Kp15 := (Kp14.ext E12)
 have Zn13 := Nat.le_trans Z0 Kp15.1
 have O16 := (O4.keep K7 (allS ge5 all0))
 have O17 := (O16.ext E12)
 have fk18 := (F7_0.ext E12)
 have fk19 := (F7_1.ext E12)
 have fk20 := (F7_2.ext E12)
 have fk21 := (F7_3.ext E12)
 have fk22 := (F7_4.ext E12)
 have fk23 := (F7_5.ext E12)
 have sz25 := Nat.le_trans Kp3.1 s7_0
 have ge24 := Nat.le_trans Z0 sz25
 have ne26 := Nat.ne_of_lt (Nat.lt_of_lt_of_le A1.lt s7_0)
 refine Go.callV X12 hx Z12 O12 (tw_71 hw) (tw_72 hw) (notFace_of_selects (args := #[]) (mvT Z12 (tw_74 hw))) (tw_74 hw) (tw_73 hw) (by decide) (tw_75 hw) (tw_52 hw) (au_14 l Z a0 hw b1 a12 b7_0 b12 k7_0 k12 gz1 gv5 h12 n0 Zn13 O17 G fk18 fk19 fk20 fk21 A12 F12 G12 fk22 fk23 V12 ge24 ge5 ne26) e12 fk18 (argsL := [.ref a12]) (rest := []) 12 rfl (hml ▸ rfl) (lenOf pd_15 rfl) rfl rfl (W := 0) (nE rfl) (by decide) (by decide) (by decide) (by decide) (hb hby d9_9) ?_
 intro v27 T27 L27 q27 X27
 obtain ⟨h27, e27⟩ : ∃ z, T27.heap = z := ⟨_, rfl⟩
 rw [e27] at q27
 obtain ⟨rfl, N27, K27, F27_0, F27_1, F27_2, F27_3, F27_4, F27_5⟩ := q27
 show Go _ _ _ _ (T27.setTop (mkF m 12 #[vR x0] [.ref b1]))
 refine Go.aloadN X27 hx 13 rfl (hb hby d9_12) rfl rfl ?_
 have ne28 := Nat.ne_of_lt (Nat.lt_of_lt_of_le P0.lt (Nat.le_of_eq g1.symm))
 have fk30 := (P0.ext E1)
 have ne29 := Nat.ne_of_lt (Nat.lt_of_lt_of_le fk30.lt s7_0)
 have fk31 := ((((P1.ext E1).keep K7 (ninS ne28 nin0)).ext E12).keep K27 (ninS ne28 (ninS ne29 nin0)))
 refine Go.getF X27 hx Z12 O12 (host := "") (Or.inl (tw_41 hw)) Via.refl e27 fk31 16 rfl (hb hby d9_13) ?_
 intro T32 e32 X32
 have Kp34 := (Kp15.trans K27 (allS (Or.inr sz6) (allS (Or.inr sz25) all0)))
 have Zn33 := Nat.le_trans Z0 Kp34.1
 have O35 := (O17.keep K27 (allS ge5 (allS ge24 all0)))
 have fk36 := ((((P3.ext E1).keep K7).ext E12).keep K27)
 have ne37 := Nat.ne_of_lt (Nat.lt_of_lt_of_le P3.lt (Nat.le_of_eq g1.symm))
 have fk39 := (P3.ext E1)
 have ne38 := Nat.ne_of_lt (Nat.lt_of_lt_of_le fk39.lt s7_0)
 have fk40 := ((((P4.ext E1).keep K7 (ninS ne37 nin0)).ext E12).keep K27 (ninS ne37 (ninS ne38 nin0)))
 have fk41 := ((((P5.ext E1).keep K7 (ninS ne37 nin0)).ext E12).keep K27 (ninS ne37 (ninS ne38 nin0)))
 have ne42 := Nat.ne_of_lt (Nat.lt_of_lt_of_le P9.lt (Nat.le_of_eq g1.symm))
 have fk44 := (P9.ext E1)
 have ne43 := Nat.ne_of_lt (Nat.lt_of_lt_of_le fk44.lt s7_0)
 have fk45 := ((((P9.ext E1).keep K7 (ninS ne42 nin0)).ext E12).keep K27 (ninS ne42 (ninS ne43 nin0)))
 refine Go.callV X32 hx Z12 O12 (tw_71 hw) (tw_72 hw) (notFace_of_selects (args := #[]) (mvT Z12 (tw_74 hw))) (tw_74 hw) (tw_73 hw) (by decide) (tw_75 hw) (tw_52 hw) (au_22 l Z a0 hw b1 x1 b7_0 x3 k7_0 kk0 p0 p1 p2 p3 gz1 gv5 h27 n0 Zn33 O35 G F27_0 F27_1 F27_2 F27_3 fk36 fk40 fk41 F27_4 F27_5 fk45 ge24 ge5 ne26) e32 F27_0 (argsL := [.ref x1]) (rest := []) 19 rfl (hml ▸ rfl) (lenOf pd_15 rfl) rfl rfl (W := 0) (nE rfl) (by decide) (by decide) (by decide) (by decide) (hb hby d9_16) ?_
 intro v46 T46 L46 q46 X46
 obtain ⟨h46, e46⟩ : ∃ z, T46.heap = z := ⟨_, rfl⟩
 rw [e46] at q46
 obtain ⟨rfl, N46, K46, F46_0, F46_1, F46_2, F46_3, F46_4, F46_5⟩ := q46
 show Go _ _ _ _ (T46.setTop (mkF m 19 #[vR x0] [.ref b1]))
 have C47 := (C10.trans C12)
 have fk48 := (Safe.keep K7 (sfS fk9 sf0) C8.1 (Safe.new s7_0 : Safe Z EL0 s.vm h1 b7_0))
 have fk49 := (C12.safe F7_5.lt fk48)
 have fk50 := (Safe.keep K7 (sfS fk9 sf0) C8.1 fk9)
 have fk51 := (C12.safe F7_0.lt fk50)
 have C52 := (C47.trans (CHr.keep K27 (sfS fk51 (sfS fk49 sf0)) C47.1))
 have fk53 := (Safe.keep K27 (sfS fk51 (sfS fk49 sf0)) C47.1 fk49)
 have fk54 := (Safe.keep K27 (sfS fk51 (sfS fk49 sf0)) C47.1 fk51)
 have C55 := (C52.trans (CHr.keep K46 (sfS fk54 (sfS fk53 sf0)) C52.1))
 have hk56 := (Nat.le_trans (Nat.le_trans i12 K27.1) K46.1)
 refine Go.ldcCH X46 hx Z12 O12 (tw_118 hw) (own_SA hw) e46 S12 hk56 (own_EW hw) (mG 1 rfl) C55.1 (vs := [(.int (44 : Int32)), (.int (32 : Int32)), (.int (76 : Int32)), (.int (97 : Int32)), (.int (115 : Int32)), (.int (116 : Int32)), (.int (45 : Int32)), (.int (77 : Int32)), (.int (111 : Int32)), (.int (100 : Int32)), (.int (105 : Int32)), (.int (102 : Int32)), (.int (105 : Int32)), (.int (101 : Int32)), (.int (100 : Int32)), (.int (32 : Int32))]) (z := (16 : Int32)) (by decide) (by decide) rfl (n := 64) (by decide) (by decide) (by decide) (by decide) 21 rfl (hb hby d9_19) ?_
 intro a57 T57 h57 j57 b57 k57 e57 E57 S57 i57 Z57 O57 A57 F57 G57 V57 C57 D57 X57
 have Kp59 := (Kp34.trans K46 (allS (Or.inr sz6) (allS (Or.inr sz25) all0)))
 have Kp60 := (Kp59.ext E57)
 have Zn58 := Nat.le_trans Z0 Kp60.1
 have O61 := (O35.keep K46 (allS ge5 (allS ge24 all0)))
 have O62 := (O61.ext E57)
 have fk63 := (F46_0.ext E57)
 have fk64 := (F46_1.ext E57)
 have fk65 := (F46_2.ext E57)
 have fk66 := (F46_3.ext E57)
 have fk67 := (F46_4.ext E57)
 have fk68 := (Safe.keep K46 (sfS fk54 (sfS fk53 sf0)) C52.1 fk54)
 have fk69 := (C57.safe F46_0.lt fk68)
 refine Go.callV X57 hx Z57 O57 (tw_71 hw) (tw_72 hw) (notFace_of_selects (args := #[]) (mvT Z57 (tw_74 hw))) (tw_74 hw) (tw_73 hw) (by decide) (tw_75 hw) (tw_52 hw) (au_30 l Z a0 hw b1 a57 b7_0 b57 k7_0 p0 p1 p2 p3 k57 gz1 gv5 h57 n0 Zn58 O62 G fk63 fk64 fk65 fk66 A57 F57 G57 fk67 V57 ge5 (Ne.symm (D57 b1 fk69).1) (Ne.symm (D57 b1 fk69).2)) e57 fk63 (argsL := [.ref a57]) (rest := []) 24 rfl (hml ▸ rfl) (lenOf pd_15 rfl) rfl rfl (W := 0) (nE rfl) (by decide) (by decide) (by decide) (by decide) (hb hby d9_21) ?_
 intro v70 T70 L70 q70 X70
 obtain ⟨h70, e70⟩ : ∃ z, T70.heap = z := ⟨_, rfl⟩
 rw [e70] at q70
 obtain ⟨b70_0, k70_0, rfl, N70, K70, s70_0, F70_0, F70_1, F70_2, F70_3, F70_4, F70_5⟩ := q70
 show Go _ _ _ _ (T70.setTop (mkF m 24 #[vR x0] [.ref b1]))
 refine Go.aloadN X70 hx 25 rfl (hb hby d9_24) rfl rfl ?_
 have fk71 := (((((((P2.ext E1).keep K7 (ninS ne28 nin0)).ext E12).keep K27 (ninS ne28 (ninS ne29 nin0))).keep K46 (ninS ne28 (ninS ne29 nin0))).ext E57).keep K70 (ninS ne28 nin0))
 refine Go.getF X70 hx Z57 O57 (host := "") (Or.inl (tw_43 hw)) Via.refl e70 fk71 28 rfl (hb hby d9_25) ?_
 intro T72 e72 X72
 have Kp74 := (Kp60.trans K70 (allS (Or.inr sz6) all0))
 have Zn73 := Nat.le_trans Z0 Kp74.1
 have O75 := (O62.keep K70 (allS ge5 all0))
 have fk76 := (((((((P6.ext E1).keep K7).ext E12).keep K27).keep K46).ext E57).keep K70)
 have ne77 := Nat.ne_of_lt (Nat.lt_of_lt_of_le P6.lt (Nat.le_of_eq g1.symm))
 have fk79 := (P6.ext E1)
 have ne78 := Nat.ne_of_lt (Nat.lt_of_lt_of_le fk79.lt s7_0)
 have fk80 := (((((((P7.ext E1).keep K7 (ninS ne77 nin0)).ext E12).keep K27 (ninS ne77 (ninS ne78 nin0))).keep K46 (ninS ne77 (ninS ne78 nin0))).ext E57).keep K70 (ninS ne77 nin0))
 have fk81 := (((((((P8.ext E1).keep K7 (ninS ne77 nin0)).ext E12).keep K27 (ninS ne77 (ninS ne78 nin0))).keep K46 (ninS ne77 (ninS ne78 nin0))).ext E57).keep K70 (ninS ne77 nin0))
 have ne82 := Nat.ne_of_lt (Nat.lt_of_lt_of_le P11.lt (Nat.le_of_eq g1.symm))
 have fk84 := (P11.ext E1)
 have ne83 := Nat.ne_of_lt (Nat.lt_of_lt_of_le fk84.lt s7_0)
 have fk85 := (((((((P11.ext E1).keep K7 (ninS ne82 nin0)).ext E12).keep K27 (ninS ne82 (ninS ne83 nin0))).keep K46 (ninS ne82 (ninS ne83 nin0))).ext E57).keep K70 (ninS ne82 nin0))
 have sz87 := Nat.le_trans Kp60.1 s70_0
 have ge86 := Nat.le_trans Z0 sz87
 have ne88 := Nat.ne_of_lt (Nat.lt_of_lt_of_le fk63.lt s70_0)
 refine Go.callV X72 hx Z57 O57 (tw_71 hw) (tw_72 hw) (notFace_of_selects (args := #[]) (mvT Z57 (tw_74 hw))) (tw_74 hw) (tw_73 hw) (by decide) (tw_75 hw) (tw_52 hw) (au_43 l Z a0 hw b1 x2 b70_0 x4 k70_0 p0 p1 p2 p3 kk1 p4 p5 p6 p7 gz1 gv5 h70 n0 Zn73 O75 G F70_0 F70_1 F70_2 F70_3 fk76 fk80 fk81 F70_4 F70_5 fk85 ge86 ge5 ne88) e72 F70_0 (argsL := [.ref x2]) (rest := []) 31 rfl (hml ▸ rfl) (lenOf pd_15 rfl) rfl rfl (W := 0) (nE rfl) (by decide) (by decide) (by decide) (by decide) (hb hby d9_28) ?_
 intro v89 T89 L89 q89 X89
 obtain ⟨h89, e89⟩ : ∃ z, T89.heap = z := ⟨_, rfl⟩
 rw [e89] at q89
 obtain ⟨rfl, N89, K89, F89_0, F89_1, F89_2, F89_3, F89_4, F89_5⟩ := q89
 show Go _ _ _ _ (T89.setTop (mkF m 31 #[vR x0] [.ref b1]))
 have Kp91 := (Kp74.trans K89 (allS (Or.inr sz6) (allS (Or.inr sz87) all0)))
 have Zn90 := Nat.le_trans Z0 Kp91.1
 have O92 := (O75.keep K89 (allS ge5 (allS ge86 all0)))
 refine Go.callV X89 hx Z57 O57 (tw_142 hw) (tw_143 hw) (notFace_of_selects (args := #[]) (mvT Z57 (tw_145 hw))) (tw_145 hw) (tw_144 hw) (by decide) (tw_146 hw) (tw_52 hw) (au_49 l Z a0 hw b1 b70_0 k70_0 p0 p1 p2 p3 p4 p5 p6 p7 gz1 gv5 h89 n0 Zn90 O92 G F89_0 F89_1 F89_2 F89_3 F89_4) e89 F89_0 (argsL := []) (rest := []) 34 rfl (hml ▸ rfl) (lenOf pd_26 rfl) rfl rfl (W := 0) (nE rfl) (by decide) (by decide) (by decide) (by decide) (hb hby d9_31) ?_
 intro v93 T93 L93 q93 X93
 obtain ⟨h93, e93⟩ : ∃ z, T93.heap = z := ⟨_, rfl⟩
 rw [e93] at q93
 obtain ⟨b93_0, b93_1, k93_0, rfl, N93, K93, s93_0, s93_1, n93_0, F93_0, F93_1, F93_2, F93_3, F93_4⟩ := q93
 show Go _ _ _ _ (T93.setTop (mkF m 34 #[vR x0] [.ref b93_0]))
 subst hFF
 have C94 := (C55.trans C57)
 have C95 := (C94.trans (CHr.keep K70 (sfS fk69 sf0) C94.1))
 have fk96 := (Safe.keep K70 (sfS fk69 sf0) C94.1 (Safe.new s70_0 : Safe Z EL0 T57.vm h57 b70_0))
 have fk97 := (Safe.keep K70 (sfS fk69 sf0) C94.1 fk69)
 have C98 := (C95.trans (CHr.keep K89 (sfS fk97 (sfS fk96 sf0)) C95.1))
 have C99 := (C98.trans (CHr.keep K93 sf0 C98.1))
 have hk100 := (Nat.le_trans (Nat.le_trans (Nat.le_trans i57 K70.1) K89.1) K93.1)
 refine Go.retRW X93 hx hlk Z57 (own_EW hw) e93 S57 hk100 C99 (t := (.object s1)) hret rfl rfl (hb hby d9_34) (by decide) (by decide) (fun hat => ?_)
 have Kp101 := (Kp91.trans K93 all0)
 have sz102 := Nat.le_trans Kp91.1 s93_0
 have sz103 := Nat.le_trans Kp91.1 s93_1
 have fk104 := (Safe.keep K93 sf0 C98.1 (Safe.new s93_0 : Safe Z EL0 T57.vm h89 b93_0))
 have fk105 := (Safe.keep K93 sf0 C98.1 (Safe.new s93_1 : Safe Z EL0 T57.vm h89 b93_1))
 exact ⟨b93_0, b93_1, k93_0, rfl, (Fr.app (Fr.app (Fr.app (Fr.app (Fr.app (Fr.app (Fr.nil n0) N7) N27) N46) N70) N89) N93), Kp101, sz102, sz103, n93_0, (hat.safe F93_0.lt fk104), (hat.safe F93_3.lt fk105), F93_0, F93_1, F93_2, F93_3, F93_4⟩
theorem au_62 (l : Launch) (Z : State) (a0 : Array Value) (hw : HW a0 Z) (x0 : Addr) (kk0 : ClassId) (p0 p1 p2 p3 p4 p5 p6 p7 : Int32) (h0 : Heap) (n0 : Nat) (Z0 : n0 ≤ h0.size) (P0 : Arv Z h0 x0 kk0 .char (29 : Int32) [.int 69, .int 84, .int 97, .int 103, .int 32, .int p0, .int p1, .int p2, .int p3, .int 44, .int 32, .int 76, .int 97, .int 115, .int 116, .int 45, .int 77, .int 111, .int 100, .int 105, .int 102, .int 105, .int 101, .int 100, .int 32, .int p4, .int p5, .int p6, .int p7] (.int 0)) (R_p0 : 0 ≤ p0.toInt ∧ p0.toInt ≤ 255) (R_p1 : 0 ≤ p1.toInt ∧ p1.toInt ≤ 255) (R_p2 : 0 ≤ p2.toInt ∧ p2.toInt ≤ 255) (R_p3 : 0 ≤ p3.toInt ∧ p3.toInt ≤ 255) (R_p4 : 0 ≤ p4.toInt ∧ p4.toInt ≤ 255) (R_p5 : 0 ≤ p5.toInt ∧ p5.toInt ≤ 255) (R_p6 : 0 ≤ p6.toInt ∧ p6.toInt ≤ 255) (R_p7 : 0 ≤ p7.toInt ∧ p7.toInt ≤ 255) :
    Ctr l Z ⟨"java/lang/StringUTF16", "compress", "([CII)[B"⟩ jdk_52_method_16_code 6 (some (.array .byte)) (rM 1 1 29 18) #[.ref x0, .int 0, .int 29] h0 (fun v h L => ∃ (y0 y1 y2 y3 y4 y5 y6 y7 : Int32) (y8 : Addr) (y9 : ClassId), (p0.toInt8.toInt32) = y0 ∧ (p1.toInt8.toInt32) = y1 ∧ (p2.toInt8.toInt32) = y2 ∧ (p3.toInt8.toInt32) = y3 ∧ (p4.toInt8.toInt32) = y4 ∧ (p5.toInt8.toInt32) = y5 ∧ (p6.toInt8.toInt32) = y6 ∧ (p7.toInt8.toInt32) = y7 ∧ v = some (.ref y8) ∧ Fr n0 L ∧ Keep h0 h [] ∧ h0.size ≤ y8 ∧ Arv Z h y8 y9 .byte (29 : Int32) [.int 69, .int 84, .int 97, .int 103, .int 32, .int y0, .int y1, .int y2, .int y3, .int 44, .int 32, .int 76, .int 97, .int 115, .int 116, .int 45, .int 77, .int 111, .int 100, .int 105, .int 102, .int 105, .int 101, .int 100, .int 32, .int y4, .int y5, .int y6, .int y7] (.int 0) ∧ Exa Z h y8 "[B") := by
 refine Ctr.of (plainFor_of_name pn_c1) ?_
 intro p e s m below meth c T0 hx hZ hby hml hown hnm hret hlk e0 es X0
 refine Go.cast (ef_5_RII m x0 (0 : Int32) (29 : Int32)) ?_
 generalize hFF : EndN s _ _ _ = FF
 refine Go.iloadN X0 hx 1 rfl (hb hby d5_0) rfl ?_
 refine Go.newarray X0 hx hZ (ty := .byte) rfl (tw_23 hw) e0 (by decide) (cap := 29) (by decide) (by decide) (by decide) (by decide) (ad := "[B") (by decide) 29 3 rfl (hb hby d5_1) ?_
 intro T1 h1 b1 k1 e1 E1 g1 V1 A1 X1
 have V1' : Arv Z h1 b1 k1 .byte (29 : Int32) [.int 0, .int 0, .int 0, .int 0, .int 0, .int 0, .int 0, .int 0, .int 0, .int 0, .int 0, .int 0, .int 0, .int 0, .int 0, .int 0, .int 0, .int 0, .int 0, .int 0, .int 0, .int 0, .int 0, .int 0, .int 0, .int 0, .int 0, .int 0, .int 0] (.int 0) := V1
 refine Go.astoreN X1 hx 4 rfl (hb hby d5_3) (Ls' := #[vR x0, vI 0, vI 29, vR b1, uS, uS]) rfl rfl ?_
 refine Go.aloadN X1 hx 5 rfl (hb hby d5_4) rfl rfl ?_
 refine Go.iloadN X1 hx 6 rfl (hb hby d5_5) rfl ?_
 refine Go.aloadN X1 hx 7 rfl (hb hby d5_6) rfl rfl ?_
 refine Go.iconst X1 hx 8 rfl (hb hby d5_7) (v := (0 : Int32)) rfl ?_
 refine Go.iloadN X1 hx 9 rfl (hb hby d5_8) rfl ?_
 have fk2 := (P0.ext E1)
 have sz4 := Nat.le_trans (Keep.refl h0 []).1 (Nat.le_of_eq g1.symm)
 have ge3 := Nat.le_trans Z0 sz4
 have ne5 := Nat.ne_of_lt (Nat.lt_of_lt_of_le P0.lt (Nat.le_of_eq g1.symm))
 refine Go.callS X1 hx hZ hown (tw_24 hw) (tw_25 hw) (tw_21 hw) (tw_26 hw) (by decide) (tw_26 hw) (tw_21 hw) (gl_co l Z a0 hw x0 b1 kk0 k1 (29 : Int32) [(69 : Int32), (84 : Int32), (97 : Int32), (103 : Int32), (32 : Int32), p0, p1, p2, p3, (44 : Int32), (32 : Int32), (76 : Int32), (97 : Int32), (115 : Int32), (116 : Int32), (45 : Int32), (77 : Int32), (111 : Int32), (100 : Int32), (105 : Int32), (102 : Int32), (105 : Int32), (101 : Int32), (100 : Int32), (32 : Int32), p4, p5, p6, p7] h1 n0 fk2 V1' rfl (own_rcons (own_rw (own_rlit (n := 69) (by decide)) (by decide) (by decide)) (own_rcons (own_rw (own_rlit (n := 84) (by decide)) (by decide) (by decide)) (own_rcons (own_rw (own_rlit (n := 97) (by decide)) (by decide) (by decide)) (own_rcons (own_rw (own_rlit (n := 103) (by decide)) (by decide) (by decide)) (own_rcons (own_rw (own_rlit (n := 32) (by decide)) (by decide) (by decide)) (own_rcons (own_rw R_p0 (by decide) (by decide)) (own_rcons (own_rw R_p1 (by decide) (by decide)) (own_rcons (own_rw R_p2 (by decide) (by decide)) (own_rcons (own_rw R_p3 (by decide) (by decide)) (own_rcons (own_rw (own_rlit (n := 44) (by decide)) (by decide) (by decide)) (own_rcons (own_rw (own_rlit (n := 32) (by decide)) (by decide) (by decide)) (own_rcons (own_rw (own_rlit (n := 76) (by decide)) (by decide) (by decide)) (own_rcons (own_rw (own_rlit (n := 97) (by decide)) (by decide) (by decide)) (own_rcons (own_rw (own_rlit (n := 115) (by decide)) (by decide) (by decide)) (own_rcons (own_rw (own_rlit (n := 116) (by decide)) (by decide) (by decide)) (own_rcons (own_rw (own_rlit (n := 45) (by decide)) (by decide) (by decide)) (own_rcons (own_rw (own_rlit (n := 77) (by decide)) (by decide) (by decide)) (own_rcons (own_rw (own_rlit (n := 111) (by decide)) (by decide) (by decide)) (own_rcons (own_rw (own_rlit (n := 100) (by decide)) (by decide) (by decide)) (own_rcons (own_rw (own_rlit (n := 105) (by decide)) (by decide) (by decide)) (own_rcons (own_rw (own_rlit (n := 102) (by decide)) (by decide) (by decide)) (own_rcons (own_rw (own_rlit (n := 105) (by decide)) (by decide) (by decide)) (own_rcons (own_rw (own_rlit (n := 101) (by decide)) (by decide) (by decide)) (own_rcons (own_rw (own_rlit (n := 100) (by decide)) (by decide) (by decide)) (own_rcons (own_rw (own_rlit (n := 32) (by decide)) (by decide) (by decide)) (own_rcons (own_rw R_p4 (by decide) (by decide)) (own_rcons (own_rw R_p5 (by decide) (by decide)) (own_rcons (own_rw R_p6 (by decide) (by decide)) (own_rcons (own_rw R_p7 (by decide) (by decide)) (fun i hi => absurd hi (Nat.not_lt_zero i))))))))))))))))))))))))))))))) ge3 ne5) e1 (argsL := [.ref x0, .int 0, .ref b1, .int 0, .int 29]) (rest := []) 12 rfl (hml ▸ rfl) (lenOf pd_1 rfl) rfl rfl (W := 0) (nE rfl) (by decide) (by decide) (by decide) (by decide) (hb hby d5_9) ?_
 intro v6 T6 L6 q6 X6
 obtain ⟨h6, e6⟩ : ∃ z, T6.heap = z := ⟨_, rfl⟩
 rw [e6] at q6
 obtain ⟨rfl, N6, K6, V6⟩ := q6
 obtain ⟨z7, hz7⟩ : ∃ y, (p0.toInt8.toInt32) = y := ⟨_, rfl⟩
 obtain ⟨z8, hz8⟩ : ∃ y, (p1.toInt8.toInt32) = y := ⟨_, rfl⟩
 obtain ⟨z9, hz9⟩ : ∃ y, (p2.toInt8.toInt32) = y := ⟨_, rfl⟩
 obtain ⟨z10, hz10⟩ : ∃ y, (p3.toInt8.toInt32) = y := ⟨_, rfl⟩
 obtain ⟨z11, hz11⟩ : ∃ y, (p4.toInt8.toInt32) = y := ⟨_, rfl⟩
 obtain ⟨z12, hz12⟩ : ∃ y, (p5.toInt8.toInt32) = y := ⟨_, rfl⟩
 obtain ⟨z13, hz13⟩ : ∃ y, (p6.toInt8.toInt32) = y := ⟨_, rfl⟩
 obtain ⟨z14, hz14⟩ : ∃ y, (p7.toInt8.toInt32) = y := ⟨_, rfl⟩
 rw [show ([(69 : Int32), (84 : Int32), (97 : Int32), (103 : Int32), (32 : Int32), p0, p1, p2, p3, (44 : Int32), (32 : Int32), (76 : Int32), (97 : Int32), (115 : Int32), (116 : Int32), (45 : Int32), (77 : Int32), (111 : Int32), (100 : Int32), (105 : Int32), (102 : Int32), (105 : Int32), (101 : Int32), (100 : Int32), (32 : Int32), p4, p5, p6, p7] : List Int32).map (fun c => Value.int c.toInt8.toInt32) = [.int 69, .int 84, .int 97, .int 103, .int 32, .int z7, .int z8, .int z9, .int z10, .int 44, .int 32, .int 76, .int 97, .int 115, .int 116, .int 45, .int 77, .int 111, .int 100, .int 105, .int 102, .int 105, .int 101, .int 100, .int 32, .int z11, .int z12, .int z13, .int z14] from (own_mc (by decide) (own_mc (by decide) (own_mc (by decide) (own_mc (by decide) (own_mc (by decide) (own_mc (congrArg Value.int hz7) (own_mc (congrArg Value.int hz8) (own_mc (congrArg Value.int hz9) (own_mc (congrArg Value.int hz10) (own_mc (by decide) (own_mc (by decide) (own_mc (by decide) (own_mc (by decide) (own_mc (by decide) (own_mc (by decide) (own_mc (by decide) (own_mc (by decide) (own_mc (by decide) (own_mc (by decide) (own_mc (by decide) (own_mc (by decide) (own_mc (by decide) (own_mc (by decide) (own_mc (by decide) (own_mc (by decide) (own_mc (congrArg Value.int hz11) (own_mc (congrArg Value.int hz12) (own_mc (congrArg Value.int hz13) (own_mc (congrArg Value.int hz14) rfl)))))))))))))))))))))))))))))] at V6
 show Go _ _ _ _ (T6.setTop (mkF m 12 #[vR x0, vI 0, vI 29, vR b1, uS, uS] [.int 29]))
 refine Go.istore X6 hx 14 rfl (hb hby d5_12) (Ls' := #[vR x0, vI 0, vI 29, vR b1, vI 29, uS]) rfl ?_
 refine Go.iload X6 hx 16 rfl (hb hby d5_14) rfl ?_
 refine Go.iloadN X6 hx 17 rfl (hb hby d5_16) rfl ?_
 refine Go.icmpYes X6 hx 57 (hb hby d5_17) (by decide) (by decide) (by decide) ?_
 refine Go.aloadN X6 hx 58 rfl (hb hby d5_57) rfl rfl ?_
 subst hFF
 refine Go.retR X6 hx hlk (t := (.array .byte)) hret rfl rfl (hb hby d5_58) (by decide) (by decide) ?_
 rw [e6]
 have fk15 := (A1.keep K6)
 have Kp16 := ((Keep.refl h0 []).ext E1)
 have Kp17 := (Kp16.trans K6 (allS (Or.inr sz4) all0))
 exact ⟨z7, z8, z9, z10, z11, z12, z13, z14, b1, k1, hz7, hz8, hz9, hz10, hz11, hz12, hz13, hz14, rfl, (Fr.app (Fr.nil n0) N6), Kp17, sz4, V6, fk15⟩
theorem au_63 (l : Launch) (Z : State) (a0 : Array Value) (hw : HW a0 Z) (x0 : Addr) (kk0 : ClassId) (p0 p1 p2 p3 p4 p5 p6 p7 : Int32) (h0 : Heap) (n0 : Nat) (Z0 : n0 ≤ h0.size) (P0 : Arv Z h0 x0 kk0 .byte (29 : Int32) [.int 69, .int 84, .int 97, .int 103, .int 32, .int p0, .int p1, .int p2, .int p3, .int 44, .int 32, .int 76, .int 97, .int 115, .int 116, .int 45, .int 77, .int 111, .int 100, .int 105, .int 102, .int 105, .int 101, .int 100, .int 32, .int p4, .int p5, .int p6, .int p7] (.int 0)) :
    Ctr l Z ⟨"java/lang/StringUTF16", "coderFromArrayLen", "([BI)B"⟩ jdk_52_method_15_code 2 (some .byte) (rM 0 0 0 0) #[.ref x0, .int 29] h0 (fun v h L => v = some (.int 0) ∧ Fr n0 L ∧ h = h0) := by
 refine Ctr.of (plainFor_of_name pn_c1) ?_
 intro p e s m below meth c T0 hx hZ hby hml hown hnm hret hlk e0 es X0
 refine Go.cast (ef_7_RI m x0 (29 : Int32)) ?_
 generalize hFF : EndN s _ _ _ = FF
 refine Go.iloadN X0 hx 1 rfl (hb hby d7_0) rfl ?_
 refine Go.aloadN X0 hx 2 rfl (hb hby d7_1) rfl rfl ?_
 refine Go.arraylength X0 hx hZ e0 P0 3 rfl (hb hby d7_2) ?_
 refine Go.isub X0 hx 4 rfl (hb hby d7_3) ?_
 rw [show ((29 : Int32) - (29 : Int32)) = (0 : Int32) from by decide]
 refine Go.bipush X0 hx 6 rfl (hb hby d7_4) (v := (31 : Int32)) (by decide) ?_
 refine Go.iushr X0 hx 7 rfl (hb hby d7_6) ?_
 rw [show (((0 : Int32).toUInt32 >>> ((31 : Int32) &&& 31).toUInt32).toInt32) = (0 : Int32) from by decide]
 refine Go.i2b X0 hx 8 rfl (hb hby d7_7) ?_
 rw [show ((0 : Int32).toInt8.toInt32) = (0 : Int32) from by decide]
 subst hFF
 refine Go.retN X0 hx hlk (t := .byte) hret (by simp) (hb hby d7_8) (by decide) (by decide) ?_
 rw [e0]
 exact ⟨(congrArg (fun z => some (Value.int z)) (by decide : nar .byte (0 : Int32) = (0 : Int32))), (Fr.nil n0), rfl⟩
theorem au_61 (l : Launch) (Z : State) (a0 : Array Value) (hw : HW a0 Z) (x0 x1 : Addr) (kk0 : ClassId) (p0 p1 p2 p3 p4 p5 p6 p7 gz1 : Int32) (gv5 : Value) (h0 : Heap) (n0 : Nat) (Z0 : n0 ≤ h0.size) (O0 : Old Z n0 h0) (G : Glob Z gz1 gv5) (P0 : Exa Z h0 x0 s1) (P1 : Fld Z h0 x0 s1 s4 "B" (.int 0)) (P2 : Fld Z h0 x0 s1 s5 "[B" .null) (P3 : Arv Z h0 x1 kk0 .char (29 : Int32) [.int 69, .int 84, .int 97, .int 103, .int 32, .int p0, .int p1, .int p2, .int p3, .int 44, .int 32, .int 76, .int 97, .int 115, .int 116, .int 45, .int 77, .int 111, .int 100, .int 105, .int 102, .int 105, .int 101, .int 100, .int 32, .int p4, .int p5, .int p6, .int p7] (.int 0)) (R_p0 : 0 ≤ p0.toInt ∧ p0.toInt ≤ 255) (R_p1 : 0 ≤ p1.toInt ∧ p1.toInt ≤ 255) (R_p2 : 0 ≤ p2.toInt ∧ p2.toInt ≤ 255) (R_p3 : 0 ≤ p3.toInt ∧ p3.toInt ≤ 255) (R_p4 : 0 ≤ p4.toInt ∧ p4.toInt ≤ 255) (R_p5 : 0 ≤ p5.toInt ∧ p5.toInt ≤ 255) (R_p6 : 0 ≤ p6.toInt ∧ p6.toInt ≤ 255) (R_p7 : 0 ≤ p7.toInt ∧ p7.toInt ≤ 255) (g_x0 : n0 ≤ x0) :
    Ctr l Z ⟨s1, "<init>", "([CIILjava/lang/Void;)V"⟩ jdk_42_method_149_code 6 none (rM 2 1 29 35) #[.ref x0, .ref x1, .int 0, .int 29, .null] h0 (fun v h L => ∃ (y0 y1 y2 y3 y4 y5 y6 y7 : Int32) (y8 : Addr) (y9 : ClassId), (p0.toInt8.toInt32) = y0 ∧ (p1.toInt8.toInt32) = y1 ∧ (p2.toInt8.toInt32) = y2 ∧ (p3.toInt8.toInt32) = y3 ∧ (p4.toInt8.toInt32) = y4 ∧ (p5.toInt8.toInt32) = y5 ∧ (p6.toInt8.toInt32) = y6 ∧ (p7.toInt8.toInt32) = y7 ∧ v = none ∧ Fr n0 L ∧ Keep h0 h [x0] ∧ h0.size ≤ y8 ∧ Exa Z h x0 s1 ∧ Fld Z h x0 s1 s4 "B" (.int 0) ∧ Fld Z h x0 s1 s5 "[B" (.ref y8) ∧ Arv Z h y8 y9 .byte (29 : Int32) [.int 69, .int 84, .int 97, .int 103, .int 32, .int y0, .int y1, .int y2, .int y3, .int 44, .int 32, .int 76, .int 97, .int 115, .int 116, .int 45, .int 77, .int 111, .int 100, .int 105, .int 102, .int 105, .int 101, .int 100, .int 32, .int y4, .int y5, .int y6, .int y7] (.int 0) ∧ Exa Z h y8 "[B") := by
 refine Ctr.of (plainFor_of_name pn_c2) ?_
 intro p e s m below meth c T0 hx hZ hby hml hown hnm hret hlk e0 es X0
 have G' := G
 obtain ⟨G0, -, G2, -⟩ := G'
 refine Go.cast (ef_3_RRIIN m x0 x1 (0 : Int32) (29 : Int32)) ?_
 generalize hFF : EndN s _ _ _ = FF
 refine Go.aloadN X0 hx 1 rfl (hb hby d3_0) rfl rfl ?_
 refine Go.initO X0 hx hZ hown (tw_15 hw) (tw_16 hw) (tw_17 hw) e0 (by decide) (W := 0) (hml ▸ rfl) (nE rfl) (by decide) (pc' := 4) rfl (hb hby d3_1) ?_
 intro T1 e1 X1
 refine Go.iloadN X1 hx 5 rfl (hb hby d3_4) rfl ?_
 refine Go.ifYes X1 hx 27 (hb hby d3_5) (by decide) (by decide) (by decide) ?_
 have fk2 := G0.ext O0.2
 refine Go.getS X1 hx hZ hown (host := "") (Or.inl (tw_18 hw)) Via.refl e1 fk2 30 rfl (hb hby d3_27) ?_
 intro T3 e3 X3
 refine Go.ifNo X3 hx 33 rfl (hb hby d3_30) (feq G2).1 ?_
 refine Go.aloadN X3 hx 34 rfl (hb hby d3_33) rfl rfl ?_
 refine Go.iloadN X3 hx 35 rfl (hb hby d3_34) rfl ?_
 refine Go.iloadN X3 hx 36 rfl (hb hby d3_35) rfl ?_
 refine Go.callS X3 hx hZ hown (tw_19 hw) (tw_20 hw) (tw_21 hw) (tw_22 hw) (by decide) (tw_22 hw) (tw_21 hw) (au_62 l Z a0 hw x1 kk0 p0 p1 p2 p3 p4 p5 p6 p7 h0 n0 Z0 P3 R_p0 R_p1 R_p2 R_p3 R_p4 R_p5 R_p6 R_p7) e3 (argsL := [.ref x1, .int 0, .int 29]) (rest := []) 39 rfl (hml ▸ rfl) (lenOf pd_2 rfl) rfl rfl (W := 0) (nE rfl) (by decide) (by decide) (by decide) (by decide) (hb hby d3_36) ?_
 intro v4 T4 L4 q4 X4
 obtain ⟨h4, e4⟩ : ∃ z, T4.heap = z := ⟨_, rfl⟩
 rw [e4] at q4
 obtain ⟨z4_0, z4_1, z4_2, z4_3, z4_4, z4_5, z4_6, z4_7, b4_0, k4_0, d4_0, d4_1, d4_2, d4_3, d4_4, d4_5, d4_6, d4_7, rfl, N4, K4, s4_0, F4_0, F4_1⟩ := q4
 show Go _ _ _ _ (T4.setTop (mkF m 39 #[vR x0, vR x1, vI 0, vI 29, .val .null, uS] [.ref b4_0]))
 refine Go.astore X4 hx 41 rfl (hb hby d3_39) (Ls' := #[vR x0, vR x1, vI 0, vI 29, .val .null, vR b4_0]) rfl rfl ?_
 refine Go.aloadN X4 hx 42 rfl (hb hby d3_41) rfl rfl ?_
 refine Go.aload X4 hx 44 rfl (hb hby d3_42) rfl rfl ?_
 refine Go.iloadN X4 hx 45 rfl (hb hby d3_44) rfl ?_
 have r5 : -128 ≤ z4_0.toInt ∧ z4_0.toInt ≤ 127 := own_ri2b d4_0
 have r6 : -128 ≤ z4_1.toInt ∧ z4_1.toInt ≤ 127 := own_ri2b d4_1
 have r7 : -128 ≤ z4_2.toInt ∧ z4_2.toInt ≤ 127 := own_ri2b d4_2
 have r8 : -128 ≤ z4_3.toInt ∧ z4_3.toInt ≤ 127 := own_ri2b d4_3
 have r9 : -128 ≤ z4_4.toInt ∧ z4_4.toInt ≤ 127 := own_ri2b d4_4
 have r10 : -128 ≤ z4_5.toInt ∧ z4_5.toInt ≤ 127 := own_ri2b d4_5
 have r11 : -128 ≤ z4_6.toInt ∧ z4_6.toInt ≤ 127 := own_ri2b d4_6
 have r12 : -128 ≤ z4_7.toInt ∧ z4_7.toInt ≤ 127 := own_ri2b d4_7
 have Kp14 := ((Keep.refl h0 [x0]).trans K4 all0)
 have Zn13 := Nat.le_trans Z0 Kp14.1
 refine Go.callS X4 hx hZ hown (tw_27 hw) (tw_28 hw) (tw_21 hw) (tw_29 hw) (by decide) (tw_29 hw) (tw_21 hw) (au_63 l Z a0 hw b4_0 k4_0 z4_0 z4_1 z4_2 z4_3 z4_4 z4_5 z4_6 z4_7 h4 n0 Zn13 F4_0) e4 (argsL := [.ref b4_0, .int 29]) (rest := [.ref x0]) 48 rfl (hml ▸ rfl) (lenOf pd_3 rfl) rfl rfl (W := 1) (nE rfl) (by decide) (by decide) (by decide) (by decide) (hb hby d3_45) ?_
 intro v15 T15 L15 q15 X15
 obtain ⟨rfl, N15, e15⟩ := q15
 show Go _ _ _ _ (T15.setTop (mkF m 48 #[vR x0, vR x1, vI 0, vI 29, .val .null, vR b4_0] [.int 0, .ref x0]))
 have fk16 := (P1.keep K4 nin0)
 have fk17 := (P0.keep K4)
 refine Go.putFN X15 hx hZ hown (tw_30 hw) Via.refl e15 fk16 fk17 (Or.inr ⟨(tw_31 hw), rfl, hnm⟩) (tw_5 hw) (ty := .byte) (v' := (.int 0)) (by decide) (by decide) (by decide) 51 rfl (hb hby d3_48) ?_
 intro T18 h18 e18 W18 F18 X18
 have N18 := Fr.snoc X18 (Fr.app (Fr.app (Fr.nil n0) N4) N15) g_x0
 refine Go.aloadN X18 hx 52 rfl (hb hby d3_51) rfl rfl ?_
 refine Go.aload X18 hx 54 rfl (hb hby d3_52) rfl rfl ?_
 have fk19 := ((P2.keep K4 nin0).other W18 (Or.inr (slot_ne (Or.inr (tw_33 hw)) (Or.inr (tw_31 hw)) (by decide) (t := (.array .byte)) (t' := .byte) (by decide) (by decide))))
 have fk20 := (fk17.wr W18)
 refine Go.putF X18 hx hZ hown (host := "") (Or.inl (tw_32 hw)) Via.refl e18 fk19 fk20 (Or.inr ⟨(tw_33 hw), rfl, hnm⟩) (tw_5 hw) (ty := (.array .byte)) (by decide) rfl rfl 57 rfl (hb hby d3_54) ?_
 intro T21 h21 e21 W21 F21 X21
 have N21 := Fr.snoc X21 N18 g_x0
 subst hFF
 refine Go.ret0 X21 hx hlk hret (hb hby d3_57) (by decide) (by decide) ?_
 rw [e21]
 have fk22 := (fk20.wr W21)
 have fk23 := (F18.other W21 (Or.inr (slot_ne (Or.inr (tw_31 hw)) (Or.inr (tw_33 hw)) (by decide) (t := .byte) (t' := (.array .byte)) (by decide) (by decide))))
 have ne24 := Nat.ne_of_lt (Nat.lt_of_lt_of_le P0.lt s4_0)
 have fk25 := ((F4_0.other W18 (Ne.symm ne24)).other W21 (Ne.symm ne24))
 have fk26 := ((F4_1.wr W18).wr W21)
 have Kp27 := (Kp14.wr W18 (Or.inl (mG 0 rfl)))
 have Kp28 := (Kp27.wr W21 (Or.inl (mG 0 rfl)))
 have sz29 := Nat.le_trans (Keep.refl h0 [x0]).1 s4_0
 exact ⟨z4_0, z4_1, z4_2, z4_3, z4_4, z4_5, z4_6, z4_7, b4_0, k4_0, d4_0, d4_1, d4_2, d4_3, d4_4, d4_5, d4_6, d4_7, rfl, N21, Kp28, sz29, fk22, fk23, F21, fk25, fk26⟩
theorem au_60 (l : Launch) (Z : State) (a0 : Array Value) (hw : HW a0 Z) (x0 x1 : Addr) (kk0 : ClassId) (p0 p1 p2 p3 p4 p5 p6 p7 gz1 : Int32) (gv5 : Value) (h0 : Heap) (n0 : Nat) (Z0 : n0 ≤ h0.size) (O0 : Old Z n0 h0) (G : Glob Z gz1 gv5) (P0 : Exa Z h0 x0 s1) (P1 : Fld Z h0 x0 s1 s4 "B" (.int 0)) (P2 : Fld Z h0 x0 s1 s5 "[B" .null) (P3 : Arv Z h0 x1 kk0 .char (29 : Int32) [.int 69, .int 84, .int 97, .int 103, .int 32, .int p0, .int p1, .int p2, .int p3, .int 44, .int 32, .int 76, .int 97, .int 115, .int 116, .int 45, .int 77, .int 111, .int 100, .int 105, .int 102, .int 105, .int 101, .int 100, .int 32, .int p4, .int p5, .int p6, .int p7] (.int 0)) (R_p0 : 0 ≤ p0.toInt ∧ p0.toInt ≤ 255) (R_p1 : 0 ≤ p1.toInt ∧ p1.toInt ≤ 255) (R_p2 : 0 ≤ p2.toInt ∧ p2.toInt ≤ 255) (R_p3 : 0 ≤ p3.toInt ∧ p3.toInt ≤ 255) (R_p4 : 0 ≤ p4.toInt ∧ p4.toInt ≤ 255) (R_p5 : 0 ≤ p5.toInt ∧ p5.toInt ≤ 255) (R_p6 : 0 ≤ p6.toInt ∧ p6.toInt ≤ 255) (R_p7 : 0 ≤ p7.toInt ∧ p7.toInt ≤ 255) (g_x0 : n0 ≤ x0) :
    Ctr l Z ⟨s1, "<init>", "([C)V"⟩ jdk_42_method_3_code 2 none (rM 3 1 29 52) #[.ref x0, .ref x1] h0 (fun v h L => ∃ (y0 y1 y2 y3 y4 y5 y6 y7 : Int32) (y8 : Addr) (y9 : ClassId), (p0.toInt8.toInt32) = y0 ∧ (p1.toInt8.toInt32) = y1 ∧ (p2.toInt8.toInt32) = y2 ∧ (p3.toInt8.toInt32) = y3 ∧ (p4.toInt8.toInt32) = y4 ∧ (p5.toInt8.toInt32) = y5 ∧ (p6.toInt8.toInt32) = y6 ∧ (p7.toInt8.toInt32) = y7 ∧ v = none ∧ Fr n0 L ∧ Keep h0 h [x0] ∧ h0.size ≤ y8 ∧ Exa Z h x0 s1 ∧ Fld Z h x0 s1 s4 "B" (.int 0) ∧ Fld Z h x0 s1 s5 "[B" (.ref y8) ∧ Arv Z h y8 y9 .byte (29 : Int32) [.int 69, .int 84, .int 97, .int 103, .int 32, .int y0, .int y1, .int y2, .int y3, .int 44, .int 32, .int 76, .int 97, .int 115, .int 116, .int 45, .int 77, .int 111, .int 100, .int 105, .int 102, .int 105, .int 101, .int 100, .int 32, .int y4, .int y5, .int y6, .int y7] (.int 0) ∧ Exa Z h y8 "[B") := by
 refine Ctr.of (plainFor_of_name pn_c2) ?_
 intro p e s m below meth c T0 hx hZ hby hml hown hnm hret hlk e0 es X0
 refine Go.cast (ef_2_RR m x0 x1) ?_
 generalize hFF : EndN s _ _ _ = FF
 refine Go.aloadN X0 hx 1 rfl (hb hby d2_0) rfl rfl ?_
 refine Go.aloadN X0 hx 2 rfl (hb hby d2_1) rfl rfl ?_
 refine Go.iconst X0 hx 3 rfl (hb hby d2_2) (v := (0 : Int32)) rfl ?_
 refine Go.aloadN X0 hx 4 rfl (hb hby d2_3) rfl rfl ?_
 refine Go.arraylength X0 hx hZ e0 P3 5 rfl (hb hby d2_4) ?_
 refine Go.anull X0 hx 6 rfl (hb hby d2_5) ?_
 refine Go.callN X0 hx hZ hown rfl (tw_11 hw) (tw_12 hw) (tw_14 hw) (by decide) (tw_14 hw) (tw_6 hw) (au_61 l Z a0 hw x0 x1 kk0 p0 p1 p2 p3 p4 p5 p6 p7 gz1 gv5 h0 n0 Z0 O0 G P0 P1 P2 P3 R_p0 R_p1 R_p2 R_p3 R_p4 R_p5 R_p6 R_p7 g_x0) e0 (a := x0) (argsL := [.ref x1, .int 0, .int 29, .null]) (rest := []) 9 rfl (hml ▸ rfl) (lenOf pd_4 rfl) rfl rfl (W := 0) (nE rfl) (by decide) (by decide) (by decide) (by decide) (hb hby d2_6) ?_
 intro v1 T1 L1 q1 X1
 obtain ⟨h1, e1⟩ : ∃ z, T1.heap = z := ⟨_, rfl⟩
 rw [e1] at q1
 obtain ⟨z1_0, z1_1, z1_2, z1_3, z1_4, z1_5, z1_6, z1_7, b1_0, k1_0, d1_0, d1_1, d1_2, d1_3, d1_4, d1_5, d1_6, d1_7, rfl, N1, K1, s1_0, F1_0, F1_1, F1_2, F1_3, F1_4⟩ := q1
 show Go _ _ _ _ (T1.setTop (mkF m 9 #[vR x0, vR x1] []))
 subst hFF
 refine Go.ret0 X1 hx hlk hret (hb hby d2_9) (by decide) (by decide) ?_
 rw [e1]
 have Kp2 := ((Keep.refl h0 [x0]).trans K1 (allS (Or.inl (mG 0 rfl)) all0))
 have sz3 := Nat.le_trans (Keep.refl h0 [x0]).1 s1_0
 exact ⟨z1_0, z1_1, z1_2, z1_3, z1_4, z1_5, z1_6, z1_7, b1_0, k1_0, d1_0, d1_1, d1_2, d1_3, d1_4, d1_5, d1_6, d1_7, rfl, (Fr.app (Fr.nil n0) N1), Kp2, sz3, F1_0, F1_1, F1_2, F1_3, F1_4⟩
theorem d35_0 : decode jdk_42_method_66_code 0 = .ok (.aload_n 0, 1) := by decide +kernel
theorem d35_1 : decode jdk_42_method_66_code 1 = .ok (.aload_n 1, 1) := by decide +kernel
theorem d35_2 : decode jdk_42_method_66_code 2 = .ok (.if_acmp .ne 5, 3) := by decide +kernel
theorem d35_7 : decode jdk_42_method_66_code 7 = .ok (.aload_n 1, 1) := by decide +kernel
theorem d35_8 : decode jdk_42_method_66_code 8 = .ok (.instanceof 10, 3) := by decide +kernel
theorem d35_11 : decode jdk_42_method_66_code 11 = .ok (.ifCond .eq 43, 3) := by decide +kernel
theorem d35_14 : decode jdk_42_method_66_code 14 = .ok (.aload_n 1, 1) := by decide +kernel
theorem d35_15 : decode jdk_42_method_66_code 15 = .ok (.checkcast 10, 3) := by decide +kernel
theorem d35_18 : decode jdk_42_method_66_code 18 = .ok (.astore_n 2, 1) := by decide +kernel
theorem d35_19 : decode jdk_42_method_66_code 19 = .ok (.getstatic 38, 3) := by decide +kernel
theorem d35_22 : decode jdk_42_method_66_code 22 = .ok (.ifCond .eq 14, 3) := by decide +kernel
theorem d35_25 : decode jdk_42_method_66_code 25 = .ok (.aload_n 0, 1) := by decide +kernel
theorem d35_26 : decode jdk_42_method_66_code 26 = .ok (.getfield 15, 3) := by decide +kernel
theorem d35_29 : decode jdk_42_method_66_code 29 = .ok (.aload_n 2, 1) := by decide +kernel
theorem d35_30 : decode jdk_42_method_66_code 30 = .ok (.getfield 15, 3) := by decide +kernel
theorem d35_33 : decode jdk_42_method_66_code 33 = .ok (.if_icmp .ne 21, 3) := by decide +kernel
theorem d35_36 : decode jdk_42_method_66_code 36 = .ok (.aload_n 0, 1) := by decide +kernel
theorem d35_37 : decode jdk_42_method_66_code 37 = .ok (.getfield 9, 3) := by decide +kernel
theorem d35_40 : decode jdk_42_method_66_code 40 = .ok (.aload_n 2, 1) := by decide +kernel
theorem d35_41 : decode jdk_42_method_66_code 41 = .ok (.getfield 9, 3) := by decide +kernel
theorem ef_36_RR (m : MethodId) (x0 : Addr) (x1 : Addr) : entryFrame m #[(.ref x0), (.ref x1)] 3 = mkF m 0 #[.val (.ref x0), .val (.ref x1), .unset] [] := by first | (simp [entryFrame, mkF, argsToLocals, Value.category]; done) | rfl
theorem pn_c8 : plainName "java/lang/StringLatin1" = true := by first | (simp [plainName, overriddenIn]; done) | decide +kernel
theorem d36_0 : decode jdk_43_method_13_code 0 = .ok (.aload_n 0, 1) := by decide +kernel
theorem d36_1 : decode jdk_43_method_13_code 1 = .ok (.arraylength, 1) := by decide +kernel
theorem d36_2 : decode jdk_43_method_13_code 2 = .ok (.aload_n 1, 1) := by decide +kernel
theorem d36_3 : decode jdk_43_method_13_code 3 = .ok (.arraylength, 1) := by decide +kernel
theorem d36_4 : decode jdk_43_method_13_code 4 = .ok (.if_icmp .ne 30, 3) := by decide +kernel
theorem d36_7 : decode jdk_43_method_13_code 7 = .ok (.iconst 0, 1) := by decide +kernel
theorem d36_8 : decode jdk_43_method_13_code 8 = .ok (.istore_n 2, 1) := by decide +kernel
theorem d36_9 : decode jdk_43_method_13_code 9 = .ok (.iload_n 2, 1) := by decide +kernel
theorem d36_10 : decode jdk_43_method_13_code 10 = .ok (.aload_n 0, 1) := by decide +kernel
theorem d36_11 : decode jdk_43_method_13_code 11 = .ok (.arraylength, 1) := by decide +kernel
theorem d36_12 : decode jdk_43_method_13_code 12 = .ok (.if_icmp .ge 20, 3) := by decide +kernel
theorem d36_32 : decode jdk_43_method_13_code 32 = .ok (.iconst 1, 1) := by decide +kernel
theorem d36_33 : decode jdk_43_method_13_code 33 = .ok (.ireturn, 1) := by decide +kernel
theorem d36_15 : decode jdk_43_method_13_code 15 = .ok (.aload_n 0, 1) := by decide +kernel
theorem d36_16 : decode jdk_43_method_13_code 16 = .ok (.iload_n 2, 1) := by decide +kernel
theorem d36_17 : decode jdk_43_method_13_code 17 = .ok (.baload, 1) := by decide +kernel
theorem d36_18 : decode jdk_43_method_13_code 18 = .ok (.aload_n 1, 1) := by decide +kernel
theorem d36_19 : decode jdk_43_method_13_code 19 = .ok (.iload_n 2, 1) := by decide +kernel
theorem d36_20 : decode jdk_43_method_13_code 20 = .ok (.baload, 1) := by decide +kernel
theorem d36_21 : decode jdk_43_method_13_code 21 = .ok (.if_icmp .eq 5, 3) := by decide +kernel
theorem d36_26 : decode jdk_43_method_13_code 26 = .ok (.iinc 2 1, 3) := by decide +kernel
theorem d36_29 : decode jdk_43_method_13_code 29 = .ok (.goto (-20), 3) := by decide +kernel
theorem d36_24 : decode jdk_43_method_13_code 24 = .ok (.iconst 0, 1) := by decide +kernel
theorem d36_25 : decode jdk_43_method_13_code 25 = .ok (.ireturn, 1) := by decide +kernel
theorem d36_34 : decode jdk_43_method_13_code 34 = .ok (.iconst 0, 1) := by decide +kernel
theorem d36_35 : decode jdk_43_method_13_code 35 = .ok (.ireturn, 1) := by decide +kernel
theorem gl_eq (l : Launch) (Z : State) (a0 : Array Value) (hw : HW a0 Z) (x0 x1 : Addr) (k0 k1 : ClassId) (za zb : Int32) (us vs : List Int32) (h0 : Heap) (P0 : Arv Z h0 x0 k0 .byte za (us.map Value.int) (.int 0)) (P1 : Arv Z h0 x1 k1 .byte zb (vs.map Value.int) (.int 0)) (ha : za.toInt = us.length) (hv : zb.toInt = vs.length) :
    Ctr l Z (⟨"java/lang/StringLatin1", "equals", "([B[B)Z"⟩ : MethodName) jdk_43_method_13_code 3 (some .boolean) ({ frames := 0, cells := 0, slots := 0, locals := 0 } : Room) #[(.ref x0), (.ref x1)] h0 (fun v h L => v = some (.int (if us = vs then 1 else 0)) ∧ L = [] ∧ h = h0) := by
  refine Ctr.of (plainFor_of_name pn_c8) ?_
  intro p e s m below meth c T0 hx hZ hby hml hown hnm hret hlk e0 es X0
  refine Go.cast (ef_36_RR m x0 x1) ?_
  generalize hFF : EndN s _ _ _ = FF
  have hN := own_ltN ha
  refine Go.aloadN X0 hx (pc' := 1) rfl (hb hby d36_0) rfl rfl ?_
  refine Go.arraylength X0 hx hZ e0 P0 (pc' := 2) rfl (hb hby d36_1) ?_
  refine Go.aloadN X0 hx (pc' := 3) rfl (hb hby d36_2) rfl rfl ?_
  refine Go.arraylength X0 hx hZ e0 P1 (pc' := 4) rfl (hb hby d36_3) ?_
  by_cases hz : za = zb
  · have hl : us.length = vs.length := by subst hz; omega
    refine Go.icmpNo X0 hx (pc' := 7) rfl (hb hby d36_4) (teq hz).2 ?_
    refine Go.iconst X0 hx (pc' := 8) rfl (hb hby d36_7) (v := (0 : Int32)) rfl ?_
    refine Go.istoreN X0 hx (pc' := 9) rfl (hb hby d36_8) (Ls' := #[.val (.ref x0), .val (.ref x1), .val (.int 0)]) rfl ?_
    have loop : ∀ (k i : Nat), i + k = us.length → us.take i = vs.take i → Go p e below FF (T0.setTop (mkF m 9 #[.val (.ref x0), .val (.ref x1), .val (.int (Int32.ofNat i))] [])) := by
      intro k
      induction k with
      | zero =>
        intro i hi ht
        have e1 : us = vs := by rw [List.take_of_length_le (by omega), List.take_of_length_le (by omega)] at ht; exact ht
        refine Go.iloadN X0 hx (pc' := 10) rfl (hb hby d36_9) rfl ?_
        refine Go.aloadN X0 hx (pc' := 11) rfl (hb hby d36_10) rfl rfl ?_
        refine Go.arraylength X0 hx hZ e0 P0 (pc' := 12) rfl (hb hby d36_11) ?_
        refine Go.icmpYes X0 hx (pc' := 32) (hb hby d36_12) (flt (own_ofNge (by omega) (by omega))).2.1 (by decide) (by decide) ?_
        refine Go.iconst X0 hx (pc' := 33) rfl (hb hby d36_32) (v := (1 : Int32)) rfl ?_
        subst hFF
        refine Go.retN X0 hx hlk (t := .boolean) hret (by simp) (hb hby d36_33) (by decide) (by decide) ?_
        rw [e0, if_pos e1]
        exact ⟨rfl, rfl, rfl⟩
      | succ k ih =>
        intro i hi ht
        have hj : ¬ Int32.ofNat i < 0 ∧ Int32.ofNat i < za := ⟨own_ofN0 (by omega), own_ofNlt (by omega) (by omega)⟩
        have hc := own_ofNc (i := i) (by omega)
        refine Go.iloadN X0 hx (pc' := 10) rfl (hb hby d36_9) rfl ?_
        refine Go.aloadN X0 hx (pc' := 11) rfl (hb hby d36_10) rfl rfl ?_
        refine Go.arraylength X0 hx hZ e0 P0 (pc' := 12) rfl (hb hby d36_11) ?_
        refine Go.icmpNo X0 hx (pc' := 15) rfl (hb hby d36_12) (tlt hj.2).2.1 ?_
        refine Go.aloadN X0 hx (pc' := 16) rfl (hb hby d36_15) rfl rfl ?_
        refine Go.iloadN X0 hx (pc' := 17) rfl (hb hby d36_16) rfl ?_
        refine Go.baload X0 hx hZ e0 P0 (v := (.int (us.getD i 0))) hj (by rw [hc]; exact own_getDI' _ _ _) (pc' := 18) rfl (hb hby d36_17) ?_
        refine Go.aloadN X0 hx (pc' := 19) rfl (hb hby d36_18) rfl rfl ?_
        refine Go.iloadN X0 hx (pc' := 20) rfl (hb hby d36_19) rfl ?_
        refine Go.baload X0 hx hZ e0 P1 (v := (.int (vs.getD i 0))) ⟨hj.1, by rw [← hz]; exact hj.2⟩ (by rw [hc]; exact own_getDI' _ _ _) (pc' := 21) rfl (hb hby d36_20) ?_
        by_cases hq : us.getD i 0 = vs.getD i 0
        · refine Go.icmpYes X0 hx (pc' := 26) (hb hby d36_21) (teq hq).1 (by decide) (by decide) ?_
          refine Go.iinc X0 hx (pc' := 29) rfl (hb hby d36_26) rfl (y := Int32.ofNat (i + 1)) (own_ofNs i) (Ls' := #[.val (.ref x0), .val (.ref x1), .val (.int (Int32.ofNat (i + 1)))]) rfl ?_
          refine Go.goto X0 hx (pc' := 9) (hb hby d36_29) (by decide) (by decide) ?_
          exact ih (i + 1) (by omega) (own_takeS (by omega) (by omega) ht hq)
        · refine Go.icmpNo X0 hx (pc' := 24) rfl (hb hby d36_21) (feq hq).1 ?_
          refine Go.iconst X0 hx (pc' := 25) rfl (hb hby d36_24) (v := (0 : Int32)) rfl ?_
          subst hFF
          refine Go.retN X0 hx hlk (t := .boolean) hret (by simp) (hb hby d36_25) (by decide) (by decide) ?_
          rw [e0, if_neg (fun z => hq (by rw [z]))]
          exact ⟨rfl, rfl, rfl⟩
    exact loop us.length 0 (by omega) (by simp)
  · refine Go.icmpYes X0 hx (pc' := 34) (hb hby d36_4) (feq hz).2 (by decide) (by decide) ?_
    refine Go.iconst X0 hx (pc' := 35) rfl (hb hby d36_34) (v := (0 : Int32)) rfl ?_
    subst hFF
    refine Go.retN X0 hx hlk (t := .boolean) hret (by simp) (hb hby d36_35) (by decide) (by decide) ?_
    rw [e0, if_neg (fun z => hz (by apply Int32.toInt_inj.mp; rw [ha, hv, z]))]
    exact ⟨rfl, rfl, rfl⟩
theorem pd_27 : parseMethodDescriptor "([B[B)Z" = some ⟨[(.array .byte), (.array .byte)], some .boolean⟩ := by decide +kernel
theorem d35_44 : decode jdk_42_method_66_code 44 = .ok (.invokestatic 541, 3) := by decide +kernel
theorem d35_47 : decode jdk_42_method_66_code 47 = .ok (.ifCond .eq 7, 3) := by decide +kernel
theorem d35_50 : decode jdk_42_method_66_code 50 = .ok (.iconst 1, 1) := by decide +kernel
theorem d35_51 : decode jdk_42_method_66_code 51 = .ok (.goto 4, 3) := by decide +kernel
theorem d35_55 : decode jdk_42_method_66_code 55 = .ok (.ireturn, 1) := by decide +kernel
theorem ef_35_RR (m : MethodId) (x0 : Addr) (x1 : Addr) : entryFrame m #[(.ref x0), (.ref x1)] 3 = mkF m 0 #[.val (.ref x0), .val (.ref x1), .unset] [] := by first | (simp [entryFrame, mkF, argsToLocals, Value.category]; done) | rfl
theorem au_64 (l : Launch) (Z : State) (a0 : Array Value) (hw : HW a0 Z) (x0 x1 x2 x3 : Addr) (kk0 : ClassId) (p0 p1 p2 p3 p4 p5 p6 p7 : Int32) (kk1 : ClassId) (gz1 : Int32) (gv5 : Value) (h0 : Heap) (n0 : Nat) (Z0 : n0 ≤ h0.size) (O0 : Old Z n0 h0) (G : Glob Z gz1 gv5) (P1 : Fld Z h0 x0 s1 s4 "B" (.int 0)) (P2 : Fld Z h0 x0 s1 s5 "[B" (.ref x2)) (P3 : Exa Z h0 x1 s1) (P4 : Fld Z h0 x1 s1 s4 "B" (.int 0)) (P5 : Fld Z h0 x1 s1 s5 "[B" (.ref x3)) (P6 : Arv Z h0 x2 kk0 .byte (29 : Int32) [.int 69, .int 84, .int 97, .int 103, .int 32, .int p0, .int p1, .int p2, .int p3, .int 44, .int 32, .int 76, .int 97, .int 115, .int 116, .int 45, .int 77, .int 111, .int 100, .int 105, .int 102, .int 105, .int 101, .int 100, .int 32, .int p4, .int p5, .int p6, .int p7] (.int 0)) (P8 : Arv Z h0 x3 kk1 .byte (29 : Int32) [.int 69, .int 84, .int 97, .int 103, .int 32, .int p0, .int p1, .int p2, .int p3, .int 44, .int 32, .int 76, .int 97, .int 115, .int 116, .int 45, .int 77, .int 111, .int 100, .int 105, .int 102, .int 105, .int 101, .int 100, .int 32, .int p4, .int p5, .int p6, .int p7] (.int 0)) (ne_x0_x1 : x0 ≠ x1) :
    Ctr l Z ⟨s1, "equals", "(Ljava/lang/Object;)Z"⟩ jdk_42_method_66_code 3 (some .boolean) (rM 1 0 0 14) #[.ref x0, .ref x1] h0 (fun v h L => v = some (.int 1) ∧ Fr n0 L ∧ h = h0) := by
 refine Ctr.of (plainFor_of_name pn_c2) ?_
 intro p e s m below meth c T0 hx hZ hby hml hown hnm hret hlk e0 es X0
 have G' := G
 obtain ⟨G0, -, G2, -⟩ := G'
 refine Go.cast (ef_35_RR m x0 x1) ?_
 generalize hFF : EndN s _ _ _ = FF
 refine Go.aloadN X0 hx 1 rfl (hb hby d35_0) rfl rfl ?_
 refine Go.aloadN X0 hx 2 rfl (hb hby d35_1) rfl rfl ?_
 refine Go.acmp X0 hx (pc' := 7) (same := false) (hb hby d35_2) rfl rfl (decide_eq_false (fun q => ne_x0_x1 (Value.ref.inj q))) (by decide) (by decide) ?_
 refine Go.aloadN X0 hx 8 rfl (hb hby d35_7) rfl rfl ?_
 refine Go.instY X0 hx hZ hown (tw_186 hw) e0 (Ins.self P3) 11 rfl (hb hby d35_8) ?_
 intro T1 e1 X1
 refine Go.ifNo X1 hx 14 rfl (hb hby d35_11) (by decide) ?_
 refine Go.aloadN X1 hx 15 rfl (hb hby d35_14) rfl rfl ?_
 refine Go.castY X1 hx hZ hown (tw_186 hw) e1 (Ins.self P3) 18 rfl (hb hby d35_15) ?_
 intro T2 e2 X2
 refine Go.astoreN X2 hx 19 rfl (hb hby d35_18) (Ls' := #[vR x0, vR x1, vR x1]) rfl rfl ?_
 have fk3 := G0.ext O0.2
 refine Go.getS X2 hx hZ hown (host := "") (Or.inl (tw_18 hw)) Via.refl e2 fk3 22 rfl (hb hby d35_19) ?_
 intro T4 e4 X4
 refine Go.ifNo X4 hx 25 rfl (hb hby d35_22) (feq G2).1 ?_
 refine Go.aloadN X4 hx 26 rfl (hb hby d35_25) rfl rfl ?_
 refine Go.getF X4 hx hZ hown (host := "") (Or.inl (tw_30 hw)) Via.refl e4 P1 29 rfl (hb hby d35_26) ?_
 intro T5 e5 X5
 refine Go.aloadN X5 hx 30 rfl (hb hby d35_29) rfl rfl ?_
 refine Go.getF X5 hx hZ hown (host := "") (Or.inl (tw_30 hw)) Via.refl e5 P4 33 rfl (hb hby d35_30) ?_
 intro T6 e6 X6
 refine Go.icmpNo X6 hx 36 rfl (hb hby d35_33) (by decide) ?_
 refine Go.aloadN X6 hx 37 rfl (hb hby d35_36) rfl rfl ?_
 refine Go.getF X6 hx hZ hown (host := "") (Or.inl (tw_32 hw)) Via.refl e6 P2 40 rfl (hb hby d35_37) ?_
 intro T7 e7 X7
 refine Go.aloadN X7 hx 41 rfl (hb hby d35_40) rfl rfl ?_
 refine Go.getF X7 hx hZ hown (host := "") (Or.inl (tw_32 hw)) Via.refl e7 P5 44 rfl (hb hby d35_41) ?_
 intro T8 e8 X8
 refine Go.callS X8 hx hZ hown (tw_187 hw) (tw_188 hw) (tw_189 hw) (tw_190 hw) (by decide) (tw_190 hw) (tw_189 hw) (gl_eq l Z a0 hw x2 x3 kk0 kk1 (29 : Int32) (29 : Int32) [(69 : Int32), (84 : Int32), (97 : Int32), (103 : Int32), (32 : Int32), p0, p1, p2, p3, (44 : Int32), (32 : Int32), (76 : Int32), (97 : Int32), (115 : Int32), (116 : Int32), (45 : Int32), (77 : Int32), (111 : Int32), (100 : Int32), (105 : Int32), (102 : Int32), (105 : Int32), (101 : Int32), (100 : Int32), (32 : Int32), p4, p5, p6, p7] [(69 : Int32), (84 : Int32), (97 : Int32), (103 : Int32), (32 : Int32), p0, p1, p2, p3, (44 : Int32), (32 : Int32), (76 : Int32), (97 : Int32), (115 : Int32), (116 : Int32), (45 : Int32), (77 : Int32), (111 : Int32), (100 : Int32), (105 : Int32), (102 : Int32), (105 : Int32), (101 : Int32), (100 : Int32), (32 : Int32), p4, p5, p6, p7] h0 P6 P8 rfl rfl) e8 (argsL := [.ref x2, .ref x3]) (rest := []) 47 rfl (hml ▸ rfl) (lenOf pd_27 rfl) rfl rfl (W := 0) (nE rfl) (by decide) (by decide) (by decide) (by decide) (hb hby d35_44) ?_
 intro v9 T9 L9 q9 X9
 obtain ⟨rfl, rfl, e9⟩ := q9
 rw [if_pos (show ([(69 : Int32), (84 : Int32), (97 : Int32), (103 : Int32), (32 : Int32), p0, p1, p2, p3, (44 : Int32), (32 : Int32), (76 : Int32), (97 : Int32), (115 : Int32), (116 : Int32), (45 : Int32), (77 : Int32), (111 : Int32), (100 : Int32), (105 : Int32), (102 : Int32), (105 : Int32), (101 : Int32), (100 : Int32), (32 : Int32), p4, p5, p6, p7] : List Int32) = [(69 : Int32), (84 : Int32), (97 : Int32), (103 : Int32), (32 : Int32), p0, p1, p2, p3, (44 : Int32), (32 : Int32), (76 : Int32), (97 : Int32), (115 : Int32), (116 : Int32), (45 : Int32), (77 : Int32), (111 : Int32), (100 : Int32), (105 : Int32), (102 : Int32), (105 : Int32), (101 : Int32), (100 : Int32), (32 : Int32), p4, p5, p6, p7] from rfl)]
 show Go _ _ _ _ (T9.setTop (mkF m 47 #[vR x0, vR x1, vR x1] [.int 1]))
 refine Go.ifNo X9 hx 50 rfl (hb hby d35_47) (by decide) ?_
 refine Go.iconst X9 hx 51 rfl (hb hby d35_50) (v := (1 : Int32)) rfl ?_
 refine Go.goto X9 hx 55 (hb hby d35_51) (by decide) (by decide) ?_
 subst hFF
 refine Go.retN X9 hx hlk (t := .boolean) hret (by simp) (hb hby d35_55) (by decide) (by decide) ?_
 rw [e9]
 exact ⟨(congrArg (fun z => some (Value.int z)) (by decide : nar .boolean (1 : Int32) = (1 : Int32))), (Fr.app (Fr.nil n0) (Fr.nil n0)), rfl⟩
theorem pd_28 : parseMethodDescriptor "(Ljava/lang/Object;)Z" = some ⟨[(.object "java/lang/Object")], some .boolean⟩ := by decide +kernel
theorem ef_8_RRN (m : MethodId) (x0 : Addr) (x1 : Addr)  : entryFrame m #[(.ref x0), (.ref x1), .null] 3 = mkF m 0 #[.val (.ref x0), .val (.ref x1), .val .null] [] := by first | (simp [entryFrame, mkF, argsToLocals, Value.category]; done) | rfl
theorem au_65 (l : Launch) (Z : State) (a0 : Array Value) (hw : HW a0 Z) (x0 x1 : Addr) (h0 : Heap) (n0 : Nat) (Z0 : n0 ≤ h0.size) (P0 : Exa Z h0 x0 s2) (P1 : Fld Z h0 x0 s2 "etag" s6 .null) (P2 : Fld Z h0 x0 s2 "lastModified" s6 .null) (g_x0 : n0 ≤ x0) :
    Ctr l Z ⟨s2, "<init>", "(Ljava/lang/String;Ljava/lang/String;)V"⟩ prog_9_method_1_code 3 none (rM 1 0 0 12) #[.ref x0, .ref x1, .null] h0 (fun v h L => v = none ∧ Fr n0 L ∧ Keep h0 h [x0] ∧ Exa Z h x0 s2 ∧ Fld Z h x0 s2 "etag" s6 (.ref x1) ∧ Fld Z h x0 s2 "lastModified" s6 .null) := by
 refine Ctr.of (plainFor_of_name pn_c3) ?_
 intro p e s m below meth c T0 hx hZ hby hml hown hnm hret hlk e0 es X0
 refine Go.cast (ef_8_RRN m x0 x1) ?_
 generalize hFF : EndN s _ _ _ = FF
 refine Go.aloadN X0 hx 1 rfl (hb hby d8_0) rfl rfl ?_
 refine Go.initO X0 hx hZ hown (tw_40 hw) (tw_16 hw) (tw_17 hw) e0 (by decide) (W := 0) (hml ▸ rfl) (nE rfl) (by decide) (pc' := 4) rfl (hb hby d8_1) ?_
 intro T1 e1 X1
 refine Go.aloadN X1 hx 5 rfl (hb hby d8_4) rfl rfl ?_
 refine Go.aloadN X1 hx 6 rfl (hb hby d8_5) rfl rfl ?_
 refine Go.putF X1 hx hZ hown (host := "") (Or.inl (tw_41 hw)) Via.refl e1 P1 P0 (Or.inr ⟨(tw_42 hw), rfl, hnm⟩) (tw_35 hw) (ty := (.object s1)) (by decide) rfl rfl 9 rfl (hb hby d8_6) ?_
 intro T2 h2 e2 W2 F2 X2
 have N2 := Fr.snoc X2 (Fr.nil n0) g_x0
 refine Go.aloadN X2 hx 10 rfl (hb hby d8_9) rfl rfl ?_
 refine Go.aloadN X2 hx 11 rfl (hb hby d8_10) rfl rfl ?_
 have fk3 := (P2.other W2 (Or.inr (slot_ne (Or.inr (tw_44 hw)) (Or.inr (tw_42 hw)) (by decide) (t := (.object s1)) (t' := (.object s1)) (by decide) (by decide))))
 have fk4 := (P0.wr W2)
 refine Go.putF X2 hx hZ hown (host := "") (Or.inl (tw_43 hw)) Via.refl e2 fk3 fk4 (Or.inr ⟨(tw_44 hw), rfl, hnm⟩) (tw_35 hw) (ty := (.object s1)) (by decide) rfl rfl 14 rfl (hb hby d8_11) ?_
 intro T5 h5 e5 W5 F5 X5
 have N5 := Fr.snoc X5 N2 g_x0
 subst hFF
 refine Go.ret0 X5 hx hlk hret (hb hby d8_14) (by decide) (by decide) ?_
 rw [e5]
 have fk6 := (fk4.wr W5)
 have fk7 := (F2.other W5 (Or.inr (slot_ne (Or.inr (tw_42 hw)) (Or.inr (tw_44 hw)) (by decide) (t := (.object s1)) (t' := (.object s1)) (by decide) (by decide))))
 have Kp8 := ((Keep.refl h0 [x0]).wr W2 (Or.inl (mG 0 rfl)))
 have Kp9 := (Kp8.wr W5 (Or.inl (mG 0 rfl)))
 exact ⟨rfl, N5, Kp9, fk6, fk7, F5⟩
theorem d13_4 : decode jdk_68_method_22_code 4 = .ok (.aload_n 0, 1) := by decide +kernel
theorem d37_0 : decode jdk_68_method_26_code 0 = .ok (.aload_n 0, 1) := by decide +kernel
theorem d37_1 : decode jdk_68_method_26_code 1 = .ok (.aload_n 0, 1) := by decide +kernel
theorem d37_2 : decode jdk_68_method_26_code 2 = .ok (.getfield 79, 3) := by decide +kernel
theorem d37_5 : decode jdk_68_method_26_code 5 = .ok (.iconst 4, 1) := by decide +kernel
theorem d37_6 : decode jdk_68_method_26_code 6 = .ok (.iadd, 1) := by decide +kernel
theorem d37_7 : decode jdk_68_method_26_code 7 = .ok (.invokevirtual 100, 3) := by decide +kernel
theorem d37_10 : decode jdk_68_method_26_code 10 = .ok (.aload_n 0, 1) := by decide +kernel
theorem d37_11 : decode jdk_68_method_26_code 11 = .ok (.getfield 79, 3) := by decide +kernel
theorem d37_14 : decode jdk_68_method_26_code 14 = .ok (.istore_n 1, 1) := by decide +kernel
theorem d37_15 : decode jdk_68_method_26_code 15 = .ok (.aload_n 0, 1) := by decide +kernel
theorem d37_16 : decode jdk_68_method_26_code 16 = .ok (.getfield 15, 3) := by decide +kernel
theorem d37_19 : decode jdk_68_method_26_code 19 = .ok (.astore_n 2, 1) := by decide +kernel
theorem d37_20 : decode jdk_68_method_26_code 20 = .ok (.aload_n 0, 1) := by decide +kernel
theorem au_71 (l : Launch) (Z : State) (a0 : Array Value) (hw : HW a0 Z) (x0 : Addr) (gz1 : Int32) (gv5 : Value) (h0 : Heap) (n0 : Nat) (Z0 : n0 ≤ h0.size) (O0 : Old Z n0 h0) (G : Glob Z gz1 gv5) (P1 : Fld Z h0 x0 s0 s4 "B" (.int 0)) :
    Ctr l Z ⟨s0, "isLatin1", "()Z"⟩ jdk_68_method_68_code 1 (some .boolean) (rM 0 0 0 0) #[.ref x0] h0 (fun v h L => v = some (.int 1) ∧ Fr n0 L ∧ h = h0) := by
 refine Ctr.of (plainFor_of_name pn_c4) ?_
 intro p e s m below meth c T0 hx hZ hby hml hown hnm hret hlk e0 es X0
 have G' := G
 obtain ⟨G0, -, G2, -⟩ := G'
 refine Go.cast (ef_31_R m x0) ?_
 generalize hFF : EndN s _ _ _ = FF
 have fk1 := G0.ext O0.2
 refine Go.getS X0 hx hZ hown (host := "") (Or.inl (tw_63 hw)) Via.refl e0 fk1 3 rfl (hb hby d31_0) ?_
 intro T2 e2 X2
 refine Go.ifNo X2 hx 6 rfl (hb hby d31_3) (feq G2).1 ?_
 refine Go.aloadN X2 hx 7 rfl (hb hby d31_6) rfl rfl ?_
 refine Go.getF X2 hx hZ hown (host := "") (Or.inl (tw_66 hw)) Via.refl e2 P1 10 rfl (hb hby d31_7) ?_
 intro T3 e3 X3
 refine Go.ifNo X3 hx 13 rfl (hb hby d31_10) (by decide) ?_
 refine Go.iconst X3 hx 14 rfl (hb hby d31_13) (v := (1 : Int32)) rfl ?_
 refine Go.goto X3 hx 18 (hb hby d31_14) (by decide) (by decide) ?_
 subst hFF
 refine Go.retN X3 hx hlk (t := .boolean) hret (by simp) (hb hby d31_18) (by decide) (by decide) ?_
 rw [e3]
 exact ⟨(congrArg (fun z => some (Value.int z)) (by decide : nar .boolean (1 : Int32) = (1 : Int32))), (Fr.nil n0), rfl⟩
theorem d37_21 : decode jdk_68_method_26_code 21 = .ok (.invokevirtual 83, 3) := by decide +kernel
theorem d37_24 : decode jdk_68_method_26_code 24 = .ok (.ifCond .eq 38, 3) := by decide +kernel
theorem d37_27 : decode jdk_68_method_26_code 27 = .ok (.aload_n 2, 1) := by decide +kernel
theorem d37_28 : decode jdk_68_method_26_code 28 = .ok (.iload_n 1, 1) := by decide +kernel
theorem d37_29 : decode jdk_68_method_26_code 29 = .ok (.iinc 1 1, 3) := by decide +kernel
theorem d37_32 : decode jdk_68_method_26_code 32 = .ok (.bipush 110, 2) := by decide +kernel
theorem d37_34 : decode jdk_68_method_26_code 34 = .ok (.bastore, 1) := by decide +kernel
theorem d37_35 : decode jdk_68_method_26_code 35 = .ok (.aload_n 2, 1) := by decide +kernel
theorem d37_36 : decode jdk_68_method_26_code 36 = .ok (.iload_n 1, 1) := by decide +kernel
theorem d37_37 : decode jdk_68_method_26_code 37 = .ok (.iinc 1 1, 3) := by decide +kernel
theorem d37_40 : decode jdk_68_method_26_code 40 = .ok (.bipush 117, 2) := by decide +kernel
theorem d37_42 : decode jdk_68_method_26_code 42 = .ok (.bastore, 1) := by decide +kernel
theorem d37_43 : decode jdk_68_method_26_code 43 = .ok (.aload_n 2, 1) := by decide +kernel
theorem d37_44 : decode jdk_68_method_26_code 44 = .ok (.iload_n 1, 1) := by decide +kernel
theorem d37_45 : decode jdk_68_method_26_code 45 = .ok (.iinc 1 1, 3) := by decide +kernel
theorem d37_48 : decode jdk_68_method_26_code 48 = .ok (.bipush 108, 2) := by decide +kernel
theorem d37_50 : decode jdk_68_method_26_code 50 = .ok (.bastore, 1) := by decide +kernel
theorem d37_51 : decode jdk_68_method_26_code 51 = .ok (.aload_n 2, 1) := by decide +kernel
theorem d37_52 : decode jdk_68_method_26_code 52 = .ok (.iload_n 1, 1) := by decide +kernel
theorem d37_53 : decode jdk_68_method_26_code 53 = .ok (.iinc 1 1, 3) := by decide +kernel
theorem d37_56 : decode jdk_68_method_26_code 56 = .ok (.bipush 108, 2) := by decide +kernel
theorem d37_58 : decode jdk_68_method_26_code 58 = .ok (.bastore, 1) := by decide +kernel
theorem d37_59 : decode jdk_68_method_26_code 59 = .ok (.goto 17, 3) := by decide +kernel
theorem d37_76 : decode jdk_68_method_26_code 76 = .ok (.aload_n 0, 1) := by decide +kernel
theorem d37_77 : decode jdk_68_method_26_code 77 = .ok (.iload_n 1, 1) := by decide +kernel
theorem d37_78 : decode jdk_68_method_26_code 78 = .ok (.putfield 79, 3) := by decide +kernel
theorem d37_81 : decode jdk_68_method_26_code 81 = .ok (.aload_n 0, 1) := by decide +kernel
theorem d37_82 : decode jdk_68_method_26_code 82 = .ok (.areturn, 1) := by decide +kernel
theorem ef_37_R (m : MethodId) (x0 : Addr) : entryFrame m #[(.ref x0)] 3 = mkF m 0 #[.val (.ref x0), .unset, .unset] [] := by first | (simp [entryFrame, mkF, argsToLocals, Value.category]; done) | rfl
theorem au_70 (l : Launch) (Z : State) (a0 : Array Value) (hw : HW a0 Z) (x0 x1 : Addr) (kk0 : ClassId) (p0 p1 p2 p3 gz1 : Int32) (gv5 : Value) (h0 : Heap) (n0 : Nat) (Z0 : n0 ≤ h0.size) (O0 : Old Z n0 h0) (G : Glob Z gz1 gv5) (P0 : Exa Z h0 x0 s3) (P1 : Fld Z h0 x0 s0 s4 "B" (.int 0)) (P2 : Fld Z h0 x0 s0 "count" "I" (.int 25)) (P3 : Fld Z h0 x0 s0 s5 "[B" (.ref x1)) (P4 : Arv Z h0 x1 kk0 .byte (34 : Int32) [.int 69, .int 84, .int 97, .int 103, .int 32, .int p0, .int p1, .int p2, .int p3, .int 44, .int 32, .int 76, .int 97, .int 115, .int 116, .int 45, .int 77, .int 111, .int 100, .int 105, .int 102, .int 105, .int 101, .int 100, .int 32, .int 0, .int 0, .int 0, .int 0, .int 0, .int 0, .int 0, .int 0, .int 0] (.int 0)) (P5 : Exa Z h0 x1 "[B") (g_x1 : n0 ≤ x1) (g_x0 : n0 ≤ x0) (ne_x0_x1 : x0 ≠ x1) :
    Ctr l Z ⟨s0, "appendNull", "()Ljava/lang/AbstractStringBuilder;"⟩ jdk_68_method_26_code 3 (some (.object s0)) (rM 1 0 0 14) #[.ref x0] h0 (fun v h L => v = some (.ref x0) ∧ Fr n0 L ∧ Keep h0 h [x0, x1] ∧ Exa Z h x0 s3 ∧ Fld Z h x0 s0 s4 "B" (.int 0) ∧ Fld Z h x0 s0 "count" "I" (.int 29) ∧ Fld Z h x0 s0 s5 "[B" (.ref x1) ∧ Arv Z h x1 kk0 .byte (34 : Int32) [.int 69, .int 84, .int 97, .int 103, .int 32, .int p0, .int p1, .int p2, .int p3, .int 44, .int 32, .int 76, .int 97, .int 115, .int 116, .int 45, .int 77, .int 111, .int 100, .int 105, .int 102, .int 105, .int 101, .int 100, .int 32, .int 110, .int 117, .int 108, .int 108, .int 0, .int 0, .int 0, .int 0, .int 0] (.int 0) ∧ Exa Z h x1 "[B") := by
 refine Ctr.of (plainFor_of_name pn_c4) ?_
 intro p e s m below meth c T0 hx hZ hby hml hown hnm hret hlk e0 es X0
 refine Go.cast (ef_37_R m x0) ?_
 generalize hFF : EndN s _ _ _ = FF
 refine Go.aloadN X0 hx 1 rfl (hb hby d37_0) rfl rfl ?_
 refine Go.aloadN X0 hx 2 rfl (hb hby d37_1) rfl rfl ?_
 refine Go.getF X0 hx hZ hown (host := "") (Or.inl (tw_91 hw)) Via.refl e0 P2 5 rfl (hb hby d37_2) ?_
 intro T1 e1 X1
 refine Go.iconst X1 hx 6 rfl (hb hby d37_5) (v := (4 : Int32)) rfl ?_
 refine Go.iadd X1 hx 7 rfl (hb hby d37_6) ?_
 rw [show ((25 : Int32) + (4 : Int32)) = (29 : Int32) from by decide]
 refine Go.callP X1 hx hZ hown (tw_93 hw) (tw_94 hw) (tw_96 hw) (tw_95 hw) (tw_97 hw) (by decide) (tw_97 hw) (tw_60 hw) (au_45 l Z a0 hw x0 x1 kk0 p0 p1 p2 p3 h0 n0 Z0 P1 P3 P4) e1 P0 (argsL := [.int 29]) (rest := []) 10 rfl (hml ▸ rfl) (lenOf pd_7 rfl) rfl rfl (W := 0) (nE rfl) (by decide) (by decide) (by decide) (by decide) (hb hby d37_7) ?_
 intro v2 T2 L2 q2 X2
 obtain ⟨rfl, N2, e2⟩ := q2
 show Go _ _ _ _ (T2.setTop (mkF m 10 #[vR x0, uS, uS] []))
 refine Go.aloadN X2 hx 11 rfl (hb hby d37_10) rfl rfl ?_
 refine Go.getF X2 hx hZ hown (host := "") (Or.inl (tw_91 hw)) Via.refl e2 P2 14 rfl (hb hby d37_11) ?_
 intro T3 e3 X3
 refine Go.istoreN X3 hx 15 rfl (hb hby d37_14) (Ls' := #[vR x0, vI 25, uS]) rfl ?_
 refine Go.aloadN X3 hx 16 rfl (hb hby d37_15) rfl rfl ?_
 refine Go.getF X3 hx hZ hown (host := "") (Or.inl (tw_64 hw)) Via.refl e3 P3 19 rfl (hb hby d37_16) ?_
 intro T4 e4 X4
 refine Go.astoreN X4 hx 20 rfl (hb hby d37_19) (Ls' := #[vR x0, vI 25, vR x1]) rfl rfl ?_
 refine Go.aloadN X4 hx 21 rfl (hb hby d37_20) rfl rfl ?_
 refine Go.callV X4 hx hZ hown (tw_196 hw) (tw_168 hw) (notFace_of_selects (args := #[]) (mvT hZ (tw_170 hw))) (tw_170 hw) (tw_169 hw) (by decide) (tw_171 hw) (tw_60 hw) (au_71 l Z a0 hw x0 gz1 gv5 h0 n0 Z0 O0 G P1) e4 P0 (argsL := []) (rest := []) 24 rfl (hml ▸ rfl) (lenOf pd_21 rfl) rfl rfl (W := 0) (nE rfl) (by decide) (by decide) (by decide) (by decide) (hb hby d37_21) ?_
 intro v5 T5 L5 q5 X5
 obtain ⟨rfl, N5, e5⟩ := q5
 show Go _ _ _ _ (T5.setTop (mkF m 24 #[vR x0, vI 25, vR x1] [.int 1]))
 refine Go.ifNo X5 hx 27 rfl (hb hby d37_24) (by decide) ?_
 refine Go.aloadN X5 hx 28 rfl (hb hby d37_27) rfl rfl ?_
 refine Go.iloadN X5 hx 29 rfl (hb hby d37_28) rfl ?_
 refine Go.iinc X5 hx 32 rfl (hb hby d37_29) rfl (y := (26 : Int32)) (by decide) (Ls' := #[vR x0, vI 26, vR x1]) rfl ?_
 refine Go.bipush X5 hx 34 rfl (hb hby d37_32) (v := (110 : Int32)) (by decide) ?_
 refine Go.bastore X5 hx hZ e5 P4 (110 : Int32) rfl ⟨by decide, by decide⟩ 25 rfl (nB rfl) 35 rfl (hb hby d37_34) ?_
 intro T6 h6 e6 W6 V6 X6
 have N6 := Fr.snoc X6 (Fr.app (Fr.app (Fr.nil n0) N2) N5) g_x1
 refine Go.aloadN X6 hx 36 rfl (hb hby d37_35) rfl rfl ?_
 refine Go.iloadN X6 hx 37 rfl (hb hby d37_36) rfl ?_
 refine Go.iinc X6 hx 40 rfl (hb hby d37_37) rfl (y := (27 : Int32)) (by decide) (Ls' := #[vR x0, vI 27, vR x1]) rfl ?_
 refine Go.bipush X6 hx 42 rfl (hb hby d37_40) (v := (117 : Int32)) (by decide) ?_
 refine Go.bastore X6 hx hZ e6 V6 (117 : Int32) rfl ⟨by decide, by decide⟩ 26 rfl (nB rfl) 43 rfl (hb hby d37_42) ?_
 intro T7 h7 e7 W7 V7 X7
 have N7 := Fr.snoc X7 N6 g_x1
 refine Go.aloadN X7 hx 44 rfl (hb hby d37_43) rfl rfl ?_
 refine Go.iloadN X7 hx 45 rfl (hb hby d37_44) rfl ?_
 refine Go.iinc X7 hx 48 rfl (hb hby d37_45) rfl (y := (28 : Int32)) (by decide) (Ls' := #[vR x0, vI 28, vR x1]) rfl ?_
 refine Go.bipush X7 hx 50 rfl (hb hby d37_48) (v := (108 : Int32)) (by decide) ?_
 refine Go.bastore X7 hx hZ e7 V7 (108 : Int32) rfl ⟨by decide, by decide⟩ 27 rfl (nB rfl) 51 rfl (hb hby d37_50) ?_
 intro T8 h8 e8 W8 V8 X8
 have N8 := Fr.snoc X8 N7 g_x1
 refine Go.aloadN X8 hx 52 rfl (hb hby d37_51) rfl rfl ?_
 refine Go.iloadN X8 hx 53 rfl (hb hby d37_52) rfl ?_
 refine Go.iinc X8 hx 56 rfl (hb hby d37_53) rfl (y := (29 : Int32)) (by decide) (Ls' := #[vR x0, vI 29, vR x1]) rfl ?_
 refine Go.bipush X8 hx 58 rfl (hb hby d37_56) (v := (108 : Int32)) (by decide) ?_
 have V9 : Arv Z h8 x1 kk0 .byte (34 : Int32) [.int 69, .int 84, .int 97, .int 103, .int 32, .int p0, .int p1, .int p2, .int p3, .int 44, .int 32, .int 76, .int 97, .int 115, .int 116, .int 45, .int 77, .int 111, .int 100, .int 105, .int 102, .int 105, .int 101, .int 100, .int 32, .int 110, .int 117, .int 108, .int 0, .int 0, .int 0, .int 0, .int 0, .int 0] (.int 0) := V8
 refine Go.bastore X8 hx hZ e8 V9 (108 : Int32) rfl ⟨by decide, by decide⟩ 28 rfl (nB rfl) 59 rfl (hb hby d37_58) ?_
 intro T10 h10 e10 W10 V10 X10
 have N10 := Fr.snoc X10 N8 g_x1
 refine Go.goto X10 hx 76 (hb hby d37_59) (by decide) (by decide) ?_
 refine Go.aloadN X10 hx 77 rfl (hb hby d37_76) rfl rfl ?_
 refine Go.iloadN X10 hx 78 rfl (hb hby d37_77) rfl ?_
 have fk11 := ((((P2.other W6 (Or.inl ne_x0_x1)).other W7 (Or.inl ne_x0_x1)).other W8 (Or.inl ne_x0_x1)).other W10 (Or.inl ne_x0_x1))
 have fk12 := ((((P0.wr W6).wr W7).wr W8).wr W10)
 refine Go.putF X10 hx hZ hown (host := "") (Or.inl (tw_91 hw)) Via.refl e10 fk11 fk12 (Or.inl (tw_92 hw)) (tw_51 hw) (ty := .int) (by decide) rfl rfl 81 rfl (hb hby d37_78) ?_
 intro T13 h13 e13 W13 F13 X13
 have N13 := Fr.snoc X13 N10 g_x0
 refine Go.aloadN X13 hx 82 rfl (hb hby d37_81) rfl rfl ?_
 subst hFF
 refine Go.retR X13 hx hlk (t := (.object s0)) hret rfl rfl (hb hby d37_82) (by decide) (by decide) ?_
 rw [e13]
 have fk14 := (fk12.wr W13)
 have fk15 := (((((P1.other W6 (Or.inl ne_x0_x1)).other W7 (Or.inl ne_x0_x1)).other W8 (Or.inl ne_x0_x1)).other W10 (Or.inl ne_x0_x1)).other W13 (Or.inr (slot_ne (Or.inl (tw_67 hw)) (Or.inl (tw_92 hw)) (by decide) (t := .byte) (t' := .int) (by decide) (by decide))))
 have fk16 := (((((P3.other W6 (Or.inl ne_x0_x1)).other W7 (Or.inl ne_x0_x1)).other W8 (Or.inl ne_x0_x1)).other W10 (Or.inl ne_x0_x1)).other W13 (Or.inr (slot_ne (Or.inl (tw_65 hw)) (Or.inl (tw_92 hw)) (by decide) (t := (.array .byte)) (t' := .int) (by decide) (by decide))))
 have V17 : Arv Z h10 x1 kk0 .byte (34 : Int32) [.int 69, .int 84, .int 97, .int 103, .int 32, .int p0, .int p1, .int p2, .int p3, .int 44, .int 32, .int 76, .int 97, .int 115, .int 116, .int 45, .int 77, .int 111, .int 100, .int 105, .int 102, .int 105, .int 101, .int 100, .int 32, .int 110, .int 117, .int 108, .int 108, .int 0, .int 0, .int 0, .int 0, .int 0] (.int 0) := V10
 have fk18 := (V17.other W13 (Ne.symm ne_x0_x1))
 have fk19 := (((((P5.wr W6).wr W7).wr W8).wr W10).wr W13)
 have Kp20 := ((Keep.refl h0 [x0, x1]).wr W6 (Or.inl (mG 1 rfl)))
 have Kp21 := (Kp20.wr W7 (Or.inl (mG 1 rfl)))
 have Kp22 := (Kp21.wr W8 (Or.inl (mG 1 rfl)))
 have Kp23 := (Kp22.wr W10 (Or.inl (mG 1 rfl)))
 have Kp24 := (Kp23.wr W13 (Or.inl (mG 0 rfl)))
 exact ⟨rfl, N13, Kp24, fk14, fk15, F13, fk16, fk18, fk19⟩
theorem pd_29 : parseMethodDescriptor "()Ljava/lang/AbstractStringBuilder;" = some ⟨[], some (.object "java/lang/AbstractStringBuilder")⟩ := by decide +kernel
theorem d13_5 : decode jdk_68_method_22_code 5 = .ok (.invokevirtual 204, 3) := by decide +kernel
theorem d13_8 : decode jdk_68_method_22_code 8 = .ok (.areturn, 1) := by decide +kernel
theorem ef_13_RN (m : MethodId) (x0 : Addr)  : entryFrame m #[(.ref x0), .null] 3 = mkF m 0 #[.val (.ref x0), .val .null, .unset] [] := by first | (simp [entryFrame, mkF, argsToLocals, Value.category]; done) | rfl
theorem au_69 (l : Launch) (Z : State) (a0 : Array Value) (hw : HW a0 Z) (x0 x1 : Addr) (kk0 : ClassId) (p0 p1 p2 p3 gz1 : Int32) (gv5 : Value) (h0 : Heap) (n0 : Nat) (Z0 : n0 ≤ h0.size) (O0 : Old Z n0 h0) (G : Glob Z gz1 gv5) (P0 : Exa Z h0 x0 s3) (P1 : Fld Z h0 x0 s0 s4 "B" (.int 0)) (P2 : Fld Z h0 x0 s0 "count" "I" (.int 25)) (P3 : Fld Z h0 x0 s0 s5 "[B" (.ref x1)) (P4 : Arv Z h0 x1 kk0 .byte (34 : Int32) [.int 69, .int 84, .int 97, .int 103, .int 32, .int p0, .int p1, .int p2, .int p3, .int 44, .int 32, .int 76, .int 97, .int 115, .int 116, .int 45, .int 77, .int 111, .int 100, .int 105, .int 102, .int 105, .int 101, .int 100, .int 32, .int 0, .int 0, .int 0, .int 0, .int 0, .int 0, .int 0, .int 0, .int 0] (.int 0)) (P5 : Exa Z h0 x1 "[B") (g_x1 : n0 ≤ x1) (g_x0 : n0 ≤ x0) (ne_x0_x1 : x0 ≠ x1) :
    Ctr l Z ⟨s0, "append", "(Ljava/lang/String;)Ljava/lang/AbstractStringBuilder;"⟩ jdk_68_method_22_code 3 (some (.object s0)) (rM 2 0 0 28) #[.ref x0, .null] h0 (fun v h L => v = some (.ref x0) ∧ Fr n0 L ∧ Keep h0 h [x0, x1] ∧ Exa Z h x0 s3 ∧ Fld Z h x0 s0 s4 "B" (.int 0) ∧ Fld Z h x0 s0 "count" "I" (.int 29) ∧ Fld Z h x0 s0 s5 "[B" (.ref x1) ∧ Arv Z h x1 kk0 .byte (34 : Int32) [.int 69, .int 84, .int 97, .int 103, .int 32, .int p0, .int p1, .int p2, .int p3, .int 44, .int 32, .int 76, .int 97, .int 115, .int 116, .int 45, .int 77, .int 111, .int 100, .int 105, .int 102, .int 105, .int 101, .int 100, .int 32, .int 110, .int 117, .int 108, .int 108, .int 0, .int 0, .int 0, .int 0, .int 0] (.int 0) ∧ Exa Z h x1 "[B") := by
 refine Ctr.of (plainFor_of_name pn_c4) ?_
 intro p e s m below meth c T0 hx hZ hby hml hown hnm hret hlk e0 es X0
 refine Go.cast (ef_13_RN m x0) ?_
 generalize hFF : EndN s _ _ _ = FF
 refine Go.aloadN X0 hx 1 rfl (hb hby d13_0) rfl rfl ?_
 refine Go.ifnonnullNo X0 hx 4 rfl (hb hby d13_1) ?_
 refine Go.aloadN X0 hx 5 rfl (hb hby d13_4) rfl rfl ?_
 refine Go.callP X0 hx hZ hown (tw_191 hw) (tw_192 hw) (tw_194 hw) (tw_193 hw) (tw_195 hw) (by decide) (tw_195 hw) (tw_60 hw) (au_70 l Z a0 hw x0 x1 kk0 p0 p1 p2 p3 gz1 gv5 h0 n0 Z0 O0 G P0 P1 P2 P3 P4 P5 g_x1 g_x0 ne_x0_x1) e0 P0 (argsL := []) (rest := []) 8 rfl (hml ▸ rfl) (lenOf pd_29 rfl) rfl rfl (W := 0) (nE rfl) (by decide) (by decide) (by decide) (by decide) (hb hby d13_5) ?_
 intro v1 T1 L1 q1 X1
 obtain ⟨h1, e1⟩ : ∃ z, T1.heap = z := ⟨_, rfl⟩
 rw [e1] at q1
 obtain ⟨rfl, N1, K1, F1_0, F1_1, F1_2, F1_3, F1_4, F1_5⟩ := q1
 show Go _ _ _ _ (T1.setTop (mkF m 8 #[vR x0, .val .null, uS] [.ref x0]))
 subst hFF
 refine Go.retR X1 hx hlk (t := (.object s0)) hret rfl rfl (hb hby d13_8) (by decide) (by decide) ?_
 rw [e1]
 have Kp2 := ((Keep.refl h0 [x0, x1]).trans K1 (allS (Or.inl (mG 0 rfl)) (allS (Or.inl (mG 1 rfl)) all0)))
 exact ⟨rfl, (Fr.app (Fr.nil n0) N1), Kp2, F1_0, F1_1, F1_2, F1_3, F1_4, F1_5⟩
theorem ef_12_RN (m : MethodId) (x0 : Addr)  : entryFrame m #[(.ref x0), .null] 2 = mkF m 0 #[.val (.ref x0), .val .null] [] := by first | (simp [entryFrame, mkF, argsToLocals, Value.category]; done) | rfl
theorem au_68 (l : Launch) (Z : State) (a0 : Array Value) (hw : HW a0 Z) (x0 x1 : Addr) (kk0 : ClassId) (p0 p1 p2 p3 gz1 : Int32) (gv5 : Value) (h0 : Heap) (n0 : Nat) (Z0 : n0 ≤ h0.size) (O0 : Old Z n0 h0) (G : Glob Z gz1 gv5) (P0 : Exa Z h0 x0 s3) (P1 : Fld Z h0 x0 s0 s4 "B" (.int 0)) (P2 : Fld Z h0 x0 s0 "count" "I" (.int 25)) (P3 : Fld Z h0 x0 s0 s5 "[B" (.ref x1)) (P4 : Arv Z h0 x1 kk0 .byte (34 : Int32) [.int 69, .int 84, .int 97, .int 103, .int 32, .int p0, .int p1, .int p2, .int p3, .int 44, .int 32, .int 76, .int 97, .int 115, .int 116, .int 45, .int 77, .int 111, .int 100, .int 105, .int 102, .int 105, .int 101, .int 100, .int 32, .int 0, .int 0, .int 0, .int 0, .int 0, .int 0, .int 0, .int 0, .int 0] (.int 0)) (P5 : Exa Z h0 x1 "[B") (g_x1 : n0 ≤ x1) (g_x0 : n0 ≤ x0) (ne_x0_x1 : x0 ≠ x1) :
    Ctr l Z ⟨s3, "append", "(Ljava/lang/String;)Ljava/lang/StringBuilder;"⟩ jdk_67_method_7_code 2 (some (.object s3)) (rM 3 0 0 42) #[.ref x0, .null] h0 (fun v h L => v = some (.ref x0) ∧ Fr n0 L ∧ Keep h0 h [x0, x1] ∧ Exa Z h x0 s3 ∧ Fld Z h x0 s0 s4 "B" (.int 0) ∧ Fld Z h x0 s0 "count" "I" (.int 29) ∧ Fld Z h x0 s0 s5 "[B" (.ref x1) ∧ Arv Z h x1 kk0 .byte (34 : Int32) [.int 69, .int 84, .int 97, .int 103, .int 32, .int p0, .int p1, .int p2, .int p3, .int 44, .int 32, .int 76, .int 97, .int 115, .int 116, .int 45, .int 77, .int 111, .int 100, .int 105, .int 102, .int 105, .int 101, .int 100, .int 32, .int 110, .int 117, .int 108, .int 108, .int 0, .int 0, .int 0, .int 0, .int 0] (.int 0) ∧ Exa Z h x1 "[B") := by
 refine Ctr.of (plainFor_of_name pn_c5) ?_
 intro p e s m below meth c T0 hx hZ hby hml hown hnm hret hlk e0 es X0
 refine Go.cast (ef_12_RN m x0) ?_
 generalize hFF : EndN s _ _ _ = FF
 refine Go.aloadN X0 hx 1 rfl (hb hby d12_0) rfl rfl ?_
 refine Go.aloadN X0 hx 2 rfl (hb hby d12_1) rfl rfl ?_
 refine Go.callUp X0 hx hZ hown (tw_76 hw) (own_sameself (tw_96 hw) rfl (tw_77 hw) (by decide)) (tw_77 hw) (tw_78 hw) (by decide) (tw_80 hw) (tw_80 hw) (tw_60 hw) (au_69 l Z a0 hw x0 x1 kk0 p0 p1 p2 p3 gz1 gv5 h0 n0 Z0 O0 G P0 P1 P2 P3 P4 P5 g_x1 g_x0 ne_x0_x1) e0 P0 (argsL := [.null]) (rest := []) 5 rfl (hml ▸ rfl) (lenOf pd_14 rfl) rfl rfl (W := 0) (nE rfl) (by decide) (by decide) (by decide) (by decide) (hb hby d12_2) ?_
 intro v1 T1 L1 q1 X1
 obtain ⟨h1, e1⟩ : ∃ z, T1.heap = z := ⟨_, rfl⟩
 rw [e1] at q1
 obtain ⟨rfl, N1, K1, F1_0, F1_1, F1_2, F1_3, F1_4, F1_5⟩ := q1
 show Go _ _ _ _ (T1.setTop (mkF m 5 #[vR x0, .val .null] [.ref x0]))
 refine Go.pop X1 hx 6 rfl (hb hby d12_5) rfl ?_
 refine Go.aloadN X1 hx 7 rfl (hb hby d12_6) rfl rfl ?_
 subst hFF
 refine Go.retR X1 hx hlk (t := (.object s3)) hret rfl rfl (hb hby d12_7) (by decide) (by decide) ?_
 rw [e1]
 have Kp2 := ((Keep.refl h0 [x0, x1]).trans K1 (allS (Or.inl (mG 0 rfl)) (allS (Or.inl (mG 1 rfl)) all0)))
 exact ⟨rfl, (Fr.app (Fr.nil n0) N1), Kp2, F1_0, F1_1, F1_2, F1_3, F1_4, F1_5⟩
theorem au_75 (l : Launch) (Z : State) (a0 : Array Value) (hw : HW a0 Z) (x0 x1 : Addr) (h0 : Heap) (n0 : Nat) (Z0 : n0 ≤ h0.size) (P3 : Fld Z h0 x0 s0 s5 "[B" (.ref x1)) :
    Ctr l Z ⟨s0, "getValue", "()[B"⟩ jdk_68_method_64_code 1 (some (.array .byte)) (rM 0 0 0 0) #[.ref x0] h0 (fun v h L => v = some (.ref x1) ∧ Fr n0 L ∧ h = h0) := by
 refine Ctr.of (plainFor_of_name pn_c4) ?_
 intro p e s m below meth c T0 hx hZ hby hml hown hnm hret hlk e0 es X0
 refine Go.cast (ef_28_R m x0) ?_
 generalize hFF : EndN s _ _ _ = FF
 refine Go.aloadN X0 hx 1 rfl (hb hby d28_0) rfl rfl ?_
 refine Go.getF X0 hx hZ hown (host := "") (Or.inl (tw_64 hw)) Via.refl e0 P3 4 rfl (hb hby d28_1) ?_
 intro T1 e1 X1
 subst hFF
 refine Go.retR X1 hx hlk (t := (.array .byte)) hret rfl rfl (hb hby d28_4) (by decide) (by decide) ?_
 rw [e1]
 exact ⟨rfl, (Fr.nil n0), rfl⟩
theorem au_77 (l : Launch) (Z : State) (a0 : Array Value) (hw : HW a0 Z) (x0 : Addr) (h0 : Heap) (n0 : Nat) (Z0 : n0 ≤ h0.size) (P2 : Fld Z h0 x0 s0 "count" "I" (.int 29)) :
    Ctr l Z ⟨s0, "length", "()I"⟩ jdk_68_method_6_code 1 (some .int) (rM 0 0 0 0) #[.ref x0] h0 (fun v h L => v = some (.int 29) ∧ Fr n0 L ∧ h = h0) := by
 refine Ctr.of (plainFor_of_name pn_c4) ?_
 intro p e s m below meth c T0 hx hZ hby hml hown hnm hret hlk e0 es X0
 refine Go.cast (ef_30_R m x0) ?_
 generalize hFF : EndN s _ _ _ = FF
 refine Go.aloadN X0 hx 1 rfl (hb hby d30_0) rfl rfl ?_
 refine Go.getF X0 hx hZ hown (host := "") (Or.inl (tw_91 hw)) Via.refl e0 P2 4 rfl (hb hby d30_1) ?_
 intro T1 e1 X1
 subst hFF
 refine Go.retI X1 hx hlk hret (hb hby d30_4) (by decide) (by decide) ?_
 rw [e1]
 exact ⟨rfl, (Fr.nil n0), rfl⟩
theorem au_76 (l : Launch) (Z : State) (a0 : Array Value) (hw : HW a0 Z) (x0 : Addr) (h0 : Heap) (n0 : Nat) (Z0 : n0 ≤ h0.size) (P0 : Exa Z h0 x0 s3) (P2 : Fld Z h0 x0 s0 "count" "I" (.int 29)) :
    Ctr l Z ⟨s3, "length", "()I"⟩ jdk_67_method_93_code 1 (some .int) (rM 1 0 0 12) #[.ref x0] h0 (fun v h L => v = some (.int 29) ∧ Fr n0 L ∧ h = h0) := by
 refine Ctr.of (plainFor_of_name pn_c5) ?_
 intro p e s m below meth c T0 hx hZ hby hml hown hnm hret hlk e0 es X0
 refine Go.cast (ef_29_R m x0) ?_
 generalize hFF : EndN s _ _ _ = FF
 refine Go.aloadN X0 hx 1 rfl (hb hby d29_0) rfl rfl ?_
 refine Go.callUp X0 hx hZ hown (tw_165 hw) (own_sameself (tw_96 hw) rfl (tw_161 hw) (by decide)) (tw_161 hw) (tw_78 hw) (by decide) (tw_166 hw) (tw_166 hw) (tw_60 hw) (au_77 l Z a0 hw x0 h0 n0 Z0 P2) e0 P0 (argsL := []) (rest := []) 4 rfl (hml ▸ rfl) (lenOf pd_10 rfl) rfl rfl (W := 0) (nE rfl) (by decide) (by decide) (by decide) (by decide) (hb hby d29_1) ?_
 intro v1 T1 L1 q1 X1
 obtain ⟨rfl, N1, e1⟩ := q1
 show Go _ _ _ _ (T1.setTop (mkF m 4 #[vR x0] [.int 29]))
 subst hFF
 refine Go.retI X1 hx hlk hret (hb hby d29_4) (by decide) (by decide) ?_
 rw [e1]
 exact ⟨rfl, (Fr.app (Fr.nil n0) N1), rfl⟩
theorem au_78 (l : Launch) (Z : State) (a0 : Array Value) (hw : HW a0 Z) (x0 : Addr) (gz1 : Int32) (gv5 : Value) (h0 : Heap) (n0 : Nat) (Z0 : n0 ≤ h0.size) (O0 : Old Z n0 h0) (G : Glob Z gz1 gv5) (P1 : Fld Z h0 x0 s0 s4 "B" (.int 0)) :
    Ctr l Z ⟨s0, "isLatin1", "()Z"⟩ jdk_68_method_68_code 1 (some .boolean) (rM 0 0 0 0) #[.ref x0] h0 (fun v h L => v = some (.int 1) ∧ Fr n0 L ∧ h = h0) := by
 refine Ctr.of (plainFor_of_name pn_c4) ?_
 intro p e s m below meth c T0 hx hZ hby hml hown hnm hret hlk e0 es X0
 have G' := G
 obtain ⟨G0, -, G2, -⟩ := G'
 refine Go.cast (ef_31_R m x0) ?_
 generalize hFF : EndN s _ _ _ = FF
 have fk1 := G0.ext O0.2
 refine Go.getS X0 hx hZ hown (host := "") (Or.inl (tw_63 hw)) Via.refl e0 fk1 3 rfl (hb hby d31_0) ?_
 intro T2 e2 X2
 refine Go.ifNo X2 hx 6 rfl (hb hby d31_3) (feq G2).1 ?_
 refine Go.aloadN X2 hx 7 rfl (hb hby d31_6) rfl rfl ?_
 refine Go.getF X2 hx hZ hown (host := "") (Or.inl (tw_66 hw)) Via.refl e2 P1 10 rfl (hb hby d31_7) ?_
 intro T3 e3 X3
 refine Go.ifNo X3 hx 13 rfl (hb hby d31_10) (by decide) ?_
 refine Go.iconst X3 hx 14 rfl (hb hby d31_13) (v := (1 : Int32)) rfl ?_
 refine Go.goto X3 hx 18 (hb hby d31_14) (by decide) (by decide) ?_
 subst hFF
 refine Go.retN X3 hx hlk (t := .boolean) hret (by simp) (hb hby d31_18) (by decide) (by decide) ?_
 rw [e3]
 exact ⟨(congrArg (fun z => some (Value.int z)) (by decide : nar .boolean (1 : Int32) = (1 : Int32))), (Fr.nil n0), rfl⟩
theorem au_80 (l : Launch) (Z : State) (a0 : Array Value) (hw : HW a0 Z) (x0 : Addr) (kk0 : ClassId) (p0 p1 p2 p3 : Int32) (h0 : Heap) (n0 : Nat) (Z0 : n0 ≤ h0.size) (P0 : Arv Z h0 x0 kk0 .byte (34 : Int32) [.int 69, .int 84, .int 97, .int 103, .int 32, .int p0, .int p1, .int p2, .int p3, .int 44, .int 32, .int 76, .int 97, .int 115, .int 116, .int 45, .int 77, .int 111, .int 100, .int 105, .int 102, .int 105, .int 101, .int 100, .int 32, .int 110, .int 117, .int 108, .int 108, .int 0, .int 0, .int 0, .int 0, .int 0] (.int 0)) :
    Ctr l Z ⟨"java/util/Arrays", "copyOfRangeByte", "([BII)[B"⟩ jdk_65_method_133_code 5 (some (.array .byte)) (rM 1 1 29 18) #[.ref x0, .int 0, .int 29] h0 (fun v h L => ∃ (y0 : Addr) (y1 : ClassId), v = some (.ref y0) ∧ Fr n0 L ∧ Keep h0 h [] ∧ h0.size ≤ y0 ∧ Arv Z h y0 y1 .byte (29 : Int32) [.int 69, .int 84, .int 97, .int 103, .int 32, .int p0, .int p1, .int p2, .int p3, .int 44, .int 32, .int 76, .int 97, .int 115, .int 116, .int 45, .int 77, .int 111, .int 100, .int 105, .int 102, .int 105, .int 101, .int 100, .int 32, .int 110, .int 117, .int 108, .int 108] (.int 0) ∧ Exa Z h y0 "[B") := by
 refine Ctr.of (plainFor_of_name pn_c7) ?_
 intro p e s m below meth c T0 hx hZ hby hml hown hnm hret hlk e0 es X0
 refine Go.cast (ef_33_RII m x0 (0 : Int32) (29 : Int32)) ?_
 generalize hFF : EndN s _ _ _ = FF
 refine Go.iloadN X0 hx 1 rfl (hb hby d33_0) rfl ?_
 refine Go.iloadN X0 hx 2 rfl (hb hby d33_1) rfl ?_
 refine Go.callS X0 hx hZ hown (tw_178 hw) (tw_179 hw) (tw_136 hw) (tw_180 hw) (by decide) (tw_180 hw) (tw_136 hw) (au_58 l Z a0 hw h0 n0 Z0) e0 (argsL := [.int 0, .int 29]) (rest := []) 5 rfl (hml ▸ rfl) (lenOf pd_22 rfl) rfl rfl (W := 0) (nE rfl) (by decide) (by decide) (by decide) (by decide) (hb hby d33_2) ?_
 intro v1 T1 L1 q1 X1
 obtain ⟨rfl, N1, e1⟩ := q1
 show Go _ _ _ _ (T1.setTop (mkF m 5 #[vR x0, vI 0, vI 29, uS, uS] []))
 refine Go.iloadN X1 hx 6 rfl (hb hby d33_5) rfl ?_
 refine Go.iloadN X1 hx 7 rfl (hb hby d33_6) rfl ?_
 refine Go.isub X1 hx 8 rfl (hb hby d33_7) ?_
 rw [show ((29 : Int32) - (0 : Int32)) = (29 : Int32) from by decide]
 refine Go.istoreN X1 hx 9 rfl (hb hby d33_8) (Ls' := #[vR x0, vI 0, vI 29, vI 29, uS]) rfl ?_
 refine Go.iloadN X1 hx 10 rfl (hb hby d33_9) rfl ?_
 refine Go.newarray X1 hx hZ (ty := .byte) rfl (tw_23 hw) e1 (by decide) (cap := 29) (by decide) (by decide) (by decide) (by decide) (ad := "[B") (by decide) 29 12 rfl (hb hby d33_10) ?_
 intro T2 h2 b2 k2 e2 E2 g2 V2 A2 X2
 have V2' : Arv Z h2 b2 k2 .byte (29 : Int32) [.int 0, .int 0, .int 0, .int 0, .int 0, .int 0, .int 0, .int 0, .int 0, .int 0, .int 0, .int 0, .int 0, .int 0, .int 0, .int 0, .int 0, .int 0, .int 0, .int 0, .int 0, .int 0, .int 0, .int 0, .int 0, .int 0, .int 0, .int 0, .int 0] (.int 0) := V2
 refine Go.astore X2 hx 14 rfl (hb hby d33_12) (Ls' := #[vR x0, vI 0, vI 29, vI 29, vR b2]) rfl rfl ?_
 refine Go.aloadN X2 hx 15 rfl (hb hby d33_14) rfl rfl ?_
 refine Go.iloadN X2 hx 16 rfl (hb hby d33_15) rfl ?_
 refine Go.aload X2 hx 18 rfl (hb hby d33_16) rfl rfl ?_
 refine Go.iconst X2 hx 19 rfl (hb hby d33_18) (v := (0 : Int32)) rfl ?_
 refine Go.aloadN X2 hx 20 rfl (hb hby d33_19) rfl rfl ?_
 have fk3 := (P0.ext E2)
 refine Go.arraylength X2 hx hZ e2 fk3 21 rfl (hb hby d33_20) ?_
 refine Go.iloadN X2 hx 22 rfl (hb hby d33_21) rfl ?_
 refine Go.isub X2 hx 23 rfl (hb hby d33_22) ?_
 rw [show ((34 : Int32) - (0 : Int32)) = (34 : Int32) from by decide]
 refine Go.iloadN X2 hx 24 rfl (hb hby d33_23) rfl ?_
 have Kp5 := ((Keep.refl h0 []).ext E2)
 have Zn4 := Nat.le_trans Z0 Kp5.1
 refine Go.callS X2 hx hZ hown (tw_138 hw) (tw_139 hw) (tw_130 hw) (tw_140 hw) (by decide) (tw_140 hw) (tw_130 hw) (au_59 l Z a0 hw h2 n0 Zn4) e2 (argsL := [.int 34, .int 29]) (rest := [.int 0, .ref b2, .int 0, .ref x0]) 27 rfl (hml ▸ rfl) (lenOf pd_16 rfl) rfl rfl (W := 4) (nE rfl) (by decide) (by decide) (by decide) (by decide) (hb hby d33_24) ?_
 intro v6 T6 L6 q6 X6
 obtain ⟨rfl, N6, e6⟩ := q6
 show Go _ _ _ _ (T6.setTop (mkF m 27 #[vR x0, vI 0, vI 29, vI 29, vR b2] [.int 29, .int 0, .ref b2, .int 0, .ref x0]))
 have sz8 := Nat.le_trans (Keep.refl h0 []).1 (Nat.le_of_eq g2.symm)
 have ge7 := Nat.le_trans Z0 sz8
 refine Go.arraycopy X6 hx hZ hown (tw_141 hw) (tw_117 hw) (tw_115 hw) (tw_116 hw) e6 fk3 V2' rfl (sp := (0 : Int32)) (dp := (0 : Int32)) (nn := (29 : Int32)) (us := [.int 69, .int 84, .int 97, .int 103, .int 32, .int p0, .int p1, .int p2, .int p3, .int 44, .int 32, .int 76, .int 97, .int 115, .int 116, .int 45, .int 77, .int 111, .int 100, .int 105, .int 102, .int 105, .int 101, .int 100, .int 32, .int 110, .int 117, .int 108, .int 108]) (by decide) (by decide) (by decide) (by decide) (by decide) rfl (nB rfl) (Fr.app (Fr.app (Fr.nil n0) N1) N6) ge7 (by decide) (W := 0) (hml ▸ rfl) (nE rfl) (by decide) (pc' := 30) rfl (hb hby d33_27) ?_
 intro T9 h9 L9 e9 N9 K9 V9 X9
 have V9' : Arv Z h9 b2 k2 .byte (29 : Int32) [.int 69, .int 84, .int 97, .int 103, .int 32, .int p0, .int p1, .int p2, .int p3, .int 44, .int 32, .int 76, .int 97, .int 115, .int 116, .int 45, .int 77, .int 111, .int 100, .int 105, .int 102, .int 105, .int 101, .int 100, .int 32, .int 110, .int 117, .int 108, .int 108] (.int 0) := V9
 refine Go.aload X9 hx 32 rfl (hb hby d33_30) rfl rfl ?_
 subst hFF
 refine Go.retR X9 hx hlk (t := (.array .byte)) hret rfl rfl (hb hby d33_32) (by decide) (by decide) ?_
 rw [e9]
 have fk10 := (A2.keep K9)
 have Kp11 := (Kp5.trans K9 (allS (Or.inr sz8) all0))
 exact ⟨b2, k2, rfl, N9, Kp11, sz8, V9', fk10⟩
theorem au_79 (l : Launch) (Z : State) (a0 : Array Value) (hw : HW a0 Z) (x0 : Addr) (kk0 : ClassId) (p0 p1 p2 p3 : Int32) (h0 : Heap) (n0 : Nat) (Z0 : n0 ≤ h0.size) (P0 : Arv Z h0 x0 kk0 .byte (34 : Int32) [.int 69, .int 84, .int 97, .int 103, .int 32, .int p0, .int p1, .int p2, .int p3, .int 44, .int 32, .int 76, .int 97, .int 115, .int 116, .int 45, .int 77, .int 111, .int 100, .int 105, .int 102, .int 105, .int 101, .int 100, .int 32, .int 110, .int 117, .int 108, .int 108, .int 0, .int 0, .int 0, .int 0, .int 0] (.int 0)) :
    Ctr l Z ⟨"java/util/Arrays", "copyOfRange", "([BII)[B"⟩ jdk_65_method_132_code 3 (some (.array .byte)) (rM 2 1 29 34) #[.ref x0, .int 0, .int 29] h0 (fun v h L => ∃ (y0 : Addr) (y1 : ClassId), v = some (.ref y0) ∧ Fr n0 L ∧ Keep h0 h [] ∧ h0.size ≤ y0 ∧ Arv Z h y0 y1 .byte (29 : Int32) [.int 69, .int 84, .int 97, .int 103, .int 32, .int p0, .int p1, .int p2, .int p3, .int 44, .int 32, .int 76, .int 97, .int 115, .int 116, .int 45, .int 77, .int 111, .int 100, .int 105, .int 102, .int 105, .int 101, .int 100, .int 32, .int 110, .int 117, .int 108, .int 108] (.int 0) ∧ Exa Z h y0 "[B") := by
 refine Ctr.of (plainFor_of_name pn_c7) ?_
 intro p e s m below meth c T0 hx hZ hby hml hown hnm hret hlk e0 es X0
 refine Go.cast (ef_32_RII m x0 (0 : Int32) (29 : Int32)) ?_
 generalize hFF : EndN s _ _ _ = FF
 refine Go.iloadN X0 hx 1 rfl (hb hby d32_0) rfl ?_
 refine Go.ifNo X0 hx 4 rfl (hb hby d32_1) (by decide) ?_
 refine Go.iloadN X0 hx 5 rfl (hb hby d32_4) rfl ?_
 refine Go.aloadN X0 hx 6 rfl (hb hby d32_5) rfl rfl ?_
 refine Go.arraylength X0 hx hZ e0 P0 7 rfl (hb hby d32_6) ?_
 refine Go.icmpNo X0 hx 10 rfl (hb hby d32_7) (by decide) ?_
 refine Go.aloadN X0 hx 11 rfl (hb hby d32_10) rfl rfl ?_
 refine Go.iloadN X0 hx 12 rfl (hb hby d32_11) rfl ?_
 refine Go.iloadN X0 hx 13 rfl (hb hby d32_12) rfl ?_
 refine Go.callS X0 hx hZ hown (tw_175 hw) (tw_176 hw) (tw_136 hw) (tw_177 hw) (by decide) (tw_177 hw) (tw_136 hw) (au_80 l Z a0 hw x0 kk0 p0 p1 p2 p3 h0 n0 Z0 P0) e0 (argsL := [.ref x0, .int 0, .int 29]) (rest := []) 16 rfl (hml ▸ rfl) (lenOf pd_23 rfl) rfl rfl (W := 0) (nE rfl) (by decide) (by decide) (by decide) (by decide) (hb hby d32_13) ?_
 intro v1 T1 L1 q1 X1
 obtain ⟨h1, e1⟩ : ∃ z, T1.heap = z := ⟨_, rfl⟩
 rw [e1] at q1
 obtain ⟨b1_0, k1_0, rfl, N1, K1, s1_0, F1_0, F1_1⟩ := q1
 show Go _ _ _ _ (T1.setTop (mkF m 16 #[vR x0, vI 0, vI 29] [.ref b1_0]))
 subst hFF
 refine Go.retR X1 hx hlk (t := (.array .byte)) hret rfl rfl (hb hby d32_16) (by decide) (by decide) ?_
 rw [e1]
 have Kp2 := ((Keep.refl h0 []).trans K1 all0)
 have sz3 := Nat.le_trans (Keep.refl h0 []).1 s1_0
 exact ⟨b1_0, k1_0, rfl, (Fr.app (Fr.nil n0) N1), Kp2, sz3, F1_0, F1_1⟩
theorem au_74 (l : Launch) (Z : State) (a0 : Array Value) (hw : HW a0 Z) (x0 x1 x2 : Addr) (kk0 : ClassId) (p0 p1 p2 p3 gz1 : Int32) (gv5 : Value) (h0 : Heap) (n0 : Nat) (Z0 : n0 ≤ h0.size) (O0 : Old Z n0 h0) (G : Glob Z gz1 gv5) (P0 : Exa Z h0 x0 s1) (P1 : Fld Z h0 x0 s1 s4 "B" (.int 0)) (P2 : Fld Z h0 x0 s1 s5 "[B" .null) (P3 : Exa Z h0 x1 s3) (P4 : Fld Z h0 x1 s0 s4 "B" (.int 0)) (P5 : Fld Z h0 x1 s0 "count" "I" (.int 29)) (P6 : Fld Z h0 x1 s0 s5 "[B" (.ref x2)) (P7 : Arv Z h0 x2 kk0 .byte (34 : Int32) [.int 69, .int 84, .int 97, .int 103, .int 32, .int p0, .int p1, .int p2, .int p3, .int 44, .int 32, .int 76, .int 97, .int 115, .int 116, .int 45, .int 77, .int 111, .int 100, .int 105, .int 102, .int 105, .int 101, .int 100, .int 32, .int 110, .int 117, .int 108, .int 108, .int 0, .int 0, .int 0, .int 0, .int 0] (.int 0)) (g_x0 : n0 ≤ x0) (ne_x2_x0 : x2 ≠ x0) :
    Ctr l Z ⟨s1, "<init>", "(Ljava/lang/AbstractStringBuilder;Ljava/lang/Void;)V"⟩ jdk_42_method_150_code 5 none (rM 3 1 29 49) #[.ref x0, .ref x1, .null] h0 (fun v h L => ∃ (y0 : Addr) (y1 : ClassId), v = none ∧ Fr n0 L ∧ Keep h0 h [x0] ∧ h0.size ≤ y0 ∧ Exa Z h x0 s1 ∧ Fld Z h x0 s1 s4 "B" (.int 0) ∧ Fld Z h x0 s1 s5 "[B" (.ref y0) ∧ Arv Z h y0 y1 .byte (29 : Int32) [.int 69, .int 84, .int 97, .int 103, .int 32, .int p0, .int p1, .int p2, .int p3, .int 44, .int 32, .int 76, .int 97, .int 115, .int 116, .int 45, .int 77, .int 111, .int 100, .int 105, .int 102, .int 105, .int 101, .int 100, .int 32, .int 110, .int 117, .int 108, .int 108] (.int 0) ∧ Exa Z h y0 "[B") := by
 refine Ctr.of (plainFor_of_name pn_c2) ?_
 intro p e s m below meth c T0 hx hZ hby hml hown hnm hret hlk e0 es X0
 refine Go.cast (ef_27_RRN m x0 x1) ?_
 generalize hFF : EndN s _ _ _ = FF
 refine Go.aloadN X0 hx 1 rfl (hb hby d27_0) rfl rfl ?_
 refine Go.initO X0 hx hZ hown (tw_15 hw) (tw_16 hw) (tw_17 hw) e0 (by decide) (W := 0) (hml ▸ rfl) (nE rfl) (by decide) (pc' := 4) rfl (hb hby d27_1) ?_
 intro T1 e1 X1
 refine Go.aloadN X1 hx 5 rfl (hb hby d27_4) rfl rfl ?_
 refine Go.callV X1 hx hZ hown (tw_154 hw) (tw_155 hw) (notFace_of_selects (args := #[]) (mvT hZ (tw_157 hw))) (tw_157 hw) (tw_156 hw) (by decide) (tw_158 hw) (tw_60 hw) (au_75 l Z a0 hw x1 x2 h0 n0 Z0 P6) e1 P3 (argsL := []) (rest := []) 8 rfl (hml ▸ rfl) (lenOf pd_20 rfl) rfl rfl (W := 0) (nE rfl) (by decide) (by decide) (by decide) (by decide) (hb hby d27_5) ?_
 intro v2 T2 L2 q2 X2
 obtain ⟨rfl, N2, e2⟩ := q2
 show Go _ _ _ _ (T2.setTop (mkF m 8 #[vR x0, vR x1, .val .null, uS, uS] [.ref x2]))
 refine Go.astoreN X2 hx 9 rfl (hb hby d27_8) (Ls' := #[vR x0, vR x1, .val .null, vR x2, uS]) rfl rfl ?_
 refine Go.aloadN X2 hx 10 rfl (hb hby d27_9) rfl rfl ?_
 refine Go.callV X2 hx hZ hown (tw_159 hw) (tw_160 hw) (own_nf (args := #[]) (mvT hZ (tw_96 hw)) rfl) (tw_162 hw) (tw_163 hw) (by decide) (tw_164 hw) (tw_52 hw) (au_76 l Z a0 hw x1 h0 n0 Z0 P3 P5) e2 P3 (argsL := []) (rest := []) 13 rfl (hml ▸ rfl) (lenOf pd_10 rfl) rfl rfl (W := 0) (nE rfl) (by decide) (by decide) (by decide) (by decide) (hb hby d27_10) ?_
 intro v3 T3 L3 q3 X3
 obtain ⟨rfl, N3, e3⟩ := q3
 show Go _ _ _ _ (T3.setTop (mkF m 13 #[vR x0, vR x1, .val .null, vR x2, uS] [.int 29]))
 refine Go.istore X3 hx 15 rfl (hb hby d27_13) (Ls' := #[vR x0, vR x1, .val .null, vR x2, vI 29]) rfl ?_
 refine Go.aloadN X3 hx 16 rfl (hb hby d27_15) rfl rfl ?_
 refine Go.callV X3 hx hZ hown (tw_167 hw) (tw_168 hw) (notFace_of_selects (args := #[]) (mvT hZ (tw_170 hw))) (tw_170 hw) (tw_169 hw) (by decide) (tw_171 hw) (tw_60 hw) (au_78 l Z a0 hw x1 gz1 gv5 h0 n0 Z0 O0 G P4) e3 P3 (argsL := []) (rest := []) 19 rfl (hml ▸ rfl) (lenOf pd_21 rfl) rfl rfl (W := 0) (nE rfl) (by decide) (by decide) (by decide) (by decide) (hb hby d27_16) ?_
 intro v4 T4 L4 q4 X4
 obtain ⟨rfl, N4, e4⟩ := q4
 show Go _ _ _ _ (T4.setTop (mkF m 19 #[vR x0, vR x1, .val .null, vR x2, vI 29] [.int 1]))
 refine Go.ifNo X4 hx 22 rfl (hb hby d27_19) (by decide) ?_
 refine Go.aloadN X4 hx 23 rfl (hb hby d27_22) rfl rfl ?_
 refine Go.iconst X4 hx 24 rfl (hb hby d27_23) (v := (0 : Int32)) rfl ?_
 refine Go.putFN X4 hx hZ hown (tw_30 hw) Via.refl e4 P1 P0 (Or.inr ⟨(tw_31 hw), rfl, hnm⟩) (tw_5 hw) (ty := .byte) (v' := (.int 0)) (by decide) (by decide) (by decide) 27 rfl (hb hby d27_24) ?_
 intro T5 h5 e5 W5 F5 X5
 have N5 := Fr.snoc X5 (Fr.app (Fr.app (Fr.app (Fr.nil n0) N2) N3) N4) g_x0
 refine Go.aloadN X5 hx 28 rfl (hb hby d27_27) rfl rfl ?_
 refine Go.aloadN X5 hx 29 rfl (hb hby d27_28) rfl rfl ?_
 refine Go.iconst X5 hx 30 rfl (hb hby d27_29) (v := (0 : Int32)) rfl ?_
 refine Go.iload X5 hx 32 rfl (hb hby d27_30) rfl ?_
 have Kp7 := ((Keep.refl h0 [x0]).wr W5 (Or.inl (mG 0 rfl)))
 have Zn6 := Nat.le_trans Z0 Kp7.1
 have fk8 := (P7.other W5 ne_x2_x0)
 refine Go.callS X5 hx hZ hown (tw_172 hw) (tw_173 hw) (tw_136 hw) (tw_174 hw) (by decide) (tw_174 hw) (tw_136 hw) (au_79 l Z a0 hw x2 kk0 p0 p1 p2 p3 h5 n0 Zn6 fk8) e5 (argsL := [.ref x2, .int 0, .int 29]) (rest := [.ref x0]) 35 rfl (hml ▸ rfl) (lenOf pd_23 rfl) rfl rfl (W := 1) (nE rfl) (by decide) (by decide) (by decide) (by decide) (hb hby d27_32) ?_
 intro v9 T9 L9 q9 X9
 obtain ⟨h9, e9⟩ : ∃ z, T9.heap = z := ⟨_, rfl⟩
 rw [e9] at q9
 obtain ⟨b9_0, k9_0, rfl, N9, K9, s9_0, F9_0, F9_1⟩ := q9
 show Go _ _ _ _ (T9.setTop (mkF m 35 #[vR x0, vR x1, .val .null, vR x2, vI 29] [.ref b9_0, .ref x0]))
 have fk10 := ((P2.other W5 (Or.inr (slot_ne (Or.inr (tw_33 hw)) (Or.inr (tw_31 hw)) (by decide) (t := (.array .byte)) (t' := .byte) (by decide) (by decide)))).keep K9 nin0)
 have fk11 := ((P0.wr W5).keep K9)
 refine Go.putF X9 hx hZ hown (host := "") (Or.inl (tw_32 hw)) Via.refl e9 fk10 fk11 (Or.inr ⟨(tw_33 hw), rfl, hnm⟩) (tw_5 hw) (ty := (.array .byte)) (by decide) rfl rfl 38 rfl (hb hby d27_35) ?_
 intro T12 h12 e12 W12 F12 X12
 have N12 := Fr.snoc X12 (Fr.app N5 N9) g_x0
 refine Go.goto X12 hx 97 (hb hby d27_38) (by decide) (by decide) ?_
 subst hFF
 refine Go.ret0 X12 hx hlk hret (hb hby d27_97) (by decide) (by decide) ?_
 rw [e12]
 have fk13 := (fk11.wr W12)
 have fk14 := ((F5.keep K9 nin0).other W12 (Or.inr (slot_ne (Or.inr (tw_31 hw)) (Or.inr (tw_33 hw)) (by decide) (t := .byte) (t' := (.array .byte)) (by decide) (by decide))))
 have fk16 := (P0.wr W5)
 have ne15 := Nat.ne_of_lt (Nat.lt_of_lt_of_le fk16.lt s9_0)
 have fk17 := (F9_0.other W12 (Ne.symm ne15))
 have fk18 := (F9_1.wr W12)
 have Kp19 := (Kp7.trans K9 all0)
 have Kp20 := (Kp19.wr W12 (Or.inl (mG 0 rfl)))
 have sz21 := Nat.le_trans Kp7.1 s9_0
 exact ⟨b9_0, k9_0, rfl, N12, Kp20, sz21, fk13, fk14, F12, fk17, fk18⟩
theorem au_73 (l : Launch) (Z : State) (a0 : Array Value) (hw : HW a0 Z) (x0 x1 x2 : Addr) (kk0 : ClassId) (p0 p1 p2 p3 gz1 : Int32) (gv5 : Value) (h0 : Heap) (n0 : Nat) (Z0 : n0 ≤ h0.size) (O0 : Old Z n0 h0) (G : Glob Z gz1 gv5) (P0 : Exa Z h0 x0 s1) (P1 : Fld Z h0 x0 s1 s4 "B" (.int 0)) (P2 : Fld Z h0 x0 s1 s5 "[B" .null) (P3 : Exa Z h0 x1 s3) (P4 : Fld Z h0 x1 s0 s4 "B" (.int 0)) (P5 : Fld Z h0 x1 s0 "count" "I" (.int 29)) (P6 : Fld Z h0 x1 s0 s5 "[B" (.ref x2)) (P7 : Arv Z h0 x2 kk0 .byte (34 : Int32) [.int 69, .int 84, .int 97, .int 103, .int 32, .int p0, .int p1, .int p2, .int p3, .int 44, .int 32, .int 76, .int 97, .int 115, .int 116, .int 45, .int 77, .int 111, .int 100, .int 105, .int 102, .int 105, .int 101, .int 100, .int 32, .int 110, .int 117, .int 108, .int 108, .int 0, .int 0, .int 0, .int 0, .int 0] (.int 0)) (g_x0 : n0 ≤ x0) (ne_x2_x0 : x2 ≠ x0) :
    Ctr l Z ⟨s1, "<init>", "(Ljava/lang/StringBuilder;)V"⟩ jdk_42_method_53_code 2 none (rM 4 1 29 65) #[.ref x0, .ref x1] h0 (fun v h L => ∃ (y0 : Addr) (y1 : ClassId), v = none ∧ Fr n0 L ∧ Keep h0 h [x0] ∧ h0.size ≤ y0 ∧ Exa Z h x0 s1 ∧ Fld Z h x0 s1 s4 "B" (.int 0) ∧ Fld Z h x0 s1 s5 "[B" (.ref y0) ∧ Arv Z h y0 y1 .byte (29 : Int32) [.int 69, .int 84, .int 97, .int 103, .int 32, .int p0, .int p1, .int p2, .int p3, .int 44, .int 32, .int 76, .int 97, .int 115, .int 116, .int 45, .int 77, .int 111, .int 100, .int 105, .int 102, .int 105, .int 101, .int 100, .int 32, .int 110, .int 117, .int 108, .int 108] (.int 0) ∧ Exa Z h y0 "[B") := by
 refine Ctr.of (plainFor_of_name pn_c2) ?_
 intro p e s m below meth c T0 hx hZ hby hml hown hnm hret hlk e0 es X0
 refine Go.cast (ef_26_RR m x0 x1) ?_
 generalize hFF : EndN s _ _ _ = FF
 refine Go.aloadN X0 hx 1 rfl (hb hby d26_0) rfl rfl ?_
 refine Go.aloadN X0 hx 2 rfl (hb hby d26_1) rfl rfl ?_
 refine Go.anull X0 hx 3 rfl (hb hby d26_2) ?_
 refine Go.callN X0 hx hZ hown rfl (tw_151 hw) (tw_152 hw) (tw_153 hw) (by decide) (tw_153 hw) (tw_6 hw) (au_74 l Z a0 hw x0 x1 x2 kk0 p0 p1 p2 p3 gz1 gv5 h0 n0 Z0 O0 G P0 P1 P2 P3 P4 P5 P6 P7 g_x0 ne_x2_x0) e0 (a := x0) (argsL := [.ref x1, .null]) (rest := []) 6 rfl (hml ▸ rfl) (lenOf pd_24 rfl) rfl rfl (W := 0) (nE rfl) (by decide) (by decide) (by decide) (by decide) (hb hby d26_3) ?_
 intro v1 T1 L1 q1 X1
 obtain ⟨h1, e1⟩ : ∃ z, T1.heap = z := ⟨_, rfl⟩
 rw [e1] at q1
 obtain ⟨b1_0, k1_0, rfl, N1, K1, s1_0, F1_0, F1_1, F1_2, F1_3, F1_4⟩ := q1
 show Go _ _ _ _ (T1.setTop (mkF m 6 #[vR x0, vR x1] []))
 subst hFF
 refine Go.ret0 X1 hx hlk hret (hb hby d26_6) (by decide) (by decide) ?_
 rw [e1]
 have Kp2 := ((Keep.refl h0 [x0]).trans K1 (allS (Or.inl (mG 0 rfl)) all0))
 have sz3 := Nat.le_trans (Keep.refl h0 [x0]).1 s1_0
 exact ⟨b1_0, k1_0, rfl, (Fr.app (Fr.nil n0) N1), Kp2, sz3, F1_0, F1_1, F1_2, F1_3, F1_4⟩
theorem au_72 (l : Launch) (Z : State) (a0 : Array Value) (hw : HW a0 Z) (x0 x1 : Addr) (kk0 : ClassId) (p0 p1 p2 p3 gz1 : Int32) (gv5 : Value) (h0 : Heap) (n0 : Nat) (Z0 : n0 ≤ h0.size) (O0 : Old Z n0 h0) (G : Glob Z gz1 gv5) (P0 : Exa Z h0 x0 s3) (P1 : Fld Z h0 x0 s0 s4 "B" (.int 0)) (P2 : Fld Z h0 x0 s0 "count" "I" (.int 29)) (P3 : Fld Z h0 x0 s0 s5 "[B" (.ref x1)) (P4 : Arv Z h0 x1 kk0 .byte (34 : Int32) [.int 69, .int 84, .int 97, .int 103, .int 32, .int p0, .int p1, .int p2, .int p3, .int 44, .int 32, .int 76, .int 97, .int 115, .int 116, .int 45, .int 77, .int 111, .int 100, .int 105, .int 102, .int 105, .int 101, .int 100, .int 32, .int 110, .int 117, .int 108, .int 108, .int 0, .int 0, .int 0, .int 0, .int 0] (.int 0)) :
    Ctr l Z ⟨s3, "toString", "()Ljava/lang/String;"⟩ jdk_67_method_42_code 1 (some (.object s1)) (rM 5 2 33 79) #[.ref x0] h0 (fun v h L => ∃ (y0 y1 : Addr) (y2 : ClassId), v = some (.ref y0) ∧ Fr n0 L ∧ Keep h0 h [] ∧ h0.size ≤ y0 ∧ h0.size ≤ y1 ∧ y1 ≠ y0 ∧ Exa Z h y0 s1 ∧ Fld Z h y0 s1 s4 "B" (.int 0) ∧ Fld Z h y0 s1 s5 "[B" (.ref y1) ∧ Arv Z h y1 y2 .byte (29 : Int32) [.int 69, .int 84, .int 97, .int 103, .int 32, .int p0, .int p1, .int p2, .int p3, .int 44, .int 32, .int 76, .int 97, .int 115, .int 116, .int 45, .int 77, .int 111, .int 100, .int 105, .int 102, .int 105, .int 101, .int 100, .int 32, .int 110, .int 117, .int 108, .int 108] (.int 0) ∧ Exa Z h y1 "[B") := by
 refine Ctr.of (plainFor_of_name pn_c5) ?_
 intro p e s m below meth c T0 hx hZ hby hml hown hnm hret hlk e0 es X0
 refine Go.cast (ef_25_R m x0) ?_
 generalize hFF : EndN s _ _ _ = FF
 refine Go.new X0 hx hZ hown (tw_147 hw) (tw_5 hw) (tw_6 hw) e0 (by decide) (by decide) 3 rfl (hb hby d25_0) ?_
 intro T1 h1 b1 e1 E1 g1 A1 D1 X1
 have b1_coder : Fld Z h1 b1 s1 s4 "B" (.int 0) := D1 (Or.inr (tw_31 hw)) (ty := .byte) (by decide)
 have b1_value : Fld Z h1 b1 s1 s5 "[B" .null := D1 (Or.inr (tw_33 hw)) (ty := (.array .byte)) (by decide)
 refine Go.dup X1 hx 4 rfl (hb hby d25_3) rfl ?_
 refine Go.aloadN X1 hx 5 rfl (hb hby d25_4) rfl rfl ?_
 have Kp3 := ((Keep.refl h0 []).ext E1)
 have Zn2 := Nat.le_trans Z0 Kp3.1
 have O4 := (O0.ext E1)
 have fk5 := (P0.ext E1)
 have fk6 := (P1.ext E1)
 have fk7 := (P2.ext E1)
 have fk8 := (P3.ext E1)
 have fk9 := (P4.ext E1)
 have sz11 := Nat.le_trans (Keep.refl h0 []).1 (Nat.le_of_eq g1.symm)
 have ge10 := Nat.le_trans Z0 sz11
 have ne12 := Nat.ne_of_lt (Nat.lt_of_lt_of_le P4.lt (Nat.le_of_eq g1.symm))
 refine Go.callN X1 hx hZ hown rfl (tw_148 hw) (tw_149 hw) (tw_150 hw) (by decide) (tw_150 hw) (tw_6 hw) (au_73 l Z a0 hw b1 x0 x1 kk0 p0 p1 p2 p3 gz1 gv5 h1 n0 Zn2 O4 G A1 b1_coder b1_value fk5 fk6 fk7 fk8 fk9 ge10 ne12) e1 (a := b1) (argsL := [.ref x0]) (rest := [.ref b1]) 8 rfl (hml ▸ rfl) (lenOf pd_25 rfl) rfl rfl (W := 1) (nE rfl) (by decide) (by decide) (by decide) (by decide) (hb hby d25_5) ?_
 intro v13 T13 L13 q13 X13
 obtain ⟨h13, e13⟩ : ∃ z, T13.heap = z := ⟨_, rfl⟩
 rw [e13] at q13
 obtain ⟨b13_0, k13_0, rfl, N13, K13, s13_0, F13_0, F13_1, F13_2, F13_3, F13_4⟩ := q13
 show Go _ _ _ _ (T13.setTop (mkF m 8 #[vR x0] [.ref b1]))
 subst hFF
 refine Go.retR X13 hx hlk (t := (.object s1)) hret rfl rfl (hb hby d25_8) (by decide) (by decide) ?_
 rw [e13]
 have Kp14 := (Kp3.trans K13 (allS (Or.inr sz11) all0))
 have sz15 := Nat.le_trans Kp3.1 s13_0
 have ne16 := Nat.ne_of_lt (Nat.lt_of_lt_of_le A1.lt s13_0)
 exact ⟨b1, b13_0, k13_0, rfl, (Fr.app (Fr.nil n0) N13), Kp14, sz11, sz15, (Ne.symm ne16), F13_0, F13_1, F13_2, F13_3, F13_4⟩
theorem au_67 (l : Launch) (Z : State) (a0 : Array Value) (hw : HW a0 Z) (x0 x1 x2 : Addr) (kk0 : ClassId) (p0 p1 p2 p3 gz1 : Int32) (gv5 : Value) (h0 : Heap) (n0 : Nat) (Z0 : n0 ≤ h0.size) (O0 : Old Z n0 h0) (G : Glob Z gz1 gv5) (P0 : Exa Z h0 x0 s2) (P1 : Fld Z h0 x0 s2 "etag" s6 (.ref x1)) (P2 : Fld Z h0 x0 s2 "lastModified" s6 .null) (P3 : Exa Z h0 x1 s1) (P4 : Fld Z h0 x1 s1 s4 "B" (.int 0)) (P5 : Fld Z h0 x1 s1 s5 "[B" (.ref x2)) (P6 : Arv Z h0 x2 kk0 .byte (4 : Int32) [.int p0, .int p1, .int p2, .int p3] (.int 0)) :
    CtrW l Z EL0 ⟨s2, "toString", "()Ljava/lang/String;"⟩ prog_9_method_6_code 1 (some (.object s1)) (rM 6 9 179 91) #[.ref x0] h0 [] (fun v vm h L => ∃ (y0 y1 : Addr) (y2 : ClassId), v = some (.ref y0) ∧ Fr n0 L ∧ Keep h0 h [] ∧ h0.size ≤ y0 ∧ h0.size ≤ y1 ∧ y1 ≠ y0 ∧ Safe Z EL0 vm h y0 ∧ Safe Z EL0 vm h y1 ∧ Exa Z h y0 s1 ∧ Fld Z h y0 s1 s4 "B" (.int 0) ∧ Fld Z h y0 s1 s5 "[B" (.ref y1) ∧ Arv Z h y1 y2 .byte (29 : Int32) [.int 69, .int 84, .int 97, .int 103, .int 32, .int p0, .int p1, .int p2, .int p3, .int 44, .int 32, .int 76, .int 97, .int 115, .int 116, .int 45, .int 77, .int 111, .int 100, .int 105, .int 102, .int 105, .int 101, .int 100, .int 32, .int 110, .int 117, .int 108, .int 108] (.int 0) ∧ Exa Z h y1 "[B") := by
 refine CtrW.of (plainFor_of_name pn_c3) ?_
 intro p e s m below meth c T0 hx hZ hby hml hown hnm hret hlk e0 es hS0 C0 hsf X0
 have G' := G
 obtain ⟨-, -, -, -⟩ := G'
 refine Go.cast (ef_9_R m x0) ?_
 generalize hFF : EndW Z EL0 s _ _ _ = FF
 refine Go.new X0 hx hZ hown (tw_50 hw) (tw_51 hw) (tw_52 hw) e0 (by decide) (by decide) 3 rfl (hb hby d9_0) ?_
 intro T1 h1 b1 e1 E1 g1 A1 D1 X1
 have b1_value : Fld Z h1 b1 s0 s5 "[B" .null := D1 (Or.inl (tw_65 hw)) (ty := (.array .byte)) (by decide)
 have b1_coder : Fld Z h1 b1 s0 s4 "B" (.int 0) := D1 (Or.inl (tw_67 hw)) (ty := .byte) (by decide)
 have b1_count : Fld Z h1 b1 s0 "count" "I" (.int 0) := D1 (Or.inl (tw_92 hw)) (ty := .int) (by decide)
 refine Go.dup X1 hx 4 rfl (hb hby d9_3) rfl ?_
 have Kp3 := ((Keep.refl h0 []).ext E1)
 have Zn2 := Nat.le_trans Z0 Kp3.1
 have O4 := (O0.ext E1)
 have sz6 := Nat.le_trans (Keep.refl h0 []).1 (Nat.le_of_eq g1.symm)
 have ge5 := Nat.le_trans Z0 sz6
 refine Go.callN X1 hx hZ hown rfl (tw_53 hw) (tw_54 hw) (tw_55 hw) (by decide) (tw_55 hw) (tw_52 hw) (au_11 l Z a0 hw b1 gz1 gv5 h1 n0 Zn2 O4 G A1 b1_coder b1_count b1_value ge5) e1 (a := b1) (argsL := []) (rest := [.ref b1]) 7 rfl (hml ▸ rfl) (lenOf pd_8 rfl) rfl rfl (W := 1) (nE rfl) (by decide) (by decide) (by decide) (by decide) (hb hby d9_4) ?_
 intro v7 T7 L7 q7 X7
 obtain ⟨h7, e7⟩ : ∃ z, T7.heap = z := ⟨_, rfl⟩
 rw [e7] at q7
 obtain ⟨b7_0, k7_0, rfl, N7, K7, s7_0, F7_0, F7_1, F7_2, F7_3, F7_4, F7_5⟩ := q7
 show Go _ _ _ _ (T7.setTop (mkF m 7 #[vR x0] [.ref b1]))
 have C8 := (C0.trans (CHr.ext E1 C0.1))
 have fk9 := (Safe.ext E1 C0.1 (Safe.new (Nat.le_of_eq g1.symm) : Safe Z EL0 s.vm h0 b1))
 have C10 := (C8.trans (CHr.keep K7 (sfS fk9 sf0) C8.1))
 have hk11 := (Nat.le_trans (Nat.le_trans (Nat.le_refl _) E1.1) K7.1)
 refine Go.ldcCH X7 hx hZ hown (tw_68 hw) (own_SA hw) e7 hS0 hk11 (own_EW hw) (mG 0 rfl) C10.1 (vs := [(.int (69 : Int32)), (.int (84 : Int32)), (.int (97 : Int32)), (.int (103 : Int32)), (.int (32 : Int32))]) (z := (5 : Int32)) (by decide) (by decide) rfl (n := 20) (by decide) (by decide) (by decide) (by decide) 9 rfl (hb hby d9_7) ?_
 intro a12 T12 h12 j12 b12 k12 e12 E12 S12 i12 Z12 O12 A12 F12 G12 V12 C12 D12 X12
 have Kp14 := (Kp3.trans K7 (allS (Or.inr sz6) all0))
 have Kp15 := (Kp14.ext E12)
 have Zn13 := Nat.le_trans Z0 Kp15.1
 have O16 := (O4.keep K7 (allS ge5 all0))
 have O17 := (O16.ext E12)
 have fk18 := (F7_0.ext E12)
 have fk19 := (F7_1.ext E12)
 have fk20 := (F7_2.ext E12)
 have fk21 := (F7_3.ext E12)
 have fk22 := (F7_4.ext E12)
 have fk23 := (F7_5.ext E12)
 have sz25 := Nat.le_trans Kp3.1 s7_0
 have ge24 := Nat.le_trans Z0 sz25
 have ne26 := Nat.ne_of_lt (Nat.lt_of_lt_of_le A1.lt s7_0)
 refine Go.callV X12 hx Z12 O12 (tw_71 hw) (tw_72 hw) (notFace_of_selects (args := #[]) (mvT Z12 (tw_74 hw))) (tw_74 hw) (tw_73 hw) (by decide) (tw_75 hw) (tw_52 hw) (au_14 l Z a0 hw b1 a12 b7_0 b12 k7_0 k12 gz1 gv5 h12 n0 Zn13 O17 G fk18 fk19 fk20 fk21 A12 F12 G12 fk22 fk23 V12 ge24 ge5 ne26) e12 fk18 (argsL := [.ref a12]) (rest := []) 12 rfl (hml ▸ rfl) (lenOf pd_15 rfl) rfl rfl (W := 0) (nE rfl) (by decide) (by decide) (by decide) (by decide) (hb hby d9_9) ?_
 intro v27 T27 L27 q27 X27
 obtain ⟨h27, e27⟩ : ∃ z, T27.heap = z := ⟨_, rfl⟩
 rw [e27] at q27
 obtain ⟨rfl, N27, K27, F27_0, F27_1, F27_2, F27_3, F27_4, F27_5⟩ := q27
 show Go _ _ _ _ (T27.setTop (mkF m 12 #[vR x0] [.ref b1]))
 refine Go.aloadN X27 hx 13 rfl (hb hby d9_12) rfl rfl ?_
 have ne28 := Nat.ne_of_lt (Nat.lt_of_lt_of_le P0.lt (Nat.le_of_eq g1.symm))
 have fk30 := (P0.ext E1)
 have ne29 := Nat.ne_of_lt (Nat.lt_of_lt_of_le fk30.lt s7_0)
 have fk31 := ((((P1.ext E1).keep K7 (ninS ne28 nin0)).ext E12).keep K27 (ninS ne28 (ninS ne29 nin0)))
 refine Go.getF X27 hx Z12 O12 (host := "") (Or.inl (tw_41 hw)) Via.refl e27 fk31 16 rfl (hb hby d9_13) ?_
 intro T32 e32 X32
 have Kp34 := (Kp15.trans K27 (allS (Or.inr sz6) (allS (Or.inr sz25) all0)))
 have Zn33 := Nat.le_trans Z0 Kp34.1
 have O35 := (O17.keep K27 (allS ge5 (allS ge24 all0)))
 have fk36 := ((((P3.ext E1).keep K7).ext E12).keep K27)
 have ne37 := Nat.ne_of_lt (Nat.lt_of_lt_of_le P3.lt (Nat.le_of_eq g1.symm))
 have fk39 := (P3.ext E1)
 have ne38 := Nat.ne_of_lt (Nat.lt_of_lt_of_le fk39.lt s7_0)
 have fk40 := ((((P4.ext E1).keep K7 (ninS ne37 nin0)).ext E12).keep K27 (ninS ne37 (ninS ne38 nin0)))
 have fk41 := ((((P5.ext E1).keep K7 (ninS ne37 nin0)).ext E12).keep K27 (ninS ne37 (ninS ne38 nin0)))
 have ne42 := Nat.ne_of_lt (Nat.lt_of_lt_of_le P6.lt (Nat.le_of_eq g1.symm))
 have fk44 := (P6.ext E1)
 have ne43 := Nat.ne_of_lt (Nat.lt_of_lt_of_le fk44.lt s7_0)
 have fk45 := ((((P6.ext E1).keep K7 (ninS ne42 nin0)).ext E12).keep K27 (ninS ne42 (ninS ne43 nin0)))
 refine Go.callV X32 hx Z12 O12 (tw_71 hw) (tw_72 hw) (notFace_of_selects (args := #[]) (mvT Z12 (tw_74 hw))) (tw_74 hw) (tw_73 hw) (by decide) (tw_75 hw) (tw_52 hw) (au_22 l Z a0 hw b1 x1 b7_0 x2 k7_0 kk0 p0 p1 p2 p3 gz1 gv5 h27 n0 Zn33 O35 G F27_0 F27_1 F27_2 F27_3 fk36 fk40 fk41 F27_4 F27_5 fk45 ge24 ge5 ne26) e32 F27_0 (argsL := [.ref x1]) (rest := []) 19 rfl (hml ▸ rfl) (lenOf pd_15 rfl) rfl rfl (W := 0) (nE rfl) (by decide) (by decide) (by decide) (by decide) (hb hby d9_16) ?_
 intro v46 T46 L46 q46 X46
 obtain ⟨h46, e46⟩ : ∃ z, T46.heap = z := ⟨_, rfl⟩
 rw [e46] at q46
 obtain ⟨rfl, N46, K46, F46_0, F46_1, F46_2, F46_3, F46_4, F46_5⟩ := q46
 show Go _ _ _ _ (T46.setTop (mkF m 19 #[vR x0] [.ref b1]))
 have C47 := (C10.trans C12)
 have fk48 := (Safe.keep K7 (sfS fk9 sf0) C8.1 (Safe.new s7_0 : Safe Z EL0 s.vm h1 b7_0))
 have fk49 := (C12.safe F7_5.lt fk48)
 have fk50 := (Safe.keep K7 (sfS fk9 sf0) C8.1 fk9)
 have fk51 := (C12.safe F7_0.lt fk50)
 have C52 := (C47.trans (CHr.keep K27 (sfS fk51 (sfS fk49 sf0)) C47.1))
 have fk53 := (Safe.keep K27 (sfS fk51 (sfS fk49 sf0)) C47.1 fk49)
 have fk54 := (Safe.keep K27 (sfS fk51 (sfS fk49 sf0)) C47.1 fk51)
 have C55 := (C52.trans (CHr.keep K46 (sfS fk54 (sfS fk53 sf0)) C52.1))
 have hk56 := (Nat.le_trans (Nat.le_trans i12 K27.1) K46.1)
 refine Go.ldcCH X46 hx Z12 O12 (tw_118 hw) (own_SA hw) e46 S12 hk56 (own_EW hw) (mG 1 rfl) C55.1 (vs := [(.int (44 : Int32)), (.int (32 : Int32)), (.int (76 : Int32)), (.int (97 : Int32)), (.int (115 : Int32)), (.int (116 : Int32)), (.int (45 : Int32)), (.int (77 : Int32)), (.int (111 : Int32)), (.int (100 : Int32)), (.int (105 : Int32)), (.int (102 : Int32)), (.int (105 : Int32)), (.int (101 : Int32)), (.int (100 : Int32)), (.int (32 : Int32))]) (z := (16 : Int32)) (by decide) (by decide) rfl (n := 64) (by decide) (by decide) (by decide) (by decide) 21 rfl (hb hby d9_19) ?_
 intro a57 T57 h57 j57 b57 k57 e57 E57 S57 i57 Z57 O57 A57 F57 G57 V57 C57 D57 X57
 have Kp59 := (Kp34.trans K46 (allS (Or.inr sz6) (allS (Or.inr sz25) all0)))
 have Kp60 := (Kp59.ext E57)
 have Zn58 := Nat.le_trans Z0 Kp60.1
 have O61 := (O35.keep K46 (allS ge5 (allS ge24 all0)))
 have O62 := (O61.ext E57)
 have fk63 := (F46_0.ext E57)
 have fk64 := (F46_1.ext E57)
 have fk65 := (F46_2.ext E57)
 have fk66 := (F46_3.ext E57)
 have fk67 := (F46_4.ext E57)
 have fk68 := (Safe.keep K46 (sfS fk54 (sfS fk53 sf0)) C52.1 fk54)
 have fk69 := (C57.safe F46_0.lt fk68)
 refine Go.callV X57 hx Z57 O57 (tw_71 hw) (tw_72 hw) (notFace_of_selects (args := #[]) (mvT Z57 (tw_74 hw))) (tw_74 hw) (tw_73 hw) (by decide) (tw_75 hw) (tw_52 hw) (au_30 l Z a0 hw b1 a57 b7_0 b57 k7_0 p0 p1 p2 p3 k57 gz1 gv5 h57 n0 Zn58 O62 G fk63 fk64 fk65 fk66 A57 F57 G57 fk67 V57 ge5 (Ne.symm (D57 b1 fk69).1) (Ne.symm (D57 b1 fk69).2)) e57 fk63 (argsL := [.ref a57]) (rest := []) 24 rfl (hml ▸ rfl) (lenOf pd_15 rfl) rfl rfl (W := 0) (nE rfl) (by decide) (by decide) (by decide) (by decide) (hb hby d9_21) ?_
 intro v70 T70 L70 q70 X70
 obtain ⟨h70, e70⟩ : ∃ z, T70.heap = z := ⟨_, rfl⟩
 rw [e70] at q70
 obtain ⟨b70_0, k70_0, rfl, N70, K70, s70_0, F70_0, F70_1, F70_2, F70_3, F70_4, F70_5⟩ := q70
 show Go _ _ _ _ (T70.setTop (mkF m 24 #[vR x0] [.ref b1]))
 refine Go.aloadN X70 hx 25 rfl (hb hby d9_24) rfl rfl ?_
 have fk71 := (((((((P2.ext E1).keep K7 (ninS ne28 nin0)).ext E12).keep K27 (ninS ne28 (ninS ne29 nin0))).keep K46 (ninS ne28 (ninS ne29 nin0))).ext E57).keep K70 (ninS ne28 nin0))
 refine Go.getF X70 hx Z57 O57 (host := "") (Or.inl (tw_43 hw)) Via.refl e70 fk71 28 rfl (hb hby d9_25) ?_
 intro T72 e72 X72
 have Kp74 := (Kp60.trans K70 (allS (Or.inr sz6) all0))
 have Zn73 := Nat.le_trans Z0 Kp74.1
 have O75 := (O62.keep K70 (allS ge5 all0))
 have sz77 := Nat.le_trans Kp60.1 s70_0
 have ge76 := Nat.le_trans Z0 sz77
 have ne78 := Nat.ne_of_lt (Nat.lt_of_lt_of_le fk63.lt s70_0)
 refine Go.callV X72 hx Z57 O57 (tw_71 hw) (tw_72 hw) (notFace_of_selects (args := #[]) (mvT Z57 (tw_74 hw))) (tw_74 hw) (tw_73 hw) (by decide) (tw_75 hw) (tw_52 hw) (au_68 l Z a0 hw b1 b70_0 k70_0 p0 p1 p2 p3 gz1 gv5 h70 n0 Zn73 O75 G F70_0 F70_1 F70_2 F70_3 F70_4 F70_5 ge76 ge5 ne78) e72 F70_0 (argsL := [.null]) (rest := []) 31 rfl (hml ▸ rfl) (lenOf pd_15 rfl) rfl rfl (W := 0) (nE rfl) (by decide) (by decide) (by decide) (by decide) (hb hby d9_28) ?_
 intro v79 T79 L79 q79 X79
 obtain ⟨h79, e79⟩ : ∃ z, T79.heap = z := ⟨_, rfl⟩
 rw [e79] at q79
 obtain ⟨rfl, N79, K79, F79_0, F79_1, F79_2, F79_3, F79_4, F79_5⟩ := q79
 show Go _ _ _ _ (T79.setTop (mkF m 31 #[vR x0] [.ref b1]))
 have Kp81 := (Kp74.trans K79 (allS (Or.inr sz6) (allS (Or.inr sz77) all0)))
 have Zn80 := Nat.le_trans Z0 Kp81.1
 have O82 := (O75.keep K79 (allS ge5 (allS ge76 all0)))
 refine Go.callV X79 hx Z57 O57 (tw_142 hw) (tw_143 hw) (notFace_of_selects (args := #[]) (mvT Z57 (tw_145 hw))) (tw_145 hw) (tw_144 hw) (by decide) (tw_146 hw) (tw_52 hw) (au_72 l Z a0 hw b1 b70_0 k70_0 p0 p1 p2 p3 gz1 gv5 h79 n0 Zn80 O82 G F79_0 F79_1 F79_2 F79_3 F79_4) e79 F79_0 (argsL := []) (rest := []) 34 rfl (hml ▸ rfl) (lenOf pd_26 rfl) rfl rfl (W := 0) (nE rfl) (by decide) (by decide) (by decide) (by decide) (hb hby d9_31) ?_
 intro v83 T83 L83 q83 X83
 obtain ⟨h83, e83⟩ : ∃ z, T83.heap = z := ⟨_, rfl⟩
 rw [e83] at q83
 obtain ⟨b83_0, b83_1, k83_0, rfl, N83, K83, s83_0, s83_1, n83_0, F83_0, F83_1, F83_2, F83_3, F83_4⟩ := q83
 show Go _ _ _ _ (T83.setTop (mkF m 34 #[vR x0] [.ref b83_0]))
 subst hFF
 have C84 := (C55.trans C57)
 have C85 := (C84.trans (CHr.keep K70 (sfS fk69 sf0) C84.1))
 have fk86 := (Safe.keep K70 (sfS fk69 sf0) C84.1 (Safe.new s70_0 : Safe Z EL0 T57.vm h57 b70_0))
 have fk87 := (Safe.keep K70 (sfS fk69 sf0) C84.1 fk69)
 have C88 := (C85.trans (CHr.keep K79 (sfS fk87 (sfS fk86 sf0)) C85.1))
 have C89 := (C88.trans (CHr.keep K83 sf0 C88.1))
 have hk90 := (Nat.le_trans (Nat.le_trans (Nat.le_trans i57 K70.1) K79.1) K83.1)
 refine Go.retRW X83 hx hlk Z57 (own_EW hw) e83 S57 hk90 C89 (t := (.object s1)) hret rfl rfl (hb hby d9_34) (by decide) (by decide) (fun hat => ?_)
 have Kp91 := (Kp81.trans K83 all0)
 have sz92 := Nat.le_trans Kp81.1 s83_0
 have sz93 := Nat.le_trans Kp81.1 s83_1
 have fk94 := (Safe.keep K83 sf0 C88.1 (Safe.new s83_0 : Safe Z EL0 T57.vm h79 b83_0))
 have fk95 := (Safe.keep K83 sf0 C88.1 (Safe.new s83_1 : Safe Z EL0 T57.vm h79 b83_1))
 exact ⟨b83_0, b83_1, k83_0, rfl, (Fr.app (Fr.app (Fr.app (Fr.app (Fr.app (Fr.app (Fr.nil n0) N7) N27) N46) N70) N79) N83), Kp91, sz92, sz93, n83_0, (hat.safe F83_0.lt fk94), (hat.safe F83_3.lt fk95), F83_0, F83_1, F83_2, F83_3, F83_4⟩
theorem au_83 (l : Launch) (Z : State) (a0 : Array Value) (hw : HW a0 Z) (x0 : Addr) (kk0 : ClassId) (p0 p1 p2 p3 : Int32) (h0 : Heap) (n0 : Nat) (Z0 : n0 ≤ h0.size) (P0 : Arv Z h0 x0 kk0 .char (29 : Int32) [.int 69, .int 84, .int 97, .int 103, .int 32, .int p0, .int p1, .int p2, .int p3, .int 44, .int 32, .int 76, .int 97, .int 115, .int 116, .int 45, .int 77, .int 111, .int 100, .int 105, .int 102, .int 105, .int 101, .int 100, .int 32, .int 110, .int 117, .int 108, .int 108] (.int 0)) (R_p0 : 0 ≤ p0.toInt ∧ p0.toInt ≤ 255) (R_p1 : 0 ≤ p1.toInt ∧ p1.toInt ≤ 255) (R_p2 : 0 ≤ p2.toInt ∧ p2.toInt ≤ 255) (R_p3 : 0 ≤ p3.toInt ∧ p3.toInt ≤ 255) :
    Ctr l Z ⟨"java/lang/StringUTF16", "compress", "([CII)[B"⟩ jdk_52_method_16_code 6 (some (.array .byte)) (rM 1 1 29 18) #[.ref x0, .int 0, .int 29] h0 (fun v h L => ∃ (y0 y1 y2 y3 : Int32) (y4 : Addr) (y5 : ClassId), (p0.toInt8.toInt32) = y0 ∧ (p1.toInt8.toInt32) = y1 ∧ (p2.toInt8.toInt32) = y2 ∧ (p3.toInt8.toInt32) = y3 ∧ v = some (.ref y4) ∧ Fr n0 L ∧ Keep h0 h [] ∧ h0.size ≤ y4 ∧ Arv Z h y4 y5 .byte (29 : Int32) [.int 69, .int 84, .int 97, .int 103, .int 32, .int y0, .int y1, .int y2, .int y3, .int 44, .int 32, .int 76, .int 97, .int 115, .int 116, .int 45, .int 77, .int 111, .int 100, .int 105, .int 102, .int 105, .int 101, .int 100, .int 32, .int 110, .int 117, .int 108, .int 108] (.int 0) ∧ Exa Z h y4 "[B") := by
 refine Ctr.of (plainFor_of_name pn_c1) ?_
 intro p e s m below meth c T0 hx hZ hby hml hown hnm hret hlk e0 es X0
 refine Go.cast (ef_5_RII m x0 (0 : Int32) (29 : Int32)) ?_
 generalize hFF : EndN s _ _ _ = FF
 refine Go.iloadN X0 hx 1 rfl (hb hby d5_0) rfl ?_
 refine Go.newarray X0 hx hZ (ty := .byte) rfl (tw_23 hw) e0 (by decide) (cap := 29) (by decide) (by decide) (by decide) (by decide) (ad := "[B") (by decide) 29 3 rfl (hb hby d5_1) ?_
 intro T1 h1 b1 k1 e1 E1 g1 V1 A1 X1
 have V1' : Arv Z h1 b1 k1 .byte (29 : Int32) [.int 0, .int 0, .int 0, .int 0, .int 0, .int 0, .int 0, .int 0, .int 0, .int 0, .int 0, .int 0, .int 0, .int 0, .int 0, .int 0, .int 0, .int 0, .int 0, .int 0, .int 0, .int 0, .int 0, .int 0, .int 0, .int 0, .int 0, .int 0, .int 0] (.int 0) := V1
 refine Go.astoreN X1 hx 4 rfl (hb hby d5_3) (Ls' := #[vR x0, vI 0, vI 29, vR b1, uS, uS]) rfl rfl ?_
 refine Go.aloadN X1 hx 5 rfl (hb hby d5_4) rfl rfl ?_
 refine Go.iloadN X1 hx 6 rfl (hb hby d5_5) rfl ?_
 refine Go.aloadN X1 hx 7 rfl (hb hby d5_6) rfl rfl ?_
 refine Go.iconst X1 hx 8 rfl (hb hby d5_7) (v := (0 : Int32)) rfl ?_
 refine Go.iloadN X1 hx 9 rfl (hb hby d5_8) rfl ?_
 have fk2 := (P0.ext E1)
 have sz4 := Nat.le_trans (Keep.refl h0 []).1 (Nat.le_of_eq g1.symm)
 have ge3 := Nat.le_trans Z0 sz4
 have ne5 := Nat.ne_of_lt (Nat.lt_of_lt_of_le P0.lt (Nat.le_of_eq g1.symm))
 refine Go.callS X1 hx hZ hown (tw_24 hw) (tw_25 hw) (tw_21 hw) (tw_26 hw) (by decide) (tw_26 hw) (tw_21 hw) (gl_co l Z a0 hw x0 b1 kk0 k1 (29 : Int32) [(69 : Int32), (84 : Int32), (97 : Int32), (103 : Int32), (32 : Int32), p0, p1, p2, p3, (44 : Int32), (32 : Int32), (76 : Int32), (97 : Int32), (115 : Int32), (116 : Int32), (45 : Int32), (77 : Int32), (111 : Int32), (100 : Int32), (105 : Int32), (102 : Int32), (105 : Int32), (101 : Int32), (100 : Int32), (32 : Int32), (110 : Int32), (117 : Int32), (108 : Int32), (108 : Int32)] h1 n0 fk2 V1' rfl (own_rcons (own_rw (own_rlit (n := 69) (by decide)) (by decide) (by decide)) (own_rcons (own_rw (own_rlit (n := 84) (by decide)) (by decide) (by decide)) (own_rcons (own_rw (own_rlit (n := 97) (by decide)) (by decide) (by decide)) (own_rcons (own_rw (own_rlit (n := 103) (by decide)) (by decide) (by decide)) (own_rcons (own_rw (own_rlit (n := 32) (by decide)) (by decide) (by decide)) (own_rcons (own_rw R_p0 (by decide) (by decide)) (own_rcons (own_rw R_p1 (by decide) (by decide)) (own_rcons (own_rw R_p2 (by decide) (by decide)) (own_rcons (own_rw R_p3 (by decide) (by decide)) (own_rcons (own_rw (own_rlit (n := 44) (by decide)) (by decide) (by decide)) (own_rcons (own_rw (own_rlit (n := 32) (by decide)) (by decide) (by decide)) (own_rcons (own_rw (own_rlit (n := 76) (by decide)) (by decide) (by decide)) (own_rcons (own_rw (own_rlit (n := 97) (by decide)) (by decide) (by decide)) (own_rcons (own_rw (own_rlit (n := 115) (by decide)) (by decide) (by decide)) (own_rcons (own_rw (own_rlit (n := 116) (by decide)) (by decide) (by decide)) (own_rcons (own_rw (own_rlit (n := 45) (by decide)) (by decide) (by decide)) (own_rcons (own_rw (own_rlit (n := 77) (by decide)) (by decide) (by decide)) (own_rcons (own_rw (own_rlit (n := 111) (by decide)) (by decide) (by decide)) (own_rcons (own_rw (own_rlit (n := 100) (by decide)) (by decide) (by decide)) (own_rcons (own_rw (own_rlit (n := 105) (by decide)) (by decide) (by decide)) (own_rcons (own_rw (own_rlit (n := 102) (by decide)) (by decide) (by decide)) (own_rcons (own_rw (own_rlit (n := 105) (by decide)) (by decide) (by decide)) (own_rcons (own_rw (own_rlit (n := 101) (by decide)) (by decide) (by decide)) (own_rcons (own_rw (own_rlit (n := 100) (by decide)) (by decide) (by decide)) (own_rcons (own_rw (own_rlit (n := 32) (by decide)) (by decide) (by decide)) (own_rcons (own_rw (own_rlit (n := 110) (by decide)) (by decide) (by decide)) (own_rcons (own_rw (own_rlit (n := 117) (by decide)) (by decide) (by decide)) (own_rcons (own_rw (own_rlit (n := 108) (by decide)) (by decide) (by decide)) (own_rcons (own_rw (own_rlit (n := 108) (by decide)) (by decide) (by decide)) (fun i hi => absurd hi (Nat.not_lt_zero i))))))))))))))))))))))))))))))) ge3 ne5) e1 (argsL := [.ref x0, .int 0, .ref b1, .int 0, .int 29]) (rest := []) 12 rfl (hml ▸ rfl) (lenOf pd_1 rfl) rfl rfl (W := 0) (nE rfl) (by decide) (by decide) (by decide) (by decide) (hb hby d5_9) ?_
 intro v6 T6 L6 q6 X6
 obtain ⟨h6, e6⟩ : ∃ z, T6.heap = z := ⟨_, rfl⟩
 rw [e6] at q6
 obtain ⟨rfl, N6, K6, V6⟩ := q6
 obtain ⟨z7, hz7⟩ : ∃ y, (p0.toInt8.toInt32) = y := ⟨_, rfl⟩
 obtain ⟨z8, hz8⟩ : ∃ y, (p1.toInt8.toInt32) = y := ⟨_, rfl⟩
 obtain ⟨z9, hz9⟩ : ∃ y, (p2.toInt8.toInt32) = y := ⟨_, rfl⟩
 obtain ⟨z10, hz10⟩ : ∃ y, (p3.toInt8.toInt32) = y := ⟨_, rfl⟩
 rw [show ([(69 : Int32), (84 : Int32), (97 : Int32), (103 : Int32), (32 : Int32), p0, p1, p2, p3, (44 : Int32), (32 : Int32), (76 : Int32), (97 : Int32), (115 : Int32), (116 : Int32), (45 : Int32), (77 : Int32), (111 : Int32), (100 : Int32), (105 : Int32), (102 : Int32), (105 : Int32), (101 : Int32), (100 : Int32), (32 : Int32), (110 : Int32), (117 : Int32), (108 : Int32), (108 : Int32)] : List Int32).map (fun c => Value.int c.toInt8.toInt32) = [.int 69, .int 84, .int 97, .int 103, .int 32, .int z7, .int z8, .int z9, .int z10, .int 44, .int 32, .int 76, .int 97, .int 115, .int 116, .int 45, .int 77, .int 111, .int 100, .int 105, .int 102, .int 105, .int 101, .int 100, .int 32, .int 110, .int 117, .int 108, .int 108] from (own_mc (by decide) (own_mc (by decide) (own_mc (by decide) (own_mc (by decide) (own_mc (by decide) (own_mc (congrArg Value.int hz7) (own_mc (congrArg Value.int hz8) (own_mc (congrArg Value.int hz9) (own_mc (congrArg Value.int hz10) (own_mc (by decide) (own_mc (by decide) (own_mc (by decide) (own_mc (by decide) (own_mc (by decide) (own_mc (by decide) (own_mc (by decide) (own_mc (by decide) (own_mc (by decide) (own_mc (by decide) (own_mc (by decide) (own_mc (by decide) (own_mc (by decide) (own_mc (by decide) (own_mc (by decide) (own_mc (by decide) (own_mc (by decide) (own_mc (by decide) (own_mc (by decide) (own_mc (by decide) rfl)))))))))))))))))))))))))))))] at V6
 show Go _ _ _ _ (T6.setTop (mkF m 12 #[vR x0, vI 0, vI 29, vR b1, uS, uS] [.int 29]))
 refine Go.istore X6 hx 14 rfl (hb hby d5_12) (Ls' := #[vR x0, vI 0, vI 29, vR b1, vI 29, uS]) rfl ?_
 refine Go.iload X6 hx 16 rfl (hb hby d5_14) rfl ?_
 refine Go.iloadN X6 hx 17 rfl (hb hby d5_16) rfl ?_
 refine Go.icmpYes X6 hx 57 (hb hby d5_17) (by decide) (by decide) (by decide) ?_
 refine Go.aloadN X6 hx 58 rfl (hb hby d5_57) rfl rfl ?_
 subst hFF
 refine Go.retR X6 hx hlk (t := (.array .byte)) hret rfl rfl (hb hby d5_58) (by decide) (by decide) ?_
 rw [e6]
 have fk11 := (A1.keep K6)
 have Kp12 := ((Keep.refl h0 []).ext E1)
 have Kp13 := (Kp12.trans K6 (allS (Or.inr sz4) all0))
 exact ⟨z7, z8, z9, z10, b1, k1, hz7, hz8, hz9, hz10, rfl, (Fr.app (Fr.nil n0) N6), Kp13, sz4, V6, fk11⟩
theorem au_84 (l : Launch) (Z : State) (a0 : Array Value) (hw : HW a0 Z) (x0 : Addr) (kk0 : ClassId) (p0 p1 p2 p3 : Int32) (h0 : Heap) (n0 : Nat) (Z0 : n0 ≤ h0.size) (P0 : Arv Z h0 x0 kk0 .byte (29 : Int32) [.int 69, .int 84, .int 97, .int 103, .int 32, .int p0, .int p1, .int p2, .int p3, .int 44, .int 32, .int 76, .int 97, .int 115, .int 116, .int 45, .int 77, .int 111, .int 100, .int 105, .int 102, .int 105, .int 101, .int 100, .int 32, .int 110, .int 117, .int 108, .int 108] (.int 0)) :
    Ctr l Z ⟨"java/lang/StringUTF16", "coderFromArrayLen", "([BI)B"⟩ jdk_52_method_15_code 2 (some .byte) (rM 0 0 0 0) #[.ref x0, .int 29] h0 (fun v h L => v = some (.int 0) ∧ Fr n0 L ∧ h = h0) := by
 refine Ctr.of (plainFor_of_name pn_c1) ?_
 intro p e s m below meth c T0 hx hZ hby hml hown hnm hret hlk e0 es X0
 refine Go.cast (ef_7_RI m x0 (29 : Int32)) ?_
 generalize hFF : EndN s _ _ _ = FF
 refine Go.iloadN X0 hx 1 rfl (hb hby d7_0) rfl ?_
 refine Go.aloadN X0 hx 2 rfl (hb hby d7_1) rfl rfl ?_
 refine Go.arraylength X0 hx hZ e0 P0 3 rfl (hb hby d7_2) ?_
 refine Go.isub X0 hx 4 rfl (hb hby d7_3) ?_
 rw [show ((29 : Int32) - (29 : Int32)) = (0 : Int32) from by decide]
 refine Go.bipush X0 hx 6 rfl (hb hby d7_4) (v := (31 : Int32)) (by decide) ?_
 refine Go.iushr X0 hx 7 rfl (hb hby d7_6) ?_
 rw [show (((0 : Int32).toUInt32 >>> ((31 : Int32) &&& 31).toUInt32).toInt32) = (0 : Int32) from by decide]
 refine Go.i2b X0 hx 8 rfl (hb hby d7_7) ?_
 rw [show ((0 : Int32).toInt8.toInt32) = (0 : Int32) from by decide]
 subst hFF
 refine Go.retN X0 hx hlk (t := .byte) hret (by simp) (hb hby d7_8) (by decide) (by decide) ?_
 rw [e0]
 exact ⟨(congrArg (fun z => some (Value.int z)) (by decide : nar .byte (0 : Int32) = (0 : Int32))), (Fr.nil n0), rfl⟩
theorem au_82 (l : Launch) (Z : State) (a0 : Array Value) (hw : HW a0 Z) (x0 x1 : Addr) (kk0 : ClassId) (p0 p1 p2 p3 gz1 : Int32) (gv5 : Value) (h0 : Heap) (n0 : Nat) (Z0 : n0 ≤ h0.size) (O0 : Old Z n0 h0) (G : Glob Z gz1 gv5) (P0 : Exa Z h0 x0 s1) (P1 : Fld Z h0 x0 s1 s4 "B" (.int 0)) (P2 : Fld Z h0 x0 s1 s5 "[B" .null) (P3 : Arv Z h0 x1 kk0 .char (29 : Int32) [.int 69, .int 84, .int 97, .int 103, .int 32, .int p0, .int p1, .int p2, .int p3, .int 44, .int 32, .int 76, .int 97, .int 115, .int 116, .int 45, .int 77, .int 111, .int 100, .int 105, .int 102, .int 105, .int 101, .int 100, .int 32, .int 110, .int 117, .int 108, .int 108] (.int 0)) (R_p0 : 0 ≤ p0.toInt ∧ p0.toInt ≤ 255) (R_p1 : 0 ≤ p1.toInt ∧ p1.toInt ≤ 255) (R_p2 : 0 ≤ p2.toInt ∧ p2.toInt ≤ 255) (R_p3 : 0 ≤ p3.toInt ∧ p3.toInt ≤ 255) (g_x0 : n0 ≤ x0) :
    Ctr l Z ⟨s1, "<init>", "([CIILjava/lang/Void;)V"⟩ jdk_42_method_149_code 6 none (rM 2 1 29 35) #[.ref x0, .ref x1, .int 0, .int 29, .null] h0 (fun v h L => ∃ (y0 y1 y2 y3 : Int32) (y4 : Addr) (y5 : ClassId), (p0.toInt8.toInt32) = y0 ∧ (p1.toInt8.toInt32) = y1 ∧ (p2.toInt8.toInt32) = y2 ∧ (p3.toInt8.toInt32) = y3 ∧ v = none ∧ Fr n0 L ∧ Keep h0 h [x0] ∧ h0.size ≤ y4 ∧ Exa Z h x0 s1 ∧ Fld Z h x0 s1 s4 "B" (.int 0) ∧ Fld Z h x0 s1 s5 "[B" (.ref y4) ∧ Arv Z h y4 y5 .byte (29 : Int32) [.int 69, .int 84, .int 97, .int 103, .int 32, .int y0, .int y1, .int y2, .int y3, .int 44, .int 32, .int 76, .int 97, .int 115, .int 116, .int 45, .int 77, .int 111, .int 100, .int 105, .int 102, .int 105, .int 101, .int 100, .int 32, .int 110, .int 117, .int 108, .int 108] (.int 0) ∧ Exa Z h y4 "[B") := by
 refine Ctr.of (plainFor_of_name pn_c2) ?_
 intro p e s m below meth c T0 hx hZ hby hml hown hnm hret hlk e0 es X0
 have G' := G
 obtain ⟨G0, -, G2, -⟩ := G'
 refine Go.cast (ef_3_RRIIN m x0 x1 (0 : Int32) (29 : Int32)) ?_
 generalize hFF : EndN s _ _ _ = FF
 refine Go.aloadN X0 hx 1 rfl (hb hby d3_0) rfl rfl ?_
 refine Go.initO X0 hx hZ hown (tw_15 hw) (tw_16 hw) (tw_17 hw) e0 (by decide) (W := 0) (hml ▸ rfl) (nE rfl) (by decide) (pc' := 4) rfl (hb hby d3_1) ?_
 intro T1 e1 X1
 refine Go.iloadN X1 hx 5 rfl (hb hby d3_4) rfl ?_
 refine Go.ifYes X1 hx 27 (hb hby d3_5) (by decide) (by decide) (by decide) ?_
 have fk2 := G0.ext O0.2
 refine Go.getS X1 hx hZ hown (host := "") (Or.inl (tw_18 hw)) Via.refl e1 fk2 30 rfl (hb hby d3_27) ?_
 intro T3 e3 X3
 refine Go.ifNo X3 hx 33 rfl (hb hby d3_30) (feq G2).1 ?_
 refine Go.aloadN X3 hx 34 rfl (hb hby d3_33) rfl rfl ?_
 refine Go.iloadN X3 hx 35 rfl (hb hby d3_34) rfl ?_
 refine Go.iloadN X3 hx 36 rfl (hb hby d3_35) rfl ?_
 refine Go.callS X3 hx hZ hown (tw_19 hw) (tw_20 hw) (tw_21 hw) (tw_22 hw) (by decide) (tw_22 hw) (tw_21 hw) (au_83 l Z a0 hw x1 kk0 p0 p1 p2 p3 h0 n0 Z0 P3 R_p0 R_p1 R_p2 R_p3) e3 (argsL := [.ref x1, .int 0, .int 29]) (rest := []) 39 rfl (hml ▸ rfl) (lenOf pd_2 rfl) rfl rfl (W := 0) (nE rfl) (by decide) (by decide) (by decide) (by decide) (hb hby d3_36) ?_
 intro v4 T4 L4 q4 X4
 obtain ⟨h4, e4⟩ : ∃ z, T4.heap = z := ⟨_, rfl⟩
 rw [e4] at q4
 obtain ⟨z4_0, z4_1, z4_2, z4_3, b4_0, k4_0, d4_0, d4_1, d4_2, d4_3, rfl, N4, K4, s4_0, F4_0, F4_1⟩ := q4
 show Go _ _ _ _ (T4.setTop (mkF m 39 #[vR x0, vR x1, vI 0, vI 29, .val .null, uS] [.ref b4_0]))
 refine Go.astore X4 hx 41 rfl (hb hby d3_39) (Ls' := #[vR x0, vR x1, vI 0, vI 29, .val .null, vR b4_0]) rfl rfl ?_
 refine Go.aloadN X4 hx 42 rfl (hb hby d3_41) rfl rfl ?_
 refine Go.aload X4 hx 44 rfl (hb hby d3_42) rfl rfl ?_
 refine Go.iloadN X4 hx 45 rfl (hb hby d3_44) rfl ?_
 have r5 : -128 ≤ z4_0.toInt ∧ z4_0.toInt ≤ 127 := own_ri2b d4_0
 have r6 : -128 ≤ z4_1.toInt ∧ z4_1.toInt ≤ 127 := own_ri2b d4_1
 have r7 : -128 ≤ z4_2.toInt ∧ z4_2.toInt ≤ 127 := own_ri2b d4_2
 have r8 : -128 ≤ z4_3.toInt ∧ z4_3.toInt ≤ 127 := own_ri2b d4_3
 have Kp10 := ((Keep.refl h0 [x0]).trans K4 all0)
 have Zn9 := Nat.le_trans Z0 Kp10.1
 refine Go.callS X4 hx hZ hown (tw_27 hw) (tw_28 hw) (tw_21 hw) (tw_29 hw) (by decide) (tw_29 hw) (tw_21 hw) (au_84 l Z a0 hw b4_0 k4_0 z4_0 z4_1 z4_2 z4_3 h4 n0 Zn9 F4_0) e4 (argsL := [.ref b4_0, .int 29]) (rest := [.ref x0]) 48 rfl (hml ▸ rfl) (lenOf pd_3 rfl) rfl rfl (W := 1) (nE rfl) (by decide) (by decide) (by decide) (by decide) (hb hby d3_45) ?_
 intro v11 T11 L11 q11 X11
 obtain ⟨rfl, N11, e11⟩ := q11
 show Go _ _ _ _ (T11.setTop (mkF m 48 #[vR x0, vR x1, vI 0, vI 29, .val .null, vR b4_0] [.int 0, .ref x0]))
 have fk12 := (P1.keep K4 nin0)
 have fk13 := (P0.keep K4)
 refine Go.putFN X11 hx hZ hown (tw_30 hw) Via.refl e11 fk12 fk13 (Or.inr ⟨(tw_31 hw), rfl, hnm⟩) (tw_5 hw) (ty := .byte) (v' := (.int 0)) (by decide) (by decide) (by decide) 51 rfl (hb hby d3_48) ?_
 intro T14 h14 e14 W14 F14 X14
 have N14 := Fr.snoc X14 (Fr.app (Fr.app (Fr.nil n0) N4) N11) g_x0
 refine Go.aloadN X14 hx 52 rfl (hb hby d3_51) rfl rfl ?_
 refine Go.aload X14 hx 54 rfl (hb hby d3_52) rfl rfl ?_
 have fk15 := ((P2.keep K4 nin0).other W14 (Or.inr (slot_ne (Or.inr (tw_33 hw)) (Or.inr (tw_31 hw)) (by decide) (t := (.array .byte)) (t' := .byte) (by decide) (by decide))))
 have fk16 := (fk13.wr W14)
 refine Go.putF X14 hx hZ hown (host := "") (Or.inl (tw_32 hw)) Via.refl e14 fk15 fk16 (Or.inr ⟨(tw_33 hw), rfl, hnm⟩) (tw_5 hw) (ty := (.array .byte)) (by decide) rfl rfl 57 rfl (hb hby d3_54) ?_
 intro T17 h17 e17 W17 F17 X17
 have N17 := Fr.snoc X17 N14 g_x0
 subst hFF
 refine Go.ret0 X17 hx hlk hret (hb hby d3_57) (by decide) (by decide) ?_
 rw [e17]
 have fk18 := (fk16.wr W17)
 have fk19 := (F14.other W17 (Or.inr (slot_ne (Or.inr (tw_31 hw)) (Or.inr (tw_33 hw)) (by decide) (t := .byte) (t' := (.array .byte)) (by decide) (by decide))))
 have ne20 := Nat.ne_of_lt (Nat.lt_of_lt_of_le P0.lt s4_0)
 have fk21 := ((F4_0.other W14 (Ne.symm ne20)).other W17 (Ne.symm ne20))
 have fk22 := ((F4_1.wr W14).wr W17)
 have Kp23 := (Kp10.wr W14 (Or.inl (mG 0 rfl)))
 have Kp24 := (Kp23.wr W17 (Or.inl (mG 0 rfl)))
 have sz25 := Nat.le_trans (Keep.refl h0 [x0]).1 s4_0
 exact ⟨z4_0, z4_1, z4_2, z4_3, b4_0, k4_0, d4_0, d4_1, d4_2, d4_3, rfl, N17, Kp24, sz25, fk18, fk19, F17, fk21, fk22⟩
theorem au_81 (l : Launch) (Z : State) (a0 : Array Value) (hw : HW a0 Z) (x0 x1 : Addr) (kk0 : ClassId) (p0 p1 p2 p3 gz1 : Int32) (gv5 : Value) (h0 : Heap) (n0 : Nat) (Z0 : n0 ≤ h0.size) (O0 : Old Z n0 h0) (G : Glob Z gz1 gv5) (P0 : Exa Z h0 x0 s1) (P1 : Fld Z h0 x0 s1 s4 "B" (.int 0)) (P2 : Fld Z h0 x0 s1 s5 "[B" .null) (P3 : Arv Z h0 x1 kk0 .char (29 : Int32) [.int 69, .int 84, .int 97, .int 103, .int 32, .int p0, .int p1, .int p2, .int p3, .int 44, .int 32, .int 76, .int 97, .int 115, .int 116, .int 45, .int 77, .int 111, .int 100, .int 105, .int 102, .int 105, .int 101, .int 100, .int 32, .int 110, .int 117, .int 108, .int 108] (.int 0)) (R_p0 : 0 ≤ p0.toInt ∧ p0.toInt ≤ 255) (R_p1 : 0 ≤ p1.toInt ∧ p1.toInt ≤ 255) (R_p2 : 0 ≤ p2.toInt ∧ p2.toInt ≤ 255) (R_p3 : 0 ≤ p3.toInt ∧ p3.toInt ≤ 255) (g_x0 : n0 ≤ x0) :
    Ctr l Z ⟨s1, "<init>", "([C)V"⟩ jdk_42_method_3_code 2 none (rM 3 1 29 52) #[.ref x0, .ref x1] h0 (fun v h L => ∃ (y0 y1 y2 y3 : Int32) (y4 : Addr) (y5 : ClassId), (p0.toInt8.toInt32) = y0 ∧ (p1.toInt8.toInt32) = y1 ∧ (p2.toInt8.toInt32) = y2 ∧ (p3.toInt8.toInt32) = y3 ∧ v = none ∧ Fr n0 L ∧ Keep h0 h [x0] ∧ h0.size ≤ y4 ∧ Exa Z h x0 s1 ∧ Fld Z h x0 s1 s4 "B" (.int 0) ∧ Fld Z h x0 s1 s5 "[B" (.ref y4) ∧ Arv Z h y4 y5 .byte (29 : Int32) [.int 69, .int 84, .int 97, .int 103, .int 32, .int y0, .int y1, .int y2, .int y3, .int 44, .int 32, .int 76, .int 97, .int 115, .int 116, .int 45, .int 77, .int 111, .int 100, .int 105, .int 102, .int 105, .int 101, .int 100, .int 32, .int 110, .int 117, .int 108, .int 108] (.int 0) ∧ Exa Z h y4 "[B") := by
 refine Ctr.of (plainFor_of_name pn_c2) ?_
 intro p e s m below meth c T0 hx hZ hby hml hown hnm hret hlk e0 es X0
 refine Go.cast (ef_2_RR m x0 x1) ?_
 generalize hFF : EndN s _ _ _ = FF
 refine Go.aloadN X0 hx 1 rfl (hb hby d2_0) rfl rfl ?_
 refine Go.aloadN X0 hx 2 rfl (hb hby d2_1) rfl rfl ?_
 refine Go.iconst X0 hx 3 rfl (hb hby d2_2) (v := (0 : Int32)) rfl ?_
 refine Go.aloadN X0 hx 4 rfl (hb hby d2_3) rfl rfl ?_
 refine Go.arraylength X0 hx hZ e0 P3 5 rfl (hb hby d2_4) ?_
 refine Go.anull X0 hx 6 rfl (hb hby d2_5) ?_
 refine Go.callN X0 hx hZ hown rfl (tw_11 hw) (tw_12 hw) (tw_14 hw) (by decide) (tw_14 hw) (tw_6 hw) (au_82 l Z a0 hw x0 x1 kk0 p0 p1 p2 p3 gz1 gv5 h0 n0 Z0 O0 G P0 P1 P2 P3 R_p0 R_p1 R_p2 R_p3 g_x0) e0 (a := x0) (argsL := [.ref x1, .int 0, .int 29, .null]) (rest := []) 9 rfl (hml ▸ rfl) (lenOf pd_4 rfl) rfl rfl (W := 0) (nE rfl) (by decide) (by decide) (by decide) (by decide) (hb hby d2_6) ?_
 intro v1 T1 L1 q1 X1
 obtain ⟨h1, e1⟩ : ∃ z, T1.heap = z := ⟨_, rfl⟩
 rw [e1] at q1
 obtain ⟨z1_0, z1_1, z1_2, z1_3, b1_0, k1_0, d1_0, d1_1, d1_2, d1_3, rfl, N1, K1, s1_0, F1_0, F1_1, F1_2, F1_3, F1_4⟩ := q1
 show Go _ _ _ _ (T1.setTop (mkF m 9 #[vR x0, vR x1] []))
 subst hFF
 refine Go.ret0 X1 hx hlk hret (hb hby d2_9) (by decide) (by decide) ?_
 rw [e1]
 have Kp2 := ((Keep.refl h0 [x0]).trans K1 (allS (Or.inl (mG 0 rfl)) all0))
 have sz3 := Nat.le_trans (Keep.refl h0 [x0]).1 s1_0
 exact ⟨z1_0, z1_1, z1_2, z1_3, b1_0, k1_0, d1_0, d1_1, d1_2, d1_3, rfl, (Fr.app (Fr.nil n0) N1), Kp2, sz3, F1_0, F1_1, F1_2, F1_3, F1_4⟩
theorem au_85 (l : Launch) (Z : State) (a0 : Array Value) (hw : HW a0 Z) (x0 x1 x2 x3 : Addr) (kk0 : ClassId) (p0 p1 p2 p3 : Int32) (kk1 : ClassId) (gz1 : Int32) (gv5 : Value) (h0 : Heap) (n0 : Nat) (Z0 : n0 ≤ h0.size) (O0 : Old Z n0 h0) (G : Glob Z gz1 gv5) (P1 : Fld Z h0 x0 s1 s4 "B" (.int 0)) (P2 : Fld Z h0 x0 s1 s5 "[B" (.ref x2)) (P3 : Exa Z h0 x1 s1) (P4 : Fld Z h0 x1 s1 s4 "B" (.int 0)) (P5 : Fld Z h0 x1 s1 s5 "[B" (.ref x3)) (P6 : Arv Z h0 x2 kk0 .byte (29 : Int32) [.int 69, .int 84, .int 97, .int 103, .int 32, .int p0, .int p1, .int p2, .int p3, .int 44, .int 32, .int 76, .int 97, .int 115, .int 116, .int 45, .int 77, .int 111, .int 100, .int 105, .int 102, .int 105, .int 101, .int 100, .int 32, .int 110, .int 117, .int 108, .int 108] (.int 0)) (P8 : Arv Z h0 x3 kk1 .byte (29 : Int32) [.int 69, .int 84, .int 97, .int 103, .int 32, .int p0, .int p1, .int p2, .int p3, .int 44, .int 32, .int 76, .int 97, .int 115, .int 116, .int 45, .int 77, .int 111, .int 100, .int 105, .int 102, .int 105, .int 101, .int 100, .int 32, .int 110, .int 117, .int 108, .int 108] (.int 0)) (ne_x0_x1 : x0 ≠ x1) :
    Ctr l Z ⟨s1, "equals", "(Ljava/lang/Object;)Z"⟩ jdk_42_method_66_code 3 (some .boolean) (rM 1 0 0 14) #[.ref x0, .ref x1] h0 (fun v h L => v = some (.int 1) ∧ Fr n0 L ∧ h = h0) := by
 refine Ctr.of (plainFor_of_name pn_c2) ?_
 intro p e s m below meth c T0 hx hZ hby hml hown hnm hret hlk e0 es X0
 have G' := G
 obtain ⟨G0, -, G2, -⟩ := G'
 refine Go.cast (ef_35_RR m x0 x1) ?_
 generalize hFF : EndN s _ _ _ = FF
 refine Go.aloadN X0 hx 1 rfl (hb hby d35_0) rfl rfl ?_
 refine Go.aloadN X0 hx 2 rfl (hb hby d35_1) rfl rfl ?_
 refine Go.acmp X0 hx (pc' := 7) (same := false) (hb hby d35_2) rfl rfl (decide_eq_false (fun q => ne_x0_x1 (Value.ref.inj q))) (by decide) (by decide) ?_
 refine Go.aloadN X0 hx 8 rfl (hb hby d35_7) rfl rfl ?_
 refine Go.instY X0 hx hZ hown (tw_186 hw) e0 (Ins.self P3) 11 rfl (hb hby d35_8) ?_
 intro T1 e1 X1
 refine Go.ifNo X1 hx 14 rfl (hb hby d35_11) (by decide) ?_
 refine Go.aloadN X1 hx 15 rfl (hb hby d35_14) rfl rfl ?_
 refine Go.castY X1 hx hZ hown (tw_186 hw) e1 (Ins.self P3) 18 rfl (hb hby d35_15) ?_
 intro T2 e2 X2
 refine Go.astoreN X2 hx 19 rfl (hb hby d35_18) (Ls' := #[vR x0, vR x1, vR x1]) rfl rfl ?_
 have fk3 := G0.ext O0.2
 refine Go.getS X2 hx hZ hown (host := "") (Or.inl (tw_18 hw)) Via.refl e2 fk3 22 rfl (hb hby d35_19) ?_
 intro T4 e4 X4
 refine Go.ifNo X4 hx 25 rfl (hb hby d35_22) (feq G2).1 ?_
 refine Go.aloadN X4 hx 26 rfl (hb hby d35_25) rfl rfl ?_
 refine Go.getF X4 hx hZ hown (host := "") (Or.inl (tw_30 hw)) Via.refl e4 P1 29 rfl (hb hby d35_26) ?_
 intro T5 e5 X5
 refine Go.aloadN X5 hx 30 rfl (hb hby d35_29) rfl rfl ?_
 refine Go.getF X5 hx hZ hown (host := "") (Or.inl (tw_30 hw)) Via.refl e5 P4 33 rfl (hb hby d35_30) ?_
 intro T6 e6 X6
 refine Go.icmpNo X6 hx 36 rfl (hb hby d35_33) (by decide) ?_
 refine Go.aloadN X6 hx 37 rfl (hb hby d35_36) rfl rfl ?_
 refine Go.getF X6 hx hZ hown (host := "") (Or.inl (tw_32 hw)) Via.refl e6 P2 40 rfl (hb hby d35_37) ?_
 intro T7 e7 X7
 refine Go.aloadN X7 hx 41 rfl (hb hby d35_40) rfl rfl ?_
 refine Go.getF X7 hx hZ hown (host := "") (Or.inl (tw_32 hw)) Via.refl e7 P5 44 rfl (hb hby d35_41) ?_
 intro T8 e8 X8
 refine Go.callS X8 hx hZ hown (tw_187 hw) (tw_188 hw) (tw_189 hw) (tw_190 hw) (by decide) (tw_190 hw) (tw_189 hw) (gl_eq l Z a0 hw x2 x3 kk0 kk1 (29 : Int32) (29 : Int32) [(69 : Int32), (84 : Int32), (97 : Int32), (103 : Int32), (32 : Int32), p0, p1, p2, p3, (44 : Int32), (32 : Int32), (76 : Int32), (97 : Int32), (115 : Int32), (116 : Int32), (45 : Int32), (77 : Int32), (111 : Int32), (100 : Int32), (105 : Int32), (102 : Int32), (105 : Int32), (101 : Int32), (100 : Int32), (32 : Int32), (110 : Int32), (117 : Int32), (108 : Int32), (108 : Int32)] [(69 : Int32), (84 : Int32), (97 : Int32), (103 : Int32), (32 : Int32), p0, p1, p2, p3, (44 : Int32), (32 : Int32), (76 : Int32), (97 : Int32), (115 : Int32), (116 : Int32), (45 : Int32), (77 : Int32), (111 : Int32), (100 : Int32), (105 : Int32), (102 : Int32), (105 : Int32), (101 : Int32), (100 : Int32), (32 : Int32), (110 : Int32), (117 : Int32), (108 : Int32), (108 : Int32)] h0 P6 P8 rfl rfl) e8 (argsL := [.ref x2, .ref x3]) (rest := []) 47 rfl (hml ▸ rfl) (lenOf pd_27 rfl) rfl rfl (W := 0) (nE rfl) (by decide) (by decide) (by decide) (by decide) (hb hby d35_44) ?_
 intro v9 T9 L9 q9 X9
 obtain ⟨rfl, rfl, e9⟩ := q9
 rw [if_pos (show ([(69 : Int32), (84 : Int32), (97 : Int32), (103 : Int32), (32 : Int32), p0, p1, p2, p3, (44 : Int32), (32 : Int32), (76 : Int32), (97 : Int32), (115 : Int32), (116 : Int32), (45 : Int32), (77 : Int32), (111 : Int32), (100 : Int32), (105 : Int32), (102 : Int32), (105 : Int32), (101 : Int32), (100 : Int32), (32 : Int32), (110 : Int32), (117 : Int32), (108 : Int32), (108 : Int32)] : List Int32) = [(69 : Int32), (84 : Int32), (97 : Int32), (103 : Int32), (32 : Int32), p0, p1, p2, p3, (44 : Int32), (32 : Int32), (76 : Int32), (97 : Int32), (115 : Int32), (116 : Int32), (45 : Int32), (77 : Int32), (111 : Int32), (100 : Int32), (105 : Int32), (102 : Int32), (105 : Int32), (101 : Int32), (100 : Int32), (32 : Int32), (110 : Int32), (117 : Int32), (108 : Int32), (108 : Int32)] from rfl)]
 show Go _ _ _ _ (T9.setTop (mkF m 47 #[vR x0, vR x1, vR x1] [.int 1]))
 refine Go.ifNo X9 hx 50 rfl (hb hby d35_47) (by decide) ?_
 refine Go.iconst X9 hx 51 rfl (hb hby d35_50) (v := (1 : Int32)) rfl ?_
 refine Go.goto X9 hx 55 (hb hby d35_51) (by decide) (by decide) ?_
 subst hFF
 refine Go.retN X9 hx hlk (t := .boolean) hret (by simp) (hb hby d35_55) (by decide) (by decide) ?_
 rw [e9]
 exact ⟨(congrArg (fun z => some (Value.int z)) (by decide : nar .boolean (1 : Int32) = (1 : Int32))), (Fr.app (Fr.nil n0) (Fr.nil n0)), rfl⟩
theorem ef_8_RNR (m : MethodId) (x0 : Addr)  (x2 : Addr) : entryFrame m #[(.ref x0), .null, (.ref x2)] 3 = mkF m 0 #[.val (.ref x0), .val .null, .val (.ref x2)] [] := by first | (simp [entryFrame, mkF, argsToLocals, Value.category]; done) | rfl
theorem au_86 (l : Launch) (Z : State) (a0 : Array Value) (hw : HW a0 Z) (x0 x1 : Addr) (h0 : Heap) (n0 : Nat) (Z0 : n0 ≤ h0.size) (P0 : Exa Z h0 x0 s2) (P1 : Fld Z h0 x0 s2 "etag" s6 .null) (P2 : Fld Z h0 x0 s2 "lastModified" s6 .null) (g_x0 : n0 ≤ x0) :
    Ctr l Z ⟨s2, "<init>", "(Ljava/lang/String;Ljava/lang/String;)V"⟩ prog_9_method_1_code 3 none (rM 1 0 0 12) #[.ref x0, .null, .ref x1] h0 (fun v h L => v = none ∧ Fr n0 L ∧ Keep h0 h [x0] ∧ Exa Z h x0 s2 ∧ Fld Z h x0 s2 "etag" s6 .null ∧ Fld Z h x0 s2 "lastModified" s6 (.ref x1)) := by
 refine Ctr.of (plainFor_of_name pn_c3) ?_
 intro p e s m below meth c T0 hx hZ hby hml hown hnm hret hlk e0 es X0
 refine Go.cast (ef_8_RNR m x0 x1) ?_
 generalize hFF : EndN s _ _ _ = FF
 refine Go.aloadN X0 hx 1 rfl (hb hby d8_0) rfl rfl ?_
 refine Go.initO X0 hx hZ hown (tw_40 hw) (tw_16 hw) (tw_17 hw) e0 (by decide) (W := 0) (hml ▸ rfl) (nE rfl) (by decide) (pc' := 4) rfl (hb hby d8_1) ?_
 intro T1 e1 X1
 refine Go.aloadN X1 hx 5 rfl (hb hby d8_4) rfl rfl ?_
 refine Go.aloadN X1 hx 6 rfl (hb hby d8_5) rfl rfl ?_
 refine Go.putF X1 hx hZ hown (host := "") (Or.inl (tw_41 hw)) Via.refl e1 P1 P0 (Or.inr ⟨(tw_42 hw), rfl, hnm⟩) (tw_35 hw) (ty := (.object s1)) (by decide) rfl rfl 9 rfl (hb hby d8_6) ?_
 intro T2 h2 e2 W2 F2 X2
 have N2 := Fr.snoc X2 (Fr.nil n0) g_x0
 refine Go.aloadN X2 hx 10 rfl (hb hby d8_9) rfl rfl ?_
 refine Go.aloadN X2 hx 11 rfl (hb hby d8_10) rfl rfl ?_
 have fk3 := (P2.other W2 (Or.inr (slot_ne (Or.inr (tw_44 hw)) (Or.inr (tw_42 hw)) (by decide) (t := (.object s1)) (t' := (.object s1)) (by decide) (by decide))))
 have fk4 := (P0.wr W2)
 refine Go.putF X2 hx hZ hown (host := "") (Or.inl (tw_43 hw)) Via.refl e2 fk3 fk4 (Or.inr ⟨(tw_44 hw), rfl, hnm⟩) (tw_35 hw) (ty := (.object s1)) (by decide) rfl rfl 14 rfl (hb hby d8_11) ?_
 intro T5 h5 e5 W5 F5 X5
 have N5 := Fr.snoc X5 N2 g_x0
 subst hFF
 refine Go.ret0 X5 hx hlk hret (hb hby d8_14) (by decide) (by decide) ?_
 rw [e5]
 have fk6 := (fk4.wr W5)
 have fk7 := (F2.other W5 (Or.inr (slot_ne (Or.inr (tw_42 hw)) (Or.inr (tw_44 hw)) (by decide) (t := (.object s1)) (t' := (.object s1)) (by decide) (by decide))))
 have Kp8 := ((Keep.refl h0 [x0]).wr W2 (Or.inl (mG 0 rfl)))
 have Kp9 := (Kp8.wr W5 (Or.inl (mG 0 rfl)))
 exact ⟨rfl, N5, Kp9, fk6, fk7, F5⟩
theorem au_92 (l : Launch) (Z : State) (a0 : Array Value) (hw : HW a0 Z) (x0 : Addr) (gz1 : Int32) (gv5 : Value) (h0 : Heap) (n0 : Nat) (Z0 : n0 ≤ h0.size) (O0 : Old Z n0 h0) (G : Glob Z gz1 gv5) (P1 : Fld Z h0 x0 s0 s4 "B" (.int 0)) :
    Ctr l Z ⟨s0, "isLatin1", "()Z"⟩ jdk_68_method_68_code 1 (some .boolean) (rM 0 0 0 0) #[.ref x0] h0 (fun v h L => v = some (.int 1) ∧ Fr n0 L ∧ h = h0) := by
 refine Ctr.of (plainFor_of_name pn_c4) ?_
 intro p e s m below meth c T0 hx hZ hby hml hown hnm hret hlk e0 es X0
 have G' := G
 obtain ⟨G0, -, G2, -⟩ := G'
 refine Go.cast (ef_31_R m x0) ?_
 generalize hFF : EndN s _ _ _ = FF
 have fk1 := G0.ext O0.2
 refine Go.getS X0 hx hZ hown (host := "") (Or.inl (tw_63 hw)) Via.refl e0 fk1 3 rfl (hb hby d31_0) ?_
 intro T2 e2 X2
 refine Go.ifNo X2 hx 6 rfl (hb hby d31_3) (feq G2).1 ?_
 refine Go.aloadN X2 hx 7 rfl (hb hby d31_6) rfl rfl ?_
 refine Go.getF X2 hx hZ hown (host := "") (Or.inl (tw_66 hw)) Via.refl e2 P1 10 rfl (hb hby d31_7) ?_
 intro T3 e3 X3
 refine Go.ifNo X3 hx 13 rfl (hb hby d31_10) (by decide) ?_
 refine Go.iconst X3 hx 14 rfl (hb hby d31_13) (v := (1 : Int32)) rfl ?_
 refine Go.goto X3 hx 18 (hb hby d31_14) (by decide) (by decide) ?_
 subst hFF
 refine Go.retN X3 hx hlk (t := .boolean) hret (by simp) (hb hby d31_18) (by decide) (by decide) ?_
 rw [e3]
 exact ⟨(congrArg (fun z => some (Value.int z)) (by decide : nar .boolean (1 : Int32) = (1 : Int32))), (Fr.nil n0), rfl⟩
theorem au_91 (l : Launch) (Z : State) (a0 : Array Value) (hw : HW a0 Z) (x0 x1 : Addr) (kk0 : ClassId) (gz1 : Int32) (gv5 : Value) (h0 : Heap) (n0 : Nat) (Z0 : n0 ≤ h0.size) (O0 : Old Z n0 h0) (G : Glob Z gz1 gv5) (P0 : Exa Z h0 x0 s3) (P1 : Fld Z h0 x0 s0 s4 "B" (.int 0)) (P2 : Fld Z h0 x0 s0 "count" "I" (.int 5)) (P3 : Fld Z h0 x0 s0 s5 "[B" (.ref x1)) (P4 : Arv Z h0 x1 kk0 .byte (16 : Int32) [.int 69, .int 84, .int 97, .int 103, .int 32, .int 0, .int 0, .int 0, .int 0, .int 0, .int 0, .int 0, .int 0, .int 0, .int 0, .int 0] (.int 0)) (P5 : Exa Z h0 x1 "[B") (g_x1 : n0 ≤ x1) (g_x0 : n0 ≤ x0) (ne_x0_x1 : x0 ≠ x1) :
    Ctr l Z ⟨s0, "appendNull", "()Ljava/lang/AbstractStringBuilder;"⟩ jdk_68_method_26_code 3 (some (.object s0)) (rM 1 0 0 14) #[.ref x0] h0 (fun v h L => v = some (.ref x0) ∧ Fr n0 L ∧ Keep h0 h [x0, x1] ∧ Exa Z h x0 s3 ∧ Fld Z h x0 s0 s4 "B" (.int 0) ∧ Fld Z h x0 s0 "count" "I" (.int 9) ∧ Fld Z h x0 s0 s5 "[B" (.ref x1) ∧ Arv Z h x1 kk0 .byte (16 : Int32) [.int 69, .int 84, .int 97, .int 103, .int 32, .int 110, .int 117, .int 108, .int 108, .int 0, .int 0, .int 0, .int 0, .int 0, .int 0, .int 0] (.int 0) ∧ Exa Z h x1 "[B") := by
 refine Ctr.of (plainFor_of_name pn_c4) ?_
 intro p e s m below meth c T0 hx hZ hby hml hown hnm hret hlk e0 es X0
 refine Go.cast (ef_37_R m x0) ?_
 generalize hFF : EndN s _ _ _ = FF
 refine Go.aloadN X0 hx 1 rfl (hb hby d37_0) rfl rfl ?_
 refine Go.aloadN X0 hx 2 rfl (hb hby d37_1) rfl rfl ?_
 refine Go.getF X0 hx hZ hown (host := "") (Or.inl (tw_91 hw)) Via.refl e0 P2 5 rfl (hb hby d37_2) ?_
 intro T1 e1 X1
 refine Go.iconst X1 hx 6 rfl (hb hby d37_5) (v := (4 : Int32)) rfl ?_
 refine Go.iadd X1 hx 7 rfl (hb hby d37_6) ?_
 rw [show ((5 : Int32) + (4 : Int32)) = (9 : Int32) from by decide]
 refine Go.callP X1 hx hZ hown (tw_93 hw) (tw_94 hw) (tw_96 hw) (tw_95 hw) (tw_97 hw) (by decide) (tw_97 hw) (tw_60 hw) (au_26 l Z a0 hw x0 x1 kk0 h0 n0 Z0 P1 P3 P4) e1 P0 (argsL := [.int 9]) (rest := []) 10 rfl (hml ▸ rfl) (lenOf pd_7 rfl) rfl rfl (W := 0) (nE rfl) (by decide) (by decide) (by decide) (by decide) (hb hby d37_7) ?_
 intro v2 T2 L2 q2 X2
 obtain ⟨rfl, N2, e2⟩ := q2
 show Go _ _ _ _ (T2.setTop (mkF m 10 #[vR x0, uS, uS] []))
 refine Go.aloadN X2 hx 11 rfl (hb hby d37_10) rfl rfl ?_
 refine Go.getF X2 hx hZ hown (host := "") (Or.inl (tw_91 hw)) Via.refl e2 P2 14 rfl (hb hby d37_11) ?_
 intro T3 e3 X3
 refine Go.istoreN X3 hx 15 rfl (hb hby d37_14) (Ls' := #[vR x0, vI 5, uS]) rfl ?_
 refine Go.aloadN X3 hx 16 rfl (hb hby d37_15) rfl rfl ?_
 refine Go.getF X3 hx hZ hown (host := "") (Or.inl (tw_64 hw)) Via.refl e3 P3 19 rfl (hb hby d37_16) ?_
 intro T4 e4 X4
 refine Go.astoreN X4 hx 20 rfl (hb hby d37_19) (Ls' := #[vR x0, vI 5, vR x1]) rfl rfl ?_
 refine Go.aloadN X4 hx 21 rfl (hb hby d37_20) rfl rfl ?_
 refine Go.callV X4 hx hZ hown (tw_196 hw) (tw_168 hw) (notFace_of_selects (args := #[]) (mvT hZ (tw_170 hw))) (tw_170 hw) (tw_169 hw) (by decide) (tw_171 hw) (tw_60 hw) (au_92 l Z a0 hw x0 gz1 gv5 h0 n0 Z0 O0 G P1) e4 P0 (argsL := []) (rest := []) 24 rfl (hml ▸ rfl) (lenOf pd_21 rfl) rfl rfl (W := 0) (nE rfl) (by decide) (by decide) (by decide) (by decide) (hb hby d37_21) ?_
 intro v5 T5 L5 q5 X5
 obtain ⟨rfl, N5, e5⟩ := q5
 show Go _ _ _ _ (T5.setTop (mkF m 24 #[vR x0, vI 5, vR x1] [.int 1]))
 refine Go.ifNo X5 hx 27 rfl (hb hby d37_24) (by decide) ?_
 refine Go.aloadN X5 hx 28 rfl (hb hby d37_27) rfl rfl ?_
 refine Go.iloadN X5 hx 29 rfl (hb hby d37_28) rfl ?_
 refine Go.iinc X5 hx 32 rfl (hb hby d37_29) rfl (y := (6 : Int32)) (by decide) (Ls' := #[vR x0, vI 6, vR x1]) rfl ?_
 refine Go.bipush X5 hx 34 rfl (hb hby d37_32) (v := (110 : Int32)) (by decide) ?_
 refine Go.bastore X5 hx hZ e5 P4 (110 : Int32) rfl ⟨by decide, by decide⟩ 5 rfl (nB rfl) 35 rfl (hb hby d37_34) ?_
 intro T6 h6 e6 W6 V6 X6
 have N6 := Fr.snoc X6 (Fr.app (Fr.app (Fr.nil n0) N2) N5) g_x1
 refine Go.aloadN X6 hx 36 rfl (hb hby d37_35) rfl rfl ?_
 refine Go.iloadN X6 hx 37 rfl (hb hby d37_36) rfl ?_
 refine Go.iinc X6 hx 40 rfl (hb hby d37_37) rfl (y := (7 : Int32)) (by decide) (Ls' := #[vR x0, vI 7, vR x1]) rfl ?_
 refine Go.bipush X6 hx 42 rfl (hb hby d37_40) (v := (117 : Int32)) (by decide) ?_
 refine Go.bastore X6 hx hZ e6 V6 (117 : Int32) rfl ⟨by decide, by decide⟩ 6 rfl (nB rfl) 43 rfl (hb hby d37_42) ?_
 intro T7 h7 e7 W7 V7 X7
 have N7 := Fr.snoc X7 N6 g_x1
 refine Go.aloadN X7 hx 44 rfl (hb hby d37_43) rfl rfl ?_
 refine Go.iloadN X7 hx 45 rfl (hb hby d37_44) rfl ?_
 refine Go.iinc X7 hx 48 rfl (hb hby d37_45) rfl (y := (8 : Int32)) (by decide) (Ls' := #[vR x0, vI 8, vR x1]) rfl ?_
 refine Go.bipush X7 hx 50 rfl (hb hby d37_48) (v := (108 : Int32)) (by decide) ?_
 refine Go.bastore X7 hx hZ e7 V7 (108 : Int32) rfl ⟨by decide, by decide⟩ 7 rfl (nB rfl) 51 rfl (hb hby d37_50) ?_
 intro T8 h8 e8 W8 V8 X8
 have N8 := Fr.snoc X8 N7 g_x1
 refine Go.aloadN X8 hx 52 rfl (hb hby d37_51) rfl rfl ?_
 refine Go.iloadN X8 hx 53 rfl (hb hby d37_52) rfl ?_
 refine Go.iinc X8 hx 56 rfl (hb hby d37_53) rfl (y := (9 : Int32)) (by decide) (Ls' := #[vR x0, vI 9, vR x1]) rfl ?_
 refine Go.bipush X8 hx 58 rfl (hb hby d37_56) (v := (108 : Int32)) (by decide) ?_
 have V9 : Arv Z h8 x1 kk0 .byte (16 : Int32) [.int 69, .int 84, .int 97, .int 103, .int 32, .int 110, .int 117, .int 108, .int 0, .int 0, .int 0, .int 0, .int 0, .int 0, .int 0, .int 0] (.int 0) := V8
 refine Go.bastore X8 hx hZ e8 V9 (108 : Int32) rfl ⟨by decide, by decide⟩ 8 rfl (nB rfl) 59 rfl (hb hby d37_58) ?_
 intro T10 h10 e10 W10 V10 X10
 have N10 := Fr.snoc X10 N8 g_x1
 refine Go.goto X10 hx 76 (hb hby d37_59) (by decide) (by decide) ?_
 refine Go.aloadN X10 hx 77 rfl (hb hby d37_76) rfl rfl ?_
 refine Go.iloadN X10 hx 78 rfl (hb hby d37_77) rfl ?_
 have fk11 := ((((P2.other W6 (Or.inl ne_x0_x1)).other W7 (Or.inl ne_x0_x1)).other W8 (Or.inl ne_x0_x1)).other W10 (Or.inl ne_x0_x1))
 have fk12 := ((((P0.wr W6).wr W7).wr W8).wr W10)
 refine Go.putF X10 hx hZ hown (host := "") (Or.inl (tw_91 hw)) Via.refl e10 fk11 fk12 (Or.inl (tw_92 hw)) (tw_51 hw) (ty := .int) (by decide) rfl rfl 81 rfl (hb hby d37_78) ?_
 intro T13 h13 e13 W13 F13 X13
 have N13 := Fr.snoc X13 N10 g_x0
 refine Go.aloadN X13 hx 82 rfl (hb hby d37_81) rfl rfl ?_
 subst hFF
 refine Go.retR X13 hx hlk (t := (.object s0)) hret rfl rfl (hb hby d37_82) (by decide) (by decide) ?_
 rw [e13]
 have fk14 := (fk12.wr W13)
 have fk15 := (((((P1.other W6 (Or.inl ne_x0_x1)).other W7 (Or.inl ne_x0_x1)).other W8 (Or.inl ne_x0_x1)).other W10 (Or.inl ne_x0_x1)).other W13 (Or.inr (slot_ne (Or.inl (tw_67 hw)) (Or.inl (tw_92 hw)) (by decide) (t := .byte) (t' := .int) (by decide) (by decide))))
 have fk16 := (((((P3.other W6 (Or.inl ne_x0_x1)).other W7 (Or.inl ne_x0_x1)).other W8 (Or.inl ne_x0_x1)).other W10 (Or.inl ne_x0_x1)).other W13 (Or.inr (slot_ne (Or.inl (tw_65 hw)) (Or.inl (tw_92 hw)) (by decide) (t := (.array .byte)) (t' := .int) (by decide) (by decide))))
 have V17 : Arv Z h10 x1 kk0 .byte (16 : Int32) [.int 69, .int 84, .int 97, .int 103, .int 32, .int 110, .int 117, .int 108, .int 108, .int 0, .int 0, .int 0, .int 0, .int 0, .int 0, .int 0] (.int 0) := V10
 have fk18 := (V17.other W13 (Ne.symm ne_x0_x1))
 have fk19 := (((((P5.wr W6).wr W7).wr W8).wr W10).wr W13)
 have Kp20 := ((Keep.refl h0 [x0, x1]).wr W6 (Or.inl (mG 1 rfl)))
 have Kp21 := (Kp20.wr W7 (Or.inl (mG 1 rfl)))
 have Kp22 := (Kp21.wr W8 (Or.inl (mG 1 rfl)))
 have Kp23 := (Kp22.wr W10 (Or.inl (mG 1 rfl)))
 have Kp24 := (Kp23.wr W13 (Or.inl (mG 0 rfl)))
 exact ⟨rfl, N13, Kp24, fk14, fk15, F13, fk16, fk18, fk19⟩
theorem au_90 (l : Launch) (Z : State) (a0 : Array Value) (hw : HW a0 Z) (x0 x1 : Addr) (kk0 : ClassId) (gz1 : Int32) (gv5 : Value) (h0 : Heap) (n0 : Nat) (Z0 : n0 ≤ h0.size) (O0 : Old Z n0 h0) (G : Glob Z gz1 gv5) (P0 : Exa Z h0 x0 s3) (P1 : Fld Z h0 x0 s0 s4 "B" (.int 0)) (P2 : Fld Z h0 x0 s0 "count" "I" (.int 5)) (P3 : Fld Z h0 x0 s0 s5 "[B" (.ref x1)) (P4 : Arv Z h0 x1 kk0 .byte (16 : Int32) [.int 69, .int 84, .int 97, .int 103, .int 32, .int 0, .int 0, .int 0, .int 0, .int 0, .int 0, .int 0, .int 0, .int 0, .int 0, .int 0] (.int 0)) (P5 : Exa Z h0 x1 "[B") (g_x1 : n0 ≤ x1) (g_x0 : n0 ≤ x0) (ne_x0_x1 : x0 ≠ x1) :
    Ctr l Z ⟨s0, "append", "(Ljava/lang/String;)Ljava/lang/AbstractStringBuilder;"⟩ jdk_68_method_22_code 3 (some (.object s0)) (rM 2 0 0 28) #[.ref x0, .null] h0 (fun v h L => v = some (.ref x0) ∧ Fr n0 L ∧ Keep h0 h [x0, x1] ∧ Exa Z h x0 s3 ∧ Fld Z h x0 s0 s4 "B" (.int 0) ∧ Fld Z h x0 s0 "count" "I" (.int 9) ∧ Fld Z h x0 s0 s5 "[B" (.ref x1) ∧ Arv Z h x1 kk0 .byte (16 : Int32) [.int 69, .int 84, .int 97, .int 103, .int 32, .int 110, .int 117, .int 108, .int 108, .int 0, .int 0, .int 0, .int 0, .int 0, .int 0, .int 0] (.int 0) ∧ Exa Z h x1 "[B") := by
 refine Ctr.of (plainFor_of_name pn_c4) ?_
 intro p e s m below meth c T0 hx hZ hby hml hown hnm hret hlk e0 es X0
 refine Go.cast (ef_13_RN m x0) ?_
 generalize hFF : EndN s _ _ _ = FF
 refine Go.aloadN X0 hx 1 rfl (hb hby d13_0) rfl rfl ?_
 refine Go.ifnonnullNo X0 hx 4 rfl (hb hby d13_1) ?_
 refine Go.aloadN X0 hx 5 rfl (hb hby d13_4) rfl rfl ?_
 refine Go.callP X0 hx hZ hown (tw_191 hw) (tw_192 hw) (tw_194 hw) (tw_193 hw) (tw_195 hw) (by decide) (tw_195 hw) (tw_60 hw) (au_91 l Z a0 hw x0 x1 kk0 gz1 gv5 h0 n0 Z0 O0 G P0 P1 P2 P3 P4 P5 g_x1 g_x0 ne_x0_x1) e0 P0 (argsL := []) (rest := []) 8 rfl (hml ▸ rfl) (lenOf pd_29 rfl) rfl rfl (W := 0) (nE rfl) (by decide) (by decide) (by decide) (by decide) (hb hby d13_5) ?_
 intro v1 T1 L1 q1 X1
 obtain ⟨h1, e1⟩ : ∃ z, T1.heap = z := ⟨_, rfl⟩
 rw [e1] at q1
 obtain ⟨rfl, N1, K1, F1_0, F1_1, F1_2, F1_3, F1_4, F1_5⟩ := q1
 show Go _ _ _ _ (T1.setTop (mkF m 8 #[vR x0, .val .null, uS] [.ref x0]))
 subst hFF
 refine Go.retR X1 hx hlk (t := (.object s0)) hret rfl rfl (hb hby d13_8) (by decide) (by decide) ?_
 rw [e1]
 have Kp2 := ((Keep.refl h0 [x0, x1]).trans K1 (allS (Or.inl (mG 0 rfl)) (allS (Or.inl (mG 1 rfl)) all0)))
 exact ⟨rfl, (Fr.app (Fr.nil n0) N1), Kp2, F1_0, F1_1, F1_2, F1_3, F1_4, F1_5⟩
theorem au_89 (l : Launch) (Z : State) (a0 : Array Value) (hw : HW a0 Z) (x0 x1 : Addr) (kk0 : ClassId) (gz1 : Int32) (gv5 : Value) (h0 : Heap) (n0 : Nat) (Z0 : n0 ≤ h0.size) (O0 : Old Z n0 h0) (G : Glob Z gz1 gv5) (P0 : Exa Z h0 x0 s3) (P1 : Fld Z h0 x0 s0 s4 "B" (.int 0)) (P2 : Fld Z h0 x0 s0 "count" "I" (.int 5)) (P3 : Fld Z h0 x0 s0 s5 "[B" (.ref x1)) (P4 : Arv Z h0 x1 kk0 .byte (16 : Int32) [.int 69, .int 84, .int 97, .int 103, .int 32, .int 0, .int 0, .int 0, .int 0, .int 0, .int 0, .int 0, .int 0, .int 0, .int 0, .int 0] (.int 0)) (P5 : Exa Z h0 x1 "[B") (g_x1 : n0 ≤ x1) (g_x0 : n0 ≤ x0) (ne_x0_x1 : x0 ≠ x1) :
    Ctr l Z ⟨s3, "append", "(Ljava/lang/String;)Ljava/lang/StringBuilder;"⟩ jdk_67_method_7_code 2 (some (.object s3)) (rM 3 0 0 42) #[.ref x0, .null] h0 (fun v h L => v = some (.ref x0) ∧ Fr n0 L ∧ Keep h0 h [x0, x1] ∧ Exa Z h x0 s3 ∧ Fld Z h x0 s0 s4 "B" (.int 0) ∧ Fld Z h x0 s0 "count" "I" (.int 9) ∧ Fld Z h x0 s0 s5 "[B" (.ref x1) ∧ Arv Z h x1 kk0 .byte (16 : Int32) [.int 69, .int 84, .int 97, .int 103, .int 32, .int 110, .int 117, .int 108, .int 108, .int 0, .int 0, .int 0, .int 0, .int 0, .int 0, .int 0] (.int 0) ∧ Exa Z h x1 "[B") := by
 refine Ctr.of (plainFor_of_name pn_c5) ?_
 intro p e s m below meth c T0 hx hZ hby hml hown hnm hret hlk e0 es X0
 refine Go.cast (ef_12_RN m x0) ?_
 generalize hFF : EndN s _ _ _ = FF
 refine Go.aloadN X0 hx 1 rfl (hb hby d12_0) rfl rfl ?_
 refine Go.aloadN X0 hx 2 rfl (hb hby d12_1) rfl rfl ?_
 refine Go.callUp X0 hx hZ hown (tw_76 hw) (own_sameself (tw_96 hw) rfl (tw_77 hw) (by decide)) (tw_77 hw) (tw_78 hw) (by decide) (tw_80 hw) (tw_80 hw) (tw_60 hw) (au_90 l Z a0 hw x0 x1 kk0 gz1 gv5 h0 n0 Z0 O0 G P0 P1 P2 P3 P4 P5 g_x1 g_x0 ne_x0_x1) e0 P0 (argsL := [.null]) (rest := []) 5 rfl (hml ▸ rfl) (lenOf pd_14 rfl) rfl rfl (W := 0) (nE rfl) (by decide) (by decide) (by decide) (by decide) (hb hby d12_2) ?_
 intro v1 T1 L1 q1 X1
 obtain ⟨h1, e1⟩ : ∃ z, T1.heap = z := ⟨_, rfl⟩
 rw [e1] at q1
 obtain ⟨rfl, N1, K1, F1_0, F1_1, F1_2, F1_3, F1_4, F1_5⟩ := q1
 show Go _ _ _ _ (T1.setTop (mkF m 5 #[vR x0, .val .null] [.ref x0]))
 refine Go.pop X1 hx 6 rfl (hb hby d12_5) rfl ?_
 refine Go.aloadN X1 hx 7 rfl (hb hby d12_6) rfl rfl ?_
 subst hFF
 refine Go.retR X1 hx hlk (t := (.object s3)) hret rfl rfl (hb hby d12_7) (by decide) (by decide) ?_
 rw [e1]
 have Kp2 := ((Keep.refl h0 [x0, x1]).trans K1 (allS (Or.inl (mG 0 rfl)) (allS (Or.inl (mG 1 rfl)) all0)))
 exact ⟨rfl, (Fr.app (Fr.nil n0) N1), Kp2, F1_0, F1_1, F1_2, F1_3, F1_4, F1_5⟩
theorem au_96 (l : Launch) (Z : State) (a0 : Array Value) (hw : HW a0 Z) (x0 x1 : Addr) (kk0 : ClassId) (h0 : Heap) (n0 : Nat) (Z0 : n0 ≤ h0.size) (P1 : Fld Z h0 x0 s0 s4 "B" (.int 0)) (P3 : Fld Z h0 x0 s0 s5 "[B" (.ref x1)) (P4 : Arv Z h0 x1 kk0 .byte (16 : Int32) [.int 69, .int 84, .int 97, .int 103, .int 32, .int 110, .int 117, .int 108, .int 108, .int 0, .int 0, .int 0, .int 0, .int 0, .int 0, .int 0] (.int 0)) :
    Ctr l Z ⟨s0, "newCapacity", "(I)I"⟩ jdk_68_method_10_code 6 (some .int) (rM 2 0 0 29) #[.ref x0, .int 25] h0 (fun v h L => v = some (.int 34) ∧ Fr n0 L ∧ h = h0) := by
 refine Ctr.of (plainFor_of_name pn_c4) ?_
 intro p e s m below meth c T0 hx hZ hby hml hown hnm hret hlk e0 es X0
 refine Go.cast (ef_20_RI m x0 (25 : Int32)) ?_
 generalize hFF : EndN s _ _ _ = FF
 refine Go.aloadN X0 hx 1 rfl (hb hby d20_0) rfl rfl ?_
 refine Go.getF X0 hx hZ hown (host := "") (Or.inl (tw_64 hw)) Via.refl e0 P3 4 rfl (hb hby d20_1) ?_
 intro T1 e1 X1
 refine Go.arraylength X1 hx hZ e1 P4 5 rfl (hb hby d20_4) ?_
 refine Go.istoreN X1 hx 6 rfl (hb hby d20_5) (Ls' := #[vR x0, vI 25, vI 16, uS, uS, uS]) rfl ?_
 refine Go.iloadN X1 hx 7 rfl (hb hby d20_6) rfl ?_
 refine Go.aloadN X1 hx 8 rfl (hb hby d20_7) rfl rfl ?_
 refine Go.getF X1 hx hZ hown (host := "") (Or.inl (tw_66 hw)) Via.refl e1 P1 11 rfl (hb hby d20_8) ?_
 intro T2 e2 X2
 refine Go.ishl X2 hx 12 rfl (hb hby d20_11) ?_
 rw [show ((25 : Int32) <<< ((0 : Int32) &&& 31)) = (25 : Int32) from by decide]
 refine Go.istoreN X2 hx 13 rfl (hb hby d20_12) (Ls' := #[vR x0, vI 25, vI 16, vI 25, uS, uS]) rfl ?_
 refine Go.iloadN X2 hx 14 rfl (hb hby d20_13) rfl ?_
 refine Go.iloadN X2 hx 15 rfl (hb hby d20_14) rfl ?_
 refine Go.isub X2 hx 16 rfl (hb hby d20_15) ?_
 rw [show ((25 : Int32) - (16 : Int32)) = (9 : Int32) from by decide]
 refine Go.istore X2 hx 18 rfl (hb hby d20_16) (Ls' := #[vR x0, vI 25, vI 16, vI 25, vI 9, uS]) rfl ?_
 refine Go.iloadN X2 hx 19 rfl (hb hby d20_18) rfl ?_
 refine Go.iload X2 hx 21 rfl (hb hby d20_19) rfl ?_
 refine Go.iloadN X2 hx 22 rfl (hb hby d20_21) rfl ?_
 refine Go.iconst X2 hx 23 rfl (hb hby d20_22) (v := (2 : Int32)) rfl ?_
 refine Go.aloadN X2 hx 24 rfl (hb hby d20_23) rfl rfl ?_
 refine Go.getF X2 hx hZ hown (host := "") (Or.inl (tw_66 hw)) Via.refl e2 P1 27 rfl (hb hby d20_24) ?_
 intro T3 e3 X3
 refine Go.ishl X3 hx 28 rfl (hb hby d20_27) ?_
 rw [show ((2 : Int32) <<< ((0 : Int32) &&& 31)) = (2 : Int32) from by decide]
 refine Go.iadd X3 hx 29 rfl (hb hby d20_28) ?_
 rw [show ((16 : Int32) + (2 : Int32)) = (18 : Int32) from by decide]
 refine Go.callS X3 hx hZ hown (tw_124 hw) (tw_125 hw) (tw_126 hw) (tw_127 hw) (by decide) (tw_127 hw) (tw_126 hw) (au_36 l Z a0 hw h0 n0 Z0) e3 (argsL := [.int 16, .int 9, .int 18]) (rest := []) 32 rfl (hml ▸ rfl) (lenOf pd_17 rfl) rfl rfl (W := 0) (nE rfl) (by decide) (by decide) (by decide) (by decide) (hb hby d20_29) ?_
 intro v4 T4 L4 q4 X4
 obtain ⟨rfl, N4, e4⟩ := q4
 show Go _ _ _ _ (T4.setTop (mkF m 32 #[vR x0, vI 25, vI 16, vI 25, vI 9, uS] [.int 34]))
 refine Go.istore X4 hx 34 rfl (hb hby d20_32) (Ls' := #[vR x0, vI 25, vI 16, vI 25, vI 9, vI 34]) rfl ?_
 refine Go.iload X4 hx 36 rfl (hb hby d20_34) rfl ?_
 refine Go.ldcI X4 hx hZ hown (tw_133 hw) 38 rfl (hb hby d20_36) ?_
 refine Go.icmpYes X4 hx 51 (hb hby d20_38) (by decide) (by decide) (by decide) ?_
 refine Go.iload X4 hx 53 rfl (hb hby d20_51) rfl ?_
 refine Go.aloadN X4 hx 54 rfl (hb hby d20_53) rfl rfl ?_
 refine Go.getF X4 hx hZ hown (host := "") (Or.inl (tw_66 hw)) Via.refl e4 P1 57 rfl (hb hby d20_54) ?_
 intro T5 e5 X5
 refine Go.ishr X5 hx 58 rfl (hb hby d20_57) ?_
 rw [show ((34 : Int32) >>> ((0 : Int32) &&& 31)) = (34 : Int32) from by decide]
 subst hFF
 refine Go.retI X5 hx hlk hret (hb hby d20_58) (by decide) (by decide) ?_
 rw [e5]
 exact ⟨rfl, (Fr.app (Fr.nil n0) N4), rfl⟩
theorem au_97 (l : Launch) (Z : State) (a0 : Array Value) (hw : HW a0 Z) (x0 : Addr) (kk0 : ClassId) (h0 : Heap) (n0 : Nat) (Z0 : n0 ≤ h0.size) (P0 : Arv Z h0 x0 kk0 .byte (16 : Int32) [.int 69, .int 84, .int 97, .int 103, .int 32, .int 110, .int 117, .int 108, .int 108, .int 0, .int 0, .int 0, .int 0, .int 0, .int 0, .int 0] (.int 0)) :
    Ctr l Z ⟨"java/util/Arrays", "copyOf", "([BI)[B"⟩ jdk_65_method_121_code 3 (some (.array .byte)) (rM 1 1 34 18) #[.ref x0, .int 34] h0 (fun v h L => ∃ (y0 : Addr) (y1 : ClassId), v = some (.ref y0) ∧ Fr n0 L ∧ Keep h0 h [] ∧ h0.size ≤ y0 ∧ Arv Z h y0 y1 .byte (34 : Int32) [.int 69, .int 84, .int 97, .int 103, .int 32, .int 110, .int 117, .int 108, .int 108, .int 0, .int 0, .int 0, .int 0, .int 0, .int 0, .int 0, .int 0, .int 0, .int 0, .int 0, .int 0, .int 0, .int 0, .int 0, .int 0, .int 0, .int 0, .int 0, .int 0, .int 0, .int 0, .int 0, .int 0, .int 0] (.int 0) ∧ Exa Z h y0 "[B") := by
 refine Ctr.of (plainFor_of_name pn_c7) ?_
 intro p e s m below meth c T0 hx hZ hby hml hown hnm hret hlk e0 es X0
 refine Go.cast (ef_23_RI m x0 (34 : Int32)) ?_
 generalize hFF : EndN s _ _ _ = FF
 refine Go.iloadN X0 hx 1 rfl (hb hby d23_0) rfl ?_
 refine Go.aloadN X0 hx 2 rfl (hb hby d23_1) rfl rfl ?_
 refine Go.arraylength X0 hx hZ e0 P0 3 rfl (hb hby d23_2) ?_
 refine Go.icmpYes X0 hx 14 (hb hby d23_3) (by decide) (by decide) (by decide) ?_
 refine Go.iloadN X0 hx 15 rfl (hb hby d23_14) rfl ?_
 refine Go.newarray X0 hx hZ (ty := .byte) rfl (tw_23 hw) e0 (by decide) (cap := 34) (by decide) (by decide) (by decide) (by decide) (ad := "[B") (by decide) 34 17 rfl (hb hby d23_15) ?_
 intro T1 h1 b1 k1 e1 E1 g1 V1 A1 X1
 have V1' : Arv Z h1 b1 k1 .byte (34 : Int32) [.int 0, .int 0, .int 0, .int 0, .int 0, .int 0, .int 0, .int 0, .int 0, .int 0, .int 0, .int 0, .int 0, .int 0, .int 0, .int 0, .int 0, .int 0, .int 0, .int 0, .int 0, .int 0, .int 0, .int 0, .int 0, .int 0, .int 0, .int 0, .int 0, .int 0, .int 0, .int 0, .int 0, .int 0] (.int 0) := V1
 refine Go.astoreN X1 hx 18 rfl (hb hby d23_17) (Ls' := #[vR x0, vI 34, vR b1]) rfl rfl ?_
 refine Go.aloadN X1 hx 19 rfl (hb hby d23_18) rfl rfl ?_
 refine Go.iconst X1 hx 20 rfl (hb hby d23_19) (v := (0 : Int32)) rfl ?_
 refine Go.aloadN X1 hx 21 rfl (hb hby d23_20) rfl rfl ?_
 refine Go.iconst X1 hx 22 rfl (hb hby d23_21) (v := (0 : Int32)) rfl ?_
 refine Go.aloadN X1 hx 23 rfl (hb hby d23_22) rfl rfl ?_
 have fk2 := (P0.ext E1)
 refine Go.arraylength X1 hx hZ e1 fk2 24 rfl (hb hby d23_23) ?_
 refine Go.iloadN X1 hx 25 rfl (hb hby d23_24) rfl ?_
 have Kp4 := ((Keep.refl h0 []).ext E1)
 have Zn3 := Nat.le_trans Z0 Kp4.1
 refine Go.callS X1 hx hZ hown (tw_138 hw) (tw_139 hw) (tw_130 hw) (tw_140 hw) (by decide) (tw_140 hw) (tw_130 hw) (au_39 l Z a0 hw h1 n0 Zn3) e1 (argsL := [.int 16, .int 34]) (rest := [.int 0, .ref b1, .int 0, .ref x0]) 28 rfl (hml ▸ rfl) (lenOf pd_16 rfl) rfl rfl (W := 4) (nE rfl) (by decide) (by decide) (by decide) (by decide) (hb hby d23_25) ?_
 intro v5 T5 L5 q5 X5
 obtain ⟨rfl, N5, e5⟩ := q5
 show Go _ _ _ _ (T5.setTop (mkF m 28 #[vR x0, vI 34, vR b1] [.int 16, .int 0, .ref b1, .int 0, .ref x0]))
 have sz7 := Nat.le_trans (Keep.refl h0 []).1 (Nat.le_of_eq g1.symm)
 have ge6 := Nat.le_trans Z0 sz7
 refine Go.arraycopy X5 hx hZ hown (tw_141 hw) (tw_117 hw) (tw_115 hw) (tw_116 hw) e5 fk2 V1' rfl (sp := (0 : Int32)) (dp := (0 : Int32)) (nn := (16 : Int32)) (us := [.int 69, .int 84, .int 97, .int 103, .int 32, .int 110, .int 117, .int 108, .int 108, .int 0, .int 0, .int 0, .int 0, .int 0, .int 0, .int 0]) (by decide) (by decide) (by decide) (by decide) (by decide) rfl (nB rfl) (Fr.app (Fr.nil n0) N5) ge6 (by decide) (W := 0) (hml ▸ rfl) (nE rfl) (by decide) (pc' := 31) rfl (hb hby d23_28) ?_
 intro T8 h8 L8 e8 N8 K8 V8 X8
 have V8' : Arv Z h8 b1 k1 .byte (34 : Int32) [.int 69, .int 84, .int 97, .int 103, .int 32, .int 110, .int 117, .int 108, .int 108, .int 0, .int 0, .int 0, .int 0, .int 0, .int 0, .int 0, .int 0, .int 0, .int 0, .int 0, .int 0, .int 0, .int 0, .int 0, .int 0, .int 0, .int 0, .int 0, .int 0, .int 0, .int 0, .int 0, .int 0, .int 0] (.int 0) := V8
 refine Go.aloadN X8 hx 32 rfl (hb hby d23_31) rfl rfl ?_
 subst hFF
 refine Go.retR X8 hx hlk (t := (.array .byte)) hret rfl rfl (hb hby d23_32) (by decide) (by decide) ?_
 rw [e8]
 have fk9 := (A1.keep K8)
 have Kp10 := (Kp4.trans K8 (allS (Or.inr sz7) all0))
 exact ⟨b1, k1, rfl, N8, Kp10, sz7, V8', fk9⟩
theorem au_95 (l : Launch) (Z : State) (a0 : Array Value) (hw : HW a0 Z) (x0 x1 : Addr) (kk0 : ClassId) (h0 : Heap) (n0 : Nat) (Z0 : n0 ≤ h0.size) (P0 : Exa Z h0 x0 s3) (P1 : Fld Z h0 x0 s0 s4 "B" (.int 0)) (P2 : Fld Z h0 x0 s0 "count" "I" (.int 9)) (P3 : Fld Z h0 x0 s0 s5 "[B" (.ref x1)) (P4 : Arv Z h0 x1 kk0 .byte (16 : Int32) [.int 69, .int 84, .int 97, .int 103, .int 32, .int 110, .int 117, .int 108, .int 108, .int 0, .int 0, .int 0, .int 0, .int 0, .int 0, .int 0] (.int 0)) (g_x0 : n0 ≤ x0) :
    Ctr l Z ⟨s0, "ensureCapacityInternal", "(I)V"⟩ jdk_68_method_9_code 3 none (rM 3 1 34 48) #[.ref x0, .int 25] h0 (fun v h L => ∃ (y0 : Addr) (y1 : ClassId), v = none ∧ Fr n0 L ∧ Keep h0 h [x0] ∧ h0.size ≤ y0 ∧ Exa Z h x0 s3 ∧ Fld Z h x0 s0 s4 "B" (.int 0) ∧ Fld Z h x0 s0 "count" "I" (.int 9) ∧ Fld Z h x0 s0 s5 "[B" (.ref y0) ∧ Arv Z h y0 y1 .byte (34 : Int32) [.int 69, .int 84, .int 97, .int 103, .int 32, .int 110, .int 117, .int 108, .int 108, .int 0, .int 0, .int 0, .int 0, .int 0, .int 0, .int 0, .int 0, .int 0, .int 0, .int 0, .int 0, .int 0, .int 0, .int 0, .int 0, .int 0, .int 0, .int 0, .int 0, .int 0, .int 0, .int 0, .int 0, .int 0] (.int 0) ∧ Exa Z h y0 "[B") := by
 refine Ctr.of (plainFor_of_name pn_c4) ?_
 intro p e s m below meth c T0 hx hZ hby hml hown hnm hret hlk e0 es X0
 refine Go.cast (ef_16_RI m x0 (25 : Int32)) ?_
 generalize hFF : EndN s _ _ _ = FF
 refine Go.aloadN X0 hx 1 rfl (hb hby d16_0) rfl rfl ?_
 refine Go.getF X0 hx hZ hown (host := "") (Or.inl (tw_64 hw)) Via.refl e0 P3 4 rfl (hb hby d16_1) ?_
 intro T1 e1 X1
 refine Go.arraylength X1 hx hZ e1 P4 5 rfl (hb hby d16_4) ?_
 refine Go.aloadN X1 hx 6 rfl (hb hby d16_5) rfl rfl ?_
 refine Go.getF X1 hx hZ hown (host := "") (Or.inl (tw_66 hw)) Via.refl e1 P1 9 rfl (hb hby d16_6) ?_
 intro T2 e2 X2
 refine Go.ishr X2 hx 10 rfl (hb hby d16_9) ?_
 rw [show ((16 : Int32) >>> ((0 : Int32) &&& 31)) = (16 : Int32) from by decide]
 refine Go.istoreN X2 hx 11 rfl (hb hby d16_10) (Ls' := #[vR x0, vI 25, vI 16]) rfl ?_
 refine Go.iloadN X2 hx 12 rfl (hb hby d16_11) rfl ?_
 refine Go.iloadN X2 hx 13 rfl (hb hby d16_12) rfl ?_
 refine Go.isub X2 hx 14 rfl (hb hby d16_13) ?_
 rw [show ((25 : Int32) - (16 : Int32)) = (9 : Int32) from by decide]
 refine Go.ifNo X2 hx 17 rfl (hb hby d16_14) (by decide) ?_
 refine Go.aloadN X2 hx 18 rfl (hb hby d16_17) rfl rfl ?_
 refine Go.aloadN X2 hx 19 rfl (hb hby d16_18) rfl rfl ?_
 refine Go.getF X2 hx hZ hown (host := "") (Or.inl (tw_64 hw)) Via.refl e2 P3 22 rfl (hb hby d16_19) ?_
 intro T3 e3 X3
 refine Go.aloadN X3 hx 23 rfl (hb hby d16_22) rfl rfl ?_
 refine Go.iloadN X3 hx 24 rfl (hb hby d16_23) rfl ?_
 refine Go.callP X3 hx hZ hown (tw_119 hw) (tw_120 hw) (tw_122 hw) (tw_121 hw) (tw_123 hw) (by decide) (tw_123 hw) (tw_60 hw) (au_96 l Z a0 hw x0 x1 kk0 h0 n0 Z0 P1 P3 P4) e3 P0 (argsL := [.int 25]) (rest := [.ref x1, .ref x0]) 27 rfl (hml ▸ rfl) (lenOf pd_18 rfl) rfl rfl (W := 2) (nE rfl) (by decide) (by decide) (by decide) (by decide) (hb hby d16_24) ?_
 intro v4 T4 L4 q4 X4
 obtain ⟨rfl, N4, e4⟩ := q4
 show Go _ _ _ _ (T4.setTop (mkF m 27 #[vR x0, vI 25, vI 16] [.int 34, .ref x1, .ref x0]))
 refine Go.aloadN X4 hx 28 rfl (hb hby d16_27) rfl rfl ?_
 refine Go.getF X4 hx hZ hown (host := "") (Or.inl (tw_66 hw)) Via.refl e4 P1 31 rfl (hb hby d16_28) ?_
 intro T5 e5 X5
 refine Go.ishl X5 hx 32 rfl (hb hby d16_31) ?_
 rw [show ((34 : Int32) <<< ((0 : Int32) &&& 31)) = (34 : Int32) from by decide]
 refine Go.callS X5 hx hZ hown (tw_134 hw) (tw_135 hw) (tw_136 hw) (tw_137 hw) (by decide) (tw_137 hw) (tw_136 hw) (au_97 l Z a0 hw x1 kk0 h0 n0 Z0 P4) e5 (argsL := [.ref x1, .int 34]) (rest := [.ref x0]) 35 rfl (hml ▸ rfl) (lenOf pd_19 rfl) rfl rfl (W := 1) (nE rfl) (by decide) (by decide) (by decide) (by decide) (hb hby d16_32) ?_
 intro v6 T6 L6 q6 X6
 obtain ⟨h6, e6⟩ : ∃ z, T6.heap = z := ⟨_, rfl⟩
 rw [e6] at q6
 obtain ⟨b6_0, k6_0, rfl, N6, K6, s6_0, F6_0, F6_1⟩ := q6
 show Go _ _ _ _ (T6.setTop (mkF m 35 #[vR x0, vI 25, vI 16] [.ref b6_0, .ref x0]))
 have fk7 := (P3.keep K6 nin0)
 have fk8 := (P0.keep K6)
 refine Go.putF X6 hx hZ hown (host := "") (Or.inl (tw_64 hw)) Via.refl e6 fk7 fk8 (Or.inl (tw_65 hw)) (tw_51 hw) (ty := (.array .byte)) (by decide) rfl rfl 38 rfl (hb hby d16_35) ?_
 intro T9 h9 e9 W9 F9 X9
 have N9 := Fr.snoc X9 (Fr.app (Fr.app (Fr.nil n0) N4) N6) g_x0
 subst hFF
 refine Go.ret0 X9 hx hlk hret (hb hby d16_38) (by decide) (by decide) ?_
 rw [e9]
 have fk10 := (fk8.wr W9)
 have fk11 := ((P1.keep K6 nin0).other W9 (Or.inr (slot_ne (Or.inl (tw_67 hw)) (Or.inl (tw_65 hw)) (by decide) (t := .byte) (t' := (.array .byte)) (by decide) (by decide))))
 have fk12 := ((P2.keep K6 nin0).other W9 (Or.inr (slot_ne (Or.inl (tw_92 hw)) (Or.inl (tw_65 hw)) (by decide) (t := .int) (t' := (.array .byte)) (by decide) (by decide))))
 have ne13 := Nat.ne_of_lt (Nat.lt_of_lt_of_le P0.lt s6_0)
 have fk14 := (F6_0.other W9 (Ne.symm ne13))
 have fk15 := (F6_1.wr W9)
 have Kp16 := ((Keep.refl h0 [x0]).trans K6 all0)
 have Kp17 := (Kp16.wr W9 (Or.inl (mG 0 rfl)))
 have sz18 := Nat.le_trans (Keep.refl h0 [x0]).1 s6_0
 exact ⟨b6_0, k6_0, rfl, N9, Kp17, sz18, fk10, fk11, fk12, F9, fk14, fk15⟩
theorem au_99 (l : Launch) (Z : State) (a0 : Array Value) (hw : HW a0 Z) (x0 x1 : Addr) (gz1 : Int32) (gv5 : Value) (h0 : Heap) (n0 : Nat) (Z0 : n0 ≤ h0.size) (O0 : Old Z n0 h0) (G : Glob Z gz1 gv5) (P1 : Fld Z h0 x0 s0 s4 "B" (.int 0)) (P4 : Exa Z h0 x1 s1) (P5 : Fld Z h0 x1 s1 s4 "B" (.int 0)) :
    Ctr l Z ⟨s0, "inflateIfNeededFor", "(Ljava/lang/String;)V"⟩ jdk_68_method_71_code 2 none (rM 1 0 0 13) #[.ref x0, .ref x1] h0 (fun v h L => v = none ∧ Fr n0 L ∧ h = h0) := by
 refine Ctr.of (plainFor_of_name pn_c4) ?_
 intro p e s m below meth c T0 hx hZ hby hml hown hnm hret hlk e0 es X0
 have G' := G
 obtain ⟨G0, -, G2, -⟩ := G'
 refine Go.cast (ef_18_RR m x0 x1) ?_
 generalize hFF : EndN s _ _ _ = FF
 have fk1 := G0.ext O0.2
 refine Go.getS X0 hx hZ hown (host := "") (Or.inl (tw_63 hw)) Via.refl e0 fk1 3 rfl (hb hby d18_0) ?_
 intro T2 e2 X2
 refine Go.ifNo X2 hx 6 rfl (hb hby d18_3) (feq G2).1 ?_
 refine Go.aloadN X2 hx 7 rfl (hb hby d18_6) rfl rfl ?_
 refine Go.getF X2 hx hZ hown (host := "") (Or.inl (tw_66 hw)) Via.refl e2 P1 10 rfl (hb hby d18_7) ?_
 intro T3 e3 X3
 refine Go.aloadN X3 hx 11 rfl (hb hby d18_10) rfl rfl ?_
 refine Go.callV X3 hx hZ hown (tw_108 hw) (tw_87 hw) (notFace_of_selects (args := #[]) (mvT hZ (tw_89 hw))) (tw_89 hw) (tw_88 hw) (by decide) (tw_90 hw) (tw_6 hw) (au_33 l Z a0 hw x1 gz1 gv5 h0 n0 Z0 O0 G P5) e3 P4 (argsL := []) (rest := [.int 0]) 14 rfl (hml ▸ rfl) (lenOf pd_9 rfl) rfl rfl (W := 1) (nE rfl) (by decide) (by decide) (by decide) (by decide) (hb hby d18_11) ?_
 intro v4 T4 L4 q4 X4
 obtain ⟨rfl, N4, e4⟩ := q4
 show Go _ _ _ _ (T4.setTop (mkF m 14 #[vR x0, vR x1] [.int 0, .int 0]))
 refine Go.icmpYes X4 hx 21 (hb hby d18_14) (by decide) (by decide) (by decide) ?_
 subst hFF
 refine Go.ret0 X4 hx hlk hret (hb hby d18_21) (by decide) (by decide) ?_
 rw [e4]
 exact ⟨rfl, (Fr.app (Fr.nil n0) N4), rfl⟩
theorem au_100 (l : Launch) (Z : State) (a0 : Array Value) (hw : HW a0 Z) (x0 x1 x2 : Addr) (kk0 kk1 : ClassId) (gz1 : Int32) (gv5 : Value) (h0 : Heap) (n0 : Nat) (Z0 : n0 ≤ h0.size) (O0 : Old Z n0 h0) (G : Glob Z gz1 gv5) (P0 : Exa Z h0 x0 s1) (P1 : Fld Z h0 x0 s1 s4 "B" (.int 0)) (P2 : Fld Z h0 x0 s1 s5 "[B" (.ref x2)) (P3 : Arv Z h0 x1 kk0 .byte (34 : Int32) [.int 69, .int 84, .int 97, .int 103, .int 32, .int 110, .int 117, .int 108, .int 108, .int 0, .int 0, .int 0, .int 0, .int 0, .int 0, .int 0, .int 0, .int 0, .int 0, .int 0, .int 0, .int 0, .int 0, .int 0, .int 0, .int 0, .int 0, .int 0, .int 0, .int 0, .int 0, .int 0, .int 0, .int 0] (.int 0)) (P4 : Exa Z h0 x1 "[B") (P5 : Arv Z h0 x2 kk1 .byte (16 : Int32) [.int 44, .int 32, .int 76, .int 97, .int 115, .int 116, .int 45, .int 77, .int 111, .int 100, .int 105, .int 102, .int 105, .int 101, .int 100, .int 32] (.int (0 : Int32))) (g_x1 : n0 ≤ x1) :
    Ctr l Z ⟨s1, "getBytes", "([BIB)V"⟩ jdk_42_method_147_code 4 none (rM 1 0 0 18) #[.ref x0, .ref x1, .int 9, .int 0] h0 (fun v h L => v = none ∧ Fr n0 L ∧ Keep h0 h [x1] ∧ Arv Z h x1 kk0 .byte (34 : Int32) [.int 69, .int 84, .int 97, .int 103, .int 32, .int 110, .int 117, .int 108, .int 108, .int 44, .int 32, .int 76, .int 97, .int 115, .int 116, .int 45, .int 77, .int 111, .int 100, .int 105, .int 102, .int 105, .int 101, .int 100, .int 32, .int 0, .int 0, .int 0, .int 0, .int 0, .int 0, .int 0, .int 0, .int 0] (.int 0) ∧ Exa Z h x1 "[B") := by
 refine Ctr.of (plainFor_of_name pn_c2) ?_
 intro p e s m below meth c T0 hx hZ hby hml hown hnm hret hlk e0 es X0
 refine Go.cast (ef_19_RRII m x0 x1 (9 : Int32) (0 : Int32)) ?_
 generalize hFF : EndN s _ _ _ = FF
 refine Go.aloadN X0 hx 1 rfl (hb hby d19_0) rfl rfl ?_
 refine Go.callV X0 hx hZ hown (tw_86 hw) (tw_87 hw) (notFace_of_selects (args := #[]) (mvT hZ (tw_89 hw))) (tw_89 hw) (tw_88 hw) (by decide) (tw_90 hw) (tw_6 hw) (au_33 l Z a0 hw x0 gz1 gv5 h0 n0 Z0 O0 G P1) e0 P0 (argsL := []) (rest := []) 4 rfl (hml ▸ rfl) (lenOf pd_9 rfl) rfl rfl (W := 0) (nE rfl) (by decide) (by decide) (by decide) (by decide) (hb hby d19_1) ?_
 intro v1 T1 L1 q1 X1
 obtain ⟨rfl, N1, e1⟩ := q1
 show Go _ _ _ _ (T1.setTop (mkF m 4 #[vR x0, vR x1, vI 9, vI 0] [.int 0]))
 refine Go.iloadN X1 hx 5 rfl (hb hby d19_4) rfl ?_
 refine Go.icmpNo X1 hx 8 rfl (hb hby d19_5) (by decide) ?_
 refine Go.aloadN X1 hx 9 rfl (hb hby d19_8) rfl rfl ?_
 refine Go.getF X1 hx hZ hown (host := "") (Or.inl (tw_32 hw)) Via.refl e1 P2 12 rfl (hb hby d19_9) ?_
 intro T2 e2 X2
 refine Go.iconst X2 hx 13 rfl (hb hby d19_12) (v := (0 : Int32)) rfl ?_
 refine Go.aloadN X2 hx 14 rfl (hb hby d19_13) rfl rfl ?_
 refine Go.iloadN X2 hx 15 rfl (hb hby d19_14) rfl ?_
 refine Go.iloadN X2 hx 16 rfl (hb hby d19_15) rfl ?_
 refine Go.ishl X2 hx 17 rfl (hb hby d19_16) ?_
 rw [show ((9 : Int32) <<< ((0 : Int32) &&& 31)) = (9 : Int32) from by decide]
 refine Go.aloadN X2 hx 18 rfl (hb hby d19_17) rfl rfl ?_
 refine Go.getF X2 hx hZ hown (host := "") (Or.inl (tw_32 hw)) Via.refl e2 P2 21 rfl (hb hby d19_18) ?_
 intro T3 e3 X3
 refine Go.arraylength X3 hx hZ e3 P5 22 rfl (hb hby d19_21) ?_
 refine Go.arraycopy X3 hx hZ hown (tw_114 hw) (tw_117 hw) (tw_115 hw) (tw_116 hw) e3 P5 P3 rfl (sp := (0 : Int32)) (dp := (9 : Int32)) (nn := (16 : Int32)) (us := [.int 44, .int 32, .int 76, .int 97, .int 115, .int 116, .int 45, .int 77, .int 111, .int 100, .int 105, .int 102, .int 105, .int 101, .int 100, .int 32]) (by decide) (by decide) (by decide) (by decide) (by decide) rfl (nB rfl) (Fr.app (Fr.nil n0) N1) g_x1 (by decide) (W := 0) (hml ▸ rfl) (nE rfl) (by decide) (pc' := 25) rfl (hb hby d19_22) ?_
 intro T4 h4 L4 e4 N4 K4 V4 X4
 have V4' : Arv Z h4 x1 kk0 .byte (34 : Int32) [.int 69, .int 84, .int 97, .int 103, .int 32, .int 110, .int 117, .int 108, .int 108, .int 44, .int 32, .int 76, .int 97, .int 115, .int 116, .int 45, .int 77, .int 111, .int 100, .int 105, .int 102, .int 105, .int 101, .int 100, .int 32, .int 0, .int 0, .int 0, .int 0, .int 0, .int 0, .int 0, .int 0, .int 0] (.int 0) := V4
 refine Go.goto X4 hx 43 (hb hby d19_25) (by decide) (by decide) ?_
 subst hFF
 refine Go.ret0 X4 hx hlk hret (hb hby d19_43) (by decide) (by decide) ?_
 rw [e4]
 have fk5 := (P4.keep K4)
 have Kp6 := ((Keep.refl h0 [x1]).trans K4 (allS (Or.inl (mG 0 rfl)) all0))
 exact ⟨rfl, N4, Kp6, V4', fk5⟩
theorem au_98 (l : Launch) (Z : State) (a0 : Array Value) (hw : HW a0 Z) (x0 x1 x2 x3 : Addr) (kk0 kk1 : ClassId) (gz1 : Int32) (gv5 : Value) (h0 : Heap) (n0 : Nat) (Z0 : n0 ≤ h0.size) (O0 : Old Z n0 h0) (G : Glob Z gz1 gv5) (P0 : Exa Z h0 x0 s3) (P1 : Fld Z h0 x0 s0 s4 "B" (.int 0)) (P3 : Fld Z h0 x0 s0 s5 "[B" (.ref x2)) (P4 : Exa Z h0 x1 s1) (P5 : Fld Z h0 x1 s1 s4 "B" (.int 0)) (P6 : Fld Z h0 x1 s1 s5 "[B" (.ref x3)) (P7 : Arv Z h0 x2 kk0 .byte (34 : Int32) [.int 69, .int 84, .int 97, .int 103, .int 32, .int 110, .int 117, .int 108, .int 108, .int 0, .int 0, .int 0, .int 0, .int 0, .int 0, .int 0, .int 0, .int 0, .int 0, .int 0, .int 0, .int 0, .int 0, .int 0, .int 0, .int 0, .int 0, .int 0, .int 0, .int 0, .int 0, .int 0, .int 0, .int 0] (.int 0)) (P8 : Exa Z h0 x2 "[B") (P9 : Arv Z h0 x3 kk1 .byte (16 : Int32) [.int 44, .int 32, .int 76, .int 97, .int 115, .int 116, .int 45, .int 77, .int 111, .int 100, .int 105, .int 102, .int 105, .int 101, .int 100, .int 32] (.int (0 : Int32))) (g_x2 : n0 ≤ x2) :
    Ctr l Z ⟨s0, "putStringAt", "(ILjava/lang/String;)V"⟩ jdk_68_method_73_code 3 none (rM 2 0 0 33) #[.ref x0, .int 9, .ref x1] h0 (fun v h L => v = none ∧ Fr n0 L ∧ Keep h0 h [x2] ∧ Arv Z h x2 kk0 .byte (34 : Int32) [.int 69, .int 84, .int 97, .int 103, .int 32, .int 110, .int 117, .int 108, .int 108, .int 44, .int 32, .int 76, .int 97, .int 115, .int 116, .int 45, .int 77, .int 111, .int 100, .int 105, .int 102, .int 105, .int 101, .int 100, .int 32, .int 0, .int 0, .int 0, .int 0, .int 0, .int 0, .int 0, .int 0, .int 0] (.int 0) ∧ Exa Z h x2 "[B") := by
 refine Ctr.of (plainFor_of_name pn_c4) ?_
 intro p e s m below meth c T0 hx hZ hby hml hown hnm hret hlk e0 es X0
 refine Go.cast (ef_17_RIR m x0 (9 : Int32) x1) ?_
 generalize hFF : EndN s _ _ _ = FF
 refine Go.aloadN X0 hx 1 rfl (hb hby d17_0) rfl rfl ?_
 refine Go.aloadN X0 hx 2 rfl (hb hby d17_1) rfl rfl ?_
 refine Go.callP X0 hx hZ hown (tw_103 hw) (tw_104 hw) (tw_106 hw) (tw_105 hw) (tw_107 hw) (by decide) (tw_107 hw) (tw_60 hw) (au_99 l Z a0 hw x0 x1 gz1 gv5 h0 n0 Z0 O0 G P1 P4 P5) e0 P0 (argsL := [.ref x1]) (rest := []) 5 rfl (hml ▸ rfl) (lenOf pd_11 rfl) rfl rfl (W := 0) (nE rfl) (by decide) (by decide) (by decide) (by decide) (hb hby d17_2) ?_
 intro v1 T1 L1 q1 X1
 obtain ⟨rfl, N1, e1⟩ := q1
 show Go _ _ _ _ (T1.setTop (mkF m 5 #[vR x0, vI 9, vR x1] []))
 refine Go.aloadN X1 hx 6 rfl (hb hby d17_5) rfl rfl ?_
 refine Go.aloadN X1 hx 7 rfl (hb hby d17_6) rfl rfl ?_
 refine Go.getF X1 hx hZ hown (host := "") (Or.inl (tw_64 hw)) Via.refl e1 P3 10 rfl (hb hby d17_7) ?_
 intro T2 e2 X2
 refine Go.iloadN X2 hx 11 rfl (hb hby d17_10) rfl ?_
 refine Go.aloadN X2 hx 12 rfl (hb hby d17_11) rfl rfl ?_
 refine Go.getF X2 hx hZ hown (host := "") (Or.inl (tw_66 hw)) Via.refl e2 P1 15 rfl (hb hby d17_12) ?_
 intro T3 e3 X3
 refine Go.callV X3 hx hZ hown (tw_109 hw) (tw_110 hw) (notFace_of_selects (args := #[]) (mvT hZ (tw_112 hw))) (tw_112 hw) (tw_111 hw) (by decide) (tw_113 hw) (tw_6 hw) (au_100 l Z a0 hw x1 x2 x3 kk0 kk1 gz1 gv5 h0 n0 Z0 O0 G P4 P5 P6 P7 P8 P9 g_x2) e3 P4 (argsL := [.ref x2, .int 9, .int 0]) (rest := []) 18 rfl (hml ▸ rfl) (lenOf pd_12 rfl) rfl rfl (W := 0) (nE rfl) (by decide) (by decide) (by decide) (by decide) (hb hby d17_15) ?_
 intro v4 T4 L4 q4 X4
 obtain ⟨h4, e4⟩ : ∃ z, T4.heap = z := ⟨_, rfl⟩
 rw [e4] at q4
 obtain ⟨rfl, N4, K4, F4_0, F4_1⟩ := q4
 show Go _ _ _ _ (T4.setTop (mkF m 18 #[vR x0, vI 9, vR x1] []))
 subst hFF
 refine Go.ret0 X4 hx hlk hret (hb hby d17_18) (by decide) (by decide) ?_
 rw [e4]
 have Kp5 := ((Keep.refl h0 [x2]).trans K4 (allS (Or.inl (mG 0 rfl)) all0))
 exact ⟨rfl, (Fr.app (Fr.app (Fr.nil n0) N1) N4), Kp5, F4_0, F4_1⟩
theorem au_94 (l : Launch) (Z : State) (a0 : Array Value) (hw : HW a0 Z) (x0 x1 x2 x3 : Addr) (kk0 kk1 : ClassId) (gz1 : Int32) (gv5 : Value) (h0 : Heap) (n0 : Nat) (Z0 : n0 ≤ h0.size) (O0 : Old Z n0 h0) (G : Glob Z gz1 gv5) (P0 : Exa Z h0 x0 s3) (P1 : Fld Z h0 x0 s0 s4 "B" (.int 0)) (P2 : Fld Z h0 x0 s0 "count" "I" (.int 9)) (P3 : Fld Z h0 x0 s0 s5 "[B" (.ref x2)) (P4 : Exa Z h0 x1 s1) (P5 : Fld Z h0 x1 s1 s4 "B" (.int 0)) (P6 : Fld Z h0 x1 s1 s5 "[B" (.ref x3)) (P7 : Arv Z h0 x2 kk0 .byte (16 : Int32) [.int 69, .int 84, .int 97, .int 103, .int 32, .int 110, .int 117, .int 108, .int 108, .int 0, .int 0, .int 0, .int 0, .int 0, .int 0, .int 0] (.int 0)) (P9 : Arv Z h0 x3 kk1 .byte (16 : Int32) [.int 44, .int 32, .int 76, .int 97, .int 115, .int 116, .int 45, .int 77, .int 111, .int 100, .int 105, .int 102, .int 105, .int 101, .int 100, .int 32] (.int (0 : Int32))) (g_x0 : n0 ≤ x0) (ne_x1_x0 : x1 ≠ x0) (ne_x3_x0 : x3 ≠ x0) :
    Ctr l Z ⟨s0, "append", "(Ljava/lang/String;)Ljava/lang/AbstractStringBuilder;"⟩ jdk_68_method_22_code 3 (some (.object s0)) (rM 4 1 34 62) #[.ref x0, .ref x1] h0 (fun v h L => ∃ (y0 : Addr) (y1 : ClassId), v = some (.ref x0) ∧ Fr n0 L ∧ Keep h0 h [x0] ∧ h0.size ≤ y0 ∧ Exa Z h x0 s3 ∧ Fld Z h x0 s0 s4 "B" (.int 0) ∧ Fld Z h x0 s0 "count" "I" (.int 25) ∧ Fld Z h x0 s0 s5 "[B" (.ref y0) ∧ Arv Z h y0 y1 .byte (34 : Int32) [.int 69, .int 84, .int 97, .int 103, .int 32, .int 110, .int 117, .int 108, .int 108, .int 44, .int 32, .int 76, .int 97, .int 115, .int 116, .int 45, .int 77, .int 111, .int 100, .int 105, .int 102, .int 105, .int 101, .int 100, .int 32, .int 0, .int 0, .int 0, .int 0, .int 0, .int 0, .int 0, .int 0, .int 0] (.int 0) ∧ Exa Z h y0 "[B") := by
 refine Ctr.of (plainFor_of_name pn_c4) ?_
 intro p e s m below meth c T0 hx hZ hby hml hown hnm hret hlk e0 es X0
 refine Go.cast (ef_13_RR m x0 x1) ?_
 generalize hFF : EndN s _ _ _ = FF
 refine Go.aloadN X0 hx 1 rfl (hb hby d13_0) rfl rfl ?_
 refine Go.ifnonnullYes X0 hx 9 (hb hby d13_1) (by decide) (by decide) ?_
 refine Go.aloadN X0 hx 10 rfl (hb hby d13_9) rfl rfl ?_
 refine Go.callV X0 hx hZ hown (tw_81 hw) (tw_82 hw) (notFace_of_selects (args := #[]) (mvT hZ (tw_84 hw))) (tw_84 hw) (tw_83 hw) (by decide) (tw_85 hw) (tw_6 hw) (au_32 l Z a0 hw x1 x3 kk1 gz1 gv5 h0 n0 Z0 O0 G P4 P5 P6 P9) e0 P4 (argsL := []) (rest := []) 13 rfl (hml ▸ rfl) (lenOf pd_10 rfl) rfl rfl (W := 0) (nE rfl) (by decide) (by decide) (by decide) (by decide) (hb hby d13_10) ?_
 intro v1 T1 L1 q1 X1
 obtain ⟨rfl, N1, e1⟩ := q1
 show Go _ _ _ _ (T1.setTop (mkF m 13 #[vR x0, vR x1, uS] [.int 16]))
 refine Go.istoreN X1 hx 14 rfl (hb hby d13_13) (Ls' := #[vR x0, vR x1, vI 16]) rfl ?_
 refine Go.aloadN X1 hx 15 rfl (hb hby d13_14) rfl rfl ?_
 refine Go.aloadN X1 hx 16 rfl (hb hby d13_15) rfl rfl ?_
 refine Go.getF X1 hx hZ hown (host := "") (Or.inl (tw_91 hw)) Via.refl e1 P2 19 rfl (hb hby d13_16) ?_
 intro T2 e2 X2
 refine Go.iloadN X2 hx 20 rfl (hb hby d13_19) rfl ?_
 refine Go.iadd X2 hx 21 rfl (hb hby d13_20) ?_
 rw [show ((9 : Int32) + (16 : Int32)) = (25 : Int32) from by decide]
 refine Go.callP X2 hx hZ hown (tw_93 hw) (tw_94 hw) (tw_96 hw) (tw_95 hw) (tw_97 hw) (by decide) (tw_97 hw) (tw_60 hw) (au_95 l Z a0 hw x0 x2 kk0 h0 n0 Z0 P0 P1 P2 P3 P7 g_x0) e2 P0 (argsL := [.int 25]) (rest := []) 24 rfl (hml ▸ rfl) (lenOf pd_7 rfl) rfl rfl (W := 0) (nE rfl) (by decide) (by decide) (by decide) (by decide) (hb hby d13_21) ?_
 intro v3 T3 L3 q3 X3
 obtain ⟨h3, e3⟩ : ∃ z, T3.heap = z := ⟨_, rfl⟩
 rw [e3] at q3
 obtain ⟨b3_0, k3_0, rfl, N3, K3, s3_0, F3_0, F3_1, F3_2, F3_3, F3_4, F3_5⟩ := q3
 show Go _ _ _ _ (T3.setTop (mkF m 24 #[vR x0, vR x1, vI 16] []))
 refine Go.aloadN X3 hx 25 rfl (hb hby d13_24) rfl rfl ?_
 refine Go.aloadN X3 hx 26 rfl (hb hby d13_25) rfl rfl ?_
 refine Go.getF X3 hx hZ hown (host := "") (Or.inl (tw_91 hw)) Via.refl e3 F3_2 29 rfl (hb hby d13_26) ?_
 intro T4 e4 X4
 refine Go.aloadN X4 hx 30 rfl (hb hby d13_29) rfl rfl ?_
 have Kp6 := ((Keep.refl h0 [x0]).trans K3 (allS (Or.inl (mG 0 rfl)) all0))
 have Zn5 := Nat.le_trans Z0 Kp6.1
 have O7 := (O0.keep K3 (allS g_x0 all0))
 have fk8 := (P4.keep K3)
 have fk9 := (P5.keep K3 (ninS ne_x1_x0 nin0))
 have fk10 := (P6.keep K3 (ninS ne_x1_x0 nin0))
 have fk11 := (P9.keep K3 (ninS ne_x3_x0 nin0))
 have sz13 := Nat.le_trans (Keep.refl h0 [x0]).1 s3_0
 have ge12 := Nat.le_trans Z0 sz13
 refine Go.callP X4 hx hZ hown (tw_98 hw) (tw_99 hw) (tw_101 hw) (tw_100 hw) (tw_102 hw) (by decide) (tw_102 hw) (tw_60 hw) (au_98 l Z a0 hw x0 x1 b3_0 x3 k3_0 kk1 gz1 gv5 h3 n0 Zn5 O7 G F3_0 F3_1 F3_3 fk8 fk9 fk10 F3_4 F3_5 fk11 ge12) e4 F3_0 (argsL := [.int 9, .ref x1]) (rest := []) 33 rfl (hml ▸ rfl) (lenOf pd_13 rfl) rfl rfl (W := 0) (nE rfl) (by decide) (by decide) (by decide) (by decide) (hb hby d13_30) ?_
 intro v14 T14 L14 q14 X14
 obtain ⟨h14, e14⟩ : ∃ z, T14.heap = z := ⟨_, rfl⟩
 rw [e14] at q14
 obtain ⟨rfl, N14, K14, F14_0, F14_1⟩ := q14
 show Go _ _ _ _ (T14.setTop (mkF m 33 #[vR x0, vR x1, vI 16] []))
 refine Go.aloadN X14 hx 34 rfl (hb hby d13_33) rfl rfl ?_
 refine Go.dup X14 hx 35 rfl (hb hby d13_34) rfl ?_
 have ne15 := Nat.ne_of_lt (Nat.lt_of_lt_of_le P0.lt s3_0)
 have fk16 := (F3_2.keep K14 (ninS ne15 nin0))
 refine Go.getF X14 hx hZ hown (host := "") (Or.inl (tw_91 hw)) Via.refl e14 fk16 38 rfl (hb hby d13_35) ?_
 intro T17 e17 X17
 refine Go.iloadN X17 hx 39 rfl (hb hby d13_38) rfl ?_
 refine Go.iadd X17 hx 40 rfl (hb hby d13_39) ?_
 rw [show ((9 : Int32) + (16 : Int32)) = (25 : Int32) from by decide]
 have fk18 := (F3_0.keep K14)
 refine Go.putF X17 hx hZ hown (host := "") (Or.inl (tw_91 hw)) Via.refl e17 fk16 fk18 (Or.inl (tw_92 hw)) (tw_51 hw) (ty := .int) (by decide) rfl rfl 43 rfl (hb hby d13_40) ?_
 intro T19 h19 e19 W19 F19 X19
 have N19 := Fr.snoc X19 (Fr.app (Fr.app (Fr.app (Fr.nil n0) N1) N3) N14) g_x0
 refine Go.aloadN X19 hx 44 rfl (hb hby d13_43) rfl rfl ?_
 subst hFF
 refine Go.retR X19 hx hlk (t := (.object s0)) hret rfl rfl (hb hby d13_44) (by decide) (by decide) ?_
 rw [e19]
 have fk20 := (fk18.wr W19)
 have fk21 := ((F3_1.keep K14 (ninS ne15 nin0)).other W19 (Or.inr (slot_ne (Or.inl (tw_67 hw)) (Or.inl (tw_92 hw)) (by decide) (t := .byte) (t' := .int) (by decide) (by decide))))
 have fk22 := ((F3_3.keep K14 (ninS ne15 nin0)).other W19 (Or.inr (slot_ne (Or.inl (tw_65 hw)) (Or.inl (tw_92 hw)) (by decide) (t := (.array .byte)) (t' := .int) (by decide) (by decide))))
 have fk23 := (F14_0.other W19 (Ne.symm ne15))
 have fk24 := (F14_1.wr W19)
 have Kp25 := (Kp6.trans K14 (allS (Or.inr sz13) all0))
 have Kp26 := (Kp25.wr W19 (Or.inl (mG 0 rfl)))
 exact ⟨b3_0, k3_0, rfl, N19, Kp26, sz13, fk20, fk21, F19, fk22, fk23, fk24⟩
theorem au_93 (l : Launch) (Z : State) (a0 : Array Value) (hw : HW a0 Z) (x0 x1 x2 x3 : Addr) (kk0 kk1 : ClassId) (gz1 : Int32) (gv5 : Value) (h0 : Heap) (n0 : Nat) (Z0 : n0 ≤ h0.size) (O0 : Old Z n0 h0) (G : Glob Z gz1 gv5) (P0 : Exa Z h0 x0 s3) (P1 : Fld Z h0 x0 s0 s4 "B" (.int 0)) (P2 : Fld Z h0 x0 s0 "count" "I" (.int 9)) (P3 : Fld Z h0 x0 s0 s5 "[B" (.ref x2)) (P4 : Exa Z h0 x1 s1) (P5 : Fld Z h0 x1 s1 s4 "B" (.int 0)) (P6 : Fld Z h0 x1 s1 s5 "[B" (.ref x3)) (P7 : Arv Z h0 x2 kk0 .byte (16 : Int32) [.int 69, .int 84, .int 97, .int 103, .int 32, .int 110, .int 117, .int 108, .int 108, .int 0, .int 0, .int 0, .int 0, .int 0, .int 0, .int 0] (.int 0)) (P9 : Arv Z h0 x3 kk1 .byte (16 : Int32) [.int 44, .int 32, .int 76, .int 97, .int 115, .int 116, .int 45, .int 77, .int 111, .int 100, .int 105, .int 102, .int 105, .int 101, .int 100, .int 32] (.int (0 : Int32))) (g_x0 : n0 ≤ x0) (ne_x1_x0 : x1 ≠ x0) (ne_x3_x0 : x3 ≠ x0) :
    Ctr l Z ⟨s3, "append", "(Ljava/lang/String;)Ljava/lang/StringBuilder;"⟩ jdk_67_method_7_code 2 (some (.object s3)) (rM 5 1 34 76) #[.ref x0, .ref x1] h0 (fun v h L => ∃ (y0 : Addr) (y1 : ClassId), v = some (.ref x0) ∧ Fr n0 L ∧ Keep h0 h [x0] ∧ h0.size ≤ y0 ∧ Exa Z h x0 s3 ∧ Fld Z h x0 s0 s4 "B" (.int 0) ∧ Fld Z h x0 s0 "count" "I" (.int 25) ∧ Fld Z h x0 s0 s5 "[B" (.ref y0) ∧ Arv Z h y0 y1 .byte (34 : Int32) [.int 69, .int 84, .int 97, .int 103, .int 32, .int 110, .int 117, .int 108, .int 108, .int 44, .int 32, .int 76, .int 97, .int 115, .int 116, .int 45, .int 77, .int 111, .int 100, .int 105, .int 102, .int 105, .int 101, .int 100, .int 32, .int 0, .int 0, .int 0, .int 0, .int 0, .int 0, .int 0, .int 0, .int 0] (.int 0) ∧ Exa Z h y0 "[B") := by
 refine Ctr.of (plainFor_of_name pn_c5) ?_
 intro p e s m below meth c T0 hx hZ hby hml hown hnm hret hlk e0 es X0
 refine Go.cast (ef_12_RR m x0 x1) ?_
 generalize hFF : EndN s _ _ _ = FF
 refine Go.aloadN X0 hx 1 rfl (hb hby d12_0) rfl rfl ?_
 refine Go.aloadN X0 hx 2 rfl (hb hby d12_1) rfl rfl ?_
 refine Go.callUp X0 hx hZ hown (tw_76 hw) (own_sameself (tw_96 hw) rfl (tw_77 hw) (by decide)) (tw_77 hw) (tw_78 hw) (by decide) (tw_80 hw) (tw_80 hw) (tw_60 hw) (au_94 l Z a0 hw x0 x1 x2 x3 kk0 kk1 gz1 gv5 h0 n0 Z0 O0 G P0 P1 P2 P3 P4 P5 P6 P7 P9 g_x0 ne_x1_x0 ne_x3_x0) e0 P0 (argsL := [.ref x1]) (rest := []) 5 rfl (hml ▸ rfl) (lenOf pd_14 rfl) rfl rfl (W := 0) (nE rfl) (by decide) (by decide) (by decide) (by decide) (hb hby d12_2) ?_
 intro v1 T1 L1 q1 X1
 obtain ⟨h1, e1⟩ : ∃ z, T1.heap = z := ⟨_, rfl⟩
 rw [e1] at q1
 obtain ⟨b1_0, k1_0, rfl, N1, K1, s1_0, F1_0, F1_1, F1_2, F1_3, F1_4, F1_5⟩ := q1
 show Go _ _ _ _ (T1.setTop (mkF m 5 #[vR x0, vR x1] [.ref x0]))
 refine Go.pop X1 hx 6 rfl (hb hby d12_5) rfl ?_
 refine Go.aloadN X1 hx 7 rfl (hb hby d12_6) rfl rfl ?_
 subst hFF
 refine Go.retR X1 hx hlk (t := (.object s3)) hret rfl rfl (hb hby d12_7) (by decide) (by decide) ?_
 rw [e1]
 have Kp2 := ((Keep.refl h0 [x0]).trans K1 (allS (Or.inl (mG 0 rfl)) all0))
 have sz3 := Nat.le_trans (Keep.refl h0 [x0]).1 s1_0
 exact ⟨b1_0, k1_0, rfl, (Fr.app (Fr.nil n0) N1), Kp2, sz3, F1_0, F1_1, F1_2, F1_3, F1_4, F1_5⟩
theorem au_103 (l : Launch) (Z : State) (a0 : Array Value) (hw : HW a0 Z) (x0 x1 : Addr) (kk0 : ClassId) (h0 : Heap) (n0 : Nat) (Z0 : n0 ≤ h0.size) (P1 : Fld Z h0 x0 s0 s4 "B" (.int 0)) (P3 : Fld Z h0 x0 s0 s5 "[B" (.ref x1)) (P4 : Arv Z h0 x1 kk0 .byte (34 : Int32) [.int 69, .int 84, .int 97, .int 103, .int 32, .int 110, .int 117, .int 108, .int 108, .int 44, .int 32, .int 76, .int 97, .int 115, .int 116, .int 45, .int 77, .int 111, .int 100, .int 105, .int 102, .int 105, .int 101, .int 100, .int 32, .int 0, .int 0, .int 0, .int 0, .int 0, .int 0, .int 0, .int 0, .int 0] (.int 0)) :
    Ctr l Z ⟨s0, "ensureCapacityInternal", "(I)V"⟩ jdk_68_method_9_code 3 none (rM 0 0 0 0) #[.ref x0, .int 29] h0 (fun v h L => v = none ∧ Fr n0 L ∧ h = h0) := by
 refine Ctr.of (plainFor_of_name pn_c4) ?_
 intro p e s m below meth c T0 hx hZ hby hml hown hnm hret hlk e0 es X0
 refine Go.cast (ef_16_RI m x0 (29 : Int32)) ?_
 generalize hFF : EndN s _ _ _ = FF
 refine Go.aloadN X0 hx 1 rfl (hb hby d16_0) rfl rfl ?_
 refine Go.getF X0 hx hZ hown (host := "") (Or.inl (tw_64 hw)) Via.refl e0 P3 4 rfl (hb hby d16_1) ?_
 intro T1 e1 X1
 refine Go.arraylength X1 hx hZ e1 P4 5 rfl (hb hby d16_4) ?_
 refine Go.aloadN X1 hx 6 rfl (hb hby d16_5) rfl rfl ?_
 refine Go.getF X1 hx hZ hown (host := "") (Or.inl (tw_66 hw)) Via.refl e1 P1 9 rfl (hb hby d16_6) ?_
 intro T2 e2 X2
 refine Go.ishr X2 hx 10 rfl (hb hby d16_9) ?_
 rw [show ((34 : Int32) >>> ((0 : Int32) &&& 31)) = (34 : Int32) from by decide]
 refine Go.istoreN X2 hx 11 rfl (hb hby d16_10) (Ls' := #[vR x0, vI 29, vI 34]) rfl ?_
 refine Go.iloadN X2 hx 12 rfl (hb hby d16_11) rfl ?_
 refine Go.iloadN X2 hx 13 rfl (hb hby d16_12) rfl ?_
 refine Go.isub X2 hx 14 rfl (hb hby d16_13) ?_
 rw [show ((29 : Int32) - (34 : Int32)) = (-5 : Int32) from by decide]
 refine Go.ifYes X2 hx 38 (hb hby d16_14) (by decide) (by decide) (by decide) ?_
 subst hFF
 refine Go.ret0 X2 hx hlk hret (hb hby d16_38) (by decide) (by decide) ?_
 rw [e2]
 exact ⟨rfl, (Fr.nil n0), rfl⟩
theorem au_105 (l : Launch) (Z : State) (a0 : Array Value) (hw : HW a0 Z) (x0 x1 : Addr) (gz1 : Int32) (gv5 : Value) (h0 : Heap) (n0 : Nat) (Z0 : n0 ≤ h0.size) (O0 : Old Z n0 h0) (G : Glob Z gz1 gv5) (P1 : Fld Z h0 x0 s0 s4 "B" (.int 0)) (P4 : Exa Z h0 x1 s1) (P5 : Fld Z h0 x1 s1 s4 "B" (.int 0)) :
    Ctr l Z ⟨s0, "inflateIfNeededFor", "(Ljava/lang/String;)V"⟩ jdk_68_method_71_code 2 none (rM 1 0 0 13) #[.ref x0, .ref x1] h0 (fun v h L => v = none ∧ Fr n0 L ∧ h = h0) := by
 refine Ctr.of (plainFor_of_name pn_c4) ?_
 intro p e s m below meth c T0 hx hZ hby hml hown hnm hret hlk e0 es X0
 have G' := G
 obtain ⟨G0, -, G2, -⟩ := G'
 refine Go.cast (ef_18_RR m x0 x1) ?_
 generalize hFF : EndN s _ _ _ = FF
 have fk1 := G0.ext O0.2
 refine Go.getS X0 hx hZ hown (host := "") (Or.inl (tw_63 hw)) Via.refl e0 fk1 3 rfl (hb hby d18_0) ?_
 intro T2 e2 X2
 refine Go.ifNo X2 hx 6 rfl (hb hby d18_3) (feq G2).1 ?_
 refine Go.aloadN X2 hx 7 rfl (hb hby d18_6) rfl rfl ?_
 refine Go.getF X2 hx hZ hown (host := "") (Or.inl (tw_66 hw)) Via.refl e2 P1 10 rfl (hb hby d18_7) ?_
 intro T3 e3 X3
 refine Go.aloadN X3 hx 11 rfl (hb hby d18_10) rfl rfl ?_
 refine Go.callV X3 hx hZ hown (tw_108 hw) (tw_87 hw) (notFace_of_selects (args := #[]) (mvT hZ (tw_89 hw))) (tw_89 hw) (tw_88 hw) (by decide) (tw_90 hw) (tw_6 hw) (au_25 l Z a0 hw x1 gz1 gv5 h0 n0 Z0 O0 G P5) e3 P4 (argsL := []) (rest := [.int 0]) 14 rfl (hml ▸ rfl) (lenOf pd_9 rfl) rfl rfl (W := 1) (nE rfl) (by decide) (by decide) (by decide) (by decide) (hb hby d18_11) ?_
 intro v4 T4 L4 q4 X4
 obtain ⟨rfl, N4, e4⟩ := q4
 show Go _ _ _ _ (T4.setTop (mkF m 14 #[vR x0, vR x1] [.int 0, .int 0]))
 refine Go.icmpYes X4 hx 21 (hb hby d18_14) (by decide) (by decide) (by decide) ?_
 subst hFF
 refine Go.ret0 X4 hx hlk hret (hb hby d18_21) (by decide) (by decide) ?_
 rw [e4]
 exact ⟨rfl, (Fr.app (Fr.nil n0) N4), rfl⟩
theorem au_106 (l : Launch) (Z : State) (a0 : Array Value) (hw : HW a0 Z) (x0 x1 x2 : Addr) (kk0 kk1 : ClassId) (p0 p1 p2 p3 gz1 : Int32) (gv5 : Value) (h0 : Heap) (n0 : Nat) (Z0 : n0 ≤ h0.size) (O0 : Old Z n0 h0) (G : Glob Z gz1 gv5) (P0 : Exa Z h0 x0 s1) (P1 : Fld Z h0 x0 s1 s4 "B" (.int 0)) (P2 : Fld Z h0 x0 s1 s5 "[B" (.ref x2)) (P3 : Arv Z h0 x1 kk0 .byte (34 : Int32) [.int 69, .int 84, .int 97, .int 103, .int 32, .int 110, .int 117, .int 108, .int 108, .int 44, .int 32, .int 76, .int 97, .int 115, .int 116, .int 45, .int 77, .int 111, .int 100, .int 105, .int 102, .int 105, .int 101, .int 100, .int 32, .int 0, .int 0, .int 0, .int 0, .int 0, .int 0, .int 0, .int 0, .int 0] (.int 0)) (P4 : Exa Z h0 x1 "[B") (P5 : Arv Z h0 x2 kk1 .byte (4 : Int32) [.int p0, .int p1, .int p2, .int p3] (.int 0)) (g_x1 : n0 ≤ x1) :
    Ctr l Z ⟨s1, "getBytes", "([BIB)V"⟩ jdk_42_method_147_code 4 none (rM 1 0 0 18) #[.ref x0, .ref x1, .int 25, .int 0] h0 (fun v h L => v = none ∧ Fr n0 L ∧ Keep h0 h [x1] ∧ Arv Z h x1 kk0 .byte (34 : Int32) [.int 69, .int 84, .int 97, .int 103, .int 32, .int 110, .int 117, .int 108, .int 108, .int 44, .int 32, .int 76, .int 97, .int 115, .int 116, .int 45, .int 77, .int 111, .int 100, .int 105, .int 102, .int 105, .int 101, .int 100, .int 32, .int p0, .int p1, .int p2, .int p3, .int 0, .int 0, .int 0, .int 0, .int 0] (.int 0) ∧ Exa Z h x1 "[B") := by
 refine Ctr.of (plainFor_of_name pn_c2) ?_
 intro p e s m below meth c T0 hx hZ hby hml hown hnm hret hlk e0 es X0
 refine Go.cast (ef_19_RRII m x0 x1 (25 : Int32) (0 : Int32)) ?_
 generalize hFF : EndN s _ _ _ = FF
 refine Go.aloadN X0 hx 1 rfl (hb hby d19_0) rfl rfl ?_
 refine Go.callV X0 hx hZ hown (tw_86 hw) (tw_87 hw) (notFace_of_selects (args := #[]) (mvT hZ (tw_89 hw))) (tw_89 hw) (tw_88 hw) (by decide) (tw_90 hw) (tw_6 hw) (au_25 l Z a0 hw x0 gz1 gv5 h0 n0 Z0 O0 G P1) e0 P0 (argsL := []) (rest := []) 4 rfl (hml ▸ rfl) (lenOf pd_9 rfl) rfl rfl (W := 0) (nE rfl) (by decide) (by decide) (by decide) (by decide) (hb hby d19_1) ?_
 intro v1 T1 L1 q1 X1
 obtain ⟨rfl, N1, e1⟩ := q1
 show Go _ _ _ _ (T1.setTop (mkF m 4 #[vR x0, vR x1, vI 25, vI 0] [.int 0]))
 refine Go.iloadN X1 hx 5 rfl (hb hby d19_4) rfl ?_
 refine Go.icmpNo X1 hx 8 rfl (hb hby d19_5) (by decide) ?_
 refine Go.aloadN X1 hx 9 rfl (hb hby d19_8) rfl rfl ?_
 refine Go.getF X1 hx hZ hown (host := "") (Or.inl (tw_32 hw)) Via.refl e1 P2 12 rfl (hb hby d19_9) ?_
 intro T2 e2 X2
 refine Go.iconst X2 hx 13 rfl (hb hby d19_12) (v := (0 : Int32)) rfl ?_
 refine Go.aloadN X2 hx 14 rfl (hb hby d19_13) rfl rfl ?_
 refine Go.iloadN X2 hx 15 rfl (hb hby d19_14) rfl ?_
 refine Go.iloadN X2 hx 16 rfl (hb hby d19_15) rfl ?_
 refine Go.ishl X2 hx 17 rfl (hb hby d19_16) ?_
 rw [show ((25 : Int32) <<< ((0 : Int32) &&& 31)) = (25 : Int32) from by decide]
 refine Go.aloadN X2 hx 18 rfl (hb hby d19_17) rfl rfl ?_
 refine Go.getF X2 hx hZ hown (host := "") (Or.inl (tw_32 hw)) Via.refl e2 P2 21 rfl (hb hby d19_18) ?_
 intro T3 e3 X3
 refine Go.arraylength X3 hx hZ e3 P5 22 rfl (hb hby d19_21) ?_
 refine Go.arraycopy X3 hx hZ hown (tw_114 hw) (tw_117 hw) (tw_115 hw) (tw_116 hw) e3 P5 P3 rfl (sp := (0 : Int32)) (dp := (25 : Int32)) (nn := (4 : Int32)) (us := [.int p0, .int p1, .int p2, .int p3]) (by decide) (by decide) (by decide) (by decide) (by decide) rfl (nB rfl) (Fr.app (Fr.nil n0) N1) g_x1 (by decide) (W := 0) (hml ▸ rfl) (nE rfl) (by decide) (pc' := 25) rfl (hb hby d19_22) ?_
 intro T4 h4 L4 e4 N4 K4 V4 X4
 have V4' : Arv Z h4 x1 kk0 .byte (34 : Int32) [.int 69, .int 84, .int 97, .int 103, .int 32, .int 110, .int 117, .int 108, .int 108, .int 44, .int 32, .int 76, .int 97, .int 115, .int 116, .int 45, .int 77, .int 111, .int 100, .int 105, .int 102, .int 105, .int 101, .int 100, .int 32, .int p0, .int p1, .int p2, .int p3, .int 0, .int 0, .int 0, .int 0, .int 0] (.int 0) := V4
 refine Go.goto X4 hx 43 (hb hby d19_25) (by decide) (by decide) ?_
 subst hFF
 refine Go.ret0 X4 hx hlk hret (hb hby d19_43) (by decide) (by decide) ?_
 rw [e4]
 have fk5 := (P4.keep K4)
 have Kp6 := ((Keep.refl h0 [x1]).trans K4 (allS (Or.inl (mG 0 rfl)) all0))
 exact ⟨rfl, N4, Kp6, V4', fk5⟩
theorem au_104 (l : Launch) (Z : State) (a0 : Array Value) (hw : HW a0 Z) (x0 x1 x2 x3 : Addr) (kk0 kk1 : ClassId) (p0 p1 p2 p3 gz1 : Int32) (gv5 : Value) (h0 : Heap) (n0 : Nat) (Z0 : n0 ≤ h0.size) (O0 : Old Z n0 h0) (G : Glob Z gz1 gv5) (P0 : Exa Z h0 x0 s3) (P1 : Fld Z h0 x0 s0 s4 "B" (.int 0)) (P3 : Fld Z h0 x0 s0 s5 "[B" (.ref x2)) (P4 : Exa Z h0 x1 s1) (P5 : Fld Z h0 x1 s1 s4 "B" (.int 0)) (P6 : Fld Z h0 x1 s1 s5 "[B" (.ref x3)) (P7 : Arv Z h0 x2 kk0 .byte (34 : Int32) [.int 69, .int 84, .int 97, .int 103, .int 32, .int 110, .int 117, .int 108, .int 108, .int 44, .int 32, .int 76, .int 97, .int 115, .int 116, .int 45, .int 77, .int 111, .int 100, .int 105, .int 102, .int 105, .int 101, .int 100, .int 32, .int 0, .int 0, .int 0, .int 0, .int 0, .int 0, .int 0, .int 0, .int 0] (.int 0)) (P8 : Exa Z h0 x2 "[B") (P9 : Arv Z h0 x3 kk1 .byte (4 : Int32) [.int p0, .int p1, .int p2, .int p3] (.int 0)) (g_x2 : n0 ≤ x2) :
    Ctr l Z ⟨s0, "putStringAt", "(ILjava/lang/String;)V"⟩ jdk_68_method_73_code 3 none (rM 2 0 0 33) #[.ref x0, .int 25, .ref x1] h0 (fun v h L => v = none ∧ Fr n0 L ∧ Keep h0 h [x2] ∧ Arv Z h x2 kk0 .byte (34 : Int32) [.int 69, .int 84, .int 97, .int 103, .int 32, .int 110, .int 117, .int 108, .int 108, .int 44, .int 32, .int 76, .int 97, .int 115, .int 116, .int 45, .int 77, .int 111, .int 100, .int 105, .int 102, .int 105, .int 101, .int 100, .int 32, .int p0, .int p1, .int p2, .int p3, .int 0, .int 0, .int 0, .int 0, .int 0] (.int 0) ∧ Exa Z h x2 "[B") := by
 refine Ctr.of (plainFor_of_name pn_c4) ?_
 intro p e s m below meth c T0 hx hZ hby hml hown hnm hret hlk e0 es X0
 refine Go.cast (ef_17_RIR m x0 (25 : Int32) x1) ?_
 generalize hFF : EndN s _ _ _ = FF
 refine Go.aloadN X0 hx 1 rfl (hb hby d17_0) rfl rfl ?_
 refine Go.aloadN X0 hx 2 rfl (hb hby d17_1) rfl rfl ?_
 refine Go.callP X0 hx hZ hown (tw_103 hw) (tw_104 hw) (tw_106 hw) (tw_105 hw) (tw_107 hw) (by decide) (tw_107 hw) (tw_60 hw) (au_105 l Z a0 hw x0 x1 gz1 gv5 h0 n0 Z0 O0 G P1 P4 P5) e0 P0 (argsL := [.ref x1]) (rest := []) 5 rfl (hml ▸ rfl) (lenOf pd_11 rfl) rfl rfl (W := 0) (nE rfl) (by decide) (by decide) (by decide) (by decide) (hb hby d17_2) ?_
 intro v1 T1 L1 q1 X1
 obtain ⟨rfl, N1, e1⟩ := q1
 show Go _ _ _ _ (T1.setTop (mkF m 5 #[vR x0, vI 25, vR x1] []))
 refine Go.aloadN X1 hx 6 rfl (hb hby d17_5) rfl rfl ?_
 refine Go.aloadN X1 hx 7 rfl (hb hby d17_6) rfl rfl ?_
 refine Go.getF X1 hx hZ hown (host := "") (Or.inl (tw_64 hw)) Via.refl e1 P3 10 rfl (hb hby d17_7) ?_
 intro T2 e2 X2
 refine Go.iloadN X2 hx 11 rfl (hb hby d17_10) rfl ?_
 refine Go.aloadN X2 hx 12 rfl (hb hby d17_11) rfl rfl ?_
 refine Go.getF X2 hx hZ hown (host := "") (Or.inl (tw_66 hw)) Via.refl e2 P1 15 rfl (hb hby d17_12) ?_
 intro T3 e3 X3
 refine Go.callV X3 hx hZ hown (tw_109 hw) (tw_110 hw) (notFace_of_selects (args := #[]) (mvT hZ (tw_112 hw))) (tw_112 hw) (tw_111 hw) (by decide) (tw_113 hw) (tw_6 hw) (au_106 l Z a0 hw x1 x2 x3 kk0 kk1 p0 p1 p2 p3 gz1 gv5 h0 n0 Z0 O0 G P4 P5 P6 P7 P8 P9 g_x2) e3 P4 (argsL := [.ref x2, .int 25, .int 0]) (rest := []) 18 rfl (hml ▸ rfl) (lenOf pd_12 rfl) rfl rfl (W := 0) (nE rfl) (by decide) (by decide) (by decide) (by decide) (hb hby d17_15) ?_
 intro v4 T4 L4 q4 X4
 obtain ⟨h4, e4⟩ : ∃ z, T4.heap = z := ⟨_, rfl⟩
 rw [e4] at q4
 obtain ⟨rfl, N4, K4, F4_0, F4_1⟩ := q4
 show Go _ _ _ _ (T4.setTop (mkF m 18 #[vR x0, vI 25, vR x1] []))
 subst hFF
 refine Go.ret0 X4 hx hlk hret (hb hby d17_18) (by decide) (by decide) ?_
 rw [e4]
 have Kp5 := ((Keep.refl h0 [x2]).trans K4 (allS (Or.inl (mG 0 rfl)) all0))
 exact ⟨rfl, (Fr.app (Fr.app (Fr.nil n0) N1) N4), Kp5, F4_0, F4_1⟩
theorem au_102 (l : Launch) (Z : State) (a0 : Array Value) (hw : HW a0 Z) (x0 x1 x2 x3 : Addr) (kk0 kk1 : ClassId) (p0 p1 p2 p3 gz1 : Int32) (gv5 : Value) (h0 : Heap) (n0 : Nat) (Z0 : n0 ≤ h0.size) (O0 : Old Z n0 h0) (G : Glob Z gz1 gv5) (P0 : Exa Z h0 x0 s3) (P1 : Fld Z h0 x0 s0 s4 "B" (.int 0)) (P2 : Fld Z h0 x0 s0 "count" "I" (.int 25)) (P3 : Fld Z h0 x0 s0 s5 "[B" (.ref x2)) (P4 : Exa Z h0 x1 s1) (P5 : Fld Z h0 x1 s1 s4 "B" (.int 0)) (P6 : Fld Z h0 x1 s1 s5 "[B" (.ref x3)) (P7 : Arv Z h0 x2 kk0 .byte (34 : Int32) [.int 69, .int 84, .int 97, .int 103, .int 32, .int 110, .int 117, .int 108, .int 108, .int 44, .int 32, .int 76, .int 97, .int 115, .int 116, .int 45, .int 77, .int 111, .int 100, .int 105, .int 102, .int 105, .int 101, .int 100, .int 32, .int 0, .int 0, .int 0, .int 0, .int 0, .int 0, .int 0, .int 0, .int 0] (.int 0)) (P8 : Exa Z h0 x2 "[B") (P9 : Arv Z h0 x3 kk1 .byte (4 : Int32) [.int p0, .int p1, .int p2, .int p3] (.int 0)) (g_x2 : n0 ≤ x2) (g_x0 : n0 ≤ x0) (ne_x0_x2 : x0 ≠ x2) :
    Ctr l Z ⟨s0, "append", "(Ljava/lang/String;)Ljava/lang/AbstractStringBuilder;"⟩ jdk_68_method_22_code 3 (some (.object s0)) (rM 3 0 0 47) #[.ref x0, .ref x1] h0 (fun v h L => v = some (.ref x0) ∧ Fr n0 L ∧ Keep h0 h [x0, x2] ∧ Exa Z h x0 s3 ∧ Fld Z h x0 s0 s4 "B" (.int 0) ∧ Fld Z h x0 s0 "count" "I" (.int 29) ∧ Fld Z h x0 s0 s5 "[B" (.ref x2) ∧ Arv Z h x2 kk0 .byte (34 : Int32) [.int 69, .int 84, .int 97, .int 103, .int 32, .int 110, .int 117, .int 108, .int 108, .int 44, .int 32, .int 76, .int 97, .int 115, .int 116, .int 45, .int 77, .int 111, .int 100, .int 105, .int 102, .int 105, .int 101, .int 100, .int 32, .int p0, .int p1, .int p2, .int p3, .int 0, .int 0, .int 0, .int 0, .int 0] (.int 0) ∧ Exa Z h x2 "[B") := by
 refine Ctr.of (plainFor_of_name pn_c4) ?_
 intro p e s m below meth c T0 hx hZ hby hml hown hnm hret hlk e0 es X0
 refine Go.cast (ef_13_RR m x0 x1) ?_
 generalize hFF : EndN s _ _ _ = FF
 refine Go.aloadN X0 hx 1 rfl (hb hby d13_0) rfl rfl ?_
 refine Go.ifnonnullYes X0 hx 9 (hb hby d13_1) (by decide) (by decide) ?_
 refine Go.aloadN X0 hx 10 rfl (hb hby d13_9) rfl rfl ?_
 refine Go.callV X0 hx hZ hown (tw_81 hw) (tw_82 hw) (notFace_of_selects (args := #[]) (mvT hZ (tw_84 hw))) (tw_84 hw) (tw_83 hw) (by decide) (tw_85 hw) (tw_6 hw) (au_24 l Z a0 hw x1 x3 kk1 p0 p1 p2 p3 gz1 gv5 h0 n0 Z0 O0 G P4 P5 P6 P9) e0 P4 (argsL := []) (rest := []) 13 rfl (hml ▸ rfl) (lenOf pd_10 rfl) rfl rfl (W := 0) (nE rfl) (by decide) (by decide) (by decide) (by decide) (hb hby d13_10) ?_
 intro v1 T1 L1 q1 X1
 obtain ⟨rfl, N1, e1⟩ := q1
 show Go _ _ _ _ (T1.setTop (mkF m 13 #[vR x0, vR x1, uS] [.int 4]))
 refine Go.istoreN X1 hx 14 rfl (hb hby d13_13) (Ls' := #[vR x0, vR x1, vI 4]) rfl ?_
 refine Go.aloadN X1 hx 15 rfl (hb hby d13_14) rfl rfl ?_
 refine Go.aloadN X1 hx 16 rfl (hb hby d13_15) rfl rfl ?_
 refine Go.getF X1 hx hZ hown (host := "") (Or.inl (tw_91 hw)) Via.refl e1 P2 19 rfl (hb hby d13_16) ?_
 intro T2 e2 X2
 refine Go.iloadN X2 hx 20 rfl (hb hby d13_19) rfl ?_
 refine Go.iadd X2 hx 21 rfl (hb hby d13_20) ?_
 rw [show ((25 : Int32) + (4 : Int32)) = (29 : Int32) from by decide]
 refine Go.callP X2 hx hZ hown (tw_93 hw) (tw_94 hw) (tw_96 hw) (tw_95 hw) (tw_97 hw) (by decide) (tw_97 hw) (tw_60 hw) (au_103 l Z a0 hw x0 x2 kk0 h0 n0 Z0 P1 P3 P7) e2 P0 (argsL := [.int 29]) (rest := []) 24 rfl (hml ▸ rfl) (lenOf pd_7 rfl) rfl rfl (W := 0) (nE rfl) (by decide) (by decide) (by decide) (by decide) (hb hby d13_21) ?_
 intro v3 T3 L3 q3 X3
 obtain ⟨rfl, N3, e3⟩ := q3
 show Go _ _ _ _ (T3.setTop (mkF m 24 #[vR x0, vR x1, vI 4] []))
 refine Go.aloadN X3 hx 25 rfl (hb hby d13_24) rfl rfl ?_
 refine Go.aloadN X3 hx 26 rfl (hb hby d13_25) rfl rfl ?_
 refine Go.getF X3 hx hZ hown (host := "") (Or.inl (tw_91 hw)) Via.refl e3 P2 29 rfl (hb hby d13_26) ?_
 intro T4 e4 X4
 refine Go.aloadN X4 hx 30 rfl (hb hby d13_29) rfl rfl ?_
 refine Go.callP X4 hx hZ hown (tw_98 hw) (tw_99 hw) (tw_101 hw) (tw_100 hw) (tw_102 hw) (by decide) (tw_102 hw) (tw_60 hw) (au_104 l Z a0 hw x0 x1 x2 x3 kk0 kk1 p0 p1 p2 p3 gz1 gv5 h0 n0 Z0 O0 G P0 P1 P3 P4 P5 P6 P7 P8 P9 g_x2) e4 P0 (argsL := [.int 25, .ref x1]) (rest := []) 33 rfl (hml ▸ rfl) (lenOf pd_13 rfl) rfl rfl (W := 0) (nE rfl) (by decide) (by decide) (by decide) (by decide) (hb hby d13_30) ?_
 intro v5 T5 L5 q5 X5
 obtain ⟨h5, e5⟩ : ∃ z, T5.heap = z := ⟨_, rfl⟩
 rw [e5] at q5
 obtain ⟨rfl, N5, K5, F5_0, F5_1⟩ := q5
 show Go _ _ _ _ (T5.setTop (mkF m 33 #[vR x0, vR x1, vI 4] []))
 refine Go.aloadN X5 hx 34 rfl (hb hby d13_33) rfl rfl ?_
 refine Go.dup X5 hx 35 rfl (hb hby d13_34) rfl ?_
 have fk6 := (P2.keep K5 (ninS ne_x0_x2 nin0))
 refine Go.getF X5 hx hZ hown (host := "") (Or.inl (tw_91 hw)) Via.refl e5 fk6 38 rfl (hb hby d13_35) ?_
 intro T7 e7 X7
 refine Go.iloadN X7 hx 39 rfl (hb hby d13_38) rfl ?_
 refine Go.iadd X7 hx 40 rfl (hb hby d13_39) ?_
 rw [show ((25 : Int32) + (4 : Int32)) = (29 : Int32) from by decide]
 have fk8 := (P0.keep K5)
 refine Go.putF X7 hx hZ hown (host := "") (Or.inl (tw_91 hw)) Via.refl e7 fk6 fk8 (Or.inl (tw_92 hw)) (tw_51 hw) (ty := .int) (by decide) rfl rfl 43 rfl (hb hby d13_40) ?_
 intro T9 h9 e9 W9 F9 X9
 have N9 := Fr.snoc X9 (Fr.app (Fr.app (Fr.app (Fr.nil n0) N1) N3) N5) g_x0
 refine Go.aloadN X9 hx 44 rfl (hb hby d13_43) rfl rfl ?_
 subst hFF
 refine Go.retR X9 hx hlk (t := (.object s0)) hret rfl rfl (hb hby d13_44) (by decide) (by decide) ?_
 rw [e9]
 have fk10 := (fk8.wr W9)
 have fk11 := ((P1.keep K5 (ninS ne_x0_x2 nin0)).other W9 (Or.inr (slot_ne (Or.inl (tw_67 hw)) (Or.inl (tw_92 hw)) (by decide) (t := .byte) (t' := .int) (by decide) (by decide))))
 have fk12 := ((P3.keep K5 (ninS ne_x0_x2 nin0)).other W9 (Or.inr (slot_ne (Or.inl (tw_65 hw)) (Or.inl (tw_92 hw)) (by decide) (t := (.array .byte)) (t' := .int) (by decide) (by decide))))
 have fk13 := (F5_0.other W9 (Ne.symm ne_x0_x2))
 have fk14 := (F5_1.wr W9)
 have Kp15 := ((Keep.refl h0 [x0, x2]).trans K5 (allS (Or.inl (mG 1 rfl)) all0))
 have Kp16 := (Kp15.wr W9 (Or.inl (mG 0 rfl)))
 exact ⟨rfl, N9, Kp16, fk10, fk11, F9, fk12, fk13, fk14⟩
theorem au_101 (l : Launch) (Z : State) (a0 : Array Value) (hw : HW a0 Z) (x0 x1 x2 x3 : Addr) (kk0 kk1 : ClassId) (p0 p1 p2 p3 gz1 : Int32) (gv5 : Value) (h0 : Heap) (n0 : Nat) (Z0 : n0 ≤ h0.size) (O0 : Old Z n0 h0) (G : Glob Z gz1 gv5) (P0 : Exa Z h0 x0 s3) (P1 : Fld Z h0 x0 s0 s4 "B" (.int 0)) (P2 : Fld Z h0 x0 s0 "count" "I" (.int 25)) (P3 : Fld Z h0 x0 s0 s5 "[B" (.ref x2)) (P4 : Exa Z h0 x1 s1) (P5 : Fld Z h0 x1 s1 s4 "B" (.int 0)) (P6 : Fld Z h0 x1 s1 s5 "[B" (.ref x3)) (P7 : Arv Z h0 x2 kk0 .byte (34 : Int32) [.int 69, .int 84, .int 97, .int 103, .int 32, .int 110, .int 117, .int 108, .int 108, .int 44, .int 32, .int 76, .int 97, .int 115, .int 116, .int 45, .int 77, .int 111, .int 100, .int 105, .int 102, .int 105, .int 101, .int 100, .int 32, .int 0, .int 0, .int 0, .int 0, .int 0, .int 0, .int 0, .int 0, .int 0] (.int 0)) (P8 : Exa Z h0 x2 "[B") (P9 : Arv Z h0 x3 kk1 .byte (4 : Int32) [.int p0, .int p1, .int p2, .int p3] (.int 0)) (g_x2 : n0 ≤ x2) (g_x0 : n0 ≤ x0) (ne_x0_x2 : x0 ≠ x2) :
    Ctr l Z ⟨s3, "append", "(Ljava/lang/String;)Ljava/lang/StringBuilder;"⟩ jdk_67_method_7_code 2 (some (.object s3)) (rM 4 0 0 61) #[.ref x0, .ref x1] h0 (fun v h L => v = some (.ref x0) ∧ Fr n0 L ∧ Keep h0 h [x0, x2] ∧ Exa Z h x0 s3 ∧ Fld Z h x0 s0 s4 "B" (.int 0) ∧ Fld Z h x0 s0 "count" "I" (.int 29) ∧ Fld Z h x0 s0 s5 "[B" (.ref x2) ∧ Arv Z h x2 kk0 .byte (34 : Int32) [.int 69, .int 84, .int 97, .int 103, .int 32, .int 110, .int 117, .int 108, .int 108, .int 44, .int 32, .int 76, .int 97, .int 115, .int 116, .int 45, .int 77, .int 111, .int 100, .int 105, .int 102, .int 105, .int 101, .int 100, .int 32, .int p0, .int p1, .int p2, .int p3, .int 0, .int 0, .int 0, .int 0, .int 0] (.int 0) ∧ Exa Z h x2 "[B") := by
 refine Ctr.of (plainFor_of_name pn_c5) ?_
 intro p e s m below meth c T0 hx hZ hby hml hown hnm hret hlk e0 es X0
 refine Go.cast (ef_12_RR m x0 x1) ?_
 generalize hFF : EndN s _ _ _ = FF
 refine Go.aloadN X0 hx 1 rfl (hb hby d12_0) rfl rfl ?_
 refine Go.aloadN X0 hx 2 rfl (hb hby d12_1) rfl rfl ?_
 refine Go.callUp X0 hx hZ hown (tw_76 hw) (own_sameself (tw_96 hw) rfl (tw_77 hw) (by decide)) (tw_77 hw) (tw_78 hw) (by decide) (tw_80 hw) (tw_80 hw) (tw_60 hw) (au_102 l Z a0 hw x0 x1 x2 x3 kk0 kk1 p0 p1 p2 p3 gz1 gv5 h0 n0 Z0 O0 G P0 P1 P2 P3 P4 P5 P6 P7 P8 P9 g_x2 g_x0 ne_x0_x2) e0 P0 (argsL := [.ref x1]) (rest := []) 5 rfl (hml ▸ rfl) (lenOf pd_14 rfl) rfl rfl (W := 0) (nE rfl) (by decide) (by decide) (by decide) (by decide) (hb hby d12_2) ?_
 intro v1 T1 L1 q1 X1
 obtain ⟨h1, e1⟩ : ∃ z, T1.heap = z := ⟨_, rfl⟩
 rw [e1] at q1
 obtain ⟨rfl, N1, K1, F1_0, F1_1, F1_2, F1_3, F1_4, F1_5⟩ := q1
 show Go _ _ _ _ (T1.setTop (mkF m 5 #[vR x0, vR x1] [.ref x0]))
 refine Go.pop X1 hx 6 rfl (hb hby d12_5) rfl ?_
 refine Go.aloadN X1 hx 7 rfl (hb hby d12_6) rfl rfl ?_
 subst hFF
 refine Go.retR X1 hx hlk (t := (.object s3)) hret rfl rfl (hb hby d12_7) (by decide) (by decide) ?_
 rw [e1]
 have Kp2 := ((Keep.refl h0 [x0, x2]).trans K1 (allS (Or.inl (mG 0 rfl)) (allS (Or.inl (mG 1 rfl)) all0)))
 exact ⟨rfl, (Fr.app (Fr.nil n0) N1), Kp2, F1_0, F1_1, F1_2, F1_3, F1_4, F1_5⟩
theorem au_110 (l : Launch) (Z : State) (a0 : Array Value) (hw : HW a0 Z) (x0 x1 : Addr) (h0 : Heap) (n0 : Nat) (Z0 : n0 ≤ h0.size) (P3 : Fld Z h0 x0 s0 s5 "[B" (.ref x1)) :
    Ctr l Z ⟨s0, "getValue", "()[B"⟩ jdk_68_method_64_code 1 (some (.array .byte)) (rM 0 0 0 0) #[.ref x0] h0 (fun v h L => v = some (.ref x1) ∧ Fr n0 L ∧ h = h0) := by
 refine Ctr.of (plainFor_of_name pn_c4) ?_
 intro p e s m below meth c T0 hx hZ hby hml hown hnm hret hlk e0 es X0
 refine Go.cast (ef_28_R m x0) ?_
 generalize hFF : EndN s _ _ _ = FF
 refine Go.aloadN X0 hx 1 rfl (hb hby d28_0) rfl rfl ?_
 refine Go.getF X0 hx hZ hown (host := "") (Or.inl (tw_64 hw)) Via.refl e0 P3 4 rfl (hb hby d28_1) ?_
 intro T1 e1 X1
 subst hFF
 refine Go.retR X1 hx hlk (t := (.array .byte)) hret rfl rfl (hb hby d28_4) (by decide) (by decide) ?_
 rw [e1]
 exact ⟨rfl, (Fr.nil n0), rfl⟩
theorem au_112 (l : Launch) (Z : State) (a0 : Array Value) (hw : HW a0 Z) (x0 : Addr) (h0 : Heap) (n0 : Nat) (Z0 : n0 ≤ h0.size) (P2 : Fld Z h0 x0 s0 "count" "I" (.int 29)) :
    Ctr l Z ⟨s0, "length", "()I"⟩ jdk_68_method_6_code 1 (some .int) (rM 0 0 0 0) #[.ref x0] h0 (fun v h L => v = some (.int 29) ∧ Fr n0 L ∧ h = h0) := by
 refine Ctr.of (plainFor_of_name pn_c4) ?_
 intro p e s m below meth c T0 hx hZ hby hml hown hnm hret hlk e0 es X0
 refine Go.cast (ef_30_R m x0) ?_
 generalize hFF : EndN s _ _ _ = FF
 refine Go.aloadN X0 hx 1 rfl (hb hby d30_0) rfl rfl ?_
 refine Go.getF X0 hx hZ hown (host := "") (Or.inl (tw_91 hw)) Via.refl e0 P2 4 rfl (hb hby d30_1) ?_
 intro T1 e1 X1
 subst hFF
 refine Go.retI X1 hx hlk hret (hb hby d30_4) (by decide) (by decide) ?_
 rw [e1]
 exact ⟨rfl, (Fr.nil n0), rfl⟩
theorem au_111 (l : Launch) (Z : State) (a0 : Array Value) (hw : HW a0 Z) (x0 : Addr) (h0 : Heap) (n0 : Nat) (Z0 : n0 ≤ h0.size) (P0 : Exa Z h0 x0 s3) (P2 : Fld Z h0 x0 s0 "count" "I" (.int 29)) :
    Ctr l Z ⟨s3, "length", "()I"⟩ jdk_67_method_93_code 1 (some .int) (rM 1 0 0 12) #[.ref x0] h0 (fun v h L => v = some (.int 29) ∧ Fr n0 L ∧ h = h0) := by
 refine Ctr.of (plainFor_of_name pn_c5) ?_
 intro p e s m below meth c T0 hx hZ hby hml hown hnm hret hlk e0 es X0
 refine Go.cast (ef_29_R m x0) ?_
 generalize hFF : EndN s _ _ _ = FF
 refine Go.aloadN X0 hx 1 rfl (hb hby d29_0) rfl rfl ?_
 refine Go.callUp X0 hx hZ hown (tw_165 hw) (own_sameself (tw_96 hw) rfl (tw_161 hw) (by decide)) (tw_161 hw) (tw_78 hw) (by decide) (tw_166 hw) (tw_166 hw) (tw_60 hw) (au_112 l Z a0 hw x0 h0 n0 Z0 P2) e0 P0 (argsL := []) (rest := []) 4 rfl (hml ▸ rfl) (lenOf pd_10 rfl) rfl rfl (W := 0) (nE rfl) (by decide) (by decide) (by decide) (by decide) (hb hby d29_1) ?_
 intro v1 T1 L1 q1 X1
 obtain ⟨rfl, N1, e1⟩ := q1
 show Go _ _ _ _ (T1.setTop (mkF m 4 #[vR x0] [.int 29]))
 subst hFF
 refine Go.retI X1 hx hlk hret (hb hby d29_4) (by decide) (by decide) ?_
 rw [e1]
 exact ⟨rfl, (Fr.app (Fr.nil n0) N1), rfl⟩
theorem au_113 (l : Launch) (Z : State) (a0 : Array Value) (hw : HW a0 Z) (x0 : Addr) (gz1 : Int32) (gv5 : Value) (h0 : Heap) (n0 : Nat) (Z0 : n0 ≤ h0.size) (O0 : Old Z n0 h0) (G : Glob Z gz1 gv5) (P1 : Fld Z h0 x0 s0 s4 "B" (.int 0)) :
    Ctr l Z ⟨s0, "isLatin1", "()Z"⟩ jdk_68_method_68_code 1 (some .boolean) (rM 0 0 0 0) #[.ref x0] h0 (fun v h L => v = some (.int 1) ∧ Fr n0 L ∧ h = h0) := by
 refine Ctr.of (plainFor_of_name pn_c4) ?_
 intro p e s m below meth c T0 hx hZ hby hml hown hnm hret hlk e0 es X0
 have G' := G
 obtain ⟨G0, -, G2, -⟩ := G'
 refine Go.cast (ef_31_R m x0) ?_
 generalize hFF : EndN s _ _ _ = FF
 have fk1 := G0.ext O0.2
 refine Go.getS X0 hx hZ hown (host := "") (Or.inl (tw_63 hw)) Via.refl e0 fk1 3 rfl (hb hby d31_0) ?_
 intro T2 e2 X2
 refine Go.ifNo X2 hx 6 rfl (hb hby d31_3) (feq G2).1 ?_
 refine Go.aloadN X2 hx 7 rfl (hb hby d31_6) rfl rfl ?_
 refine Go.getF X2 hx hZ hown (host := "") (Or.inl (tw_66 hw)) Via.refl e2 P1 10 rfl (hb hby d31_7) ?_
 intro T3 e3 X3
 refine Go.ifNo X3 hx 13 rfl (hb hby d31_10) (by decide) ?_
 refine Go.iconst X3 hx 14 rfl (hb hby d31_13) (v := (1 : Int32)) rfl ?_
 refine Go.goto X3 hx 18 (hb hby d31_14) (by decide) (by decide) ?_
 subst hFF
 refine Go.retN X3 hx hlk (t := .boolean) hret (by simp) (hb hby d31_18) (by decide) (by decide) ?_
 rw [e3]
 exact ⟨(congrArg (fun z => some (Value.int z)) (by decide : nar .boolean (1 : Int32) = (1 : Int32))), (Fr.nil n0), rfl⟩
theorem au_115 (l : Launch) (Z : State) (a0 : Array Value) (hw : HW a0 Z) (x0 : Addr) (kk0 : ClassId) (p0 p1 p2 p3 : Int32) (h0 : Heap) (n0 : Nat) (Z0 : n0 ≤ h0.size) (P0 : Arv Z h0 x0 kk0 .byte (34 : Int32) [.int 69, .int 84, .int 97, .int 103, .int 32, .int 110, .int 117, .int 108, .int 108, .int 44, .int 32, .int 76, .int 97, .int 115, .int 116, .int 45, .int 77, .int 111, .int 100, .int 105, .int 102, .int 105, .int 101, .int 100, .int 32, .int p0, .int p1, .int p2, .int p3, .int 0, .int 0, .int 0, .int 0, .int 0] (.int 0)) :
    Ctr l Z ⟨"java/util/Arrays", "copyOfRangeByte", "([BII)[B"⟩ jdk_65_method_133_code 5 (some (.array .byte)) (rM 1 1 29 18) #[.ref x0, .int 0, .int 29] h0 (fun v h L => ∃ (y0 : Addr) (y1 : ClassId), v = some (.ref y0) ∧ Fr n0 L ∧ Keep h0 h [] ∧ h0.size ≤ y0 ∧ Arv Z h y0 y1 .byte (29 : Int32) [.int 69, .int 84, .int 97, .int 103, .int 32, .int 110, .int 117, .int 108, .int 108, .int 44, .int 32, .int 76, .int 97, .int 115, .int 116, .int 45, .int 77, .int 111, .int 100, .int 105, .int 102, .int 105, .int 101, .int 100, .int 32, .int p0, .int p1, .int p2, .int p3] (.int 0) ∧ Exa Z h y0 "[B") := by
 refine Ctr.of (plainFor_of_name pn_c7) ?_
 intro p e s m below meth c T0 hx hZ hby hml hown hnm hret hlk e0 es X0
 refine Go.cast (ef_33_RII m x0 (0 : Int32) (29 : Int32)) ?_
 generalize hFF : EndN s _ _ _ = FF
 refine Go.iloadN X0 hx 1 rfl (hb hby d33_0) rfl ?_
 refine Go.iloadN X0 hx 2 rfl (hb hby d33_1) rfl ?_
 refine Go.callS X0 hx hZ hown (tw_178 hw) (tw_179 hw) (tw_136 hw) (tw_180 hw) (by decide) (tw_180 hw) (tw_136 hw) (au_58 l Z a0 hw h0 n0 Z0) e0 (argsL := [.int 0, .int 29]) (rest := []) 5 rfl (hml ▸ rfl) (lenOf pd_22 rfl) rfl rfl (W := 0) (nE rfl) (by decide) (by decide) (by decide) (by decide) (hb hby d33_2) ?_
 intro v1 T1 L1 q1 X1
 obtain ⟨rfl, N1, e1⟩ := q1
 show Go _ _ _ _ (T1.setTop (mkF m 5 #[vR x0, vI 0, vI 29, uS, uS] []))
 refine Go.iloadN X1 hx 6 rfl (hb hby d33_5) rfl ?_
 refine Go.iloadN X1 hx 7 rfl (hb hby d33_6) rfl ?_
 refine Go.isub X1 hx 8 rfl (hb hby d33_7) ?_
 rw [show ((29 : Int32) - (0 : Int32)) = (29 : Int32) from by decide]
 refine Go.istoreN X1 hx 9 rfl (hb hby d33_8) (Ls' := #[vR x0, vI 0, vI 29, vI 29, uS]) rfl ?_
 refine Go.iloadN X1 hx 10 rfl (hb hby d33_9) rfl ?_
 refine Go.newarray X1 hx hZ (ty := .byte) rfl (tw_23 hw) e1 (by decide) (cap := 29) (by decide) (by decide) (by decide) (by decide) (ad := "[B") (by decide) 29 12 rfl (hb hby d33_10) ?_
 intro T2 h2 b2 k2 e2 E2 g2 V2 A2 X2
 have V2' : Arv Z h2 b2 k2 .byte (29 : Int32) [.int 0, .int 0, .int 0, .int 0, .int 0, .int 0, .int 0, .int 0, .int 0, .int 0, .int 0, .int 0, .int 0, .int 0, .int 0, .int 0, .int 0, .int 0, .int 0, .int 0, .int 0, .int 0, .int 0, .int 0, .int 0, .int 0, .int 0, .int 0, .int 0] (.int 0) := V2
 refine Go.astore X2 hx 14 rfl (hb hby d33_12) (Ls' := #[vR x0, vI 0, vI 29, vI 29, vR b2]) rfl rfl ?_
 refine Go.aloadN X2 hx 15 rfl (hb hby d33_14) rfl rfl ?_
 refine Go.iloadN X2 hx 16 rfl (hb hby d33_15) rfl ?_
 refine Go.aload X2 hx 18 rfl (hb hby d33_16) rfl rfl ?_
 refine Go.iconst X2 hx 19 rfl (hb hby d33_18) (v := (0 : Int32)) rfl ?_
 refine Go.aloadN X2 hx 20 rfl (hb hby d33_19) rfl rfl ?_
 have fk3 := (P0.ext E2)
 refine Go.arraylength X2 hx hZ e2 fk3 21 rfl (hb hby d33_20) ?_
 refine Go.iloadN X2 hx 22 rfl (hb hby d33_21) rfl ?_
 refine Go.isub X2 hx 23 rfl (hb hby d33_22) ?_
 rw [show ((34 : Int32) - (0 : Int32)) = (34 : Int32) from by decide]
 refine Go.iloadN X2 hx 24 rfl (hb hby d33_23) rfl ?_
 have Kp5 := ((Keep.refl h0 []).ext E2)
 have Zn4 := Nat.le_trans Z0 Kp5.1
 refine Go.callS X2 hx hZ hown (tw_138 hw) (tw_139 hw) (tw_130 hw) (tw_140 hw) (by decide) (tw_140 hw) (tw_130 hw) (au_59 l Z a0 hw h2 n0 Zn4) e2 (argsL := [.int 34, .int 29]) (rest := [.int 0, .ref b2, .int 0, .ref x0]) 27 rfl (hml ▸ rfl) (lenOf pd_16 rfl) rfl rfl (W := 4) (nE rfl) (by decide) (by decide) (by decide) (by decide) (hb hby d33_24) ?_
 intro v6 T6 L6 q6 X6
 obtain ⟨rfl, N6, e6⟩ := q6
 show Go _ _ _ _ (T6.setTop (mkF m 27 #[vR x0, vI 0, vI 29, vI 29, vR b2] [.int 29, .int 0, .ref b2, .int 0, .ref x0]))
 have sz8 := Nat.le_trans (Keep.refl h0 []).1 (Nat.le_of_eq g2.symm)
 have ge7 := Nat.le_trans Z0 sz8
 refine Go.arraycopy X6 hx hZ hown (tw_141 hw) (tw_117 hw) (tw_115 hw) (tw_116 hw) e6 fk3 V2' rfl (sp := (0 : Int32)) (dp := (0 : Int32)) (nn := (29 : Int32)) (us := [.int 69, .int 84, .int 97, .int 103, .int 32, .int 110, .int 117, .int 108, .int 108, .int 44, .int 32, .int 76, .int 97, .int 115, .int 116, .int 45, .int 77, .int 111, .int 100, .int 105, .int 102, .int 105, .int 101, .int 100, .int 32, .int p0, .int p1, .int p2, .int p3]) (by decide) (by decide) (by decide) (by decide) (by decide) rfl (nB rfl) (Fr.app (Fr.app (Fr.nil n0) N1) N6) ge7 (by decide) (W := 0) (hml ▸ rfl) (nE rfl) (by decide) (pc' := 30) rfl (hb hby d33_27) ?_
 intro T9 h9 L9 e9 N9 K9 V9 X9
 have V9' : Arv Z h9 b2 k2 .byte (29 : Int32) [.int 69, .int 84, .int 97, .int 103, .int 32, .int 110, .int 117, .int 108, .int 108, .int 44, .int 32, .int 76, .int 97, .int 115, .int 116, .int 45, .int 77, .int 111, .int 100, .int 105, .int 102, .int 105, .int 101, .int 100, .int 32, .int p0, .int p1, .int p2, .int p3] (.int 0) := V9
 refine Go.aload X9 hx 32 rfl (hb hby d33_30) rfl rfl ?_
 subst hFF
 refine Go.retR X9 hx hlk (t := (.array .byte)) hret rfl rfl (hb hby d33_32) (by decide) (by decide) ?_
 rw [e9]
 have fk10 := (A2.keep K9)
 have Kp11 := (Kp5.trans K9 (allS (Or.inr sz8) all0))
 exact ⟨b2, k2, rfl, N9, Kp11, sz8, V9', fk10⟩
theorem au_114 (l : Launch) (Z : State) (a0 : Array Value) (hw : HW a0 Z) (x0 : Addr) (kk0 : ClassId) (p0 p1 p2 p3 : Int32) (h0 : Heap) (n0 : Nat) (Z0 : n0 ≤ h0.size) (P0 : Arv Z h0 x0 kk0 .byte (34 : Int32) [.int 69, .int 84, .int 97, .int 103, .int 32, .int 110, .int 117, .int 108, .int 108, .int 44, .int 32, .int 76, .int 97, .int 115, .int 116, .int 45, .int 77, .int 111, .int 100, .int 105, .int 102, .int 105, .int 101, .int 100, .int 32, .int p0, .int p1, .int p2, .int p3, .int 0, .int 0, .int 0, .int 0, .int 0] (.int 0)) :
    Ctr l Z ⟨"java/util/Arrays", "copyOfRange", "([BII)[B"⟩ jdk_65_method_132_code 3 (some (.array .byte)) (rM 2 1 29 34) #[.ref x0, .int 0, .int 29] h0 (fun v h L => ∃ (y0 : Addr) (y1 : ClassId), v = some (.ref y0) ∧ Fr n0 L ∧ Keep h0 h [] ∧ h0.size ≤ y0 ∧ Arv Z h y0 y1 .byte (29 : Int32) [.int 69, .int 84, .int 97, .int 103, .int 32, .int 110, .int 117, .int 108, .int 108, .int 44, .int 32, .int 76, .int 97, .int 115, .int 116, .int 45, .int 77, .int 111, .int 100, .int 105, .int 102, .int 105, .int 101, .int 100, .int 32, .int p0, .int p1, .int p2, .int p3] (.int 0) ∧ Exa Z h y0 "[B") := by
 refine Ctr.of (plainFor_of_name pn_c7) ?_
 intro p e s m below meth c T0 hx hZ hby hml hown hnm hret hlk e0 es X0
 refine Go.cast (ef_32_RII m x0 (0 : Int32) (29 : Int32)) ?_
 generalize hFF : EndN s _ _ _ = FF
 refine Go.iloadN X0 hx 1 rfl (hb hby d32_0) rfl ?_
 refine Go.ifNo X0 hx 4 rfl (hb hby d32_1) (by decide) ?_
 refine Go.iloadN X0 hx 5 rfl (hb hby d32_4) rfl ?_
 refine Go.aloadN X0 hx 6 rfl (hb hby d32_5) rfl rfl ?_
 refine Go.arraylength X0 hx hZ e0 P0 7 rfl (hb hby d32_6) ?_
 refine Go.icmpNo X0 hx 10 rfl (hb hby d32_7) (by decide) ?_
 refine Go.aloadN X0 hx 11 rfl (hb hby d32_10) rfl rfl ?_
 refine Go.iloadN X0 hx 12 rfl (hb hby d32_11) rfl ?_
 refine Go.iloadN X0 hx 13 rfl (hb hby d32_12) rfl ?_
 refine Go.callS X0 hx hZ hown (tw_175 hw) (tw_176 hw) (tw_136 hw) (tw_177 hw) (by decide) (tw_177 hw) (tw_136 hw) (au_115 l Z a0 hw x0 kk0 p0 p1 p2 p3 h0 n0 Z0 P0) e0 (argsL := [.ref x0, .int 0, .int 29]) (rest := []) 16 rfl (hml ▸ rfl) (lenOf pd_23 rfl) rfl rfl (W := 0) (nE rfl) (by decide) (by decide) (by decide) (by decide) (hb hby d32_13) ?_
 intro v1 T1 L1 q1 X1
 obtain ⟨h1, e1⟩ : ∃ z, T1.heap = z := ⟨_, rfl⟩
 rw [e1] at q1
 obtain ⟨b1_0, k1_0, rfl, N1, K1, s1_0, F1_0, F1_1⟩ := q1
 show Go _ _ _ _ (T1.setTop (mkF m 16 #[vR x0, vI 0, vI 29] [.ref b1_0]))
 subst hFF
 refine Go.retR X1 hx hlk (t := (.array .byte)) hret rfl rfl (hb hby d32_16) (by decide) (by decide) ?_
 rw [e1]
 have Kp2 := ((Keep.refl h0 []).trans K1 all0)
 have sz3 := Nat.le_trans (Keep.refl h0 []).1 s1_0
 exact ⟨b1_0, k1_0, rfl, (Fr.app (Fr.nil n0) N1), Kp2, sz3, F1_0, F1_1⟩
theorem au_109 (l : Launch) (Z : State) (a0 : Array Value) (hw : HW a0 Z) (x0 x1 x2 : Addr) (kk0 : ClassId) (p0 p1 p2 p3 gz1 : Int32) (gv5 : Value) (h0 : Heap) (n0 : Nat) (Z0 : n0 ≤ h0.size) (O0 : Old Z n0 h0) (G : Glob Z gz1 gv5) (P0 : Exa Z h0 x0 s1) (P1 : Fld Z h0 x0 s1 s4 "B" (.int 0)) (P2 : Fld Z h0 x0 s1 s5 "[B" .null) (P3 : Exa Z h0 x1 s3) (P4 : Fld Z h0 x1 s0 s4 "B" (.int 0)) (P5 : Fld Z h0 x1 s0 "count" "I" (.int 29)) (P6 : Fld Z h0 x1 s0 s5 "[B" (.ref x2)) (P7 : Arv Z h0 x2 kk0 .byte (34 : Int32) [.int 69, .int 84, .int 97, .int 103, .int 32, .int 110, .int 117, .int 108, .int 108, .int 44, .int 32, .int 76, .int 97, .int 115, .int 116, .int 45, .int 77, .int 111, .int 100, .int 105, .int 102, .int 105, .int 101, .int 100, .int 32, .int p0, .int p1, .int p2, .int p3, .int 0, .int 0, .int 0, .int 0, .int 0] (.int 0)) (g_x0 : n0 ≤ x0) (ne_x2_x0 : x2 ≠ x0) :
    Ctr l Z ⟨s1, "<init>", "(Ljava/lang/AbstractStringBuilder;Ljava/lang/Void;)V"⟩ jdk_42_method_150_code 5 none (rM 3 1 29 49) #[.ref x0, .ref x1, .null] h0 (fun v h L => ∃ (y0 : Addr) (y1 : ClassId), v = none ∧ Fr n0 L ∧ Keep h0 h [x0] ∧ h0.size ≤ y0 ∧ Exa Z h x0 s1 ∧ Fld Z h x0 s1 s4 "B" (.int 0) ∧ Fld Z h x0 s1 s5 "[B" (.ref y0) ∧ Arv Z h y0 y1 .byte (29 : Int32) [.int 69, .int 84, .int 97, .int 103, .int 32, .int 110, .int 117, .int 108, .int 108, .int 44, .int 32, .int 76, .int 97, .int 115, .int 116, .int 45, .int 77, .int 111, .int 100, .int 105, .int 102, .int 105, .int 101, .int 100, .int 32, .int p0, .int p1, .int p2, .int p3] (.int 0) ∧ Exa Z h y0 "[B") := by
 refine Ctr.of (plainFor_of_name pn_c2) ?_
 intro p e s m below meth c T0 hx hZ hby hml hown hnm hret hlk e0 es X0
 refine Go.cast (ef_27_RRN m x0 x1) ?_
 generalize hFF : EndN s _ _ _ = FF
 refine Go.aloadN X0 hx 1 rfl (hb hby d27_0) rfl rfl ?_
 refine Go.initO X0 hx hZ hown (tw_15 hw) (tw_16 hw) (tw_17 hw) e0 (by decide) (W := 0) (hml ▸ rfl) (nE rfl) (by decide) (pc' := 4) rfl (hb hby d27_1) ?_
 intro T1 e1 X1
 refine Go.aloadN X1 hx 5 rfl (hb hby d27_4) rfl rfl ?_
 refine Go.callV X1 hx hZ hown (tw_154 hw) (tw_155 hw) (notFace_of_selects (args := #[]) (mvT hZ (tw_157 hw))) (tw_157 hw) (tw_156 hw) (by decide) (tw_158 hw) (tw_60 hw) (au_110 l Z a0 hw x1 x2 h0 n0 Z0 P6) e1 P3 (argsL := []) (rest := []) 8 rfl (hml ▸ rfl) (lenOf pd_20 rfl) rfl rfl (W := 0) (nE rfl) (by decide) (by decide) (by decide) (by decide) (hb hby d27_5) ?_
 intro v2 T2 L2 q2 X2
 obtain ⟨rfl, N2, e2⟩ := q2
 show Go _ _ _ _ (T2.setTop (mkF m 8 #[vR x0, vR x1, .val .null, uS, uS] [.ref x2]))
 refine Go.astoreN X2 hx 9 rfl (hb hby d27_8) (Ls' := #[vR x0, vR x1, .val .null, vR x2, uS]) rfl rfl ?_
 refine Go.aloadN X2 hx 10 rfl (hb hby d27_9) rfl rfl ?_
 refine Go.callV X2 hx hZ hown (tw_159 hw) (tw_160 hw) (own_nf (args := #[]) (mvT hZ (tw_96 hw)) rfl) (tw_162 hw) (tw_163 hw) (by decide) (tw_164 hw) (tw_52 hw) (au_111 l Z a0 hw x1 h0 n0 Z0 P3 P5) e2 P3 (argsL := []) (rest := []) 13 rfl (hml ▸ rfl) (lenOf pd_10 rfl) rfl rfl (W := 0) (nE rfl) (by decide) (by decide) (by decide) (by decide) (hb hby d27_10) ?_
 intro v3 T3 L3 q3 X3
 obtain ⟨rfl, N3, e3⟩ := q3
 show Go _ _ _ _ (T3.setTop (mkF m 13 #[vR x0, vR x1, .val .null, vR x2, uS] [.int 29]))
 refine Go.istore X3 hx 15 rfl (hb hby d27_13) (Ls' := #[vR x0, vR x1, .val .null, vR x2, vI 29]) rfl ?_
 refine Go.aloadN X3 hx 16 rfl (hb hby d27_15) rfl rfl ?_
 refine Go.callV X3 hx hZ hown (tw_167 hw) (tw_168 hw) (notFace_of_selects (args := #[]) (mvT hZ (tw_170 hw))) (tw_170 hw) (tw_169 hw) (by decide) (tw_171 hw) (tw_60 hw) (au_113 l Z a0 hw x1 gz1 gv5 h0 n0 Z0 O0 G P4) e3 P3 (argsL := []) (rest := []) 19 rfl (hml ▸ rfl) (lenOf pd_21 rfl) rfl rfl (W := 0) (nE rfl) (by decide) (by decide) (by decide) (by decide) (hb hby d27_16) ?_
 intro v4 T4 L4 q4 X4
 obtain ⟨rfl, N4, e4⟩ := q4
 show Go _ _ _ _ (T4.setTop (mkF m 19 #[vR x0, vR x1, .val .null, vR x2, vI 29] [.int 1]))
 refine Go.ifNo X4 hx 22 rfl (hb hby d27_19) (by decide) ?_
 refine Go.aloadN X4 hx 23 rfl (hb hby d27_22) rfl rfl ?_
 refine Go.iconst X4 hx 24 rfl (hb hby d27_23) (v := (0 : Int32)) rfl ?_
 refine Go.putFN X4 hx hZ hown (tw_30 hw) Via.refl e4 P1 P0 (Or.inr ⟨(tw_31 hw), rfl, hnm⟩) (tw_5 hw) (ty := .byte) (v' := (.int 0)) (by decide) (by decide) (by decide) 27 rfl (hb hby d27_24) ?_
 intro T5 h5 e5 W5 F5 X5
 have N5 := Fr.snoc X5 (Fr.app (Fr.app (Fr.app (Fr.nil n0) N2) N3) N4) g_x0
 refine Go.aloadN X5 hx 28 rfl (hb hby d27_27) rfl rfl ?_
 refine Go.aloadN X5 hx 29 rfl (hb hby d27_28) rfl rfl ?_
 refine Go.iconst X5 hx 30 rfl (hb hby d27_29) (v := (0 : Int32)) rfl ?_
 refine Go.iload X5 hx 32 rfl (hb hby d27_30) rfl ?_
 have Kp7 := ((Keep.refl h0 [x0]).wr W5 (Or.inl (mG 0 rfl)))
 have Zn6 := Nat.le_trans Z0 Kp7.1
 have fk8 := (P7.other W5 ne_x2_x0)
 refine Go.callS X5 hx hZ hown (tw_172 hw) (tw_173 hw) (tw_136 hw) (tw_174 hw) (by decide) (tw_174 hw) (tw_136 hw) (au_114 l Z a0 hw x2 kk0 p0 p1 p2 p3 h5 n0 Zn6 fk8) e5 (argsL := [.ref x2, .int 0, .int 29]) (rest := [.ref x0]) 35 rfl (hml ▸ rfl) (lenOf pd_23 rfl) rfl rfl (W := 1) (nE rfl) (by decide) (by decide) (by decide) (by decide) (hb hby d27_32) ?_
 intro v9 T9 L9 q9 X9
 obtain ⟨h9, e9⟩ : ∃ z, T9.heap = z := ⟨_, rfl⟩
 rw [e9] at q9
 obtain ⟨b9_0, k9_0, rfl, N9, K9, s9_0, F9_0, F9_1⟩ := q9
 show Go _ _ _ _ (T9.setTop (mkF m 35 #[vR x0, vR x1, .val .null, vR x2, vI 29] [.ref b9_0, .ref x0]))
 have fk10 := ((P2.other W5 (Or.inr (slot_ne (Or.inr (tw_33 hw)) (Or.inr (tw_31 hw)) (by decide) (t := (.array .byte)) (t' := .byte) (by decide) (by decide)))).keep K9 nin0)
 have fk11 := ((P0.wr W5).keep K9)
 refine Go.putF X9 hx hZ hown (host := "") (Or.inl (tw_32 hw)) Via.refl e9 fk10 fk11 (Or.inr ⟨(tw_33 hw), rfl, hnm⟩) (tw_5 hw) (ty := (.array .byte)) (by decide) rfl rfl 38 rfl (hb hby d27_35) ?_
 intro T12 h12 e12 W12 F12 X12
 have N12 := Fr.snoc X12 (Fr.app N5 N9) g_x0
 refine Go.goto X12 hx 97 (hb hby d27_38) (by decide) (by decide) ?_
 subst hFF
 refine Go.ret0 X12 hx hlk hret (hb hby d27_97) (by decide) (by decide) ?_
 rw [e12]
 have fk13 := (fk11.wr W12)
 have fk14 := ((F5.keep K9 nin0).other W12 (Or.inr (slot_ne (Or.inr (tw_31 hw)) (Or.inr (tw_33 hw)) (by decide) (t := .byte) (t' := (.array .byte)) (by decide) (by decide))))
 have fk16 := (P0.wr W5)
 have ne15 := Nat.ne_of_lt (Nat.lt_of_lt_of_le fk16.lt s9_0)
 have fk17 := (F9_0.other W12 (Ne.symm ne15))
 have fk18 := (F9_1.wr W12)
 have Kp19 := (Kp7.trans K9 all0)
 have Kp20 := (Kp19.wr W12 (Or.inl (mG 0 rfl)))
 have sz21 := Nat.le_trans Kp7.1 s9_0
 exact ⟨b9_0, k9_0, rfl, N12, Kp20, sz21, fk13, fk14, F12, fk17, fk18⟩
theorem au_108 (l : Launch) (Z : State) (a0 : Array Value) (hw : HW a0 Z) (x0 x1 x2 : Addr) (kk0 : ClassId) (p0 p1 p2 p3 gz1 : Int32) (gv5 : Value) (h0 : Heap) (n0 : Nat) (Z0 : n0 ≤ h0.size) (O0 : Old Z n0 h0) (G : Glob Z gz1 gv5) (P0 : Exa Z h0 x0 s1) (P1 : Fld Z h0 x0 s1 s4 "B" (.int 0)) (P2 : Fld Z h0 x0 s1 s5 "[B" .null) (P3 : Exa Z h0 x1 s3) (P4 : Fld Z h0 x1 s0 s4 "B" (.int 0)) (P5 : Fld Z h0 x1 s0 "count" "I" (.int 29)) (P6 : Fld Z h0 x1 s0 s5 "[B" (.ref x2)) (P7 : Arv Z h0 x2 kk0 .byte (34 : Int32) [.int 69, .int 84, .int 97, .int 103, .int 32, .int 110, .int 117, .int 108, .int 108, .int 44, .int 32, .int 76, .int 97, .int 115, .int 116, .int 45, .int 77, .int 111, .int 100, .int 105, .int 102, .int 105, .int 101, .int 100, .int 32, .int p0, .int p1, .int p2, .int p3, .int 0, .int 0, .int 0, .int 0, .int 0] (.int 0)) (g_x0 : n0 ≤ x0) (ne_x2_x0 : x2 ≠ x0) :
    Ctr l Z ⟨s1, "<init>", "(Ljava/lang/StringBuilder;)V"⟩ jdk_42_method_53_code 2 none (rM 4 1 29 65) #[.ref x0, .ref x1] h0 (fun v h L => ∃ (y0 : Addr) (y1 : ClassId), v = none ∧ Fr n0 L ∧ Keep h0 h [x0] ∧ h0.size ≤ y0 ∧ Exa Z h x0 s1 ∧ Fld Z h x0 s1 s4 "B" (.int 0) ∧ Fld Z h x0 s1 s5 "[B" (.ref y0) ∧ Arv Z h y0 y1 .byte (29 : Int32) [.int 69, .int 84, .int 97, .int 103, .int 32, .int 110, .int 117, .int 108, .int 108, .int 44, .int 32, .int 76, .int 97, .int 115, .int 116, .int 45, .int 77, .int 111, .int 100, .int 105, .int 102, .int 105, .int 101, .int 100, .int 32, .int p0, .int p1, .int p2, .int p3] (.int 0) ∧ Exa Z h y0 "[B") := by
 refine Ctr.of (plainFor_of_name pn_c2) ?_
 intro p e s m below meth c T0 hx hZ hby hml hown hnm hret hlk e0 es X0
 refine Go.cast (ef_26_RR m x0 x1) ?_
 generalize hFF : EndN s _ _ _ = FF
 refine Go.aloadN X0 hx 1 rfl (hb hby d26_0) rfl rfl ?_
 refine Go.aloadN X0 hx 2 rfl (hb hby d26_1) rfl rfl ?_
 refine Go.anull X0 hx 3 rfl (hb hby d26_2) ?_
 refine Go.callN X0 hx hZ hown rfl (tw_151 hw) (tw_152 hw) (tw_153 hw) (by decide) (tw_153 hw) (tw_6 hw) (au_109 l Z a0 hw x0 x1 x2 kk0 p0 p1 p2 p3 gz1 gv5 h0 n0 Z0 O0 G P0 P1 P2 P3 P4 P5 P6 P7 g_x0 ne_x2_x0) e0 (a := x0) (argsL := [.ref x1, .null]) (rest := []) 6 rfl (hml ▸ rfl) (lenOf pd_24 rfl) rfl rfl (W := 0) (nE rfl) (by decide) (by decide) (by decide) (by decide) (hb hby d26_3) ?_
 intro v1 T1 L1 q1 X1
 obtain ⟨h1, e1⟩ : ∃ z, T1.heap = z := ⟨_, rfl⟩
 rw [e1] at q1
 obtain ⟨b1_0, k1_0, rfl, N1, K1, s1_0, F1_0, F1_1, F1_2, F1_3, F1_4⟩ := q1
 show Go _ _ _ _ (T1.setTop (mkF m 6 #[vR x0, vR x1] []))
 subst hFF
 refine Go.ret0 X1 hx hlk hret (hb hby d26_6) (by decide) (by decide) ?_
 rw [e1]
 have Kp2 := ((Keep.refl h0 [x0]).trans K1 (allS (Or.inl (mG 0 rfl)) all0))
 have sz3 := Nat.le_trans (Keep.refl h0 [x0]).1 s1_0
 exact ⟨b1_0, k1_0, rfl, (Fr.app (Fr.nil n0) N1), Kp2, sz3, F1_0, F1_1, F1_2, F1_3, F1_4⟩
theorem au_107 (l : Launch) (Z : State) (a0 : Array Value) (hw : HW a0 Z) (x0 x1 : Addr) (kk0 : ClassId) (p0 p1 p2 p3 gz1 : Int32) (gv5 : Value) (h0 : Heap) (n0 : Nat) (Z0 : n0 ≤ h0.size) (O0 : Old Z n0 h0) (G : Glob Z gz1 gv5) (P0 : Exa Z h0 x0 s3) (P1 : Fld Z h0 x0 s0 s4 "B" (.int 0)) (P2 : Fld Z h0 x0 s0 "count" "I" (.int 29)) (P3 : Fld Z h0 x0 s0 s5 "[B" (.ref x1)) (P4 : Arv Z h0 x1 kk0 .byte (34 : Int32) [.int 69, .int 84, .int 97, .int 103, .int 32, .int 110, .int 117, .int 108, .int 108, .int 44, .int 32, .int 76, .int 97, .int 115, .int 116, .int 45, .int 77, .int 111, .int 100, .int 105, .int 102, .int 105, .int 101, .int 100, .int 32, .int p0, .int p1, .int p2, .int p3, .int 0, .int 0, .int 0, .int 0, .int 0] (.int 0)) :
    Ctr l Z ⟨s3, "toString", "()Ljava/lang/String;"⟩ jdk_67_method_42_code 1 (some (.object s1)) (rM 5 2 33 79) #[.ref x0] h0 (fun v h L => ∃ (y0 y1 : Addr) (y2 : ClassId), v = some (.ref y0) ∧ Fr n0 L ∧ Keep h0 h [] ∧ h0.size ≤ y0 ∧ h0.size ≤ y1 ∧ y1 ≠ y0 ∧ Exa Z h y0 s1 ∧ Fld Z h y0 s1 s4 "B" (.int 0) ∧ Fld Z h y0 s1 s5 "[B" (.ref y1) ∧ Arv Z h y1 y2 .byte (29 : Int32) [.int 69, .int 84, .int 97, .int 103, .int 32, .int 110, .int 117, .int 108, .int 108, .int 44, .int 32, .int 76, .int 97, .int 115, .int 116, .int 45, .int 77, .int 111, .int 100, .int 105, .int 102, .int 105, .int 101, .int 100, .int 32, .int p0, .int p1, .int p2, .int p3] (.int 0) ∧ Exa Z h y1 "[B") := by
 refine Ctr.of (plainFor_of_name pn_c5) ?_
 intro p e s m below meth c T0 hx hZ hby hml hown hnm hret hlk e0 es X0
 refine Go.cast (ef_25_R m x0) ?_
 generalize hFF : EndN s _ _ _ = FF
 refine Go.new X0 hx hZ hown (tw_147 hw) (tw_5 hw) (tw_6 hw) e0 (by decide) (by decide) 3 rfl (hb hby d25_0) ?_
 intro T1 h1 b1 e1 E1 g1 A1 D1 X1
 have b1_coder : Fld Z h1 b1 s1 s4 "B" (.int 0) := D1 (Or.inr (tw_31 hw)) (ty := .byte) (by decide)
 have b1_value : Fld Z h1 b1 s1 s5 "[B" .null := D1 (Or.inr (tw_33 hw)) (ty := (.array .byte)) (by decide)
 refine Go.dup X1 hx 4 rfl (hb hby d25_3) rfl ?_
 refine Go.aloadN X1 hx 5 rfl (hb hby d25_4) rfl rfl ?_
 have Kp3 := ((Keep.refl h0 []).ext E1)
 have Zn2 := Nat.le_trans Z0 Kp3.1
 have O4 := (O0.ext E1)
 have fk5 := (P0.ext E1)
 have fk6 := (P1.ext E1)
 have fk7 := (P2.ext E1)
 have fk8 := (P3.ext E1)
 have fk9 := (P4.ext E1)
 have sz11 := Nat.le_trans (Keep.refl h0 []).1 (Nat.le_of_eq g1.symm)
 have ge10 := Nat.le_trans Z0 sz11
 have ne12 := Nat.ne_of_lt (Nat.lt_of_lt_of_le P4.lt (Nat.le_of_eq g1.symm))
 refine Go.callN X1 hx hZ hown rfl (tw_148 hw) (tw_149 hw) (tw_150 hw) (by decide) (tw_150 hw) (tw_6 hw) (au_108 l Z a0 hw b1 x0 x1 kk0 p0 p1 p2 p3 gz1 gv5 h1 n0 Zn2 O4 G A1 b1_coder b1_value fk5 fk6 fk7 fk8 fk9 ge10 ne12) e1 (a := b1) (argsL := [.ref x0]) (rest := [.ref b1]) 8 rfl (hml ▸ rfl) (lenOf pd_25 rfl) rfl rfl (W := 1) (nE rfl) (by decide) (by decide) (by decide) (by decide) (hb hby d25_5) ?_
 intro v13 T13 L13 q13 X13
 obtain ⟨h13, e13⟩ : ∃ z, T13.heap = z := ⟨_, rfl⟩
 rw [e13] at q13
 obtain ⟨b13_0, k13_0, rfl, N13, K13, s13_0, F13_0, F13_1, F13_2, F13_3, F13_4⟩ := q13
 show Go _ _ _ _ (T13.setTop (mkF m 8 #[vR x0] [.ref b1]))
 subst hFF
 refine Go.retR X13 hx hlk (t := (.object s1)) hret rfl rfl (hb hby d25_8) (by decide) (by decide) ?_
 rw [e13]
 have Kp14 := (Kp3.trans K13 (allS (Or.inr sz11) all0))
 have sz15 := Nat.le_trans Kp3.1 s13_0
 have ne16 := Nat.ne_of_lt (Nat.lt_of_lt_of_le A1.lt s13_0)
 exact ⟨b1, b13_0, k13_0, rfl, (Fr.app (Fr.nil n0) N13), Kp14, sz11, sz15, (Ne.symm ne16), F13_0, F13_1, F13_2, F13_3, F13_4⟩
theorem au_88 (l : Launch) (Z : State) (a0 : Array Value) (hw : HW a0 Z) (x0 x1 x2 : Addr) (kk0 : ClassId) (p0 p1 p2 p3 gz1 : Int32) (gv5 : Value) (h0 : Heap) (n0 : Nat) (Z0 : n0 ≤ h0.size) (O0 : Old Z n0 h0) (G : Glob Z gz1 gv5) (P0 : Exa Z h0 x0 s2) (P1 : Fld Z h0 x0 s2 "etag" s6 .null) (P2 : Fld Z h0 x0 s2 "lastModified" s6 (.ref x1)) (P3 : Exa Z h0 x1 s1) (P4 : Fld Z h0 x1 s1 s4 "B" (.int 0)) (P5 : Fld Z h0 x1 s1 s5 "[B" (.ref x2)) (P6 : Arv Z h0 x2 kk0 .byte (4 : Int32) [.int p0, .int p1, .int p2, .int p3] (.int 0)) :
    CtrW l Z EL0 ⟨s2, "toString", "()Ljava/lang/String;"⟩ prog_9_method_6_code 1 (some (.object s1)) (rM 6 9 179 91) #[.ref x0] h0 [] (fun v vm h L => ∃ (y0 y1 : Addr) (y2 : ClassId), v = some (.ref y0) ∧ Fr n0 L ∧ Keep h0 h [] ∧ h0.size ≤ y0 ∧ h0.size ≤ y1 ∧ y1 ≠ y0 ∧ Safe Z EL0 vm h y0 ∧ Safe Z EL0 vm h y1 ∧ Exa Z h y0 s1 ∧ Fld Z h y0 s1 s4 "B" (.int 0) ∧ Fld Z h y0 s1 s5 "[B" (.ref y1) ∧ Arv Z h y1 y2 .byte (29 : Int32) [.int 69, .int 84, .int 97, .int 103, .int 32, .int 110, .int 117, .int 108, .int 108, .int 44, .int 32, .int 76, .int 97, .int 115, .int 116, .int 45, .int 77, .int 111, .int 100, .int 105, .int 102, .int 105, .int 101, .int 100, .int 32, .int p0, .int p1, .int p2, .int p3] (.int 0) ∧ Exa Z h y1 "[B") := by
 refine CtrW.of (plainFor_of_name pn_c3) ?_
 intro p e s m below meth c T0 hx hZ hby hml hown hnm hret hlk e0 es hS0 C0 hsf X0
 have G' := G
 obtain ⟨-, -, -, -⟩ := G'
 refine Go.cast (ef_9_R m x0) ?_
 generalize hFF : EndW Z EL0 s _ _ _ = FF
 refine Go.new X0 hx hZ hown (tw_50 hw) (tw_51 hw) (tw_52 hw) e0 (by decide) (by decide) 3 rfl (hb hby d9_0) ?_
 intro T1 h1 b1 e1 E1 g1 A1 D1 X1
 have b1_value : Fld Z h1 b1 s0 s5 "[B" .null := D1 (Or.inl (tw_65 hw)) (ty := (.array .byte)) (by decide)
 have b1_coder : Fld Z h1 b1 s0 s4 "B" (.int 0) := D1 (Or.inl (tw_67 hw)) (ty := .byte) (by decide)
 have b1_count : Fld Z h1 b1 s0 "count" "I" (.int 0) := D1 (Or.inl (tw_92 hw)) (ty := .int) (by decide)
 refine Go.dup X1 hx 4 rfl (hb hby d9_3) rfl ?_
 have Kp3 := ((Keep.refl h0 []).ext E1)
 have Zn2 := Nat.le_trans Z0 Kp3.1
 have O4 := (O0.ext E1)
 have sz6 := Nat.le_trans (Keep.refl h0 []).1 (Nat.le_of_eq g1.symm)
 have ge5 := Nat.le_trans Z0 sz6
 refine Go.callN X1 hx hZ hown rfl (tw_53 hw) (tw_54 hw) (tw_55 hw) (by decide) (tw_55 hw) (tw_52 hw) (au_11 l Z a0 hw b1 gz1 gv5 h1 n0 Zn2 O4 G A1 b1_coder b1_count b1_value ge5) e1 (a := b1) (argsL := []) (rest := [.ref b1]) 7 rfl (hml ▸ rfl) (lenOf pd_8 rfl) rfl rfl (W := 1) (nE rfl) (by decide) (by decide) (by decide) (by decide) (hb hby d9_4) ?_
 intro v7 T7 L7 q7 X7
 obtain ⟨h7, e7⟩ : ∃ z, T7.heap = z := ⟨_, rfl⟩
 rw [e7] at q7
 obtain ⟨b7_0, k7_0, rfl, N7, K7, s7_0, F7_0, F7_1, F7_2, F7_3, F7_4, F7_5⟩ := q7
 show Go _ _ _ _ (T7.setTop (mkF m 7 #[vR x0] [.ref b1]))
 have C8 := (C0.trans (CHr.ext E1 C0.1))
 have fk9 := (Safe.ext E1 C0.1 (Safe.new (Nat.le_of_eq g1.symm) : Safe Z EL0 s.vm h0 b1))
 have C10 := (C8.trans (CHr.keep K7 (sfS fk9 sf0) C8.1))
 have hk11 := (Nat.le_trans (Nat.le_trans (Nat.le_refl _) E1.1) K7.1)
 refine Go.ldcCH X7 hx hZ hown (tw_68 hw) (own_SA hw) e7 hS0 hk11 (own_EW hw) (mG 0 rfl) C10.1 (vs := [(.int (69 : Int32)), (.int (84 : Int32)), (.int (97 : Int32)), (.int (103 : Int32)), (.int (32 : Int32))]) (z := (5 : Int32)) (by decide) (by decide) rfl (n := 20) (by decide) (by decide) (by decide) (by decide) 9 rfl (hb hby d9_7) ?_
 intro a12 T12 h12 j12 b12 k12 e12 E12 S12 i12 Z12 O12 A12 F12 G12 V12 C12 D12 X12
 have Kp14 := (Kp3.trans K7 (allS (Or.inr sz6) all0))
 have Kp15 := (Kp14.ext E12)
 have Zn13 := Nat.le_trans Z0 Kp15.1
 have O16 := (O4.keep K7 (allS ge5 all0))
 have O17 := (O16.ext E12)
 have fk18 := (F7_0.ext E12)
 have fk19 := (F7_1.ext E12)
 have fk20 := (F7_2.ext E12)
 have fk21 := (F7_3.ext E12)
 have fk22 := (F7_4.ext E12)
 have fk23 := (F7_5.ext E12)
 have sz25 := Nat.le_trans Kp3.1 s7_0
 have ge24 := Nat.le_trans Z0 sz25
 have ne26 := Nat.ne_of_lt (Nat.lt_of_lt_of_le A1.lt s7_0)
 refine Go.callV X12 hx Z12 O12 (tw_71 hw) (tw_72 hw) (notFace_of_selects (args := #[]) (mvT Z12 (tw_74 hw))) (tw_74 hw) (tw_73 hw) (by decide) (tw_75 hw) (tw_52 hw) (au_14 l Z a0 hw b1 a12 b7_0 b12 k7_0 k12 gz1 gv5 h12 n0 Zn13 O17 G fk18 fk19 fk20 fk21 A12 F12 G12 fk22 fk23 V12 ge24 ge5 ne26) e12 fk18 (argsL := [.ref a12]) (rest := []) 12 rfl (hml ▸ rfl) (lenOf pd_15 rfl) rfl rfl (W := 0) (nE rfl) (by decide) (by decide) (by decide) (by decide) (hb hby d9_9) ?_
 intro v27 T27 L27 q27 X27
 obtain ⟨h27, e27⟩ : ∃ z, T27.heap = z := ⟨_, rfl⟩
 rw [e27] at q27
 obtain ⟨rfl, N27, K27, F27_0, F27_1, F27_2, F27_3, F27_4, F27_5⟩ := q27
 show Go _ _ _ _ (T27.setTop (mkF m 12 #[vR x0] [.ref b1]))
 refine Go.aloadN X27 hx 13 rfl (hb hby d9_12) rfl rfl ?_
 have ne28 := Nat.ne_of_lt (Nat.lt_of_lt_of_le P0.lt (Nat.le_of_eq g1.symm))
 have fk30 := (P0.ext E1)
 have ne29 := Nat.ne_of_lt (Nat.lt_of_lt_of_le fk30.lt s7_0)
 have fk31 := ((((P1.ext E1).keep K7 (ninS ne28 nin0)).ext E12).keep K27 (ninS ne28 (ninS ne29 nin0)))
 refine Go.getF X27 hx Z12 O12 (host := "") (Or.inl (tw_41 hw)) Via.refl e27 fk31 16 rfl (hb hby d9_13) ?_
 intro T32 e32 X32
 have Kp34 := (Kp15.trans K27 (allS (Or.inr sz6) (allS (Or.inr sz25) all0)))
 have Zn33 := Nat.le_trans Z0 Kp34.1
 have O35 := (O17.keep K27 (allS ge5 (allS ge24 all0)))
 refine Go.callV X32 hx Z12 O12 (tw_71 hw) (tw_72 hw) (notFace_of_selects (args := #[]) (mvT Z12 (tw_74 hw))) (tw_74 hw) (tw_73 hw) (by decide) (tw_75 hw) (tw_52 hw) (au_89 l Z a0 hw b1 b7_0 k7_0 gz1 gv5 h27 n0 Zn33 O35 G F27_0 F27_1 F27_2 F27_3 F27_4 F27_5 ge24 ge5 ne26) e32 F27_0 (argsL := [.null]) (rest := []) 19 rfl (hml ▸ rfl) (lenOf pd_15 rfl) rfl rfl (W := 0) (nE rfl) (by decide) (by decide) (by decide) (by decide) (hb hby d9_16) ?_
 intro v36 T36 L36 q36 X36
 obtain ⟨h36, e36⟩ : ∃ z, T36.heap = z := ⟨_, rfl⟩
 rw [e36] at q36
 obtain ⟨rfl, N36, K36, F36_0, F36_1, F36_2, F36_3, F36_4, F36_5⟩ := q36
 show Go _ _ _ _ (T36.setTop (mkF m 19 #[vR x0] [.ref b1]))
 have C37 := (C10.trans C12)
 have fk38 := (Safe.keep K7 (sfS fk9 sf0) C8.1 (Safe.new s7_0 : Safe Z EL0 s.vm h1 b7_0))
 have fk39 := (C12.safe F7_5.lt fk38)
 have fk40 := (Safe.keep K7 (sfS fk9 sf0) C8.1 fk9)
 have fk41 := (C12.safe F7_0.lt fk40)
 have C42 := (C37.trans (CHr.keep K27 (sfS fk41 (sfS fk39 sf0)) C37.1))
 have fk43 := (Safe.keep K27 (sfS fk41 (sfS fk39 sf0)) C37.1 fk39)
 have fk44 := (Safe.keep K27 (sfS fk41 (sfS fk39 sf0)) C37.1 fk41)
 have C45 := (C42.trans (CHr.keep K36 (sfS fk44 (sfS fk43 sf0)) C42.1))
 have hk46 := (Nat.le_trans (Nat.le_trans i12 K27.1) K36.1)
 refine Go.ldcCH X36 hx Z12 O12 (tw_118 hw) (own_SA hw) e36 S12 hk46 (own_EW hw) (mG 1 rfl) C45.1 (vs := [(.int (44 : Int32)), (.int (32 : Int32)), (.int (76 : Int32)), (.int (97 : Int32)), (.int (115 : Int32)), (.int (116 : Int32)), (.int (45 : Int32)), (.int (77 : Int32)), (.int (111 : Int32)), (.int (100 : Int32)), (.int (105 : Int32)), (.int (102 : Int32)), (.int (105 : Int32)), (.int (101 : Int32)), (.int (100 : Int32)), (.int (32 : Int32))]) (z := (16 : Int32)) (by decide) (by decide) rfl (n := 64) (by decide) (by decide) (by decide) (by decide) 21 rfl (hb hby d9_19) ?_
 intro a47 T47 h47 j47 b47 k47 e47 E47 S47 i47 Z47 O47 A47 F47 G47 V47 C47 D47 X47
 have Kp49 := (Kp34.trans K36 (allS (Or.inr sz6) (allS (Or.inr sz25) all0)))
 have Kp50 := (Kp49.ext E47)
 have Zn48 := Nat.le_trans Z0 Kp50.1
 have O51 := (O35.keep K36 (allS ge5 (allS ge24 all0)))
 have O52 := (O51.ext E47)
 have fk53 := (F36_0.ext E47)
 have fk54 := (F36_1.ext E47)
 have fk55 := (F36_2.ext E47)
 have fk56 := (F36_3.ext E47)
 have fk57 := (F36_4.ext E47)
 have fk58 := (Safe.keep K36 (sfS fk44 (sfS fk43 sf0)) C42.1 fk44)
 have fk59 := (C47.safe F36_0.lt fk58)
 refine Go.callV X47 hx Z47 O47 (tw_71 hw) (tw_72 hw) (notFace_of_selects (args := #[]) (mvT Z47 (tw_74 hw))) (tw_74 hw) (tw_73 hw) (by decide) (tw_75 hw) (tw_52 hw) (au_93 l Z a0 hw b1 a47 b7_0 b47 k7_0 k47 gz1 gv5 h47 n0 Zn48 O52 G fk53 fk54 fk55 fk56 A47 F47 G47 fk57 V47 ge5 (Ne.symm (D47 b1 fk59).1) (Ne.symm (D47 b1 fk59).2)) e47 fk53 (argsL := [.ref a47]) (rest := []) 24 rfl (hml ▸ rfl) (lenOf pd_15 rfl) rfl rfl (W := 0) (nE rfl) (by decide) (by decide) (by decide) (by decide) (hb hby d9_21) ?_
 intro v60 T60 L60 q60 X60
 obtain ⟨h60, e60⟩ : ∃ z, T60.heap = z := ⟨_, rfl⟩
 rw [e60] at q60
 obtain ⟨b60_0, k60_0, rfl, N60, K60, s60_0, F60_0, F60_1, F60_2, F60_3, F60_4, F60_5⟩ := q60
 show Go _ _ _ _ (T60.setTop (mkF m 24 #[vR x0] [.ref b1]))
 refine Go.aloadN X60 hx 25 rfl (hb hby d9_24) rfl rfl ?_
 have fk61 := (((((((P2.ext E1).keep K7 (ninS ne28 nin0)).ext E12).keep K27 (ninS ne28 (ninS ne29 nin0))).keep K36 (ninS ne28 (ninS ne29 nin0))).ext E47).keep K60 (ninS ne28 nin0))
 refine Go.getF X60 hx Z47 O47 (host := "") (Or.inl (tw_43 hw)) Via.refl e60 fk61 28 rfl (hb hby d9_25) ?_
 intro T62 e62 X62
 have Kp64 := (Kp50.trans K60 (allS (Or.inr sz6) all0))
 have Zn63 := Nat.le_trans Z0 Kp64.1
 have O65 := (O52.keep K60 (allS ge5 all0))
 have fk66 := (((((((P3.ext E1).keep K7).ext E12).keep K27).keep K36).ext E47).keep K60)
 have ne67 := Nat.ne_of_lt (Nat.lt_of_lt_of_le P3.lt (Nat.le_of_eq g1.symm))
 have fk69 := (P3.ext E1)
 have ne68 := Nat.ne_of_lt (Nat.lt_of_lt_of_le fk69.lt s7_0)
 have fk70 := (((((((P4.ext E1).keep K7 (ninS ne67 nin0)).ext E12).keep K27 (ninS ne67 (ninS ne68 nin0))).keep K36 (ninS ne67 (ninS ne68 nin0))).ext E47).keep K60 (ninS ne67 nin0))
 have fk71 := (((((((P5.ext E1).keep K7 (ninS ne67 nin0)).ext E12).keep K27 (ninS ne67 (ninS ne68 nin0))).keep K36 (ninS ne67 (ninS ne68 nin0))).ext E47).keep K60 (ninS ne67 nin0))
 have ne72 := Nat.ne_of_lt (Nat.lt_of_lt_of_le P6.lt (Nat.le_of_eq g1.symm))
 have fk74 := (P6.ext E1)
 have ne73 := Nat.ne_of_lt (Nat.lt_of_lt_of_le fk74.lt s7_0)
 have fk75 := (((((((P6.ext E1).keep K7 (ninS ne72 nin0)).ext E12).keep K27 (ninS ne72 (ninS ne73 nin0))).keep K36 (ninS ne72 (ninS ne73 nin0))).ext E47).keep K60 (ninS ne72 nin0))
 have sz77 := Nat.le_trans Kp50.1 s60_0
 have ge76 := Nat.le_trans Z0 sz77
 have ne78 := Nat.ne_of_lt (Nat.lt_of_lt_of_le fk53.lt s60_0)
 refine Go.callV X62 hx Z47 O47 (tw_71 hw) (tw_72 hw) (notFace_of_selects (args := #[]) (mvT Z47 (tw_74 hw))) (tw_74 hw) (tw_73 hw) (by decide) (tw_75 hw) (tw_52 hw) (au_101 l Z a0 hw b1 x1 b60_0 x2 k60_0 kk0 p0 p1 p2 p3 gz1 gv5 h60 n0 Zn63 O65 G F60_0 F60_1 F60_2 F60_3 fk66 fk70 fk71 F60_4 F60_5 fk75 ge76 ge5 ne78) e62 F60_0 (argsL := [.ref x1]) (rest := []) 31 rfl (hml ▸ rfl) (lenOf pd_15 rfl) rfl rfl (W := 0) (nE rfl) (by decide) (by decide) (by decide) (by decide) (hb hby d9_28) ?_
 intro v79 T79 L79 q79 X79
 obtain ⟨h79, e79⟩ : ∃ z, T79.heap = z := ⟨_, rfl⟩
 rw [e79] at q79
 obtain ⟨rfl, N79, K79, F79_0, F79_1, F79_2, F79_3, F79_4, F79_5⟩ := q79
 show Go _ _ _ _ (T79.setTop (mkF m 31 #[vR x0] [.ref b1]))
 have Kp81 := (Kp64.trans K79 (allS (Or.inr sz6) (allS (Or.inr sz77) all0)))
 have Zn80 := Nat.le_trans Z0 Kp81.1
 have O82 := (O65.keep K79 (allS ge5 (allS ge76 all0)))
 refine Go.callV X79 hx Z47 O47 (tw_142 hw) (tw_143 hw) (notFace_of_selects (args := #[]) (mvT Z47 (tw_145 hw))) (tw_145 hw) (tw_144 hw) (by decide) (tw_146 hw) (tw_52 hw) (au_107 l Z a0 hw b1 b60_0 k60_0 p0 p1 p2 p3 gz1 gv5 h79 n0 Zn80 O82 G F79_0 F79_1 F79_2 F79_3 F79_4) e79 F79_0 (argsL := []) (rest := []) 34 rfl (hml ▸ rfl) (lenOf pd_26 rfl) rfl rfl (W := 0) (nE rfl) (by decide) (by decide) (by decide) (by decide) (hb hby d9_31) ?_
 intro v83 T83 L83 q83 X83
 obtain ⟨h83, e83⟩ : ∃ z, T83.heap = z := ⟨_, rfl⟩
 rw [e83] at q83
 obtain ⟨b83_0, b83_1, k83_0, rfl, N83, K83, s83_0, s83_1, n83_0, F83_0, F83_1, F83_2, F83_3, F83_4⟩ := q83
 show Go _ _ _ _ (T83.setTop (mkF m 34 #[vR x0] [.ref b83_0]))
 subst hFF
 have C84 := (C45.trans C47)
 have C85 := (C84.trans (CHr.keep K60 (sfS fk59 sf0) C84.1))
 have fk86 := (Safe.keep K60 (sfS fk59 sf0) C84.1 (Safe.new s60_0 : Safe Z EL0 T47.vm h47 b60_0))
 have fk87 := (Safe.keep K60 (sfS fk59 sf0) C84.1 fk59)
 have C88 := (C85.trans (CHr.keep K79 (sfS fk87 (sfS fk86 sf0)) C85.1))
 have C89 := (C88.trans (CHr.keep K83 sf0 C88.1))
 have hk90 := (Nat.le_trans (Nat.le_trans (Nat.le_trans i47 K60.1) K79.1) K83.1)
 refine Go.retRW X83 hx hlk Z47 (own_EW hw) e83 S47 hk90 C89 (t := (.object s1)) hret rfl rfl (hb hby d9_34) (by decide) (by decide) (fun hat => ?_)
 have Kp91 := (Kp81.trans K83 all0)
 have sz92 := Nat.le_trans Kp81.1 s83_0
 have sz93 := Nat.le_trans Kp81.1 s83_1
 have fk94 := (Safe.keep K83 sf0 C88.1 (Safe.new s83_0 : Safe Z EL0 T47.vm h79 b83_0))
 have fk95 := (Safe.keep K83 sf0 C88.1 (Safe.new s83_1 : Safe Z EL0 T47.vm h79 b83_1))
 exact ⟨b83_0, b83_1, k83_0, rfl, (Fr.app (Fr.app (Fr.app (Fr.app (Fr.app (Fr.app (Fr.nil n0) N7) N27) N36) N60) N79) N83), Kp91, sz92, sz93, n83_0, (hat.safe F83_0.lt fk94), (hat.safe F83_3.lt fk95), F83_0, F83_1, F83_2, F83_3, F83_4⟩
theorem au_118 (l : Launch) (Z : State) (a0 : Array Value) (hw : HW a0 Z) (x0 : Addr) (kk0 : ClassId) (p0 p1 p2 p3 : Int32) (h0 : Heap) (n0 : Nat) (Z0 : n0 ≤ h0.size) (P0 : Arv Z h0 x0 kk0 .char (29 : Int32) [.int 69, .int 84, .int 97, .int 103, .int 32, .int 110, .int 117, .int 108, .int 108, .int 44, .int 32, .int 76, .int 97, .int 115, .int 116, .int 45, .int 77, .int 111, .int 100, .int 105, .int 102, .int 105, .int 101, .int 100, .int 32, .int p0, .int p1, .int p2, .int p3] (.int 0)) (R_p0 : 0 ≤ p0.toInt ∧ p0.toInt ≤ 255) (R_p1 : 0 ≤ p1.toInt ∧ p1.toInt ≤ 255) (R_p2 : 0 ≤ p2.toInt ∧ p2.toInt ≤ 255) (R_p3 : 0 ≤ p3.toInt ∧ p3.toInt ≤ 255) :
    Ctr l Z ⟨"java/lang/StringUTF16", "compress", "([CII)[B"⟩ jdk_52_method_16_code 6 (some (.array .byte)) (rM 1 1 29 18) #[.ref x0, .int 0, .int 29] h0 (fun v h L => ∃ (y0 y1 y2 y3 : Int32) (y4 : Addr) (y5 : ClassId), (p0.toInt8.toInt32) = y0 ∧ (p1.toInt8.toInt32) = y1 ∧ (p2.toInt8.toInt32) = y2 ∧ (p3.toInt8.toInt32) = y3 ∧ v = some (.ref y4) ∧ Fr n0 L ∧ Keep h0 h [] ∧ h0.size ≤ y4 ∧ Arv Z h y4 y5 .byte (29 : Int32) [.int 69, .int 84, .int 97, .int 103, .int 32, .int 110, .int 117, .int 108, .int 108, .int 44, .int 32, .int 76, .int 97, .int 115, .int 116, .int 45, .int 77, .int 111, .int 100, .int 105, .int 102, .int 105, .int 101, .int 100, .int 32, .int y0, .int y1, .int y2, .int y3] (.int 0) ∧ Exa Z h y4 "[B") := by
 refine Ctr.of (plainFor_of_name pn_c1) ?_
 intro p e s m below meth c T0 hx hZ hby hml hown hnm hret hlk e0 es X0
 refine Go.cast (ef_5_RII m x0 (0 : Int32) (29 : Int32)) ?_
 generalize hFF : EndN s _ _ _ = FF
 refine Go.iloadN X0 hx 1 rfl (hb hby d5_0) rfl ?_
 refine Go.newarray X0 hx hZ (ty := .byte) rfl (tw_23 hw) e0 (by decide) (cap := 29) (by decide) (by decide) (by decide) (by decide) (ad := "[B") (by decide) 29 3 rfl (hb hby d5_1) ?_
 intro T1 h1 b1 k1 e1 E1 g1 V1 A1 X1
 have V1' : Arv Z h1 b1 k1 .byte (29 : Int32) [.int 0, .int 0, .int 0, .int 0, .int 0, .int 0, .int 0, .int 0, .int 0, .int 0, .int 0, .int 0, .int 0, .int 0, .int 0, .int 0, .int 0, .int 0, .int 0, .int 0, .int 0, .int 0, .int 0, .int 0, .int 0, .int 0, .int 0, .int 0, .int 0] (.int 0) := V1
 refine Go.astoreN X1 hx 4 rfl (hb hby d5_3) (Ls' := #[vR x0, vI 0, vI 29, vR b1, uS, uS]) rfl rfl ?_
 refine Go.aloadN X1 hx 5 rfl (hb hby d5_4) rfl rfl ?_
 refine Go.iloadN X1 hx 6 rfl (hb hby d5_5) rfl ?_
 refine Go.aloadN X1 hx 7 rfl (hb hby d5_6) rfl rfl ?_
 refine Go.iconst X1 hx 8 rfl (hb hby d5_7) (v := (0 : Int32)) rfl ?_
 refine Go.iloadN X1 hx 9 rfl (hb hby d5_8) rfl ?_
 have fk2 := (P0.ext E1)
 have sz4 := Nat.le_trans (Keep.refl h0 []).1 (Nat.le_of_eq g1.symm)
 have ge3 := Nat.le_trans Z0 sz4
 have ne5 := Nat.ne_of_lt (Nat.lt_of_lt_of_le P0.lt (Nat.le_of_eq g1.symm))
 refine Go.callS X1 hx hZ hown (tw_24 hw) (tw_25 hw) (tw_21 hw) (tw_26 hw) (by decide) (tw_26 hw) (tw_21 hw) (gl_co l Z a0 hw x0 b1 kk0 k1 (29 : Int32) [(69 : Int32), (84 : Int32), (97 : Int32), (103 : Int32), (32 : Int32), (110 : Int32), (117 : Int32), (108 : Int32), (108 : Int32), (44 : Int32), (32 : Int32), (76 : Int32), (97 : Int32), (115 : Int32), (116 : Int32), (45 : Int32), (77 : Int32), (111 : Int32), (100 : Int32), (105 : Int32), (102 : Int32), (105 : Int32), (101 : Int32), (100 : Int32), (32 : Int32), p0, p1, p2, p3] h1 n0 fk2 V1' rfl (own_rcons (own_rw (own_rlit (n := 69) (by decide)) (by decide) (by decide)) (own_rcons (own_rw (own_rlit (n := 84) (by decide)) (by decide) (by decide)) (own_rcons (own_rw (own_rlit (n := 97) (by decide)) (by decide) (by decide)) (own_rcons (own_rw (own_rlit (n := 103) (by decide)) (by decide) (by decide)) (own_rcons (own_rw (own_rlit (n := 32) (by decide)) (by decide) (by decide)) (own_rcons (own_rw (own_rlit (n := 110) (by decide)) (by decide) (by decide)) (own_rcons (own_rw (own_rlit (n := 117) (by decide)) (by decide) (by decide)) (own_rcons (own_rw (own_rlit (n := 108) (by decide)) (by decide) (by decide)) (own_rcons (own_rw (own_rlit (n := 108) (by decide)) (by decide) (by decide)) (own_rcons (own_rw (own_rlit (n := 44) (by decide)) (by decide) (by decide)) (own_rcons (own_rw (own_rlit (n := 32) (by decide)) (by decide) (by decide)) (own_rcons (own_rw (own_rlit (n := 76) (by decide)) (by decide) (by decide)) (own_rcons (own_rw (own_rlit (n := 97) (by decide)) (by decide) (by decide)) (own_rcons (own_rw (own_rlit (n := 115) (by decide)) (by decide) (by decide)) (own_rcons (own_rw (own_rlit (n := 116) (by decide)) (by decide) (by decide)) (own_rcons (own_rw (own_rlit (n := 45) (by decide)) (by decide) (by decide)) (own_rcons (own_rw (own_rlit (n := 77) (by decide)) (by decide) (by decide)) (own_rcons (own_rw (own_rlit (n := 111) (by decide)) (by decide) (by decide)) (own_rcons (own_rw (own_rlit (n := 100) (by decide)) (by decide) (by decide)) (own_rcons (own_rw (own_rlit (n := 105) (by decide)) (by decide) (by decide)) (own_rcons (own_rw (own_rlit (n := 102) (by decide)) (by decide) (by decide)) (own_rcons (own_rw (own_rlit (n := 105) (by decide)) (by decide) (by decide)) (own_rcons (own_rw (own_rlit (n := 101) (by decide)) (by decide) (by decide)) (own_rcons (own_rw (own_rlit (n := 100) (by decide)) (by decide) (by decide)) (own_rcons (own_rw (own_rlit (n := 32) (by decide)) (by decide) (by decide)) (own_rcons (own_rw R_p0 (by decide) (by decide)) (own_rcons (own_rw R_p1 (by decide) (by decide)) (own_rcons (own_rw R_p2 (by decide) (by decide)) (own_rcons (own_rw R_p3 (by decide) (by decide)) (fun i hi => absurd hi (Nat.not_lt_zero i))))))))))))))))))))))))))))))) ge3 ne5) e1 (argsL := [.ref x0, .int 0, .ref b1, .int 0, .int 29]) (rest := []) 12 rfl (hml ▸ rfl) (lenOf pd_1 rfl) rfl rfl (W := 0) (nE rfl) (by decide) (by decide) (by decide) (by decide) (hb hby d5_9) ?_
 intro v6 T6 L6 q6 X6
 obtain ⟨h6, e6⟩ : ∃ z, T6.heap = z := ⟨_, rfl⟩
 rw [e6] at q6
 obtain ⟨rfl, N6, K6, V6⟩ := q6
 obtain ⟨z7, hz7⟩ : ∃ y, (p0.toInt8.toInt32) = y := ⟨_, rfl⟩
 obtain ⟨z8, hz8⟩ : ∃ y, (p1.toInt8.toInt32) = y := ⟨_, rfl⟩
 obtain ⟨z9, hz9⟩ : ∃ y, (p2.toInt8.toInt32) = y := ⟨_, rfl⟩
 obtain ⟨z10, hz10⟩ : ∃ y, (p3.toInt8.toInt32) = y := ⟨_, rfl⟩
 rw [show ([(69 : Int32), (84 : Int32), (97 : Int32), (103 : Int32), (32 : Int32), (110 : Int32), (117 : Int32), (108 : Int32), (108 : Int32), (44 : Int32), (32 : Int32), (76 : Int32), (97 : Int32), (115 : Int32), (116 : Int32), (45 : Int32), (77 : Int32), (111 : Int32), (100 : Int32), (105 : Int32), (102 : Int32), (105 : Int32), (101 : Int32), (100 : Int32), (32 : Int32), p0, p1, p2, p3] : List Int32).map (fun c => Value.int c.toInt8.toInt32) = [.int 69, .int 84, .int 97, .int 103, .int 32, .int 110, .int 117, .int 108, .int 108, .int 44, .int 32, .int 76, .int 97, .int 115, .int 116, .int 45, .int 77, .int 111, .int 100, .int 105, .int 102, .int 105, .int 101, .int 100, .int 32, .int z7, .int z8, .int z9, .int z10] from (own_mc (by decide) (own_mc (by decide) (own_mc (by decide) (own_mc (by decide) (own_mc (by decide) (own_mc (by decide) (own_mc (by decide) (own_mc (by decide) (own_mc (by decide) (own_mc (by decide) (own_mc (by decide) (own_mc (by decide) (own_mc (by decide) (own_mc (by decide) (own_mc (by decide) (own_mc (by decide) (own_mc (by decide) (own_mc (by decide) (own_mc (by decide) (own_mc (by decide) (own_mc (by decide) (own_mc (by decide) (own_mc (by decide) (own_mc (by decide) (own_mc (by decide) (own_mc (congrArg Value.int hz7) (own_mc (congrArg Value.int hz8) (own_mc (congrArg Value.int hz9) (own_mc (congrArg Value.int hz10) rfl)))))))))))))))))))))))))))))] at V6
 show Go _ _ _ _ (T6.setTop (mkF m 12 #[vR x0, vI 0, vI 29, vR b1, uS, uS] [.int 29]))
 refine Go.istore X6 hx 14 rfl (hb hby d5_12) (Ls' := #[vR x0, vI 0, vI 29, vR b1, vI 29, uS]) rfl ?_
 refine Go.iload X6 hx 16 rfl (hb hby d5_14) rfl ?_
 refine Go.iloadN X6 hx 17 rfl (hb hby d5_16) rfl ?_
 refine Go.icmpYes X6 hx 57 (hb hby d5_17) (by decide) (by decide) (by decide) ?_
 refine Go.aloadN X6 hx 58 rfl (hb hby d5_57) rfl rfl ?_
 subst hFF
 refine Go.retR X6 hx hlk (t := (.array .byte)) hret rfl rfl (hb hby d5_58) (by decide) (by decide) ?_
 rw [e6]
 have fk11 := (A1.keep K6)
 have Kp12 := ((Keep.refl h0 []).ext E1)
 have Kp13 := (Kp12.trans K6 (allS (Or.inr sz4) all0))
 exact ⟨z7, z8, z9, z10, b1, k1, hz7, hz8, hz9, hz10, rfl, (Fr.app (Fr.nil n0) N6), Kp13, sz4, V6, fk11⟩
theorem au_119 (l : Launch) (Z : State) (a0 : Array Value) (hw : HW a0 Z) (x0 : Addr) (kk0 : ClassId) (p0 p1 p2 p3 : Int32) (h0 : Heap) (n0 : Nat) (Z0 : n0 ≤ h0.size) (P0 : Arv Z h0 x0 kk0 .byte (29 : Int32) [.int 69, .int 84, .int 97, .int 103, .int 32, .int 110, .int 117, .int 108, .int 108, .int 44, .int 32, .int 76, .int 97, .int 115, .int 116, .int 45, .int 77, .int 111, .int 100, .int 105, .int 102, .int 105, .int 101, .int 100, .int 32, .int p0, .int p1, .int p2, .int p3] (.int 0)) :
    Ctr l Z ⟨"java/lang/StringUTF16", "coderFromArrayLen", "([BI)B"⟩ jdk_52_method_15_code 2 (some .byte) (rM 0 0 0 0) #[.ref x0, .int 29] h0 (fun v h L => v = some (.int 0) ∧ Fr n0 L ∧ h = h0) := by
 refine Ctr.of (plainFor_of_name pn_c1) ?_
 intro p e s m below meth c T0 hx hZ hby hml hown hnm hret hlk e0 es X0
 refine Go.cast (ef_7_RI m x0 (29 : Int32)) ?_
 generalize hFF : EndN s _ _ _ = FF
 refine Go.iloadN X0 hx 1 rfl (hb hby d7_0) rfl ?_
 refine Go.aloadN X0 hx 2 rfl (hb hby d7_1) rfl rfl ?_
 refine Go.arraylength X0 hx hZ e0 P0 3 rfl (hb hby d7_2) ?_
 refine Go.isub X0 hx 4 rfl (hb hby d7_3) ?_
 rw [show ((29 : Int32) - (29 : Int32)) = (0 : Int32) from by decide]
 refine Go.bipush X0 hx 6 rfl (hb hby d7_4) (v := (31 : Int32)) (by decide) ?_
 refine Go.iushr X0 hx 7 rfl (hb hby d7_6) ?_
 rw [show (((0 : Int32).toUInt32 >>> ((31 : Int32) &&& 31).toUInt32).toInt32) = (0 : Int32) from by decide]
 refine Go.i2b X0 hx 8 rfl (hb hby d7_7) ?_
 rw [show ((0 : Int32).toInt8.toInt32) = (0 : Int32) from by decide]
 subst hFF
 refine Go.retN X0 hx hlk (t := .byte) hret (by simp) (hb hby d7_8) (by decide) (by decide) ?_
 rw [e0]
 exact ⟨(congrArg (fun z => some (Value.int z)) (by decide : nar .byte (0 : Int32) = (0 : Int32))), (Fr.nil n0), rfl⟩
theorem au_117 (l : Launch) (Z : State) (a0 : Array Value) (hw : HW a0 Z) (x0 x1 : Addr) (kk0 : ClassId) (p0 p1 p2 p3 gz1 : Int32) (gv5 : Value) (h0 : Heap) (n0 : Nat) (Z0 : n0 ≤ h0.size) (O0 : Old Z n0 h0) (G : Glob Z gz1 gv5) (P0 : Exa Z h0 x0 s1) (P1 : Fld Z h0 x0 s1 s4 "B" (.int 0)) (P2 : Fld Z h0 x0 s1 s5 "[B" .null) (P3 : Arv Z h0 x1 kk0 .char (29 : Int32) [.int 69, .int 84, .int 97, .int 103, .int 32, .int 110, .int 117, .int 108, .int 108, .int 44, .int 32, .int 76, .int 97, .int 115, .int 116, .int 45, .int 77, .int 111, .int 100, .int 105, .int 102, .int 105, .int 101, .int 100, .int 32, .int p0, .int p1, .int p2, .int p3] (.int 0)) (R_p0 : 0 ≤ p0.toInt ∧ p0.toInt ≤ 255) (R_p1 : 0 ≤ p1.toInt ∧ p1.toInt ≤ 255) (R_p2 : 0 ≤ p2.toInt ∧ p2.toInt ≤ 255) (R_p3 : 0 ≤ p3.toInt ∧ p3.toInt ≤ 255) (g_x0 : n0 ≤ x0) :
    Ctr l Z ⟨s1, "<init>", "([CIILjava/lang/Void;)V"⟩ jdk_42_method_149_code 6 none (rM 2 1 29 35) #[.ref x0, .ref x1, .int 0, .int 29, .null] h0 (fun v h L => ∃ (y0 y1 y2 y3 : Int32) (y4 : Addr) (y5 : ClassId), (p0.toInt8.toInt32) = y0 ∧ (p1.toInt8.toInt32) = y1 ∧ (p2.toInt8.toInt32) = y2 ∧ (p3.toInt8.toInt32) = y3 ∧ v = none ∧ Fr n0 L ∧ Keep h0 h [x0] ∧ h0.size ≤ y4 ∧ Exa Z h x0 s1 ∧ Fld Z h x0 s1 s4 "B" (.int 0) ∧ Fld Z h x0 s1 s5 "[B" (.ref y4) ∧ Arv Z h y4 y5 .byte (29 : Int32) [.int 69, .int 84, .int 97, .int 103, .int 32, .int 110, .int 117, .int 108, .int 108, .int 44, .int 32, .int 76, .int 97, .int 115, .int 116, .int 45, .int 77, .int 111, .int 100, .int 105, .int 102, .int 105, .int 101, .int 100, .int 32, .int y0, .int y1, .int y2, .int y3] (.int 0) ∧ Exa Z h y4 "[B") := by
 refine Ctr.of (plainFor_of_name pn_c2) ?_
 intro p e s m below meth c T0 hx hZ hby hml hown hnm hret hlk e0 es X0
 have G' := G
 obtain ⟨G0, -, G2, -⟩ := G'
 refine Go.cast (ef_3_RRIIN m x0 x1 (0 : Int32) (29 : Int32)) ?_
 generalize hFF : EndN s _ _ _ = FF
 refine Go.aloadN X0 hx 1 rfl (hb hby d3_0) rfl rfl ?_
 refine Go.initO X0 hx hZ hown (tw_15 hw) (tw_16 hw) (tw_17 hw) e0 (by decide) (W := 0) (hml ▸ rfl) (nE rfl) (by decide) (pc' := 4) rfl (hb hby d3_1) ?_
 intro T1 e1 X1
 refine Go.iloadN X1 hx 5 rfl (hb hby d3_4) rfl ?_
 refine Go.ifYes X1 hx 27 (hb hby d3_5) (by decide) (by decide) (by decide) ?_
 have fk2 := G0.ext O0.2
 refine Go.getS X1 hx hZ hown (host := "") (Or.inl (tw_18 hw)) Via.refl e1 fk2 30 rfl (hb hby d3_27) ?_
 intro T3 e3 X3
 refine Go.ifNo X3 hx 33 rfl (hb hby d3_30) (feq G2).1 ?_
 refine Go.aloadN X3 hx 34 rfl (hb hby d3_33) rfl rfl ?_
 refine Go.iloadN X3 hx 35 rfl (hb hby d3_34) rfl ?_
 refine Go.iloadN X3 hx 36 rfl (hb hby d3_35) rfl ?_
 refine Go.callS X3 hx hZ hown (tw_19 hw) (tw_20 hw) (tw_21 hw) (tw_22 hw) (by decide) (tw_22 hw) (tw_21 hw) (au_118 l Z a0 hw x1 kk0 p0 p1 p2 p3 h0 n0 Z0 P3 R_p0 R_p1 R_p2 R_p3) e3 (argsL := [.ref x1, .int 0, .int 29]) (rest := []) 39 rfl (hml ▸ rfl) (lenOf pd_2 rfl) rfl rfl (W := 0) (nE rfl) (by decide) (by decide) (by decide) (by decide) (hb hby d3_36) ?_
 intro v4 T4 L4 q4 X4
 obtain ⟨h4, e4⟩ : ∃ z, T4.heap = z := ⟨_, rfl⟩
 rw [e4] at q4
 obtain ⟨z4_0, z4_1, z4_2, z4_3, b4_0, k4_0, d4_0, d4_1, d4_2, d4_3, rfl, N4, K4, s4_0, F4_0, F4_1⟩ := q4
 show Go _ _ _ _ (T4.setTop (mkF m 39 #[vR x0, vR x1, vI 0, vI 29, .val .null, uS] [.ref b4_0]))
 refine Go.astore X4 hx 41 rfl (hb hby d3_39) (Ls' := #[vR x0, vR x1, vI 0, vI 29, .val .null, vR b4_0]) rfl rfl ?_
 refine Go.aloadN X4 hx 42 rfl (hb hby d3_41) rfl rfl ?_
 refine Go.aload X4 hx 44 rfl (hb hby d3_42) rfl rfl ?_
 refine Go.iloadN X4 hx 45 rfl (hb hby d3_44) rfl ?_
 have r5 : -128 ≤ z4_0.toInt ∧ z4_0.toInt ≤ 127 := own_ri2b d4_0
 have r6 : -128 ≤ z4_1.toInt ∧ z4_1.toInt ≤ 127 := own_ri2b d4_1
 have r7 : -128 ≤ z4_2.toInt ∧ z4_2.toInt ≤ 127 := own_ri2b d4_2
 have r8 : -128 ≤ z4_3.toInt ∧ z4_3.toInt ≤ 127 := own_ri2b d4_3
 have Kp10 := ((Keep.refl h0 [x0]).trans K4 all0)
 have Zn9 := Nat.le_trans Z0 Kp10.1
 refine Go.callS X4 hx hZ hown (tw_27 hw) (tw_28 hw) (tw_21 hw) (tw_29 hw) (by decide) (tw_29 hw) (tw_21 hw) (au_119 l Z a0 hw b4_0 k4_0 z4_0 z4_1 z4_2 z4_3 h4 n0 Zn9 F4_0) e4 (argsL := [.ref b4_0, .int 29]) (rest := [.ref x0]) 48 rfl (hml ▸ rfl) (lenOf pd_3 rfl) rfl rfl (W := 1) (nE rfl) (by decide) (by decide) (by decide) (by decide) (hb hby d3_45) ?_
 intro v11 T11 L11 q11 X11
 obtain ⟨rfl, N11, e11⟩ := q11
 show Go _ _ _ _ (T11.setTop (mkF m 48 #[vR x0, vR x1, vI 0, vI 29, .val .null, vR b4_0] [.int 0, .ref x0]))
 have fk12 := (P1.keep K4 nin0)
 have fk13 := (P0.keep K4)
 refine Go.putFN X11 hx hZ hown (tw_30 hw) Via.refl e11 fk12 fk13 (Or.inr ⟨(tw_31 hw), rfl, hnm⟩) (tw_5 hw) (ty := .byte) (v' := (.int 0)) (by decide) (by decide) (by decide) 51 rfl (hb hby d3_48) ?_
 intro T14 h14 e14 W14 F14 X14
 have N14 := Fr.snoc X14 (Fr.app (Fr.app (Fr.nil n0) N4) N11) g_x0
 refine Go.aloadN X14 hx 52 rfl (hb hby d3_51) rfl rfl ?_
 refine Go.aload X14 hx 54 rfl (hb hby d3_52) rfl rfl ?_
 have fk15 := ((P2.keep K4 nin0).other W14 (Or.inr (slot_ne (Or.inr (tw_33 hw)) (Or.inr (tw_31 hw)) (by decide) (t := (.array .byte)) (t' := .byte) (by decide) (by decide))))
 have fk16 := (fk13.wr W14)
 refine Go.putF X14 hx hZ hown (host := "") (Or.inl (tw_32 hw)) Via.refl e14 fk15 fk16 (Or.inr ⟨(tw_33 hw), rfl, hnm⟩) (tw_5 hw) (ty := (.array .byte)) (by decide) rfl rfl 57 rfl (hb hby d3_54) ?_
 intro T17 h17 e17 W17 F17 X17
 have N17 := Fr.snoc X17 N14 g_x0
 subst hFF
 refine Go.ret0 X17 hx hlk hret (hb hby d3_57) (by decide) (by decide) ?_
 rw [e17]
 have fk18 := (fk16.wr W17)
 have fk19 := (F14.other W17 (Or.inr (slot_ne (Or.inr (tw_31 hw)) (Or.inr (tw_33 hw)) (by decide) (t := .byte) (t' := (.array .byte)) (by decide) (by decide))))
 have ne20 := Nat.ne_of_lt (Nat.lt_of_lt_of_le P0.lt s4_0)
 have fk21 := ((F4_0.other W14 (Ne.symm ne20)).other W17 (Ne.symm ne20))
 have fk22 := ((F4_1.wr W14).wr W17)
 have Kp23 := (Kp10.wr W14 (Or.inl (mG 0 rfl)))
 have Kp24 := (Kp23.wr W17 (Or.inl (mG 0 rfl)))
 have sz25 := Nat.le_trans (Keep.refl h0 [x0]).1 s4_0
 exact ⟨z4_0, z4_1, z4_2, z4_3, b4_0, k4_0, d4_0, d4_1, d4_2, d4_3, rfl, N17, Kp24, sz25, fk18, fk19, F17, fk21, fk22⟩
theorem au_116 (l : Launch) (Z : State) (a0 : Array Value) (hw : HW a0 Z) (x0 x1 : Addr) (kk0 : ClassId) (p0 p1 p2 p3 gz1 : Int32) (gv5 : Value) (h0 : Heap) (n0 : Nat) (Z0 : n0 ≤ h0.size) (O0 : Old Z n0 h0) (G : Glob Z gz1 gv5) (P0 : Exa Z h0 x0 s1) (P1 : Fld Z h0 x0 s1 s4 "B" (.int 0)) (P2 : Fld Z h0 x0 s1 s5 "[B" .null) (P3 : Arv Z h0 x1 kk0 .char (29 : Int32) [.int 69, .int 84, .int 97, .int 103, .int 32, .int 110, .int 117, .int 108, .int 108, .int 44, .int 32, .int 76, .int 97, .int 115, .int 116, .int 45, .int 77, .int 111, .int 100, .int 105, .int 102, .int 105, .int 101, .int 100, .int 32, .int p0, .int p1, .int p2, .int p3] (.int 0)) (R_p0 : 0 ≤ p0.toInt ∧ p0.toInt ≤ 255) (R_p1 : 0 ≤ p1.toInt ∧ p1.toInt ≤ 255) (R_p2 : 0 ≤ p2.toInt ∧ p2.toInt ≤ 255) (R_p3 : 0 ≤ p3.toInt ∧ p3.toInt ≤ 255) (g_x0 : n0 ≤ x0) :
    Ctr l Z ⟨s1, "<init>", "([C)V"⟩ jdk_42_method_3_code 2 none (rM 3 1 29 52) #[.ref x0, .ref x1] h0 (fun v h L => ∃ (y0 y1 y2 y3 : Int32) (y4 : Addr) (y5 : ClassId), (p0.toInt8.toInt32) = y0 ∧ (p1.toInt8.toInt32) = y1 ∧ (p2.toInt8.toInt32) = y2 ∧ (p3.toInt8.toInt32) = y3 ∧ v = none ∧ Fr n0 L ∧ Keep h0 h [x0] ∧ h0.size ≤ y4 ∧ Exa Z h x0 s1 ∧ Fld Z h x0 s1 s4 "B" (.int 0) ∧ Fld Z h x0 s1 s5 "[B" (.ref y4) ∧ Arv Z h y4 y5 .byte (29 : Int32) [.int 69, .int 84, .int 97, .int 103, .int 32, .int 110, .int 117, .int 108, .int 108, .int 44, .int 32, .int 76, .int 97, .int 115, .int 116, .int 45, .int 77, .int 111, .int 100, .int 105, .int 102, .int 105, .int 101, .int 100, .int 32, .int y0, .int y1, .int y2, .int y3] (.int 0) ∧ Exa Z h y4 "[B") := by
 refine Ctr.of (plainFor_of_name pn_c2) ?_
 intro p e s m below meth c T0 hx hZ hby hml hown hnm hret hlk e0 es X0
 refine Go.cast (ef_2_RR m x0 x1) ?_
 generalize hFF : EndN s _ _ _ = FF
 refine Go.aloadN X0 hx 1 rfl (hb hby d2_0) rfl rfl ?_
 refine Go.aloadN X0 hx 2 rfl (hb hby d2_1) rfl rfl ?_
 refine Go.iconst X0 hx 3 rfl (hb hby d2_2) (v := (0 : Int32)) rfl ?_
 refine Go.aloadN X0 hx 4 rfl (hb hby d2_3) rfl rfl ?_
 refine Go.arraylength X0 hx hZ e0 P3 5 rfl (hb hby d2_4) ?_
 refine Go.anull X0 hx 6 rfl (hb hby d2_5) ?_
 refine Go.callN X0 hx hZ hown rfl (tw_11 hw) (tw_12 hw) (tw_14 hw) (by decide) (tw_14 hw) (tw_6 hw) (au_117 l Z a0 hw x0 x1 kk0 p0 p1 p2 p3 gz1 gv5 h0 n0 Z0 O0 G P0 P1 P2 P3 R_p0 R_p1 R_p2 R_p3 g_x0) e0 (a := x0) (argsL := [.ref x1, .int 0, .int 29, .null]) (rest := []) 9 rfl (hml ▸ rfl) (lenOf pd_4 rfl) rfl rfl (W := 0) (nE rfl) (by decide) (by decide) (by decide) (by decide) (hb hby d2_6) ?_
 intro v1 T1 L1 q1 X1
 obtain ⟨h1, e1⟩ : ∃ z, T1.heap = z := ⟨_, rfl⟩
 rw [e1] at q1
 obtain ⟨z1_0, z1_1, z1_2, z1_3, b1_0, k1_0, d1_0, d1_1, d1_2, d1_3, rfl, N1, K1, s1_0, F1_0, F1_1, F1_2, F1_3, F1_4⟩ := q1
 show Go _ _ _ _ (T1.setTop (mkF m 9 #[vR x0, vR x1] []))
 subst hFF
 refine Go.ret0 X1 hx hlk hret (hb hby d2_9) (by decide) (by decide) ?_
 rw [e1]
 have Kp2 := ((Keep.refl h0 [x0]).trans K1 (allS (Or.inl (mG 0 rfl)) all0))
 have sz3 := Nat.le_trans (Keep.refl h0 [x0]).1 s1_0
 exact ⟨z1_0, z1_1, z1_2, z1_3, b1_0, k1_0, d1_0, d1_1, d1_2, d1_3, rfl, (Fr.app (Fr.nil n0) N1), Kp2, sz3, F1_0, F1_1, F1_2, F1_3, F1_4⟩
theorem au_120 (l : Launch) (Z : State) (a0 : Array Value) (hw : HW a0 Z) (x0 x1 x2 x3 : Addr) (kk0 : ClassId) (p0 p1 p2 p3 : Int32) (kk1 : ClassId) (gz1 : Int32) (gv5 : Value) (h0 : Heap) (n0 : Nat) (Z0 : n0 ≤ h0.size) (O0 : Old Z n0 h0) (G : Glob Z gz1 gv5) (P1 : Fld Z h0 x0 s1 s4 "B" (.int 0)) (P2 : Fld Z h0 x0 s1 s5 "[B" (.ref x2)) (P3 : Exa Z h0 x1 s1) (P4 : Fld Z h0 x1 s1 s4 "B" (.int 0)) (P5 : Fld Z h0 x1 s1 s5 "[B" (.ref x3)) (P6 : Arv Z h0 x2 kk0 .byte (29 : Int32) [.int 69, .int 84, .int 97, .int 103, .int 32, .int 110, .int 117, .int 108, .int 108, .int 44, .int 32, .int 76, .int 97, .int 115, .int 116, .int 45, .int 77, .int 111, .int 100, .int 105, .int 102, .int 105, .int 101, .int 100, .int 32, .int p0, .int p1, .int p2, .int p3] (.int 0)) (P8 : Arv Z h0 x3 kk1 .byte (29 : Int32) [.int 69, .int 84, .int 97, .int 103, .int 32, .int 110, .int 117, .int 108, .int 108, .int 44, .int 32, .int 76, .int 97, .int 115, .int 116, .int 45, .int 77, .int 111, .int 100, .int 105, .int 102, .int 105, .int 101, .int 100, .int 32, .int p0, .int p1, .int p2, .int p3] (.int 0)) (ne_x0_x1 : x0 ≠ x1) :
    Ctr l Z ⟨s1, "equals", "(Ljava/lang/Object;)Z"⟩ jdk_42_method_66_code 3 (some .boolean) (rM 1 0 0 14) #[.ref x0, .ref x1] h0 (fun v h L => v = some (.int 1) ∧ Fr n0 L ∧ h = h0) := by
 refine Ctr.of (plainFor_of_name pn_c2) ?_
 intro p e s m below meth c T0 hx hZ hby hml hown hnm hret hlk e0 es X0
 have G' := G
 obtain ⟨G0, -, G2, -⟩ := G'
 refine Go.cast (ef_35_RR m x0 x1) ?_
 generalize hFF : EndN s _ _ _ = FF
 refine Go.aloadN X0 hx 1 rfl (hb hby d35_0) rfl rfl ?_
 refine Go.aloadN X0 hx 2 rfl (hb hby d35_1) rfl rfl ?_
 refine Go.acmp X0 hx (pc' := 7) (same := false) (hb hby d35_2) rfl rfl (decide_eq_false (fun q => ne_x0_x1 (Value.ref.inj q))) (by decide) (by decide) ?_
 refine Go.aloadN X0 hx 8 rfl (hb hby d35_7) rfl rfl ?_
 refine Go.instY X0 hx hZ hown (tw_186 hw) e0 (Ins.self P3) 11 rfl (hb hby d35_8) ?_
 intro T1 e1 X1
 refine Go.ifNo X1 hx 14 rfl (hb hby d35_11) (by decide) ?_
 refine Go.aloadN X1 hx 15 rfl (hb hby d35_14) rfl rfl ?_
 refine Go.castY X1 hx hZ hown (tw_186 hw) e1 (Ins.self P3) 18 rfl (hb hby d35_15) ?_
 intro T2 e2 X2
 refine Go.astoreN X2 hx 19 rfl (hb hby d35_18) (Ls' := #[vR x0, vR x1, vR x1]) rfl rfl ?_
 have fk3 := G0.ext O0.2
 refine Go.getS X2 hx hZ hown (host := "") (Or.inl (tw_18 hw)) Via.refl e2 fk3 22 rfl (hb hby d35_19) ?_
 intro T4 e4 X4
 refine Go.ifNo X4 hx 25 rfl (hb hby d35_22) (feq G2).1 ?_
 refine Go.aloadN X4 hx 26 rfl (hb hby d35_25) rfl rfl ?_
 refine Go.getF X4 hx hZ hown (host := "") (Or.inl (tw_30 hw)) Via.refl e4 P1 29 rfl (hb hby d35_26) ?_
 intro T5 e5 X5
 refine Go.aloadN X5 hx 30 rfl (hb hby d35_29) rfl rfl ?_
 refine Go.getF X5 hx hZ hown (host := "") (Or.inl (tw_30 hw)) Via.refl e5 P4 33 rfl (hb hby d35_30) ?_
 intro T6 e6 X6
 refine Go.icmpNo X6 hx 36 rfl (hb hby d35_33) (by decide) ?_
 refine Go.aloadN X6 hx 37 rfl (hb hby d35_36) rfl rfl ?_
 refine Go.getF X6 hx hZ hown (host := "") (Or.inl (tw_32 hw)) Via.refl e6 P2 40 rfl (hb hby d35_37) ?_
 intro T7 e7 X7
 refine Go.aloadN X7 hx 41 rfl (hb hby d35_40) rfl rfl ?_
 refine Go.getF X7 hx hZ hown (host := "") (Or.inl (tw_32 hw)) Via.refl e7 P5 44 rfl (hb hby d35_41) ?_
 intro T8 e8 X8
 refine Go.callS X8 hx hZ hown (tw_187 hw) (tw_188 hw) (tw_189 hw) (tw_190 hw) (by decide) (tw_190 hw) (tw_189 hw) (gl_eq l Z a0 hw x2 x3 kk0 kk1 (29 : Int32) (29 : Int32) [(69 : Int32), (84 : Int32), (97 : Int32), (103 : Int32), (32 : Int32), (110 : Int32), (117 : Int32), (108 : Int32), (108 : Int32), (44 : Int32), (32 : Int32), (76 : Int32), (97 : Int32), (115 : Int32), (116 : Int32), (45 : Int32), (77 : Int32), (111 : Int32), (100 : Int32), (105 : Int32), (102 : Int32), (105 : Int32), (101 : Int32), (100 : Int32), (32 : Int32), p0, p1, p2, p3] [(69 : Int32), (84 : Int32), (97 : Int32), (103 : Int32), (32 : Int32), (110 : Int32), (117 : Int32), (108 : Int32), (108 : Int32), (44 : Int32), (32 : Int32), (76 : Int32), (97 : Int32), (115 : Int32), (116 : Int32), (45 : Int32), (77 : Int32), (111 : Int32), (100 : Int32), (105 : Int32), (102 : Int32), (105 : Int32), (101 : Int32), (100 : Int32), (32 : Int32), p0, p1, p2, p3] h0 P6 P8 rfl rfl) e8 (argsL := [.ref x2, .ref x3]) (rest := []) 47 rfl (hml ▸ rfl) (lenOf pd_27 rfl) rfl rfl (W := 0) (nE rfl) (by decide) (by decide) (by decide) (by decide) (hb hby d35_44) ?_
 intro v9 T9 L9 q9 X9
 obtain ⟨rfl, rfl, e9⟩ := q9
 rw [if_pos (show ([(69 : Int32), (84 : Int32), (97 : Int32), (103 : Int32), (32 : Int32), (110 : Int32), (117 : Int32), (108 : Int32), (108 : Int32), (44 : Int32), (32 : Int32), (76 : Int32), (97 : Int32), (115 : Int32), (116 : Int32), (45 : Int32), (77 : Int32), (111 : Int32), (100 : Int32), (105 : Int32), (102 : Int32), (105 : Int32), (101 : Int32), (100 : Int32), (32 : Int32), p0, p1, p2, p3] : List Int32) = [(69 : Int32), (84 : Int32), (97 : Int32), (103 : Int32), (32 : Int32), (110 : Int32), (117 : Int32), (108 : Int32), (108 : Int32), (44 : Int32), (32 : Int32), (76 : Int32), (97 : Int32), (115 : Int32), (116 : Int32), (45 : Int32), (77 : Int32), (111 : Int32), (100 : Int32), (105 : Int32), (102 : Int32), (105 : Int32), (101 : Int32), (100 : Int32), (32 : Int32), p0, p1, p2, p3] from rfl)]
 show Go _ _ _ _ (T9.setTop (mkF m 47 #[vR x0, vR x1, vR x1] [.int 1]))
 refine Go.ifNo X9 hx 50 rfl (hb hby d35_47) (by decide) ?_
 refine Go.iconst X9 hx 51 rfl (hb hby d35_50) (v := (1 : Int32)) rfl ?_
 refine Go.goto X9 hx 55 (hb hby d35_51) (by decide) (by decide) ?_
 subst hFF
 refine Go.retN X9 hx hlk (t := .boolean) hret (by simp) (hb hby d35_55) (by decide) (by decide) ?_
 rw [e9]
 exact ⟨(congrArg (fun z => some (Value.int z)) (by decide : nar .boolean (1 : Int32) = (1 : Int32))), (Fr.app (Fr.nil n0) (Fr.nil n0)), rfl⟩
theorem ef_8_RNN (m : MethodId) (x0 : Addr)   : entryFrame m #[(.ref x0), .null, .null] 3 = mkF m 0 #[.val (.ref x0), .val .null, .val .null] [] := by first | (simp [entryFrame, mkF, argsToLocals, Value.category]; done) | rfl
theorem au_121 (l : Launch) (Z : State) (a0 : Array Value) (hw : HW a0 Z) (x0 : Addr) (h0 : Heap) (n0 : Nat) (Z0 : n0 ≤ h0.size) (P0 : Exa Z h0 x0 s2) (P1 : Fld Z h0 x0 s2 "etag" s6 .null) (P2 : Fld Z h0 x0 s2 "lastModified" s6 .null) (g_x0 : n0 ≤ x0) :
    Ctr l Z ⟨s2, "<init>", "(Ljava/lang/String;Ljava/lang/String;)V"⟩ prog_9_method_1_code 3 none (rM 1 0 0 12) #[.ref x0, .null, .null] h0 (fun v h L => v = none ∧ Fr n0 L ∧ Keep h0 h [x0] ∧ Exa Z h x0 s2 ∧ Fld Z h x0 s2 "etag" s6 .null ∧ Fld Z h x0 s2 "lastModified" s6 .null) := by
 refine Ctr.of (plainFor_of_name pn_c3) ?_
 intro p e s m below meth c T0 hx hZ hby hml hown hnm hret hlk e0 es X0
 refine Go.cast (ef_8_RNN m x0) ?_
 generalize hFF : EndN s _ _ _ = FF
 refine Go.aloadN X0 hx 1 rfl (hb hby d8_0) rfl rfl ?_
 refine Go.initO X0 hx hZ hown (tw_40 hw) (tw_16 hw) (tw_17 hw) e0 (by decide) (W := 0) (hml ▸ rfl) (nE rfl) (by decide) (pc' := 4) rfl (hb hby d8_1) ?_
 intro T1 e1 X1
 refine Go.aloadN X1 hx 5 rfl (hb hby d8_4) rfl rfl ?_
 refine Go.aloadN X1 hx 6 rfl (hb hby d8_5) rfl rfl ?_
 refine Go.putF X1 hx hZ hown (host := "") (Or.inl (tw_41 hw)) Via.refl e1 P1 P0 (Or.inr ⟨(tw_42 hw), rfl, hnm⟩) (tw_35 hw) (ty := (.object s1)) (by decide) rfl rfl 9 rfl (hb hby d8_6) ?_
 intro T2 h2 e2 W2 F2 X2
 have N2 := Fr.snoc X2 (Fr.nil n0) g_x0
 refine Go.aloadN X2 hx 10 rfl (hb hby d8_9) rfl rfl ?_
 refine Go.aloadN X2 hx 11 rfl (hb hby d8_10) rfl rfl ?_
 have fk3 := (P2.other W2 (Or.inr (slot_ne (Or.inr (tw_44 hw)) (Or.inr (tw_42 hw)) (by decide) (t := (.object s1)) (t' := (.object s1)) (by decide) (by decide))))
 have fk4 := (P0.wr W2)
 refine Go.putF X2 hx hZ hown (host := "") (Or.inl (tw_43 hw)) Via.refl e2 fk3 fk4 (Or.inr ⟨(tw_44 hw), rfl, hnm⟩) (tw_35 hw) (ty := (.object s1)) (by decide) rfl rfl 14 rfl (hb hby d8_11) ?_
 intro T5 h5 e5 W5 F5 X5
 have N5 := Fr.snoc X5 N2 g_x0
 subst hFF
 refine Go.ret0 X5 hx hlk hret (hb hby d8_14) (by decide) (by decide) ?_
 rw [e5]
 have fk6 := (fk4.wr W5)
 have fk7 := (F2.other W5 (Or.inr (slot_ne (Or.inr (tw_42 hw)) (Or.inr (tw_44 hw)) (by decide) (t := (.object s1)) (t' := (.object s1)) (by decide) (by decide))))
 have Kp8 := ((Keep.refl h0 [x0]).wr W2 (Or.inl (mG 0 rfl)))
 have Kp9 := (Kp8.wr W5 (Or.inl (mG 0 rfl)))
 exact ⟨rfl, N5, Kp9, fk6, fk7, F5⟩
theorem au_127 (l : Launch) (Z : State) (a0 : Array Value) (hw : HW a0 Z) (x0 : Addr) (gz1 : Int32) (gv5 : Value) (h0 : Heap) (n0 : Nat) (Z0 : n0 ≤ h0.size) (O0 : Old Z n0 h0) (G : Glob Z gz1 gv5) (P1 : Fld Z h0 x0 s0 s4 "B" (.int 0)) :
    Ctr l Z ⟨s0, "isLatin1", "()Z"⟩ jdk_68_method_68_code 1 (some .boolean) (rM 0 0 0 0) #[.ref x0] h0 (fun v h L => v = some (.int 1) ∧ Fr n0 L ∧ h = h0) := by
 refine Ctr.of (plainFor_of_name pn_c4) ?_
 intro p e s m below meth c T0 hx hZ hby hml hown hnm hret hlk e0 es X0
 have G' := G
 obtain ⟨G0, -, G2, -⟩ := G'
 refine Go.cast (ef_31_R m x0) ?_
 generalize hFF : EndN s _ _ _ = FF
 have fk1 := G0.ext O0.2
 refine Go.getS X0 hx hZ hown (host := "") (Or.inl (tw_63 hw)) Via.refl e0 fk1 3 rfl (hb hby d31_0) ?_
 intro T2 e2 X2
 refine Go.ifNo X2 hx 6 rfl (hb hby d31_3) (feq G2).1 ?_
 refine Go.aloadN X2 hx 7 rfl (hb hby d31_6) rfl rfl ?_
 refine Go.getF X2 hx hZ hown (host := "") (Or.inl (tw_66 hw)) Via.refl e2 P1 10 rfl (hb hby d31_7) ?_
 intro T3 e3 X3
 refine Go.ifNo X3 hx 13 rfl (hb hby d31_10) (by decide) ?_
 refine Go.iconst X3 hx 14 rfl (hb hby d31_13) (v := (1 : Int32)) rfl ?_
 refine Go.goto X3 hx 18 (hb hby d31_14) (by decide) (by decide) ?_
 subst hFF
 refine Go.retN X3 hx hlk (t := .boolean) hret (by simp) (hb hby d31_18) (by decide) (by decide) ?_
 rw [e3]
 exact ⟨(congrArg (fun z => some (Value.int z)) (by decide : nar .boolean (1 : Int32) = (1 : Int32))), (Fr.nil n0), rfl⟩
theorem au_126 (l : Launch) (Z : State) (a0 : Array Value) (hw : HW a0 Z) (x0 x1 : Addr) (kk0 : ClassId) (gz1 : Int32) (gv5 : Value) (h0 : Heap) (n0 : Nat) (Z0 : n0 ≤ h0.size) (O0 : Old Z n0 h0) (G : Glob Z gz1 gv5) (P0 : Exa Z h0 x0 s3) (P1 : Fld Z h0 x0 s0 s4 "B" (.int 0)) (P2 : Fld Z h0 x0 s0 "count" "I" (.int 25)) (P3 : Fld Z h0 x0 s0 s5 "[B" (.ref x1)) (P4 : Arv Z h0 x1 kk0 .byte (34 : Int32) [.int 69, .int 84, .int 97, .int 103, .int 32, .int 110, .int 117, .int 108, .int 108, .int 44, .int 32, .int 76, .int 97, .int 115, .int 116, .int 45, .int 77, .int 111, .int 100, .int 105, .int 102, .int 105, .int 101, .int 100, .int 32, .int 0, .int 0, .int 0, .int 0, .int 0, .int 0, .int 0, .int 0, .int 0] (.int 0)) (P5 : Exa Z h0 x1 "[B") (g_x1 : n0 ≤ x1) (g_x0 : n0 ≤ x0) (ne_x0_x1 : x0 ≠ x1) :
    Ctr l Z ⟨s0, "appendNull", "()Ljava/lang/AbstractStringBuilder;"⟩ jdk_68_method_26_code 3 (some (.object s0)) (rM 1 0 0 14) #[.ref x0] h0 (fun v h L => v = some (.ref x0) ∧ Fr n0 L ∧ Keep h0 h [x0, x1] ∧ Exa Z h x0 s3 ∧ Fld Z h x0 s0 s4 "B" (.int 0) ∧ Fld Z h x0 s0 "count" "I" (.int 29) ∧ Fld Z h x0 s0 s5 "[B" (.ref x1) ∧ Arv Z h x1 kk0 .byte (34 : Int32) [.int 69, .int 84, .int 97, .int 103, .int 32, .int 110, .int 117, .int 108, .int 108, .int 44, .int 32, .int 76, .int 97, .int 115, .int 116, .int 45, .int 77, .int 111, .int 100, .int 105, .int 102, .int 105, .int 101, .int 100, .int 32, .int 110, .int 117, .int 108, .int 108, .int 0, .int 0, .int 0, .int 0, .int 0] (.int 0) ∧ Exa Z h x1 "[B") := by
 refine Ctr.of (plainFor_of_name pn_c4) ?_
 intro p e s m below meth c T0 hx hZ hby hml hown hnm hret hlk e0 es X0
 refine Go.cast (ef_37_R m x0) ?_
 generalize hFF : EndN s _ _ _ = FF
 refine Go.aloadN X0 hx 1 rfl (hb hby d37_0) rfl rfl ?_
 refine Go.aloadN X0 hx 2 rfl (hb hby d37_1) rfl rfl ?_
 refine Go.getF X0 hx hZ hown (host := "") (Or.inl (tw_91 hw)) Via.refl e0 P2 5 rfl (hb hby d37_2) ?_
 intro T1 e1 X1
 refine Go.iconst X1 hx 6 rfl (hb hby d37_5) (v := (4 : Int32)) rfl ?_
 refine Go.iadd X1 hx 7 rfl (hb hby d37_6) ?_
 rw [show ((25 : Int32) + (4 : Int32)) = (29 : Int32) from by decide]
 refine Go.callP X1 hx hZ hown (tw_93 hw) (tw_94 hw) (tw_96 hw) (tw_95 hw) (tw_97 hw) (by decide) (tw_97 hw) (tw_60 hw) (au_103 l Z a0 hw x0 x1 kk0 h0 n0 Z0 P1 P3 P4) e1 P0 (argsL := [.int 29]) (rest := []) 10 rfl (hml ▸ rfl) (lenOf pd_7 rfl) rfl rfl (W := 0) (nE rfl) (by decide) (by decide) (by decide) (by decide) (hb hby d37_7) ?_
 intro v2 T2 L2 q2 X2
 obtain ⟨rfl, N2, e2⟩ := q2
 show Go _ _ _ _ (T2.setTop (mkF m 10 #[vR x0, uS, uS] []))
 refine Go.aloadN X2 hx 11 rfl (hb hby d37_10) rfl rfl ?_
 refine Go.getF X2 hx hZ hown (host := "") (Or.inl (tw_91 hw)) Via.refl e2 P2 14 rfl (hb hby d37_11) ?_
 intro T3 e3 X3
 refine Go.istoreN X3 hx 15 rfl (hb hby d37_14) (Ls' := #[vR x0, vI 25, uS]) rfl ?_
 refine Go.aloadN X3 hx 16 rfl (hb hby d37_15) rfl rfl ?_
 refine Go.getF X3 hx hZ hown (host := "") (Or.inl (tw_64 hw)) Via.refl e3 P3 19 rfl (hb hby d37_16) ?_
 intro T4 e4 X4
 refine Go.astoreN X4 hx 20 rfl (hb hby d37_19) (Ls' := #[vR x0, vI 25, vR x1]) rfl rfl ?_
 refine Go.aloadN X4 hx 21 rfl (hb hby d37_20) rfl rfl ?_
 refine Go.callV X4 hx hZ hown (tw_196 hw) (tw_168 hw) (notFace_of_selects (args := #[]) (mvT hZ (tw_170 hw))) (tw_170 hw) (tw_169 hw) (by decide) (tw_171 hw) (tw_60 hw) (au_127 l Z a0 hw x0 gz1 gv5 h0 n0 Z0 O0 G P1) e4 P0 (argsL := []) (rest := []) 24 rfl (hml ▸ rfl) (lenOf pd_21 rfl) rfl rfl (W := 0) (nE rfl) (by decide) (by decide) (by decide) (by decide) (hb hby d37_21) ?_
 intro v5 T5 L5 q5 X5
 obtain ⟨rfl, N5, e5⟩ := q5
 show Go _ _ _ _ (T5.setTop (mkF m 24 #[vR x0, vI 25, vR x1] [.int 1]))
 refine Go.ifNo X5 hx 27 rfl (hb hby d37_24) (by decide) ?_
 refine Go.aloadN X5 hx 28 rfl (hb hby d37_27) rfl rfl ?_
 refine Go.iloadN X5 hx 29 rfl (hb hby d37_28) rfl ?_
 refine Go.iinc X5 hx 32 rfl (hb hby d37_29) rfl (y := (26 : Int32)) (by decide) (Ls' := #[vR x0, vI 26, vR x1]) rfl ?_
 refine Go.bipush X5 hx 34 rfl (hb hby d37_32) (v := (110 : Int32)) (by decide) ?_
 refine Go.bastore X5 hx hZ e5 P4 (110 : Int32) rfl ⟨by decide, by decide⟩ 25 rfl (nB rfl) 35 rfl (hb hby d37_34) ?_
 intro T6 h6 e6 W6 V6 X6
 have N6 := Fr.snoc X6 (Fr.app (Fr.app (Fr.nil n0) N2) N5) g_x1
 refine Go.aloadN X6 hx 36 rfl (hb hby d37_35) rfl rfl ?_
 refine Go.iloadN X6 hx 37 rfl (hb hby d37_36) rfl ?_
 refine Go.iinc X6 hx 40 rfl (hb hby d37_37) rfl (y := (27 : Int32)) (by decide) (Ls' := #[vR x0, vI 27, vR x1]) rfl ?_
 refine Go.bipush X6 hx 42 rfl (hb hby d37_40) (v := (117 : Int32)) (by decide) ?_
 refine Go.bastore X6 hx hZ e6 V6 (117 : Int32) rfl ⟨by decide, by decide⟩ 26 rfl (nB rfl) 43 rfl (hb hby d37_42) ?_
 intro T7 h7 e7 W7 V7 X7
 have N7 := Fr.snoc X7 N6 g_x1
 refine Go.aloadN X7 hx 44 rfl (hb hby d37_43) rfl rfl ?_
 refine Go.iloadN X7 hx 45 rfl (hb hby d37_44) rfl ?_
 refine Go.iinc X7 hx 48 rfl (hb hby d37_45) rfl (y := (28 : Int32)) (by decide) (Ls' := #[vR x0, vI 28, vR x1]) rfl ?_
 refine Go.bipush X7 hx 50 rfl (hb hby d37_48) (v := (108 : Int32)) (by decide) ?_
 refine Go.bastore X7 hx hZ e7 V7 (108 : Int32) rfl ⟨by decide, by decide⟩ 27 rfl (nB rfl) 51 rfl (hb hby d37_50) ?_
 intro T8 h8 e8 W8 V8 X8
 have N8 := Fr.snoc X8 N7 g_x1
 refine Go.aloadN X8 hx 52 rfl (hb hby d37_51) rfl rfl ?_
 refine Go.iloadN X8 hx 53 rfl (hb hby d37_52) rfl ?_
 refine Go.iinc X8 hx 56 rfl (hb hby d37_53) rfl (y := (29 : Int32)) (by decide) (Ls' := #[vR x0, vI 29, vR x1]) rfl ?_
 refine Go.bipush X8 hx 58 rfl (hb hby d37_56) (v := (108 : Int32)) (by decide) ?_
 have V9 : Arv Z h8 x1 kk0 .byte (34 : Int32) [.int 69, .int 84, .int 97, .int 103, .int 32, .int 110, .int 117, .int 108, .int 108, .int 44, .int 32, .int 76, .int 97, .int 115, .int 116, .int 45, .int 77, .int 111, .int 100, .int 105, .int 102, .int 105, .int 101, .int 100, .int 32, .int 110, .int 117, .int 108, .int 0, .int 0, .int 0, .int 0, .int 0, .int 0] (.int 0) := V8
 refine Go.bastore X8 hx hZ e8 V9 (108 : Int32) rfl ⟨by decide, by decide⟩ 28 rfl (nB rfl) 59 rfl (hb hby d37_58) ?_
 intro T10 h10 e10 W10 V10 X10
 have N10 := Fr.snoc X10 N8 g_x1
 refine Go.goto X10 hx 76 (hb hby d37_59) (by decide) (by decide) ?_
 refine Go.aloadN X10 hx 77 rfl (hb hby d37_76) rfl rfl ?_
 refine Go.iloadN X10 hx 78 rfl (hb hby d37_77) rfl ?_
 have fk11 := ((((P2.other W6 (Or.inl ne_x0_x1)).other W7 (Or.inl ne_x0_x1)).other W8 (Or.inl ne_x0_x1)).other W10 (Or.inl ne_x0_x1))
 have fk12 := ((((P0.wr W6).wr W7).wr W8).wr W10)
 refine Go.putF X10 hx hZ hown (host := "") (Or.inl (tw_91 hw)) Via.refl e10 fk11 fk12 (Or.inl (tw_92 hw)) (tw_51 hw) (ty := .int) (by decide) rfl rfl 81 rfl (hb hby d37_78) ?_
 intro T13 h13 e13 W13 F13 X13
 have N13 := Fr.snoc X13 N10 g_x0
 refine Go.aloadN X13 hx 82 rfl (hb hby d37_81) rfl rfl ?_
 subst hFF
 refine Go.retR X13 hx hlk (t := (.object s0)) hret rfl rfl (hb hby d37_82) (by decide) (by decide) ?_
 rw [e13]
 have fk14 := (fk12.wr W13)
 have fk15 := (((((P1.other W6 (Or.inl ne_x0_x1)).other W7 (Or.inl ne_x0_x1)).other W8 (Or.inl ne_x0_x1)).other W10 (Or.inl ne_x0_x1)).other W13 (Or.inr (slot_ne (Or.inl (tw_67 hw)) (Or.inl (tw_92 hw)) (by decide) (t := .byte) (t' := .int) (by decide) (by decide))))
 have fk16 := (((((P3.other W6 (Or.inl ne_x0_x1)).other W7 (Or.inl ne_x0_x1)).other W8 (Or.inl ne_x0_x1)).other W10 (Or.inl ne_x0_x1)).other W13 (Or.inr (slot_ne (Or.inl (tw_65 hw)) (Or.inl (tw_92 hw)) (by decide) (t := (.array .byte)) (t' := .int) (by decide) (by decide))))
 have V17 : Arv Z h10 x1 kk0 .byte (34 : Int32) [.int 69, .int 84, .int 97, .int 103, .int 32, .int 110, .int 117, .int 108, .int 108, .int 44, .int 32, .int 76, .int 97, .int 115, .int 116, .int 45, .int 77, .int 111, .int 100, .int 105, .int 102, .int 105, .int 101, .int 100, .int 32, .int 110, .int 117, .int 108, .int 108, .int 0, .int 0, .int 0, .int 0, .int 0] (.int 0) := V10
 have fk18 := (V17.other W13 (Ne.symm ne_x0_x1))
 have fk19 := (((((P5.wr W6).wr W7).wr W8).wr W10).wr W13)
 have Kp20 := ((Keep.refl h0 [x0, x1]).wr W6 (Or.inl (mG 1 rfl)))
 have Kp21 := (Kp20.wr W7 (Or.inl (mG 1 rfl)))
 have Kp22 := (Kp21.wr W8 (Or.inl (mG 1 rfl)))
 have Kp23 := (Kp22.wr W10 (Or.inl (mG 1 rfl)))
 have Kp24 := (Kp23.wr W13 (Or.inl (mG 0 rfl)))
 exact ⟨rfl, N13, Kp24, fk14, fk15, F13, fk16, fk18, fk19⟩
theorem au_125 (l : Launch) (Z : State) (a0 : Array Value) (hw : HW a0 Z) (x0 x1 : Addr) (kk0 : ClassId) (gz1 : Int32) (gv5 : Value) (h0 : Heap) (n0 : Nat) (Z0 : n0 ≤ h0.size) (O0 : Old Z n0 h0) (G : Glob Z gz1 gv5) (P0 : Exa Z h0 x0 s3) (P1 : Fld Z h0 x0 s0 s4 "B" (.int 0)) (P2 : Fld Z h0 x0 s0 "count" "I" (.int 25)) (P3 : Fld Z h0 x0 s0 s5 "[B" (.ref x1)) (P4 : Arv Z h0 x1 kk0 .byte (34 : Int32) [.int 69, .int 84, .int 97, .int 103, .int 32, .int 110, .int 117, .int 108, .int 108, .int 44, .int 32, .int 76, .int 97, .int 115, .int 116, .int 45, .int 77, .int 111, .int 100, .int 105, .int 102, .int 105, .int 101, .int 100, .int 32, .int 0, .int 0, .int 0, .int 0, .int 0, .int 0, .int 0, .int 0, .int 0] (.int 0)) (P5 : Exa Z h0 x1 "[B") (g_x1 : n0 ≤ x1) (g_x0 : n0 ≤ x0) (ne_x0_x1 : x0 ≠ x1) :
    Ctr l Z ⟨s0, "append", "(Ljava/lang/String;)Ljava/lang/AbstractStringBuilder;"⟩ jdk_68_method_22_code 3 (some (.object s0)) (rM 2 0 0 28) #[.ref x0, .null] h0 (fun v h L => v = some (.ref x0) ∧ Fr n0 L ∧ Keep h0 h [x0, x1] ∧ Exa Z h x0 s3 ∧ Fld Z h x0 s0 s4 "B" (.int 0) ∧ Fld Z h x0 s0 "count" "I" (.int 29) ∧ Fld Z h x0 s0 s5 "[B" (.ref x1) ∧ Arv Z h x1 kk0 .byte (34 : Int32) [.int 69, .int 84, .int 97, .int 103, .int 32, .int 110, .int 117, .int 108, .int 108, .int 44, .int 32, .int 76, .int 97, .int 115, .int 116, .int 45, .int 77, .int 111, .int 100, .int 105, .int 102, .int 105, .int 101, .int 100, .int 32, .int 110, .int 117, .int 108, .int 108, .int 0, .int 0, .int 0, .int 0, .int 0] (.int 0) ∧ Exa Z h x1 "[B") := by
 refine Ctr.of (plainFor_of_name pn_c4) ?_
 intro p e s m below meth c T0 hx hZ hby hml hown hnm hret hlk e0 es X0
 refine Go.cast (ef_13_RN m x0) ?_
 generalize hFF : EndN s _ _ _ = FF
 refine Go.aloadN X0 hx 1 rfl (hb hby d13_0) rfl rfl ?_
 refine Go.ifnonnullNo X0 hx 4 rfl (hb hby d13_1) ?_
 refine Go.aloadN X0 hx 5 rfl (hb hby d13_4) rfl rfl ?_
 refine Go.callP X0 hx hZ hown (tw_191 hw) (tw_192 hw) (tw_194 hw) (tw_193 hw) (tw_195 hw) (by decide) (tw_195 hw) (tw_60 hw) (au_126 l Z a0 hw x0 x1 kk0 gz1 gv5 h0 n0 Z0 O0 G P0 P1 P2 P3 P4 P5 g_x1 g_x0 ne_x0_x1) e0 P0 (argsL := []) (rest := []) 8 rfl (hml ▸ rfl) (lenOf pd_29 rfl) rfl rfl (W := 0) (nE rfl) (by decide) (by decide) (by decide) (by decide) (hb hby d13_5) ?_
 intro v1 T1 L1 q1 X1
 obtain ⟨h1, e1⟩ : ∃ z, T1.heap = z := ⟨_, rfl⟩
 rw [e1] at q1
 obtain ⟨rfl, N1, K1, F1_0, F1_1, F1_2, F1_3, F1_4, F1_5⟩ := q1
 show Go _ _ _ _ (T1.setTop (mkF m 8 #[vR x0, .val .null, uS] [.ref x0]))
 subst hFF
 refine Go.retR X1 hx hlk (t := (.object s0)) hret rfl rfl (hb hby d13_8) (by decide) (by decide) ?_
 rw [e1]
 have Kp2 := ((Keep.refl h0 [x0, x1]).trans K1 (allS (Or.inl (mG 0 rfl)) (allS (Or.inl (mG 1 rfl)) all0)))
 exact ⟨rfl, (Fr.app (Fr.nil n0) N1), Kp2, F1_0, F1_1, F1_2, F1_3, F1_4, F1_5⟩
theorem au_124 (l : Launch) (Z : State) (a0 : Array Value) (hw : HW a0 Z) (x0 x1 : Addr) (kk0 : ClassId) (gz1 : Int32) (gv5 : Value) (h0 : Heap) (n0 : Nat) (Z0 : n0 ≤ h0.size) (O0 : Old Z n0 h0) (G : Glob Z gz1 gv5) (P0 : Exa Z h0 x0 s3) (P1 : Fld Z h0 x0 s0 s4 "B" (.int 0)) (P2 : Fld Z h0 x0 s0 "count" "I" (.int 25)) (P3 : Fld Z h0 x0 s0 s5 "[B" (.ref x1)) (P4 : Arv Z h0 x1 kk0 .byte (34 : Int32) [.int 69, .int 84, .int 97, .int 103, .int 32, .int 110, .int 117, .int 108, .int 108, .int 44, .int 32, .int 76, .int 97, .int 115, .int 116, .int 45, .int 77, .int 111, .int 100, .int 105, .int 102, .int 105, .int 101, .int 100, .int 32, .int 0, .int 0, .int 0, .int 0, .int 0, .int 0, .int 0, .int 0, .int 0] (.int 0)) (P5 : Exa Z h0 x1 "[B") (g_x1 : n0 ≤ x1) (g_x0 : n0 ≤ x0) (ne_x0_x1 : x0 ≠ x1) :
    Ctr l Z ⟨s3, "append", "(Ljava/lang/String;)Ljava/lang/StringBuilder;"⟩ jdk_67_method_7_code 2 (some (.object s3)) (rM 3 0 0 42) #[.ref x0, .null] h0 (fun v h L => v = some (.ref x0) ∧ Fr n0 L ∧ Keep h0 h [x0, x1] ∧ Exa Z h x0 s3 ∧ Fld Z h x0 s0 s4 "B" (.int 0) ∧ Fld Z h x0 s0 "count" "I" (.int 29) ∧ Fld Z h x0 s0 s5 "[B" (.ref x1) ∧ Arv Z h x1 kk0 .byte (34 : Int32) [.int 69, .int 84, .int 97, .int 103, .int 32, .int 110, .int 117, .int 108, .int 108, .int 44, .int 32, .int 76, .int 97, .int 115, .int 116, .int 45, .int 77, .int 111, .int 100, .int 105, .int 102, .int 105, .int 101, .int 100, .int 32, .int 110, .int 117, .int 108, .int 108, .int 0, .int 0, .int 0, .int 0, .int 0] (.int 0) ∧ Exa Z h x1 "[B") := by
 refine Ctr.of (plainFor_of_name pn_c5) ?_
 intro p e s m below meth c T0 hx hZ hby hml hown hnm hret hlk e0 es X0
 refine Go.cast (ef_12_RN m x0) ?_
 generalize hFF : EndN s _ _ _ = FF
 refine Go.aloadN X0 hx 1 rfl (hb hby d12_0) rfl rfl ?_
 refine Go.aloadN X0 hx 2 rfl (hb hby d12_1) rfl rfl ?_
 refine Go.callUp X0 hx hZ hown (tw_76 hw) (own_sameself (tw_96 hw) rfl (tw_77 hw) (by decide)) (tw_77 hw) (tw_78 hw) (by decide) (tw_80 hw) (tw_80 hw) (tw_60 hw) (au_125 l Z a0 hw x0 x1 kk0 gz1 gv5 h0 n0 Z0 O0 G P0 P1 P2 P3 P4 P5 g_x1 g_x0 ne_x0_x1) e0 P0 (argsL := [.null]) (rest := []) 5 rfl (hml ▸ rfl) (lenOf pd_14 rfl) rfl rfl (W := 0) (nE rfl) (by decide) (by decide) (by decide) (by decide) (hb hby d12_2) ?_
 intro v1 T1 L1 q1 X1
 obtain ⟨h1, e1⟩ : ∃ z, T1.heap = z := ⟨_, rfl⟩
 rw [e1] at q1
 obtain ⟨rfl, N1, K1, F1_0, F1_1, F1_2, F1_3, F1_4, F1_5⟩ := q1
 show Go _ _ _ _ (T1.setTop (mkF m 5 #[vR x0, .val .null] [.ref x0]))
 refine Go.pop X1 hx 6 rfl (hb hby d12_5) rfl ?_
 refine Go.aloadN X1 hx 7 rfl (hb hby d12_6) rfl rfl ?_
 subst hFF
 refine Go.retR X1 hx hlk (t := (.object s3)) hret rfl rfl (hb hby d12_7) (by decide) (by decide) ?_
 rw [e1]
 have Kp2 := ((Keep.refl h0 [x0, x1]).trans K1 (allS (Or.inl (mG 0 rfl)) (allS (Or.inl (mG 1 rfl)) all0)))
 exact ⟨rfl, (Fr.app (Fr.nil n0) N1), Kp2, F1_0, F1_1, F1_2, F1_3, F1_4, F1_5⟩
theorem au_131 (l : Launch) (Z : State) (a0 : Array Value) (hw : HW a0 Z) (x0 x1 : Addr) (h0 : Heap) (n0 : Nat) (Z0 : n0 ≤ h0.size) (P3 : Fld Z h0 x0 s0 s5 "[B" (.ref x1)) :
    Ctr l Z ⟨s0, "getValue", "()[B"⟩ jdk_68_method_64_code 1 (some (.array .byte)) (rM 0 0 0 0) #[.ref x0] h0 (fun v h L => v = some (.ref x1) ∧ Fr n0 L ∧ h = h0) := by
 refine Ctr.of (plainFor_of_name pn_c4) ?_
 intro p e s m below meth c T0 hx hZ hby hml hown hnm hret hlk e0 es X0
 refine Go.cast (ef_28_R m x0) ?_
 generalize hFF : EndN s _ _ _ = FF
 refine Go.aloadN X0 hx 1 rfl (hb hby d28_0) rfl rfl ?_
 refine Go.getF X0 hx hZ hown (host := "") (Or.inl (tw_64 hw)) Via.refl e0 P3 4 rfl (hb hby d28_1) ?_
 intro T1 e1 X1
 subst hFF
 refine Go.retR X1 hx hlk (t := (.array .byte)) hret rfl rfl (hb hby d28_4) (by decide) (by decide) ?_
 rw [e1]
 exact ⟨rfl, (Fr.nil n0), rfl⟩
theorem au_133 (l : Launch) (Z : State) (a0 : Array Value) (hw : HW a0 Z) (x0 : Addr) (h0 : Heap) (n0 : Nat) (Z0 : n0 ≤ h0.size) (P2 : Fld Z h0 x0 s0 "count" "I" (.int 29)) :
    Ctr l Z ⟨s0, "length", "()I"⟩ jdk_68_method_6_code 1 (some .int) (rM 0 0 0 0) #[.ref x0] h0 (fun v h L => v = some (.int 29) ∧ Fr n0 L ∧ h = h0) := by
 refine Ctr.of (plainFor_of_name pn_c4) ?_
 intro p e s m below meth c T0 hx hZ hby hml hown hnm hret hlk e0 es X0
 refine Go.cast (ef_30_R m x0) ?_
 generalize hFF : EndN s _ _ _ = FF
 refine Go.aloadN X0 hx 1 rfl (hb hby d30_0) rfl rfl ?_
 refine Go.getF X0 hx hZ hown (host := "") (Or.inl (tw_91 hw)) Via.refl e0 P2 4 rfl (hb hby d30_1) ?_
 intro T1 e1 X1
 subst hFF
 refine Go.retI X1 hx hlk hret (hb hby d30_4) (by decide) (by decide) ?_
 rw [e1]
 exact ⟨rfl, (Fr.nil n0), rfl⟩
theorem au_132 (l : Launch) (Z : State) (a0 : Array Value) (hw : HW a0 Z) (x0 : Addr) (h0 : Heap) (n0 : Nat) (Z0 : n0 ≤ h0.size) (P0 : Exa Z h0 x0 s3) (P2 : Fld Z h0 x0 s0 "count" "I" (.int 29)) :
    Ctr l Z ⟨s3, "length", "()I"⟩ jdk_67_method_93_code 1 (some .int) (rM 1 0 0 12) #[.ref x0] h0 (fun v h L => v = some (.int 29) ∧ Fr n0 L ∧ h = h0) := by
 refine Ctr.of (plainFor_of_name pn_c5) ?_
 intro p e s m below meth c T0 hx hZ hby hml hown hnm hret hlk e0 es X0
 refine Go.cast (ef_29_R m x0) ?_
 generalize hFF : EndN s _ _ _ = FF
 refine Go.aloadN X0 hx 1 rfl (hb hby d29_0) rfl rfl ?_
 refine Go.callUp X0 hx hZ hown (tw_165 hw) (own_sameself (tw_96 hw) rfl (tw_161 hw) (by decide)) (tw_161 hw) (tw_78 hw) (by decide) (tw_166 hw) (tw_166 hw) (tw_60 hw) (au_133 l Z a0 hw x0 h0 n0 Z0 P2) e0 P0 (argsL := []) (rest := []) 4 rfl (hml ▸ rfl) (lenOf pd_10 rfl) rfl rfl (W := 0) (nE rfl) (by decide) (by decide) (by decide) (by decide) (hb hby d29_1) ?_
 intro v1 T1 L1 q1 X1
 obtain ⟨rfl, N1, e1⟩ := q1
 show Go _ _ _ _ (T1.setTop (mkF m 4 #[vR x0] [.int 29]))
 subst hFF
 refine Go.retI X1 hx hlk hret (hb hby d29_4) (by decide) (by decide) ?_
 rw [e1]
 exact ⟨rfl, (Fr.app (Fr.nil n0) N1), rfl⟩
theorem au_134 (l : Launch) (Z : State) (a0 : Array Value) (hw : HW a0 Z) (x0 : Addr) (gz1 : Int32) (gv5 : Value) (h0 : Heap) (n0 : Nat) (Z0 : n0 ≤ h0.size) (O0 : Old Z n0 h0) (G : Glob Z gz1 gv5) (P1 : Fld Z h0 x0 s0 s4 "B" (.int 0)) :
    Ctr l Z ⟨s0, "isLatin1", "()Z"⟩ jdk_68_method_68_code 1 (some .boolean) (rM 0 0 0 0) #[.ref x0] h0 (fun v h L => v = some (.int 1) ∧ Fr n0 L ∧ h = h0) := by
 refine Ctr.of (plainFor_of_name pn_c4) ?_
 intro p e s m below meth c T0 hx hZ hby hml hown hnm hret hlk e0 es X0
 have G' := G
 obtain ⟨G0, -, G2, -⟩ := G'
 refine Go.cast (ef_31_R m x0) ?_
 generalize hFF : EndN s _ _ _ = FF
 have fk1 := G0.ext O0.2
 refine Go.getS X0 hx hZ hown (host := "") (Or.inl (tw_63 hw)) Via.refl e0 fk1 3 rfl (hb hby d31_0) ?_
 intro T2 e2 X2
 refine Go.ifNo X2 hx 6 rfl (hb hby d31_3) (feq G2).1 ?_
 refine Go.aloadN X2 hx 7 rfl (hb hby d31_6) rfl rfl ?_
 refine Go.getF X2 hx hZ hown (host := "") (Or.inl (tw_66 hw)) Via.refl e2 P1 10 rfl (hb hby d31_7) ?_
 intro T3 e3 X3
 refine Go.ifNo X3 hx 13 rfl (hb hby d31_10) (by decide) ?_
 refine Go.iconst X3 hx 14 rfl (hb hby d31_13) (v := (1 : Int32)) rfl ?_
 refine Go.goto X3 hx 18 (hb hby d31_14) (by decide) (by decide) ?_
 subst hFF
 refine Go.retN X3 hx hlk (t := .boolean) hret (by simp) (hb hby d31_18) (by decide) (by decide) ?_
 rw [e3]
 exact ⟨(congrArg (fun z => some (Value.int z)) (by decide : nar .boolean (1 : Int32) = (1 : Int32))), (Fr.nil n0), rfl⟩
theorem au_136 (l : Launch) (Z : State) (a0 : Array Value) (hw : HW a0 Z) (x0 : Addr) (kk0 : ClassId) (h0 : Heap) (n0 : Nat) (Z0 : n0 ≤ h0.size) (P0 : Arv Z h0 x0 kk0 .byte (34 : Int32) [.int 69, .int 84, .int 97, .int 103, .int 32, .int 110, .int 117, .int 108, .int 108, .int 44, .int 32, .int 76, .int 97, .int 115, .int 116, .int 45, .int 77, .int 111, .int 100, .int 105, .int 102, .int 105, .int 101, .int 100, .int 32, .int 110, .int 117, .int 108, .int 108, .int 0, .int 0, .int 0, .int 0, .int 0] (.int 0)) :
    Ctr l Z ⟨"java/util/Arrays", "copyOfRangeByte", "([BII)[B"⟩ jdk_65_method_133_code 5 (some (.array .byte)) (rM 1 1 29 18) #[.ref x0, .int 0, .int 29] h0 (fun v h L => ∃ (y0 : Addr) (y1 : ClassId), v = some (.ref y0) ∧ Fr n0 L ∧ Keep h0 h [] ∧ h0.size ≤ y0 ∧ Arv Z h y0 y1 .byte (29 : Int32) [.int 69, .int 84, .int 97, .int 103, .int 32, .int 110, .int 117, .int 108, .int 108, .int 44, .int 32, .int 76, .int 97, .int 115, .int 116, .int 45, .int 77, .int 111, .int 100, .int 105, .int 102, .int 105, .int 101, .int 100, .int 32, .int 110, .int 117, .int 108, .int 108] (.int 0) ∧ Exa Z h y0 "[B") := by
 refine Ctr.of (plainFor_of_name pn_c7) ?_
 intro p e s m below meth c T0 hx hZ hby hml hown hnm hret hlk e0 es X0
 refine Go.cast (ef_33_RII m x0 (0 : Int32) (29 : Int32)) ?_
 generalize hFF : EndN s _ _ _ = FF
 refine Go.iloadN X0 hx 1 rfl (hb hby d33_0) rfl ?_
 refine Go.iloadN X0 hx 2 rfl (hb hby d33_1) rfl ?_
 refine Go.callS X0 hx hZ hown (tw_178 hw) (tw_179 hw) (tw_136 hw) (tw_180 hw) (by decide) (tw_180 hw) (tw_136 hw) (au_58 l Z a0 hw h0 n0 Z0) e0 (argsL := [.int 0, .int 29]) (rest := []) 5 rfl (hml ▸ rfl) (lenOf pd_22 rfl) rfl rfl (W := 0) (nE rfl) (by decide) (by decide) (by decide) (by decide) (hb hby d33_2) ?_
 intro v1 T1 L1 q1 X1
 obtain ⟨rfl, N1, e1⟩ := q1
 show Go _ _ _ _ (T1.setTop (mkF m 5 #[vR x0, vI 0, vI 29, uS, uS] []))
 refine Go.iloadN X1 hx 6 rfl (hb hby d33_5) rfl ?_
 refine Go.iloadN X1 hx 7 rfl (hb hby d33_6) rfl ?_
 refine Go.isub X1 hx 8 rfl (hb hby d33_7) ?_
 rw [show ((29 : Int32) - (0 : Int32)) = (29 : Int32) from by decide]
 refine Go.istoreN X1 hx 9 rfl (hb hby d33_8) (Ls' := #[vR x0, vI 0, vI 29, vI 29, uS]) rfl ?_
 refine Go.iloadN X1 hx 10 rfl (hb hby d33_9) rfl ?_
 refine Go.newarray X1 hx hZ (ty := .byte) rfl (tw_23 hw) e1 (by decide) (cap := 29) (by decide) (by decide) (by decide) (by decide) (ad := "[B") (by decide) 29 12 rfl (hb hby d33_10) ?_
 intro T2 h2 b2 k2 e2 E2 g2 V2 A2 X2
 have V2' : Arv Z h2 b2 k2 .byte (29 : Int32) [.int 0, .int 0, .int 0, .int 0, .int 0, .int 0, .int 0, .int 0, .int 0, .int 0, .int 0, .int 0, .int 0, .int 0, .int 0, .int 0, .int 0, .int 0, .int 0, .int 0, .int 0, .int 0, .int 0, .int 0, .int 0, .int 0, .int 0, .int 0, .int 0] (.int 0) := V2
 refine Go.astore X2 hx 14 rfl (hb hby d33_12) (Ls' := #[vR x0, vI 0, vI 29, vI 29, vR b2]) rfl rfl ?_
 refine Go.aloadN X2 hx 15 rfl (hb hby d33_14) rfl rfl ?_
 refine Go.iloadN X2 hx 16 rfl (hb hby d33_15) rfl ?_
 refine Go.aload X2 hx 18 rfl (hb hby d33_16) rfl rfl ?_
 refine Go.iconst X2 hx 19 rfl (hb hby d33_18) (v := (0 : Int32)) rfl ?_
 refine Go.aloadN X2 hx 20 rfl (hb hby d33_19) rfl rfl ?_
 have fk3 := (P0.ext E2)
 refine Go.arraylength X2 hx hZ e2 fk3 21 rfl (hb hby d33_20) ?_
 refine Go.iloadN X2 hx 22 rfl (hb hby d33_21) rfl ?_
 refine Go.isub X2 hx 23 rfl (hb hby d33_22) ?_
 rw [show ((34 : Int32) - (0 : Int32)) = (34 : Int32) from by decide]
 refine Go.iloadN X2 hx 24 rfl (hb hby d33_23) rfl ?_
 have Kp5 := ((Keep.refl h0 []).ext E2)
 have Zn4 := Nat.le_trans Z0 Kp5.1
 refine Go.callS X2 hx hZ hown (tw_138 hw) (tw_139 hw) (tw_130 hw) (tw_140 hw) (by decide) (tw_140 hw) (tw_130 hw) (au_59 l Z a0 hw h2 n0 Zn4) e2 (argsL := [.int 34, .int 29]) (rest := [.int 0, .ref b2, .int 0, .ref x0]) 27 rfl (hml ▸ rfl) (lenOf pd_16 rfl) rfl rfl (W := 4) (nE rfl) (by decide) (by decide) (by decide) (by decide) (hb hby d33_24) ?_
 intro v6 T6 L6 q6 X6
 obtain ⟨rfl, N6, e6⟩ := q6
 show Go _ _ _ _ (T6.setTop (mkF m 27 #[vR x0, vI 0, vI 29, vI 29, vR b2] [.int 29, .int 0, .ref b2, .int 0, .ref x0]))
 have sz8 := Nat.le_trans (Keep.refl h0 []).1 (Nat.le_of_eq g2.symm)
 have ge7 := Nat.le_trans Z0 sz8
 refine Go.arraycopy X6 hx hZ hown (tw_141 hw) (tw_117 hw) (tw_115 hw) (tw_116 hw) e6 fk3 V2' rfl (sp := (0 : Int32)) (dp := (0 : Int32)) (nn := (29 : Int32)) (us := [.int 69, .int 84, .int 97, .int 103, .int 32, .int 110, .int 117, .int 108, .int 108, .int 44, .int 32, .int 76, .int 97, .int 115, .int 116, .int 45, .int 77, .int 111, .int 100, .int 105, .int 102, .int 105, .int 101, .int 100, .int 32, .int 110, .int 117, .int 108, .int 108]) (by decide) (by decide) (by decide) (by decide) (by decide) rfl (nB rfl) (Fr.app (Fr.app (Fr.nil n0) N1) N6) ge7 (by decide) (W := 0) (hml ▸ rfl) (nE rfl) (by decide) (pc' := 30) rfl (hb hby d33_27) ?_
 intro T9 h9 L9 e9 N9 K9 V9 X9
 have V9' : Arv Z h9 b2 k2 .byte (29 : Int32) [.int 69, .int 84, .int 97, .int 103, .int 32, .int 110, .int 117, .int 108, .int 108, .int 44, .int 32, .int 76, .int 97, .int 115, .int 116, .int 45, .int 77, .int 111, .int 100, .int 105, .int 102, .int 105, .int 101, .int 100, .int 32, .int 110, .int 117, .int 108, .int 108] (.int 0) := V9
 refine Go.aload X9 hx 32 rfl (hb hby d33_30) rfl rfl ?_
 subst hFF
 refine Go.retR X9 hx hlk (t := (.array .byte)) hret rfl rfl (hb hby d33_32) (by decide) (by decide) ?_
 rw [e9]
 have fk10 := (A2.keep K9)
 have Kp11 := (Kp5.trans K9 (allS (Or.inr sz8) all0))
 exact ⟨b2, k2, rfl, N9, Kp11, sz8, V9', fk10⟩
theorem au_135 (l : Launch) (Z : State) (a0 : Array Value) (hw : HW a0 Z) (x0 : Addr) (kk0 : ClassId) (h0 : Heap) (n0 : Nat) (Z0 : n0 ≤ h0.size) (P0 : Arv Z h0 x0 kk0 .byte (34 : Int32) [.int 69, .int 84, .int 97, .int 103, .int 32, .int 110, .int 117, .int 108, .int 108, .int 44, .int 32, .int 76, .int 97, .int 115, .int 116, .int 45, .int 77, .int 111, .int 100, .int 105, .int 102, .int 105, .int 101, .int 100, .int 32, .int 110, .int 117, .int 108, .int 108, .int 0, .int 0, .int 0, .int 0, .int 0] (.int 0)) :
    Ctr l Z ⟨"java/util/Arrays", "copyOfRange", "([BII)[B"⟩ jdk_65_method_132_code 3 (some (.array .byte)) (rM 2 1 29 34) #[.ref x0, .int 0, .int 29] h0 (fun v h L => ∃ (y0 : Addr) (y1 : ClassId), v = some (.ref y0) ∧ Fr n0 L ∧ Keep h0 h [] ∧ h0.size ≤ y0 ∧ Arv Z h y0 y1 .byte (29 : Int32) [.int 69, .int 84, .int 97, .int 103, .int 32, .int 110, .int 117, .int 108, .int 108, .int 44, .int 32, .int 76, .int 97, .int 115, .int 116, .int 45, .int 77, .int 111, .int 100, .int 105, .int 102, .int 105, .int 101, .int 100, .int 32, .int 110, .int 117, .int 108, .int 108] (.int 0) ∧ Exa Z h y0 "[B") := by
 refine Ctr.of (plainFor_of_name pn_c7) ?_
 intro p e s m below meth c T0 hx hZ hby hml hown hnm hret hlk e0 es X0
 refine Go.cast (ef_32_RII m x0 (0 : Int32) (29 : Int32)) ?_
 generalize hFF : EndN s _ _ _ = FF
 refine Go.iloadN X0 hx 1 rfl (hb hby d32_0) rfl ?_
 refine Go.ifNo X0 hx 4 rfl (hb hby d32_1) (by decide) ?_
 refine Go.iloadN X0 hx 5 rfl (hb hby d32_4) rfl ?_
 refine Go.aloadN X0 hx 6 rfl (hb hby d32_5) rfl rfl ?_
 refine Go.arraylength X0 hx hZ e0 P0 7 rfl (hb hby d32_6) ?_
 refine Go.icmpNo X0 hx 10 rfl (hb hby d32_7) (by decide) ?_
 refine Go.aloadN X0 hx 11 rfl (hb hby d32_10) rfl rfl ?_
 refine Go.iloadN X0 hx 12 rfl (hb hby d32_11) rfl ?_
 refine Go.iloadN X0 hx 13 rfl (hb hby d32_12) rfl ?_
 refine Go.callS X0 hx hZ hown (tw_175 hw) (tw_176 hw) (tw_136 hw) (tw_177 hw) (by decide) (tw_177 hw) (tw_136 hw) (au_136 l Z a0 hw x0 kk0 h0 n0 Z0 P0) e0 (argsL := [.ref x0, .int 0, .int 29]) (rest := []) 16 rfl (hml ▸ rfl) (lenOf pd_23 rfl) rfl rfl (W := 0) (nE rfl) (by decide) (by decide) (by decide) (by decide) (hb hby d32_13) ?_
 intro v1 T1 L1 q1 X1
 obtain ⟨h1, e1⟩ : ∃ z, T1.heap = z := ⟨_, rfl⟩
 rw [e1] at q1
 obtain ⟨b1_0, k1_0, rfl, N1, K1, s1_0, F1_0, F1_1⟩ := q1
 show Go _ _ _ _ (T1.setTop (mkF m 16 #[vR x0, vI 0, vI 29] [.ref b1_0]))
 subst hFF
 refine Go.retR X1 hx hlk (t := (.array .byte)) hret rfl rfl (hb hby d32_16) (by decide) (by decide) ?_
 rw [e1]
 have Kp2 := ((Keep.refl h0 []).trans K1 all0)
 have sz3 := Nat.le_trans (Keep.refl h0 []).1 s1_0
 exact ⟨b1_0, k1_0, rfl, (Fr.app (Fr.nil n0) N1), Kp2, sz3, F1_0, F1_1⟩
theorem au_130 (l : Launch) (Z : State) (a0 : Array Value) (hw : HW a0 Z) (x0 x1 x2 : Addr) (kk0 : ClassId) (gz1 : Int32) (gv5 : Value) (h0 : Heap) (n0 : Nat) (Z0 : n0 ≤ h0.size) (O0 : Old Z n0 h0) (G : Glob Z gz1 gv5) (P0 : Exa Z h0 x0 s1) (P1 : Fld Z h0 x0 s1 s4 "B" (.int 0)) (P2 : Fld Z h0 x0 s1 s5 "[B" .null) (P3 : Exa Z h0 x1 s3) (P4 : Fld Z h0 x1 s0 s4 "B" (.int 0)) (P5 : Fld Z h0 x1 s0 "count" "I" (.int 29)) (P6 : Fld Z h0 x1 s0 s5 "[B" (.ref x2)) (P7 : Arv Z h0 x2 kk0 .byte (34 : Int32) [.int 69, .int 84, .int 97, .int 103, .int 32, .int 110, .int 117, .int 108, .int 108, .int 44, .int 32, .int 76, .int 97, .int 115, .int 116, .int 45, .int 77, .int 111, .int 100, .int 105, .int 102, .int 105, .int 101, .int 100, .int 32, .int 110, .int 117, .int 108, .int 108, .int 0, .int 0, .int 0, .int 0, .int 0] (.int 0)) (g_x0 : n0 ≤ x0) (ne_x2_x0 : x2 ≠ x0) :
    Ctr l Z ⟨s1, "<init>", "(Ljava/lang/AbstractStringBuilder;Ljava/lang/Void;)V"⟩ jdk_42_method_150_code 5 none (rM 3 1 29 49) #[.ref x0, .ref x1, .null] h0 (fun v h L => ∃ (y0 : Addr) (y1 : ClassId), v = none ∧ Fr n0 L ∧ Keep h0 h [x0] ∧ h0.size ≤ y0 ∧ Exa Z h x0 s1 ∧ Fld Z h x0 s1 s4 "B" (.int 0) ∧ Fld Z h x0 s1 s5 "[B" (.ref y0) ∧ Arv Z h y0 y1 .byte (29 : Int32) [.int 69, .int 84, .int 97, .int 103, .int 32, .int 110, .int 117, .int 108, .int 108, .int 44, .int 32, .int 76, .int 97, .int 115, .int 116, .int 45, .int 77, .int 111, .int 100, .int 105, .int 102, .int 105, .int 101, .int 100, .int 32, .int 110, .int 117, .int 108, .int 108] (.int 0) ∧ Exa Z h y0 "[B") := by
 refine Ctr.of (plainFor_of_name pn_c2) ?_
 intro p e s m below meth c T0 hx hZ hby hml hown hnm hret hlk e0 es X0
 refine Go.cast (ef_27_RRN m x0 x1) ?_
 generalize hFF : EndN s _ _ _ = FF
 refine Go.aloadN X0 hx 1 rfl (hb hby d27_0) rfl rfl ?_
 refine Go.initO X0 hx hZ hown (tw_15 hw) (tw_16 hw) (tw_17 hw) e0 (by decide) (W := 0) (hml ▸ rfl) (nE rfl) (by decide) (pc' := 4) rfl (hb hby d27_1) ?_
 intro T1 e1 X1
 refine Go.aloadN X1 hx 5 rfl (hb hby d27_4) rfl rfl ?_
 refine Go.callV X1 hx hZ hown (tw_154 hw) (tw_155 hw) (notFace_of_selects (args := #[]) (mvT hZ (tw_157 hw))) (tw_157 hw) (tw_156 hw) (by decide) (tw_158 hw) (tw_60 hw) (au_131 l Z a0 hw x1 x2 h0 n0 Z0 P6) e1 P3 (argsL := []) (rest := []) 8 rfl (hml ▸ rfl) (lenOf pd_20 rfl) rfl rfl (W := 0) (nE rfl) (by decide) (by decide) (by decide) (by decide) (hb hby d27_5) ?_
 intro v2 T2 L2 q2 X2
 obtain ⟨rfl, N2, e2⟩ := q2
 show Go _ _ _ _ (T2.setTop (mkF m 8 #[vR x0, vR x1, .val .null, uS, uS] [.ref x2]))
 refine Go.astoreN X2 hx 9 rfl (hb hby d27_8) (Ls' := #[vR x0, vR x1, .val .null, vR x2, uS]) rfl rfl ?_
 refine Go.aloadN X2 hx 10 rfl (hb hby d27_9) rfl rfl ?_
 refine Go.callV X2 hx hZ hown (tw_159 hw) (tw_160 hw) (own_nf (args := #[]) (mvT hZ (tw_96 hw)) rfl) (tw_162 hw) (tw_163 hw) (by decide) (tw_164 hw) (tw_52 hw) (au_132 l Z a0 hw x1 h0 n0 Z0 P3 P5) e2 P3 (argsL := []) (rest := []) 13 rfl (hml ▸ rfl) (lenOf pd_10 rfl) rfl rfl (W := 0) (nE rfl) (by decide) (by decide) (by decide) (by decide) (hb hby d27_10) ?_
 intro v3 T3 L3 q3 X3
 obtain ⟨rfl, N3, e3⟩ := q3
 show Go _ _ _ _ (T3.setTop (mkF m 13 #[vR x0, vR x1, .val .null, vR x2, uS] [.int 29]))
 refine Go.istore X3 hx 15 rfl (hb hby d27_13) (Ls' := #[vR x0, vR x1, .val .null, vR x2, vI 29]) rfl ?_
 refine Go.aloadN X3 hx 16 rfl (hb hby d27_15) rfl rfl ?_
 refine Go.callV X3 hx hZ hown (tw_167 hw) (tw_168 hw) (notFace_of_selects (args := #[]) (mvT hZ (tw_170 hw))) (tw_170 hw) (tw_169 hw) (by decide) (tw_171 hw) (tw_60 hw) (au_134 l Z a0 hw x1 gz1 gv5 h0 n0 Z0 O0 G P4) e3 P3 (argsL := []) (rest := []) 19 rfl (hml ▸ rfl) (lenOf pd_21 rfl) rfl rfl (W := 0) (nE rfl) (by decide) (by decide) (by decide) (by decide) (hb hby d27_16) ?_
 intro v4 T4 L4 q4 X4
 obtain ⟨rfl, N4, e4⟩ := q4
 show Go _ _ _ _ (T4.setTop (mkF m 19 #[vR x0, vR x1, .val .null, vR x2, vI 29] [.int 1]))
 refine Go.ifNo X4 hx 22 rfl (hb hby d27_19) (by decide) ?_
 refine Go.aloadN X4 hx 23 rfl (hb hby d27_22) rfl rfl ?_
 refine Go.iconst X4 hx 24 rfl (hb hby d27_23) (v := (0 : Int32)) rfl ?_
 refine Go.putFN X4 hx hZ hown (tw_30 hw) Via.refl e4 P1 P0 (Or.inr ⟨(tw_31 hw), rfl, hnm⟩) (tw_5 hw) (ty := .byte) (v' := (.int 0)) (by decide) (by decide) (by decide) 27 rfl (hb hby d27_24) ?_
 intro T5 h5 e5 W5 F5 X5
 have N5 := Fr.snoc X5 (Fr.app (Fr.app (Fr.app (Fr.nil n0) N2) N3) N4) g_x0
 refine Go.aloadN X5 hx 28 rfl (hb hby d27_27) rfl rfl ?_
 refine Go.aloadN X5 hx 29 rfl (hb hby d27_28) rfl rfl ?_
 refine Go.iconst X5 hx 30 rfl (hb hby d27_29) (v := (0 : Int32)) rfl ?_
 refine Go.iload X5 hx 32 rfl (hb hby d27_30) rfl ?_
 have Kp7 := ((Keep.refl h0 [x0]).wr W5 (Or.inl (mG 0 rfl)))
 have Zn6 := Nat.le_trans Z0 Kp7.1
 have fk8 := (P7.other W5 ne_x2_x0)
 refine Go.callS X5 hx hZ hown (tw_172 hw) (tw_173 hw) (tw_136 hw) (tw_174 hw) (by decide) (tw_174 hw) (tw_136 hw) (au_135 l Z a0 hw x2 kk0 h5 n0 Zn6 fk8) e5 (argsL := [.ref x2, .int 0, .int 29]) (rest := [.ref x0]) 35 rfl (hml ▸ rfl) (lenOf pd_23 rfl) rfl rfl (W := 1) (nE rfl) (by decide) (by decide) (by decide) (by decide) (hb hby d27_32) ?_
 intro v9 T9 L9 q9 X9
 obtain ⟨h9, e9⟩ : ∃ z, T9.heap = z := ⟨_, rfl⟩
 rw [e9] at q9
 obtain ⟨b9_0, k9_0, rfl, N9, K9, s9_0, F9_0, F9_1⟩ := q9
 show Go _ _ _ _ (T9.setTop (mkF m 35 #[vR x0, vR x1, .val .null, vR x2, vI 29] [.ref b9_0, .ref x0]))
 have fk10 := ((P2.other W5 (Or.inr (slot_ne (Or.inr (tw_33 hw)) (Or.inr (tw_31 hw)) (by decide) (t := (.array .byte)) (t' := .byte) (by decide) (by decide)))).keep K9 nin0)
 have fk11 := ((P0.wr W5).keep K9)
 refine Go.putF X9 hx hZ hown (host := "") (Or.inl (tw_32 hw)) Via.refl e9 fk10 fk11 (Or.inr ⟨(tw_33 hw), rfl, hnm⟩) (tw_5 hw) (ty := (.array .byte)) (by decide) rfl rfl 38 rfl (hb hby d27_35) ?_
 intro T12 h12 e12 W12 F12 X12
 have N12 := Fr.snoc X12 (Fr.app N5 N9) g_x0
 refine Go.goto X12 hx 97 (hb hby d27_38) (by decide) (by decide) ?_
 subst hFF
 refine Go.ret0 X12 hx hlk hret (hb hby d27_97) (by decide) (by decide) ?_
 rw [e12]
 have fk13 := (fk11.wr W12)
 have fk14 := ((F5.keep K9 nin0).other W12 (Or.inr (slot_ne (Or.inr (tw_31 hw)) (Or.inr (tw_33 hw)) (by decide) (t := .byte) (t' := (.array .byte)) (by decide) (by decide))))
 have fk16 := (P0.wr W5)
 have ne15 := Nat.ne_of_lt (Nat.lt_of_lt_of_le fk16.lt s9_0)
 have fk17 := (F9_0.other W12 (Ne.symm ne15))
 have fk18 := (F9_1.wr W12)
 have Kp19 := (Kp7.trans K9 all0)
 have Kp20 := (Kp19.wr W12 (Or.inl (mG 0 rfl)))
 have sz21 := Nat.le_trans Kp7.1 s9_0
 exact ⟨b9_0, k9_0, rfl, N12, Kp20, sz21, fk13, fk14, F12, fk17, fk18⟩
theorem au_129 (l : Launch) (Z : State) (a0 : Array Value) (hw : HW a0 Z) (x0 x1 x2 : Addr) (kk0 : ClassId) (gz1 : Int32) (gv5 : Value) (h0 : Heap) (n0 : Nat) (Z0 : n0 ≤ h0.size) (O0 : Old Z n0 h0) (G : Glob Z gz1 gv5) (P0 : Exa Z h0 x0 s1) (P1 : Fld Z h0 x0 s1 s4 "B" (.int 0)) (P2 : Fld Z h0 x0 s1 s5 "[B" .null) (P3 : Exa Z h0 x1 s3) (P4 : Fld Z h0 x1 s0 s4 "B" (.int 0)) (P5 : Fld Z h0 x1 s0 "count" "I" (.int 29)) (P6 : Fld Z h0 x1 s0 s5 "[B" (.ref x2)) (P7 : Arv Z h0 x2 kk0 .byte (34 : Int32) [.int 69, .int 84, .int 97, .int 103, .int 32, .int 110, .int 117, .int 108, .int 108, .int 44, .int 32, .int 76, .int 97, .int 115, .int 116, .int 45, .int 77, .int 111, .int 100, .int 105, .int 102, .int 105, .int 101, .int 100, .int 32, .int 110, .int 117, .int 108, .int 108, .int 0, .int 0, .int 0, .int 0, .int 0] (.int 0)) (g_x0 : n0 ≤ x0) (ne_x2_x0 : x2 ≠ x0) :
    Ctr l Z ⟨s1, "<init>", "(Ljava/lang/StringBuilder;)V"⟩ jdk_42_method_53_code 2 none (rM 4 1 29 65) #[.ref x0, .ref x1] h0 (fun v h L => ∃ (y0 : Addr) (y1 : ClassId), v = none ∧ Fr n0 L ∧ Keep h0 h [x0] ∧ h0.size ≤ y0 ∧ Exa Z h x0 s1 ∧ Fld Z h x0 s1 s4 "B" (.int 0) ∧ Fld Z h x0 s1 s5 "[B" (.ref y0) ∧ Arv Z h y0 y1 .byte (29 : Int32) [.int 69, .int 84, .int 97, .int 103, .int 32, .int 110, .int 117, .int 108, .int 108, .int 44, .int 32, .int 76, .int 97, .int 115, .int 116, .int 45, .int 77, .int 111, .int 100, .int 105, .int 102, .int 105, .int 101, .int 100, .int 32, .int 110, .int 117, .int 108, .int 108] (.int 0) ∧ Exa Z h y0 "[B") := by
 refine Ctr.of (plainFor_of_name pn_c2) ?_
 intro p e s m below meth c T0 hx hZ hby hml hown hnm hret hlk e0 es X0
 refine Go.cast (ef_26_RR m x0 x1) ?_
 generalize hFF : EndN s _ _ _ = FF
 refine Go.aloadN X0 hx 1 rfl (hb hby d26_0) rfl rfl ?_
 refine Go.aloadN X0 hx 2 rfl (hb hby d26_1) rfl rfl ?_
 refine Go.anull X0 hx 3 rfl (hb hby d26_2) ?_
 refine Go.callN X0 hx hZ hown rfl (tw_151 hw) (tw_152 hw) (tw_153 hw) (by decide) (tw_153 hw) (tw_6 hw) (au_130 l Z a0 hw x0 x1 x2 kk0 gz1 gv5 h0 n0 Z0 O0 G P0 P1 P2 P3 P4 P5 P6 P7 g_x0 ne_x2_x0) e0 (a := x0) (argsL := [.ref x1, .null]) (rest := []) 6 rfl (hml ▸ rfl) (lenOf pd_24 rfl) rfl rfl (W := 0) (nE rfl) (by decide) (by decide) (by decide) (by decide) (hb hby d26_3) ?_
 intro v1 T1 L1 q1 X1
 obtain ⟨h1, e1⟩ : ∃ z, T1.heap = z := ⟨_, rfl⟩
 rw [e1] at q1
 obtain ⟨b1_0, k1_0, rfl, N1, K1, s1_0, F1_0, F1_1, F1_2, F1_3, F1_4⟩ := q1
 show Go _ _ _ _ (T1.setTop (mkF m 6 #[vR x0, vR x1] []))
 subst hFF
 refine Go.ret0 X1 hx hlk hret (hb hby d26_6) (by decide) (by decide) ?_
 rw [e1]
 have Kp2 := ((Keep.refl h0 [x0]).trans K1 (allS (Or.inl (mG 0 rfl)) all0))
 have sz3 := Nat.le_trans (Keep.refl h0 [x0]).1 s1_0
 exact ⟨b1_0, k1_0, rfl, (Fr.app (Fr.nil n0) N1), Kp2, sz3, F1_0, F1_1, F1_2, F1_3, F1_4⟩
theorem au_128 (l : Launch) (Z : State) (a0 : Array Value) (hw : HW a0 Z) (x0 x1 : Addr) (kk0 : ClassId) (gz1 : Int32) (gv5 : Value) (h0 : Heap) (n0 : Nat) (Z0 : n0 ≤ h0.size) (O0 : Old Z n0 h0) (G : Glob Z gz1 gv5) (P0 : Exa Z h0 x0 s3) (P1 : Fld Z h0 x0 s0 s4 "B" (.int 0)) (P2 : Fld Z h0 x0 s0 "count" "I" (.int 29)) (P3 : Fld Z h0 x0 s0 s5 "[B" (.ref x1)) (P4 : Arv Z h0 x1 kk0 .byte (34 : Int32) [.int 69, .int 84, .int 97, .int 103, .int 32, .int 110, .int 117, .int 108, .int 108, .int 44, .int 32, .int 76, .int 97, .int 115, .int 116, .int 45, .int 77, .int 111, .int 100, .int 105, .int 102, .int 105, .int 101, .int 100, .int 32, .int 110, .int 117, .int 108, .int 108, .int 0, .int 0, .int 0, .int 0, .int 0] (.int 0)) :
    Ctr l Z ⟨s3, "toString", "()Ljava/lang/String;"⟩ jdk_67_method_42_code 1 (some (.object s1)) (rM 5 2 33 79) #[.ref x0] h0 (fun v h L => ∃ (y0 y1 : Addr) (y2 : ClassId), v = some (.ref y0) ∧ Fr n0 L ∧ Keep h0 h [] ∧ h0.size ≤ y0 ∧ h0.size ≤ y1 ∧ y1 ≠ y0 ∧ Exa Z h y0 s1 ∧ Fld Z h y0 s1 s4 "B" (.int 0) ∧ Fld Z h y0 s1 s5 "[B" (.ref y1) ∧ Arv Z h y1 y2 .byte (29 : Int32) [.int 69, .int 84, .int 97, .int 103, .int 32, .int 110, .int 117, .int 108, .int 108, .int 44, .int 32, .int 76, .int 97, .int 115, .int 116, .int 45, .int 77, .int 111, .int 100, .int 105, .int 102, .int 105, .int 101, .int 100, .int 32, .int 110, .int 117, .int 108, .int 108] (.int 0) ∧ Exa Z h y1 "[B") := by
 refine Ctr.of (plainFor_of_name pn_c5) ?_
 intro p e s m below meth c T0 hx hZ hby hml hown hnm hret hlk e0 es X0
 refine Go.cast (ef_25_R m x0) ?_
 generalize hFF : EndN s _ _ _ = FF
 refine Go.new X0 hx hZ hown (tw_147 hw) (tw_5 hw) (tw_6 hw) e0 (by decide) (by decide) 3 rfl (hb hby d25_0) ?_
 intro T1 h1 b1 e1 E1 g1 A1 D1 X1
 have b1_coder : Fld Z h1 b1 s1 s4 "B" (.int 0) := D1 (Or.inr (tw_31 hw)) (ty := .byte) (by decide)
 have b1_value : Fld Z h1 b1 s1 s5 "[B" .null := D1 (Or.inr (tw_33 hw)) (ty := (.array .byte)) (by decide)
 refine Go.dup X1 hx 4 rfl (hb hby d25_3) rfl ?_
 refine Go.aloadN X1 hx 5 rfl (hb hby d25_4) rfl rfl ?_
 have Kp3 := ((Keep.refl h0 []).ext E1)
 have Zn2 := Nat.le_trans Z0 Kp3.1
 have O4 := (O0.ext E1)
 have fk5 := (P0.ext E1)
 have fk6 := (P1.ext E1)
 have fk7 := (P2.ext E1)
 have fk8 := (P3.ext E1)
 have fk9 := (P4.ext E1)
 have sz11 := Nat.le_trans (Keep.refl h0 []).1 (Nat.le_of_eq g1.symm)
 have ge10 := Nat.le_trans Z0 sz11
 have ne12 := Nat.ne_of_lt (Nat.lt_of_lt_of_le P4.lt (Nat.le_of_eq g1.symm))
 refine Go.callN X1 hx hZ hown rfl (tw_148 hw) (tw_149 hw) (tw_150 hw) (by decide) (tw_150 hw) (tw_6 hw) (au_129 l Z a0 hw b1 x0 x1 kk0 gz1 gv5 h1 n0 Zn2 O4 G A1 b1_coder b1_value fk5 fk6 fk7 fk8 fk9 ge10 ne12) e1 (a := b1) (argsL := [.ref x0]) (rest := [.ref b1]) 8 rfl (hml ▸ rfl) (lenOf pd_25 rfl) rfl rfl (W := 1) (nE rfl) (by decide) (by decide) (by decide) (by decide) (hb hby d25_5) ?_
 intro v13 T13 L13 q13 X13
 obtain ⟨h13, e13⟩ : ∃ z, T13.heap = z := ⟨_, rfl⟩
 rw [e13] at q13
 obtain ⟨b13_0, k13_0, rfl, N13, K13, s13_0, F13_0, F13_1, F13_2, F13_3, F13_4⟩ := q13
 show Go _ _ _ _ (T13.setTop (mkF m 8 #[vR x0] [.ref b1]))
 subst hFF
 refine Go.retR X13 hx hlk (t := (.object s1)) hret rfl rfl (hb hby d25_8) (by decide) (by decide) ?_
 rw [e13]
 have Kp14 := (Kp3.trans K13 (allS (Or.inr sz11) all0))
 have sz15 := Nat.le_trans Kp3.1 s13_0
 have ne16 := Nat.ne_of_lt (Nat.lt_of_lt_of_le A1.lt s13_0)
 exact ⟨b1, b13_0, k13_0, rfl, (Fr.app (Fr.nil n0) N13), Kp14, sz11, sz15, (Ne.symm ne16), F13_0, F13_1, F13_2, F13_3, F13_4⟩
theorem au_123 (l : Launch) (Z : State) (a0 : Array Value) (hw : HW a0 Z) (x0 : Addr) (gz1 : Int32) (gv5 : Value) (h0 : Heap) (n0 : Nat) (Z0 : n0 ≤ h0.size) (O0 : Old Z n0 h0) (G : Glob Z gz1 gv5) (P0 : Exa Z h0 x0 s2) (P1 : Fld Z h0 x0 s2 "etag" s6 .null) (P2 : Fld Z h0 x0 s2 "lastModified" s6 .null) :
    CtrW l Z EL0 ⟨s2, "toString", "()Ljava/lang/String;"⟩ prog_9_method_6_code 1 (some (.object s1)) (rM 6 9 179 91) #[.ref x0] h0 [] (fun v vm h L => ∃ (y0 y1 : Addr) (y2 : ClassId), v = some (.ref y0) ∧ Fr n0 L ∧ Keep h0 h [] ∧ h0.size ≤ y0 ∧ h0.size ≤ y1 ∧ y1 ≠ y0 ∧ Safe Z EL0 vm h y0 ∧ Safe Z EL0 vm h y1 ∧ Exa Z h y0 s1 ∧ Fld Z h y0 s1 s4 "B" (.int 0) ∧ Fld Z h y0 s1 s5 "[B" (.ref y1) ∧ Arv Z h y1 y2 .byte (29 : Int32) [.int 69, .int 84, .int 97, .int 103, .int 32, .int 110, .int 117, .int 108, .int 108, .int 44, .int 32, .int 76, .int 97, .int 115, .int 116, .int 45, .int 77, .int 111, .int 100, .int 105, .int 102, .int 105, .int 101, .int 100, .int 32, .int 110, .int 117, .int 108, .int 108] (.int 0) ∧ Exa Z h y1 "[B") := by
 refine CtrW.of (plainFor_of_name pn_c3) ?_
 intro p e s m below meth c T0 hx hZ hby hml hown hnm hret hlk e0 es hS0 C0 hsf X0
 have G' := G
 obtain ⟨-, -, -, -⟩ := G'
 refine Go.cast (ef_9_R m x0) ?_
 generalize hFF : EndW Z EL0 s _ _ _ = FF
 refine Go.new X0 hx hZ hown (tw_50 hw) (tw_51 hw) (tw_52 hw) e0 (by decide) (by decide) 3 rfl (hb hby d9_0) ?_
 intro T1 h1 b1 e1 E1 g1 A1 D1 X1
 have b1_value : Fld Z h1 b1 s0 s5 "[B" .null := D1 (Or.inl (tw_65 hw)) (ty := (.array .byte)) (by decide)
 have b1_coder : Fld Z h1 b1 s0 s4 "B" (.int 0) := D1 (Or.inl (tw_67 hw)) (ty := .byte) (by decide)
 have b1_count : Fld Z h1 b1 s0 "count" "I" (.int 0) := D1 (Or.inl (tw_92 hw)) (ty := .int) (by decide)
 refine Go.dup X1 hx 4 rfl (hb hby d9_3) rfl ?_
 have Kp3 := ((Keep.refl h0 []).ext E1)
 have Zn2 := Nat.le_trans Z0 Kp3.1
 have O4 := (O0.ext E1)
 have sz6 := Nat.le_trans (Keep.refl h0 []).1 (Nat.le_of_eq g1.symm)
 have ge5 := Nat.le_trans Z0 sz6
 refine Go.callN X1 hx hZ hown rfl (tw_53 hw) (tw_54 hw) (tw_55 hw) (by decide) (tw_55 hw) (tw_52 hw) (au_11 l Z a0 hw b1 gz1 gv5 h1 n0 Zn2 O4 G A1 b1_coder b1_count b1_value ge5) e1 (a := b1) (argsL := []) (rest := [.ref b1]) 7 rfl (hml ▸ rfl) (lenOf pd_8 rfl) rfl rfl (W := 1) (nE rfl) (by decide) (by decide) (by decide) (by decide) (hb hby d9_4) ?_
 intro v7 T7 L7 q7 X7
 obtain ⟨h7, e7⟩ : ∃ z, T7.heap = z := ⟨_, rfl⟩
 rw [e7] at q7
 obtain ⟨b7_0, k7_0, rfl, N7, K7, s7_0, F7_0, F7_1, F7_2, F7_3, F7_4, F7_5⟩ := q7
 show Go _ _ _ _ (T7.setTop (mkF m 7 #[vR x0] [.ref b1]))
 have C8 := (C0.trans (CHr.ext E1 C0.1))
 have fk9 := (Safe.ext E1 C0.1 (Safe.new (Nat.le_of_eq g1.symm) : Safe Z EL0 s.vm h0 b1))
 have C10 := (C8.trans (CHr.keep K7 (sfS fk9 sf0) C8.1))
 have hk11 := (Nat.le_trans (Nat.le_trans (Nat.le_refl _) E1.1) K7.1)
 refine Go.ldcCH X7 hx hZ hown (tw_68 hw) (own_SA hw) e7 hS0 hk11 (own_EW hw) (mG 0 rfl) C10.1 (vs := [(.int (69 : Int32)), (.int (84 : Int32)), (.int (97 : Int32)), (.int (103 : Int32)), (.int (32 : Int32))]) (z := (5 : Int32)) (by decide) (by decide) rfl (n := 20) (by decide) (by decide) (by decide) (by decide) 9 rfl (hb hby d9_7) ?_
 intro a12 T12 h12 j12 b12 k12 e12 E12 S12 i12 Z12 O12 A12 F12 G12 V12 C12 D12 X12
 have Kp14 := (Kp3.trans K7 (allS (Or.inr sz6) all0))
 have Kp15 := (Kp14.ext E12)
 have Zn13 := Nat.le_trans Z0 Kp15.1
 have O16 := (O4.keep K7 (allS ge5 all0))
 have O17 := (O16.ext E12)
 have fk18 := (F7_0.ext E12)
 have fk19 := (F7_1.ext E12)
 have fk20 := (F7_2.ext E12)
 have fk21 := (F7_3.ext E12)
 have fk22 := (F7_4.ext E12)
 have fk23 := (F7_5.ext E12)
 have sz25 := Nat.le_trans Kp3.1 s7_0
 have ge24 := Nat.le_trans Z0 sz25
 have ne26 := Nat.ne_of_lt (Nat.lt_of_lt_of_le A1.lt s7_0)
 refine Go.callV X12 hx Z12 O12 (tw_71 hw) (tw_72 hw) (notFace_of_selects (args := #[]) (mvT Z12 (tw_74 hw))) (tw_74 hw) (tw_73 hw) (by decide) (tw_75 hw) (tw_52 hw) (au_14 l Z a0 hw b1 a12 b7_0 b12 k7_0 k12 gz1 gv5 h12 n0 Zn13 O17 G fk18 fk19 fk20 fk21 A12 F12 G12 fk22 fk23 V12 ge24 ge5 ne26) e12 fk18 (argsL := [.ref a12]) (rest := []) 12 rfl (hml ▸ rfl) (lenOf pd_15 rfl) rfl rfl (W := 0) (nE rfl) (by decide) (by decide) (by decide) (by decide) (hb hby d9_9) ?_
 intro v27 T27 L27 q27 X27
 obtain ⟨h27, e27⟩ : ∃ z, T27.heap = z := ⟨_, rfl⟩
 rw [e27] at q27
 obtain ⟨rfl, N27, K27, F27_0, F27_1, F27_2, F27_3, F27_4, F27_5⟩ := q27
 show Go _ _ _ _ (T27.setTop (mkF m 12 #[vR x0] [.ref b1]))
 refine Go.aloadN X27 hx 13 rfl (hb hby d9_12) rfl rfl ?_
 have ne28 := Nat.ne_of_lt (Nat.lt_of_lt_of_le P0.lt (Nat.le_of_eq g1.symm))
 have fk30 := (P0.ext E1)
 have ne29 := Nat.ne_of_lt (Nat.lt_of_lt_of_le fk30.lt s7_0)
 have fk31 := ((((P1.ext E1).keep K7 (ninS ne28 nin0)).ext E12).keep K27 (ninS ne28 (ninS ne29 nin0)))
 refine Go.getF X27 hx Z12 O12 (host := "") (Or.inl (tw_41 hw)) Via.refl e27 fk31 16 rfl (hb hby d9_13) ?_
 intro T32 e32 X32
 have Kp34 := (Kp15.trans K27 (allS (Or.inr sz6) (allS (Or.inr sz25) all0)))
 have Zn33 := Nat.le_trans Z0 Kp34.1
 have O35 := (O17.keep K27 (allS ge5 (allS ge24 all0)))
 refine Go.callV X32 hx Z12 O12 (tw_71 hw) (tw_72 hw) (notFace_of_selects (args := #[]) (mvT Z12 (tw_74 hw))) (tw_74 hw) (tw_73 hw) (by decide) (tw_75 hw) (tw_52 hw) (au_89 l Z a0 hw b1 b7_0 k7_0 gz1 gv5 h27 n0 Zn33 O35 G F27_0 F27_1 F27_2 F27_3 F27_4 F27_5 ge24 ge5 ne26) e32 F27_0 (argsL := [.null]) (rest := []) 19 rfl (hml ▸ rfl) (lenOf pd_15 rfl) rfl rfl (W := 0) (nE rfl) (by decide) (by decide) (by decide) (by decide) (hb hby d9_16) ?_
 intro v36 T36 L36 q36 X36
 obtain ⟨h36, e36⟩ : ∃ z, T36.heap = z := ⟨_, rfl⟩
 rw [e36] at q36
 obtain ⟨rfl, N36, K36, F36_0, F36_1, F36_2, F36_3, F36_4, F36_5⟩ := q36
 show Go _ _ _ _ (T36.setTop (mkF m 19 #[vR x0] [.ref b1]))
 have C37 := (C10.trans C12)
 have fk38 := (Safe.keep K7 (sfS fk9 sf0) C8.1 (Safe.new s7_0 : Safe Z EL0 s.vm h1 b7_0))
 have fk39 := (C12.safe F7_5.lt fk38)
 have fk40 := (Safe.keep K7 (sfS fk9 sf0) C8.1 fk9)
 have fk41 := (C12.safe F7_0.lt fk40)
 have C42 := (C37.trans (CHr.keep K27 (sfS fk41 (sfS fk39 sf0)) C37.1))
 have fk43 := (Safe.keep K27 (sfS fk41 (sfS fk39 sf0)) C37.1 fk39)
 have fk44 := (Safe.keep K27 (sfS fk41 (sfS fk39 sf0)) C37.1 fk41)
 have C45 := (C42.trans (CHr.keep K36 (sfS fk44 (sfS fk43 sf0)) C42.1))
 have hk46 := (Nat.le_trans (Nat.le_trans i12 K27.1) K36.1)
 refine Go.ldcCH X36 hx Z12 O12 (tw_118 hw) (own_SA hw) e36 S12 hk46 (own_EW hw) (mG 1 rfl) C45.1 (vs := [(.int (44 : Int32)), (.int (32 : Int32)), (.int (76 : Int32)), (.int (97 : Int32)), (.int (115 : Int32)), (.int (116 : Int32)), (.int (45 : Int32)), (.int (77 : Int32)), (.int (111 : Int32)), (.int (100 : Int32)), (.int (105 : Int32)), (.int (102 : Int32)), (.int (105 : Int32)), (.int (101 : Int32)), (.int (100 : Int32)), (.int (32 : Int32))]) (z := (16 : Int32)) (by decide) (by decide) rfl (n := 64) (by decide) (by decide) (by decide) (by decide) 21 rfl (hb hby d9_19) ?_
 intro a47 T47 h47 j47 b47 k47 e47 E47 S47 i47 Z47 O47 A47 F47 G47 V47 C47 D47 X47
 have Kp49 := (Kp34.trans K36 (allS (Or.inr sz6) (allS (Or.inr sz25) all0)))
 have Kp50 := (Kp49.ext E47)
 have Zn48 := Nat.le_trans Z0 Kp50.1
 have O51 := (O35.keep K36 (allS ge5 (allS ge24 all0)))
 have O52 := (O51.ext E47)
 have fk53 := (F36_0.ext E47)
 have fk54 := (F36_1.ext E47)
 have fk55 := (F36_2.ext E47)
 have fk56 := (F36_3.ext E47)
 have fk57 := (F36_4.ext E47)
 have fk58 := (Safe.keep K36 (sfS fk44 (sfS fk43 sf0)) C42.1 fk44)
 have fk59 := (C47.safe F36_0.lt fk58)
 refine Go.callV X47 hx Z47 O47 (tw_71 hw) (tw_72 hw) (notFace_of_selects (args := #[]) (mvT Z47 (tw_74 hw))) (tw_74 hw) (tw_73 hw) (by decide) (tw_75 hw) (tw_52 hw) (au_93 l Z a0 hw b1 a47 b7_0 b47 k7_0 k47 gz1 gv5 h47 n0 Zn48 O52 G fk53 fk54 fk55 fk56 A47 F47 G47 fk57 V47 ge5 (Ne.symm (D47 b1 fk59).1) (Ne.symm (D47 b1 fk59).2)) e47 fk53 (argsL := [.ref a47]) (rest := []) 24 rfl (hml ▸ rfl) (lenOf pd_15 rfl) rfl rfl (W := 0) (nE rfl) (by decide) (by decide) (by decide) (by decide) (hb hby d9_21) ?_
 intro v60 T60 L60 q60 X60
 obtain ⟨h60, e60⟩ : ∃ z, T60.heap = z := ⟨_, rfl⟩
 rw [e60] at q60
 obtain ⟨b60_0, k60_0, rfl, N60, K60, s60_0, F60_0, F60_1, F60_2, F60_3, F60_4, F60_5⟩ := q60
 show Go _ _ _ _ (T60.setTop (mkF m 24 #[vR x0] [.ref b1]))
 refine Go.aloadN X60 hx 25 rfl (hb hby d9_24) rfl rfl ?_
 have fk61 := (((((((P2.ext E1).keep K7 (ninS ne28 nin0)).ext E12).keep K27 (ninS ne28 (ninS ne29 nin0))).keep K36 (ninS ne28 (ninS ne29 nin0))).ext E47).keep K60 (ninS ne28 nin0))
 refine Go.getF X60 hx Z47 O47 (host := "") (Or.inl (tw_43 hw)) Via.refl e60 fk61 28 rfl (hb hby d9_25) ?_
 intro T62 e62 X62
 have Kp64 := (Kp50.trans K60 (allS (Or.inr sz6) all0))
 have Zn63 := Nat.le_trans Z0 Kp64.1
 have O65 := (O52.keep K60 (allS ge5 all0))
 have sz67 := Nat.le_trans Kp50.1 s60_0
 have ge66 := Nat.le_trans Z0 sz67
 have ne68 := Nat.ne_of_lt (Nat.lt_of_lt_of_le fk53.lt s60_0)
 refine Go.callV X62 hx Z47 O47 (tw_71 hw) (tw_72 hw) (notFace_of_selects (args := #[]) (mvT Z47 (tw_74 hw))) (tw_74 hw) (tw_73 hw) (by decide) (tw_75 hw) (tw_52 hw) (au_124 l Z a0 hw b1 b60_0 k60_0 gz1 gv5 h60 n0 Zn63 O65 G F60_0 F60_1 F60_2 F60_3 F60_4 F60_5 ge66 ge5 ne68) e62 F60_0 (argsL := [.null]) (rest := []) 31 rfl (hml ▸ rfl) (lenOf pd_15 rfl) rfl rfl (W := 0) (nE rfl) (by decide) (by decide) (by decide) (by decide) (hb hby d9_28) ?_
 intro v69 T69 L69 q69 X69
 obtain ⟨h69, e69⟩ : ∃ z, T69.heap = z := ⟨_, rfl⟩
 rw [e69] at q69
 obtain ⟨rfl, N69, K69, F69_0, F69_1, F69_2, F69_3, F69_4, F69_5⟩ := q69
 show Go _ _ _ _ (T69.setTop (mkF m 31 #[vR x0] [.ref b1]))
 have Kp71 := (Kp64.trans K69 (allS (Or.inr sz6) (allS (Or.inr sz67) all0)))
 have Zn70 := Nat.le_trans Z0 Kp71.1
 have O72 := (O65.keep K69 (allS ge5 (allS ge66 all0)))
 refine Go.callV X69 hx Z47 O47 (tw_142 hw) (tw_143 hw) (notFace_of_selects (args := #[]) (mvT Z47 (tw_145 hw))) (tw_145 hw) (tw_144 hw) (by decide) (tw_146 hw) (tw_52 hw) (au_128 l Z a0 hw b1 b60_0 k60_0 gz1 gv5 h69 n0 Zn70 O72 G F69_0 F69_1 F69_2 F69_3 F69_4) e69 F69_0 (argsL := []) (rest := []) 34 rfl (hml ▸ rfl) (lenOf pd_26 rfl) rfl rfl (W := 0) (nE rfl) (by decide) (by decide) (by decide) (by decide) (hb hby d9_31) ?_
 intro v73 T73 L73 q73 X73
 obtain ⟨h73, e73⟩ : ∃ z, T73.heap = z := ⟨_, rfl⟩
 rw [e73] at q73
 obtain ⟨b73_0, b73_1, k73_0, rfl, N73, K73, s73_0, s73_1, n73_0, F73_0, F73_1, F73_2, F73_3, F73_4⟩ := q73
 show Go _ _ _ _ (T73.setTop (mkF m 34 #[vR x0] [.ref b73_0]))
 subst hFF
 have C74 := (C45.trans C47)
 have C75 := (C74.trans (CHr.keep K60 (sfS fk59 sf0) C74.1))
 have fk76 := (Safe.keep K60 (sfS fk59 sf0) C74.1 (Safe.new s60_0 : Safe Z EL0 T47.vm h47 b60_0))
 have fk77 := (Safe.keep K60 (sfS fk59 sf0) C74.1 fk59)
 have C78 := (C75.trans (CHr.keep K69 (sfS fk77 (sfS fk76 sf0)) C75.1))
 have C79 := (C78.trans (CHr.keep K73 sf0 C78.1))
 have hk80 := (Nat.le_trans (Nat.le_trans (Nat.le_trans i47 K60.1) K69.1) K73.1)
 refine Go.retRW X73 hx hlk Z47 (own_EW hw) e73 S47 hk80 C79 (t := (.object s1)) hret rfl rfl (hb hby d9_34) (by decide) (by decide) (fun hat => ?_)
 have Kp81 := (Kp71.trans K73 all0)
 have sz82 := Nat.le_trans Kp71.1 s73_0
 have sz83 := Nat.le_trans Kp71.1 s73_1
 have fk84 := (Safe.keep K73 sf0 C78.1 (Safe.new s73_0 : Safe Z EL0 T47.vm h69 b73_0))
 have fk85 := (Safe.keep K73 sf0 C78.1 (Safe.new s73_1 : Safe Z EL0 T47.vm h69 b73_1))
 exact ⟨b73_0, b73_1, k73_0, rfl, (Fr.app (Fr.app (Fr.app (Fr.app (Fr.app (Fr.app (Fr.nil n0) N7) N27) N36) N60) N69) N73), Kp81, sz82, sz83, n73_0, (hat.safe F73_0.lt fk84), (hat.safe F73_3.lt fk85), F73_0, F73_1, F73_2, F73_3, F73_4⟩
theorem au_139 (l : Launch) (Z : State) (a0 : Array Value) (hw : HW a0 Z) (x0 : Addr) (kk0 : ClassId) (h0 : Heap) (n0 : Nat) (Z0 : n0 ≤ h0.size) (P0 : Arv Z h0 x0 kk0 .char (29 : Int32) [.int 69, .int 84, .int 97, .int 103, .int 32, .int 110, .int 117, .int 108, .int 108, .int 44, .int 32, .int 76, .int 97, .int 115, .int 116, .int 45, .int 77, .int 111, .int 100, .int 105, .int 102, .int 105, .int 101, .int 100, .int 32, .int 110, .int 117, .int 108, .int 108] (.int 0)) :
    Ctr l Z ⟨"java/lang/StringUTF16", "compress", "([CII)[B"⟩ jdk_52_method_16_code 6 (some (.array .byte)) (rM 1 1 29 18) #[.ref x0, .int 0, .int 29] h0 (fun v h L => ∃ (y0 : Addr) (y1 : ClassId), v = some (.ref y0) ∧ Fr n0 L ∧ Keep h0 h [] ∧ h0.size ≤ y0 ∧ Arv Z h y0 y1 .byte (29 : Int32) [.int 69, .int 84, .int 97, .int 103, .int 32, .int 110, .int 117, .int 108, .int 108, .int 44, .int 32, .int 76, .int 97, .int 115, .int 116, .int 45, .int 77, .int 111, .int 100, .int 105, .int 102, .int 105, .int 101, .int 100, .int 32, .int 110, .int 117, .int 108, .int 108] (.int 0) ∧ Exa Z h y0 "[B") := by
 refine Ctr.of (plainFor_of_name pn_c1) ?_
 intro p e s m below meth c T0 hx hZ hby hml hown hnm hret hlk e0 es X0
 refine Go.cast (ef_5_RII m x0 (0 : Int32) (29 : Int32)) ?_
 generalize hFF : EndN s _ _ _ = FF
 refine Go.iloadN X0 hx 1 rfl (hb hby d5_0) rfl ?_
 refine Go.newarray X0 hx hZ (ty := .byte) rfl (tw_23 hw) e0 (by decide) (cap := 29) (by decide) (by decide) (by decide) (by decide) (ad := "[B") (by decide) 29 3 rfl (hb hby d5_1) ?_
 intro T1 h1 b1 k1 e1 E1 g1 V1 A1 X1
 have V1' : Arv Z h1 b1 k1 .byte (29 : Int32) [.int 0, .int 0, .int 0, .int 0, .int 0, .int 0, .int 0, .int 0, .int 0, .int 0, .int 0, .int 0, .int 0, .int 0, .int 0, .int 0, .int 0, .int 0, .int 0, .int 0, .int 0, .int 0, .int 0, .int 0, .int 0, .int 0, .int 0, .int 0, .int 0] (.int 0) := V1
 refine Go.astoreN X1 hx 4 rfl (hb hby d5_3) (Ls' := #[vR x0, vI 0, vI 29, vR b1, uS, uS]) rfl rfl ?_
 refine Go.aloadN X1 hx 5 rfl (hb hby d5_4) rfl rfl ?_
 refine Go.iloadN X1 hx 6 rfl (hb hby d5_5) rfl ?_
 refine Go.aloadN X1 hx 7 rfl (hb hby d5_6) rfl rfl ?_
 refine Go.iconst X1 hx 8 rfl (hb hby d5_7) (v := (0 : Int32)) rfl ?_
 refine Go.iloadN X1 hx 9 rfl (hb hby d5_8) rfl ?_
 have fk2 := (P0.ext E1)
 have sz4 := Nat.le_trans (Keep.refl h0 []).1 (Nat.le_of_eq g1.symm)
 have ge3 := Nat.le_trans Z0 sz4
 have ne5 := Nat.ne_of_lt (Nat.lt_of_lt_of_le P0.lt (Nat.le_of_eq g1.symm))
 refine Go.callS X1 hx hZ hown (tw_24 hw) (tw_25 hw) (tw_21 hw) (tw_26 hw) (by decide) (tw_26 hw) (tw_21 hw) (gl_co l Z a0 hw x0 b1 kk0 k1 (29 : Int32) [(69 : Int32), (84 : Int32), (97 : Int32), (103 : Int32), (32 : Int32), (110 : Int32), (117 : Int32), (108 : Int32), (108 : Int32), (44 : Int32), (32 : Int32), (76 : Int32), (97 : Int32), (115 : Int32), (116 : Int32), (45 : Int32), (77 : Int32), (111 : Int32), (100 : Int32), (105 : Int32), (102 : Int32), (105 : Int32), (101 : Int32), (100 : Int32), (32 : Int32), (110 : Int32), (117 : Int32), (108 : Int32), (108 : Int32)] h1 n0 fk2 V1' rfl (own_rcons (own_rw (own_rlit (n := 69) (by decide)) (by decide) (by decide)) (own_rcons (own_rw (own_rlit (n := 84) (by decide)) (by decide) (by decide)) (own_rcons (own_rw (own_rlit (n := 97) (by decide)) (by decide) (by decide)) (own_rcons (own_rw (own_rlit (n := 103) (by decide)) (by decide) (by decide)) (own_rcons (own_rw (own_rlit (n := 32) (by decide)) (by decide) (by decide)) (own_rcons (own_rw (own_rlit (n := 110) (by decide)) (by decide) (by decide)) (own_rcons (own_rw (own_rlit (n := 117) (by decide)) (by decide) (by decide)) (own_rcons (own_rw (own_rlit (n := 108) (by decide)) (by decide) (by decide)) (own_rcons (own_rw (own_rlit (n := 108) (by decide)) (by decide) (by decide)) (own_rcons (own_rw (own_rlit (n := 44) (by decide)) (by decide) (by decide)) (own_rcons (own_rw (own_rlit (n := 32) (by decide)) (by decide) (by decide)) (own_rcons (own_rw (own_rlit (n := 76) (by decide)) (by decide) (by decide)) (own_rcons (own_rw (own_rlit (n := 97) (by decide)) (by decide) (by decide)) (own_rcons (own_rw (own_rlit (n := 115) (by decide)) (by decide) (by decide)) (own_rcons (own_rw (own_rlit (n := 116) (by decide)) (by decide) (by decide)) (own_rcons (own_rw (own_rlit (n := 45) (by decide)) (by decide) (by decide)) (own_rcons (own_rw (own_rlit (n := 77) (by decide)) (by decide) (by decide)) (own_rcons (own_rw (own_rlit (n := 111) (by decide)) (by decide) (by decide)) (own_rcons (own_rw (own_rlit (n := 100) (by decide)) (by decide) (by decide)) (own_rcons (own_rw (own_rlit (n := 105) (by decide)) (by decide) (by decide)) (own_rcons (own_rw (own_rlit (n := 102) (by decide)) (by decide) (by decide)) (own_rcons (own_rw (own_rlit (n := 105) (by decide)) (by decide) (by decide)) (own_rcons (own_rw (own_rlit (n := 101) (by decide)) (by decide) (by decide)) (own_rcons (own_rw (own_rlit (n := 100) (by decide)) (by decide) (by decide)) (own_rcons (own_rw (own_rlit (n := 32) (by decide)) (by decide) (by decide)) (own_rcons (own_rw (own_rlit (n := 110) (by decide)) (by decide) (by decide)) (own_rcons (own_rw (own_rlit (n := 117) (by decide)) (by decide) (by decide)) (own_rcons (own_rw (own_rlit (n := 108) (by decide)) (by decide) (by decide)) (own_rcons (own_rw (own_rlit (n := 108) (by decide)) (by decide) (by decide)) (fun i hi => absurd hi (Nat.not_lt_zero i))))))))))))))))))))))))))))))) ge3 ne5) e1 (argsL := [.ref x0, .int 0, .ref b1, .int 0, .int 29]) (rest := []) 12 rfl (hml ▸ rfl) (lenOf pd_1 rfl) rfl rfl (W := 0) (nE rfl) (by decide) (by decide) (by decide) (by decide) (hb hby d5_9) ?_
 intro v6 T6 L6 q6 X6
 obtain ⟨h6, e6⟩ : ∃ z, T6.heap = z := ⟨_, rfl⟩
 rw [e6] at q6
 obtain ⟨rfl, N6, K6, V6⟩ := q6
 rw [show ([(69 : Int32), (84 : Int32), (97 : Int32), (103 : Int32), (32 : Int32), (110 : Int32), (117 : Int32), (108 : Int32), (108 : Int32), (44 : Int32), (32 : Int32), (76 : Int32), (97 : Int32), (115 : Int32), (116 : Int32), (45 : Int32), (77 : Int32), (111 : Int32), (100 : Int32), (105 : Int32), (102 : Int32), (105 : Int32), (101 : Int32), (100 : Int32), (32 : Int32), (110 : Int32), (117 : Int32), (108 : Int32), (108 : Int32)] : List Int32).map (fun c => Value.int c.toInt8.toInt32) = [.int 69, .int 84, .int 97, .int 103, .int 32, .int 110, .int 117, .int 108, .int 108, .int 44, .int 32, .int 76, .int 97, .int 115, .int 116, .int 45, .int 77, .int 111, .int 100, .int 105, .int 102, .int 105, .int 101, .int 100, .int 32, .int 110, .int 117, .int 108, .int 108] from (own_mc (by decide) (own_mc (by decide) (own_mc (by decide) (own_mc (by decide) (own_mc (by decide) (own_mc (by decide) (own_mc (by decide) (own_mc (by decide) (own_mc (by decide) (own_mc (by decide) (own_mc (by decide) (own_mc (by decide) (own_mc (by decide) (own_mc (by decide) (own_mc (by decide) (own_mc (by decide) (own_mc (by decide) (own_mc (by decide) (own_mc (by decide) (own_mc (by decide) (own_mc (by decide) (own_mc (by decide) (own_mc (by decide) (own_mc (by decide) (own_mc (by decide) (own_mc (by decide) (own_mc (by decide) (own_mc (by decide) (own_mc (by decide) rfl)))))))))))))))))))))))))))))] at V6
 show Go _ _ _ _ (T6.setTop (mkF m 12 #[vR x0, vI 0, vI 29, vR b1, uS, uS] [.int 29]))
 refine Go.istore X6 hx 14 rfl (hb hby d5_12) (Ls' := #[vR x0, vI 0, vI 29, vR b1, vI 29, uS]) rfl ?_
 refine Go.iload X6 hx 16 rfl (hb hby d5_14) rfl ?_
 refine Go.iloadN X6 hx 17 rfl (hb hby d5_16) rfl ?_
 refine Go.icmpYes X6 hx 57 (hb hby d5_17) (by decide) (by decide) (by decide) ?_
 refine Go.aloadN X6 hx 58 rfl (hb hby d5_57) rfl rfl ?_
 subst hFF
 refine Go.retR X6 hx hlk (t := (.array .byte)) hret rfl rfl (hb hby d5_58) (by decide) (by decide) ?_
 rw [e6]
 have fk7 := (A1.keep K6)
 have Kp8 := ((Keep.refl h0 []).ext E1)
 have Kp9 := (Kp8.trans K6 (allS (Or.inr sz4) all0))
 exact ⟨b1, k1, rfl, (Fr.app (Fr.nil n0) N6), Kp9, sz4, V6, fk7⟩
theorem au_140 (l : Launch) (Z : State) (a0 : Array Value) (hw : HW a0 Z) (x0 : Addr) (kk0 : ClassId) (h0 : Heap) (n0 : Nat) (Z0 : n0 ≤ h0.size) (P0 : Arv Z h0 x0 kk0 .byte (29 : Int32) [.int 69, .int 84, .int 97, .int 103, .int 32, .int 110, .int 117, .int 108, .int 108, .int 44, .int 32, .int 76, .int 97, .int 115, .int 116, .int 45, .int 77, .int 111, .int 100, .int 105, .int 102, .int 105, .int 101, .int 100, .int 32, .int 110, .int 117, .int 108, .int 108] (.int 0)) :
    Ctr l Z ⟨"java/lang/StringUTF16", "coderFromArrayLen", "([BI)B"⟩ jdk_52_method_15_code 2 (some .byte) (rM 0 0 0 0) #[.ref x0, .int 29] h0 (fun v h L => v = some (.int 0) ∧ Fr n0 L ∧ h = h0) := by
 refine Ctr.of (plainFor_of_name pn_c1) ?_
 intro p e s m below meth c T0 hx hZ hby hml hown hnm hret hlk e0 es X0
 refine Go.cast (ef_7_RI m x0 (29 : Int32)) ?_
 generalize hFF : EndN s _ _ _ = FF
 refine Go.iloadN X0 hx 1 rfl (hb hby d7_0) rfl ?_
 refine Go.aloadN X0 hx 2 rfl (hb hby d7_1) rfl rfl ?_
 refine Go.arraylength X0 hx hZ e0 P0 3 rfl (hb hby d7_2) ?_
 refine Go.isub X0 hx 4 rfl (hb hby d7_3) ?_
 rw [show ((29 : Int32) - (29 : Int32)) = (0 : Int32) from by decide]
 refine Go.bipush X0 hx 6 rfl (hb hby d7_4) (v := (31 : Int32)) (by decide) ?_
 refine Go.iushr X0 hx 7 rfl (hb hby d7_6) ?_
 rw [show (((0 : Int32).toUInt32 >>> ((31 : Int32) &&& 31).toUInt32).toInt32) = (0 : Int32) from by decide]
 refine Go.i2b X0 hx 8 rfl (hb hby d7_7) ?_
 rw [show ((0 : Int32).toInt8.toInt32) = (0 : Int32) from by decide]
 subst hFF
 refine Go.retN X0 hx hlk (t := .byte) hret (by simp) (hb hby d7_8) (by decide) (by decide) ?_
 rw [e0]
 exact ⟨(congrArg (fun z => some (Value.int z)) (by decide : nar .byte (0 : Int32) = (0 : Int32))), (Fr.nil n0), rfl⟩
theorem au_138 (l : Launch) (Z : State) (a0 : Array Value) (hw : HW a0 Z) (x0 x1 : Addr) (kk0 : ClassId) (gz1 : Int32) (gv5 : Value) (h0 : Heap) (n0 : Nat) (Z0 : n0 ≤ h0.size) (O0 : Old Z n0 h0) (G : Glob Z gz1 gv5) (P0 : Exa Z h0 x0 s1) (P1 : Fld Z h0 x0 s1 s4 "B" (.int 0)) (P2 : Fld Z h0 x0 s1 s5 "[B" .null) (P3 : Arv Z h0 x1 kk0 .char (29 : Int32) [.int 69, .int 84, .int 97, .int 103, .int 32, .int 110, .int 117, .int 108, .int 108, .int 44, .int 32, .int 76, .int 97, .int 115, .int 116, .int 45, .int 77, .int 111, .int 100, .int 105, .int 102, .int 105, .int 101, .int 100, .int 32, .int 110, .int 117, .int 108, .int 108] (.int 0)) (g_x0 : n0 ≤ x0) :
    Ctr l Z ⟨s1, "<init>", "([CIILjava/lang/Void;)V"⟩ jdk_42_method_149_code 6 none (rM 2 1 29 35) #[.ref x0, .ref x1, .int 0, .int 29, .null] h0 (fun v h L => ∃ (y0 : Addr) (y1 : ClassId), v = none ∧ Fr n0 L ∧ Keep h0 h [x0] ∧ h0.size ≤ y0 ∧ Exa Z h x0 s1 ∧ Fld Z h x0 s1 s4 "B" (.int 0) ∧ Fld Z h x0 s1 s5 "[B" (.ref y0) ∧ Arv Z h y0 y1 .byte (29 : Int32) [.int 69, .int 84, .int 97, .int 103, .int 32, .int 110, .int 117, .int 108, .int 108, .int 44, .int 32, .int 76, .int 97, .int 115, .int 116, .int 45, .int 77, .int 111, .int 100, .int 105, .int 102, .int 105, .int 101, .int 100, .int 32, .int 110, .int 117, .int 108, .int 108] (.int 0) ∧ Exa Z h y0 "[B") := by
 refine Ctr.of (plainFor_of_name pn_c2) ?_
 intro p e s m below meth c T0 hx hZ hby hml hown hnm hret hlk e0 es X0
 have G' := G
 obtain ⟨G0, -, G2, -⟩ := G'
 refine Go.cast (ef_3_RRIIN m x0 x1 (0 : Int32) (29 : Int32)) ?_
 generalize hFF : EndN s _ _ _ = FF
 refine Go.aloadN X0 hx 1 rfl (hb hby d3_0) rfl rfl ?_
 refine Go.initO X0 hx hZ hown (tw_15 hw) (tw_16 hw) (tw_17 hw) e0 (by decide) (W := 0) (hml ▸ rfl) (nE rfl) (by decide) (pc' := 4) rfl (hb hby d3_1) ?_
 intro T1 e1 X1
 refine Go.iloadN X1 hx 5 rfl (hb hby d3_4) rfl ?_
 refine Go.ifYes X1 hx 27 (hb hby d3_5) (by decide) (by decide) (by decide) ?_
 have fk2 := G0.ext O0.2
 refine Go.getS X1 hx hZ hown (host := "") (Or.inl (tw_18 hw)) Via.refl e1 fk2 30 rfl (hb hby d3_27) ?_
 intro T3 e3 X3
 refine Go.ifNo X3 hx 33 rfl (hb hby d3_30) (feq G2).1 ?_
 refine Go.aloadN X3 hx 34 rfl (hb hby d3_33) rfl rfl ?_
 refine Go.iloadN X3 hx 35 rfl (hb hby d3_34) rfl ?_
 refine Go.iloadN X3 hx 36 rfl (hb hby d3_35) rfl ?_
 refine Go.callS X3 hx hZ hown (tw_19 hw) (tw_20 hw) (tw_21 hw) (tw_22 hw) (by decide) (tw_22 hw) (tw_21 hw) (au_139 l Z a0 hw x1 kk0 h0 n0 Z0 P3) e3 (argsL := [.ref x1, .int 0, .int 29]) (rest := []) 39 rfl (hml ▸ rfl) (lenOf pd_2 rfl) rfl rfl (W := 0) (nE rfl) (by decide) (by decide) (by decide) (by decide) (hb hby d3_36) ?_
 intro v4 T4 L4 q4 X4
 obtain ⟨h4, e4⟩ : ∃ z, T4.heap = z := ⟨_, rfl⟩
 rw [e4] at q4
 obtain ⟨b4_0, k4_0, rfl, N4, K4, s4_0, F4_0, F4_1⟩ := q4
 show Go _ _ _ _ (T4.setTop (mkF m 39 #[vR x0, vR x1, vI 0, vI 29, .val .null, uS] [.ref b4_0]))
 refine Go.astore X4 hx 41 rfl (hb hby d3_39) (Ls' := #[vR x0, vR x1, vI 0, vI 29, .val .null, vR b4_0]) rfl rfl ?_
 refine Go.aloadN X4 hx 42 rfl (hb hby d3_41) rfl rfl ?_
 refine Go.aload X4 hx 44 rfl (hb hby d3_42) rfl rfl ?_
 refine Go.iloadN X4 hx 45 rfl (hb hby d3_44) rfl ?_
 have Kp6 := ((Keep.refl h0 [x0]).trans K4 all0)
 have Zn5 := Nat.le_trans Z0 Kp6.1
 refine Go.callS X4 hx hZ hown (tw_27 hw) (tw_28 hw) (tw_21 hw) (tw_29 hw) (by decide) (tw_29 hw) (tw_21 hw) (au_140 l Z a0 hw b4_0 k4_0 h4 n0 Zn5 F4_0) e4 (argsL := [.ref b4_0, .int 29]) (rest := [.ref x0]) 48 rfl (hml ▸ rfl) (lenOf pd_3 rfl) rfl rfl (W := 1) (nE rfl) (by decide) (by decide) (by decide) (by decide) (hb hby d3_45) ?_
 intro v7 T7 L7 q7 X7
 obtain ⟨rfl, N7, e7⟩ := q7
 show Go _ _ _ _ (T7.setTop (mkF m 48 #[vR x0, vR x1, vI 0, vI 29, .val .null, vR b4_0] [.int 0, .ref x0]))
 have fk8 := (P1.keep K4 nin0)
 have fk9 := (P0.keep K4)
 refine Go.putFN X7 hx hZ hown (tw_30 hw) Via.refl e7 fk8 fk9 (Or.inr ⟨(tw_31 hw), rfl, hnm⟩) (tw_5 hw) (ty := .byte) (v' := (.int 0)) (by decide) (by decide) (by decide) 51 rfl (hb hby d3_48) ?_
 intro T10 h10 e10 W10 F10 X10
 have N10 := Fr.snoc X10 (Fr.app (Fr.app (Fr.nil n0) N4) N7) g_x0
 refine Go.aloadN X10 hx 52 rfl (hb hby d3_51) rfl rfl ?_
 refine Go.aload X10 hx 54 rfl (hb hby d3_52) rfl rfl ?_
 have fk11 := ((P2.keep K4 nin0).other W10 (Or.inr (slot_ne (Or.inr (tw_33 hw)) (Or.inr (tw_31 hw)) (by decide) (t := (.array .byte)) (t' := .byte) (by decide) (by decide))))
 have fk12 := (fk9.wr W10)
 refine Go.putF X10 hx hZ hown (host := "") (Or.inl (tw_32 hw)) Via.refl e10 fk11 fk12 (Or.inr ⟨(tw_33 hw), rfl, hnm⟩) (tw_5 hw) (ty := (.array .byte)) (by decide) rfl rfl 57 rfl (hb hby d3_54) ?_
 intro T13 h13 e13 W13 F13 X13
 have N13 := Fr.snoc X13 N10 g_x0
 subst hFF
 refine Go.ret0 X13 hx hlk hret (hb hby d3_57) (by decide) (by decide) ?_
 rw [e13]
 have fk14 := (fk12.wr W13)
 have fk15 := (F10.other W13 (Or.inr (slot_ne (Or.inr (tw_31 hw)) (Or.inr (tw_33 hw)) (by decide) (t := .byte) (t' := (.array .byte)) (by decide) (by decide))))
 have ne16 := Nat.ne_of_lt (Nat.lt_of_lt_of_le P0.lt s4_0)
 have fk17 := ((F4_0.other W10 (Ne.symm ne16)).other W13 (Ne.symm ne16))
 have fk18 := ((F4_1.wr W10).wr W13)
 have Kp19 := (Kp6.wr W10 (Or.inl (mG 0 rfl)))
 have Kp20 := (Kp19.wr W13 (Or.inl (mG 0 rfl)))
 have sz21 := Nat.le_trans (Keep.refl h0 [x0]).1 s4_0
 exact ⟨b4_0, k4_0, rfl, N13, Kp20, sz21, fk14, fk15, F13, fk17, fk18⟩
theorem au_137 (l : Launch) (Z : State) (a0 : Array Value) (hw : HW a0 Z) (x0 x1 : Addr) (kk0 : ClassId) (gz1 : Int32) (gv5 : Value) (h0 : Heap) (n0 : Nat) (Z0 : n0 ≤ h0.size) (O0 : Old Z n0 h0) (G : Glob Z gz1 gv5) (P0 : Exa Z h0 x0 s1) (P1 : Fld Z h0 x0 s1 s4 "B" (.int 0)) (P2 : Fld Z h0 x0 s1 s5 "[B" .null) (P3 : Arv Z h0 x1 kk0 .char (29 : Int32) [.int 69, .int 84, .int 97, .int 103, .int 32, .int 110, .int 117, .int 108, .int 108, .int 44, .int 32, .int 76, .int 97, .int 115, .int 116, .int 45, .int 77, .int 111, .int 100, .int 105, .int 102, .int 105, .int 101, .int 100, .int 32, .int 110, .int 117, .int 108, .int 108] (.int 0)) (g_x0 : n0 ≤ x0) :
    Ctr l Z ⟨s1, "<init>", "([C)V"⟩ jdk_42_method_3_code 2 none (rM 3 1 29 52) #[.ref x0, .ref x1] h0 (fun v h L => ∃ (y0 : Addr) (y1 : ClassId), v = none ∧ Fr n0 L ∧ Keep h0 h [x0] ∧ h0.size ≤ y0 ∧ Exa Z h x0 s1 ∧ Fld Z h x0 s1 s4 "B" (.int 0) ∧ Fld Z h x0 s1 s5 "[B" (.ref y0) ∧ Arv Z h y0 y1 .byte (29 : Int32) [.int 69, .int 84, .int 97, .int 103, .int 32, .int 110, .int 117, .int 108, .int 108, .int 44, .int 32, .int 76, .int 97, .int 115, .int 116, .int 45, .int 77, .int 111, .int 100, .int 105, .int 102, .int 105, .int 101, .int 100, .int 32, .int 110, .int 117, .int 108, .int 108] (.int 0) ∧ Exa Z h y0 "[B") := by
 refine Ctr.of (plainFor_of_name pn_c2) ?_
 intro p e s m below meth c T0 hx hZ hby hml hown hnm hret hlk e0 es X0
 refine Go.cast (ef_2_RR m x0 x1) ?_
 generalize hFF : EndN s _ _ _ = FF
 refine Go.aloadN X0 hx 1 rfl (hb hby d2_0) rfl rfl ?_
 refine Go.aloadN X0 hx 2 rfl (hb hby d2_1) rfl rfl ?_
 refine Go.iconst X0 hx 3 rfl (hb hby d2_2) (v := (0 : Int32)) rfl ?_
 refine Go.aloadN X0 hx 4 rfl (hb hby d2_3) rfl rfl ?_
 refine Go.arraylength X0 hx hZ e0 P3 5 rfl (hb hby d2_4) ?_
 refine Go.anull X0 hx 6 rfl (hb hby d2_5) ?_
 refine Go.callN X0 hx hZ hown rfl (tw_11 hw) (tw_12 hw) (tw_14 hw) (by decide) (tw_14 hw) (tw_6 hw) (au_138 l Z a0 hw x0 x1 kk0 gz1 gv5 h0 n0 Z0 O0 G P0 P1 P2 P3 g_x0) e0 (a := x0) (argsL := [.ref x1, .int 0, .int 29, .null]) (rest := []) 9 rfl (hml ▸ rfl) (lenOf pd_4 rfl) rfl rfl (W := 0) (nE rfl) (by decide) (by decide) (by decide) (by decide) (hb hby d2_6) ?_
 intro v1 T1 L1 q1 X1
 obtain ⟨h1, e1⟩ : ∃ z, T1.heap = z := ⟨_, rfl⟩
 rw [e1] at q1
 obtain ⟨b1_0, k1_0, rfl, N1, K1, s1_0, F1_0, F1_1, F1_2, F1_3, F1_4⟩ := q1
 show Go _ _ _ _ (T1.setTop (mkF m 9 #[vR x0, vR x1] []))
 subst hFF
 refine Go.ret0 X1 hx hlk hret (hb hby d2_9) (by decide) (by decide) ?_
 rw [e1]
 have Kp2 := ((Keep.refl h0 [x0]).trans K1 (allS (Or.inl (mG 0 rfl)) all0))
 have sz3 := Nat.le_trans (Keep.refl h0 [x0]).1 s1_0
 exact ⟨b1_0, k1_0, rfl, (Fr.app (Fr.nil n0) N1), Kp2, sz3, F1_0, F1_1, F1_2, F1_3, F1_4⟩
theorem au_141 (l : Launch) (Z : State) (a0 : Array Value) (hw : HW a0 Z) (x0 x1 x2 x3 : Addr) (kk0 kk1 : ClassId) (gz1 : Int32) (gv5 : Value) (h0 : Heap) (n0 : Nat) (Z0 : n0 ≤ h0.size) (O0 : Old Z n0 h0) (G : Glob Z gz1 gv5) (P1 : Fld Z h0 x0 s1 s4 "B" (.int 0)) (P2 : Fld Z h0 x0 s1 s5 "[B" (.ref x2)) (P3 : Exa Z h0 x1 s1) (P4 : Fld Z h0 x1 s1 s4 "B" (.int 0)) (P5 : Fld Z h0 x1 s1 s5 "[B" (.ref x3)) (P6 : Arv Z h0 x2 kk0 .byte (29 : Int32) [.int 69, .int 84, .int 97, .int 103, .int 32, .int 110, .int 117, .int 108, .int 108, .int 44, .int 32, .int 76, .int 97, .int 115, .int 116, .int 45, .int 77, .int 111, .int 100, .int 105, .int 102, .int 105, .int 101, .int 100, .int 32, .int 110, .int 117, .int 108, .int 108] (.int 0)) (P8 : Arv Z h0 x3 kk1 .byte (29 : Int32) [.int 69, .int 84, .int 97, .int 103, .int 32, .int 110, .int 117, .int 108, .int 108, .int 44, .int 32, .int 76, .int 97, .int 115, .int 116, .int 45, .int 77, .int 111, .int 100, .int 105, .int 102, .int 105, .int 101, .int 100, .int 32, .int 110, .int 117, .int 108, .int 108] (.int 0)) (ne_x0_x1 : x0 ≠ x1) :
    Ctr l Z ⟨s1, "equals", "(Ljava/lang/Object;)Z"⟩ jdk_42_method_66_code 3 (some .boolean) (rM 1 0 0 14) #[.ref x0, .ref x1] h0 (fun v h L => v = some (.int 1) ∧ Fr n0 L ∧ h = h0) := by
 refine Ctr.of (plainFor_of_name pn_c2) ?_
 intro p e s m below meth c T0 hx hZ hby hml hown hnm hret hlk e0 es X0
 have G' := G
 obtain ⟨G0, -, G2, -⟩ := G'
 refine Go.cast (ef_35_RR m x0 x1) ?_
 generalize hFF : EndN s _ _ _ = FF
 refine Go.aloadN X0 hx 1 rfl (hb hby d35_0) rfl rfl ?_
 refine Go.aloadN X0 hx 2 rfl (hb hby d35_1) rfl rfl ?_
 refine Go.acmp X0 hx (pc' := 7) (same := false) (hb hby d35_2) rfl rfl (decide_eq_false (fun q => ne_x0_x1 (Value.ref.inj q))) (by decide) (by decide) ?_
 refine Go.aloadN X0 hx 8 rfl (hb hby d35_7) rfl rfl ?_
 refine Go.instY X0 hx hZ hown (tw_186 hw) e0 (Ins.self P3) 11 rfl (hb hby d35_8) ?_
 intro T1 e1 X1
 refine Go.ifNo X1 hx 14 rfl (hb hby d35_11) (by decide) ?_
 refine Go.aloadN X1 hx 15 rfl (hb hby d35_14) rfl rfl ?_
 refine Go.castY X1 hx hZ hown (tw_186 hw) e1 (Ins.self P3) 18 rfl (hb hby d35_15) ?_
 intro T2 e2 X2
 refine Go.astoreN X2 hx 19 rfl (hb hby d35_18) (Ls' := #[vR x0, vR x1, vR x1]) rfl rfl ?_
 have fk3 := G0.ext O0.2
 refine Go.getS X2 hx hZ hown (host := "") (Or.inl (tw_18 hw)) Via.refl e2 fk3 22 rfl (hb hby d35_19) ?_
 intro T4 e4 X4
 refine Go.ifNo X4 hx 25 rfl (hb hby d35_22) (feq G2).1 ?_
 refine Go.aloadN X4 hx 26 rfl (hb hby d35_25) rfl rfl ?_
 refine Go.getF X4 hx hZ hown (host := "") (Or.inl (tw_30 hw)) Via.refl e4 P1 29 rfl (hb hby d35_26) ?_
 intro T5 e5 X5
 refine Go.aloadN X5 hx 30 rfl (hb hby d35_29) rfl rfl ?_
 refine Go.getF X5 hx hZ hown (host := "") (Or.inl (tw_30 hw)) Via.refl e5 P4 33 rfl (hb hby d35_30) ?_
 intro T6 e6 X6
 refine Go.icmpNo X6 hx 36 rfl (hb hby d35_33) (by decide) ?_
 refine Go.aloadN X6 hx 37 rfl (hb hby d35_36) rfl rfl ?_
 refine Go.getF X6 hx hZ hown (host := "") (Or.inl (tw_32 hw)) Via.refl e6 P2 40 rfl (hb hby d35_37) ?_
 intro T7 e7 X7
 refine Go.aloadN X7 hx 41 rfl (hb hby d35_40) rfl rfl ?_
 refine Go.getF X7 hx hZ hown (host := "") (Or.inl (tw_32 hw)) Via.refl e7 P5 44 rfl (hb hby d35_41) ?_
 intro T8 e8 X8
 refine Go.callS X8 hx hZ hown (tw_187 hw) (tw_188 hw) (tw_189 hw) (tw_190 hw) (by decide) (tw_190 hw) (tw_189 hw) (gl_eq l Z a0 hw x2 x3 kk0 kk1 (29 : Int32) (29 : Int32) [(69 : Int32), (84 : Int32), (97 : Int32), (103 : Int32), (32 : Int32), (110 : Int32), (117 : Int32), (108 : Int32), (108 : Int32), (44 : Int32), (32 : Int32), (76 : Int32), (97 : Int32), (115 : Int32), (116 : Int32), (45 : Int32), (77 : Int32), (111 : Int32), (100 : Int32), (105 : Int32), (102 : Int32), (105 : Int32), (101 : Int32), (100 : Int32), (32 : Int32), (110 : Int32), (117 : Int32), (108 : Int32), (108 : Int32)] [(69 : Int32), (84 : Int32), (97 : Int32), (103 : Int32), (32 : Int32), (110 : Int32), (117 : Int32), (108 : Int32), (108 : Int32), (44 : Int32), (32 : Int32), (76 : Int32), (97 : Int32), (115 : Int32), (116 : Int32), (45 : Int32), (77 : Int32), (111 : Int32), (100 : Int32), (105 : Int32), (102 : Int32), (105 : Int32), (101 : Int32), (100 : Int32), (32 : Int32), (110 : Int32), (117 : Int32), (108 : Int32), (108 : Int32)] h0 P6 P8 rfl rfl) e8 (argsL := [.ref x2, .ref x3]) (rest := []) 47 rfl (hml ▸ rfl) (lenOf pd_27 rfl) rfl rfl (W := 0) (nE rfl) (by decide) (by decide) (by decide) (by decide) (hb hby d35_44) ?_
 intro v9 T9 L9 q9 X9
 obtain ⟨rfl, rfl, e9⟩ := q9
 rw [if_pos (show ([(69 : Int32), (84 : Int32), (97 : Int32), (103 : Int32), (32 : Int32), (110 : Int32), (117 : Int32), (108 : Int32), (108 : Int32), (44 : Int32), (32 : Int32), (76 : Int32), (97 : Int32), (115 : Int32), (116 : Int32), (45 : Int32), (77 : Int32), (111 : Int32), (100 : Int32), (105 : Int32), (102 : Int32), (105 : Int32), (101 : Int32), (100 : Int32), (32 : Int32), (110 : Int32), (117 : Int32), (108 : Int32), (108 : Int32)] : List Int32) = [(69 : Int32), (84 : Int32), (97 : Int32), (103 : Int32), (32 : Int32), (110 : Int32), (117 : Int32), (108 : Int32), (108 : Int32), (44 : Int32), (32 : Int32), (76 : Int32), (97 : Int32), (115 : Int32), (116 : Int32), (45 : Int32), (77 : Int32), (111 : Int32), (100 : Int32), (105 : Int32), (102 : Int32), (105 : Int32), (101 : Int32), (100 : Int32), (32 : Int32), (110 : Int32), (117 : Int32), (108 : Int32), (108 : Int32)] from rfl)]
 show Go _ _ _ _ (T9.setTop (mkF m 47 #[vR x0, vR x1, vR x1] [.int 1]))
 refine Go.ifNo X9 hx 50 rfl (hb hby d35_47) (by decide) ?_
 refine Go.iconst X9 hx 51 rfl (hb hby d35_50) (v := (1 : Int32)) rfl ?_
 refine Go.goto X9 hx 55 (hb hby d35_51) (by decide) (by decide) ?_
 subst hFF
 refine Go.retN X9 hx hlk (t := .boolean) hret (by simp) (hb hby d35_55) (by decide) (by decide) ?_
 rw [e9]
 exact ⟨(congrArg (fun z => some (Value.int z)) (by decide : nar .boolean (1 : Int32) = (1 : Int32))), (Fr.app (Fr.nil n0) (Fr.nil n0)), rfl⟩
theorem ef_0_III (m : MethodId) (x0 : Int32) (x1 : Int32) (x2 : Int32) : entryFrame m #[(.int x0), (.int x1), (.int x2)] maxLocals = mkF m 0 #[.val (.int x0), .val (.int x1), .val (.int x2), .unset, .unset, .unset, .unset, .unset, .unset, .unset, .unset, .unset, .unset, .unset, .unset, .unset, .unset] [] := by first | (simp [entryFrame, mkF, argsToLocals, Value.category, maxLocals]; done) | rfl
set_option maxRecDepth 65536 in
set_option maxHeartbeats 40000000 in
theorem rm0 (l : Launch) (Z : State) (a0 : Array Value) (hw : HW a0 Z) (p0 p1 p2 gz1 : Int32) (gv5 : Value) (h0 : Heap) (n0 : Nat) (Z0 : n0 ≤ h0.size) (O0 : Old Z n0 h0) (G : Glob Z gz1 gv5) :
    CtrW l Z EL0 x code maxLocals ret room_1 #[.int p0, .int p1, .int p2] h0 [] (fun v vm h L => v = some (.int (1 : Int32)) ∧ Fr n0 L) := by
 refine CtrW.of (plainFor_of_name pn_c0) ?_
 intro p e s m below meth c T0 hx hZ hby hml hown hnm hret hlk e0 es hS0 C0 hsf X0
 refine Go.cast (ef_0_III m p0 p1 p2) ?_
 refine Go.iloadN X0 hx 1 rfl (hb hby at_0) rfl ?_
 refine Go.iconst X0 hx 2 rfl (hb hby at_1) (v := (1 : Int32)) rfl ?_
 refine Go.iand X0 hx 3 rfl (hb hby at_2) ?_
 generalize hz1 : (p0 &&& (1 : Int32)) = z1
 have r2 : 0 ≤ z1.toInt ∧ z1.toInt ≤ 1 := own_rand hz1 (by decide)
 by_cases hc3 : z1 = (0 : Int32)
 refine Go.ifYes X0 hx 10 (hb hby at_3) (teq hc3).1 (by decide) (by decide) ?_
 refine Go.iconst X0 hx 11 rfl (hb hby at_10) (v := (0 : Int32)) rfl ?_
 refine Go.istoreN X0 hx 12 rfl (hb hby at_11) (Ls' := #[vI p0, vI p1, vI p2, vI 0, uS, uS, uS, uS, uS, uS, uS, uS, uS, uS, uS, uS, uS]) rfl ?_
 refine Go.iloadN X0 hx 13 rfl (hb hby at_12) rfl ?_
 refine Go.iconst X0 hx 14 rfl (hb hby at_13) (v := (2 : Int32)) rfl ?_
 refine Go.iand X0 hx 15 rfl (hb hby at_14) ?_
 generalize hz4 : (p0 &&& (2 : Int32)) = z4
 have r5 : 0 ≤ z4.toInt ∧ z4.toInt ≤ 2 := own_rand hz4 (by decide)
 by_cases hc6 : z4 = (0 : Int32)
 refine Go.ifYes X0 hx 22 (hb hby at_15) (teq hc6).1 (by decide) (by decide) ?_
 refine Go.iconst X0 hx 23 rfl (hb hby at_22) (v := (0 : Int32)) rfl ?_
 refine Go.istore X0 hx 25 rfl (hb hby at_23) (Ls' := #[vI p0, vI p1, vI p2, vI 0, vI 0, uS, uS, uS, uS, uS, uS, uS, uS, uS, uS, uS, uS]) rfl ?_
 refine Go.iloadN X0 hx 26 rfl (hb hby at_25) rfl ?_
 refine Go.ifYes X0 hx 34 (hb hby at_26) (by decide) (by decide) (by decide) ?_
 refine Go.iloadN X0 hx 35 rfl (hb hby at_34) rfl ?_
 refine Go.iconst X0 hx 36 rfl (hb hby at_35) (v := (0 : Int32)) rfl ?_
 refine Go.callS X0 hx hZ hown (tw_0 hw) (tw_1 hw) (tw_2 hw) (tw_3 hw) (by decide) (tw_3 hw) (tw_2 hw) (au_1 l Z a0 hw p1 h0 n0 Z0) e0 (argsL := [.int p1, .int 0]) (rest := []) 39 rfl (hml ▸ rfl) (lenOf pd_0 rfl) rfl rfl (W := 0) (nE rfl) (by decide) (by decide) (by decide) (by decide) (hb hby at_36) ?_
 intro v7 T7 L7 q7 X7
 obtain ⟨z7_0, z7_1, d7_0, d7_1, rfl, N7, e7⟩ := q7
 show Go _ _ _ _ (T7.setTop (mkF m 39 #[vI p0, vI p1, vI p2, vI 0, vI 0, uS, uS, uS, uS, uS, uS, uS, uS, uS, uS, uS, uS] [.int z7_0]))
 refine Go.istore X7 hx 41 rfl (hb hby at_39) (Ls' := #[vI p0, vI p1, vI p2, vI 0, vI 0, vI z7_0, uS, uS, uS, uS, uS, uS, uS, uS, uS, uS, uS]) rfl ?_
 refine Go.iloadN X7 hx 42 rfl (hb hby at_41) rfl ?_
 refine Go.ifYes X7 hx 50 (hb hby at_42) (by decide) (by decide) (by decide) ?_
 refine Go.iloadN X7 hx 51 rfl (hb hby at_50) rfl ?_
 refine Go.iconst X7 hx 52 rfl (hb hby at_51) (v := (1 : Int32)) rfl ?_
 refine Go.callS X7 hx hZ hown (tw_0 hw) (tw_1 hw) (tw_2 hw) (tw_3 hw) (by decide) (tw_3 hw) (tw_2 hw) (au_2 l Z a0 hw p1 h0 n0 Z0) e7 (argsL := [.int p1, .int 1]) (rest := []) 55 rfl (hml ▸ rfl) (lenOf pd_0 rfl) rfl rfl (W := 0) (nE rfl) (by decide) (by decide) (by decide) (by decide) (hb hby at_52) ?_
 intro v8 T8 L8 q8 X8
 obtain ⟨z8_0, z8_1, d8_0, d8_1, rfl, N8, e8⟩ := q8
 show Go _ _ _ _ (T8.setTop (mkF m 55 #[vI p0, vI p1, vI p2, vI 0, vI 0, vI z7_0, uS, uS, uS, uS, uS, uS, uS, uS, uS, uS, uS] [.int z8_0]))
 refine Go.istore X8 hx 57 rfl (hb hby at_55) (Ls' := #[vI p0, vI p1, vI p2, vI 0, vI 0, vI z7_0, vI z8_0, uS, uS, uS, uS, uS, uS, uS, uS, uS, uS]) rfl ?_
 refine Go.iloadN X8 hx 58 rfl (hb hby at_57) rfl ?_
 refine Go.ifYes X8 hx 66 (hb hby at_58) (by decide) (by decide) (by decide) ?_
 refine Go.iloadN X8 hx 67 rfl (hb hby at_66) rfl ?_
 refine Go.iconst X8 hx 68 rfl (hb hby at_67) (v := (2 : Int32)) rfl ?_
 refine Go.callS X8 hx hZ hown (tw_0 hw) (tw_1 hw) (tw_2 hw) (tw_3 hw) (by decide) (tw_3 hw) (tw_2 hw) (au_3 l Z a0 hw p1 h0 n0 Z0) e8 (argsL := [.int p1, .int 2]) (rest := []) 71 rfl (hml ▸ rfl) (lenOf pd_0 rfl) rfl rfl (W := 0) (nE rfl) (by decide) (by decide) (by decide) (by decide) (hb hby at_68) ?_
 intro v9 T9 L9 q9 X9
 obtain ⟨z9_0, z9_1, d9_0, d9_1, rfl, N9, e9⟩ := q9
 show Go _ _ _ _ (T9.setTop (mkF m 71 #[vI p0, vI p1, vI p2, vI 0, vI 0, vI z7_0, vI z8_0, uS, uS, uS, uS, uS, uS, uS, uS, uS, uS] [.int z9_0]))
 refine Go.istore X9 hx 73 rfl (hb hby at_71) (Ls' := #[vI p0, vI p1, vI p2, vI 0, vI 0, vI z7_0, vI z8_0, vI z9_0, uS, uS, uS, uS, uS, uS, uS, uS, uS]) rfl ?_
 refine Go.iloadN X9 hx 74 rfl (hb hby at_73) rfl ?_
 refine Go.ifYes X9 hx 82 (hb hby at_74) (by decide) (by decide) (by decide) ?_
 refine Go.iloadN X9 hx 83 rfl (hb hby at_82) rfl ?_
 refine Go.iconst X9 hx 84 rfl (hb hby at_83) (v := (3 : Int32)) rfl ?_
 refine Go.callS X9 hx hZ hown (tw_0 hw) (tw_1 hw) (tw_2 hw) (tw_3 hw) (by decide) (tw_3 hw) (tw_2 hw) (au_4 l Z a0 hw p1 h0 n0 Z0) e9 (argsL := [.int p1, .int 3]) (rest := []) 87 rfl (hml ▸ rfl) (lenOf pd_0 rfl) rfl rfl (W := 0) (nE rfl) (by decide) (by decide) (by decide) (by decide) (hb hby at_84) ?_
 intro v10 T10 L10 q10 X10
 obtain ⟨z10_0, d10_0, rfl, N10, e10⟩ := q10
 show Go _ _ _ _ (T10.setTop (mkF m 87 #[vI p0, vI p1, vI p2, vI 0, vI 0, vI z7_0, vI z8_0, vI z9_0, uS, uS, uS, uS, uS, uS, uS, uS, uS] [.int z10_0]))
 refine Go.istore X10 hx 89 rfl (hb hby at_87) (Ls' := #[vI p0, vI p1, vI p2, vI 0, vI 0, vI z7_0, vI z8_0, vI z9_0, vI z10_0, uS, uS, uS, uS, uS, uS, uS, uS]) rfl ?_
 refine Go.iload X10 hx 91 rfl (hb hby at_89) rfl ?_
 refine Go.ifYes X10 hx 99 (hb hby at_91) (by decide) (by decide) (by decide) ?_
 refine Go.iloadN X10 hx 100 rfl (hb hby at_99) rfl ?_
 refine Go.iconst X10 hx 101 rfl (hb hby at_100) (v := (0 : Int32)) rfl ?_
 refine Go.callS X10 hx hZ hown (tw_0 hw) (tw_1 hw) (tw_2 hw) (tw_3 hw) (by decide) (tw_3 hw) (tw_2 hw) (au_1 l Z a0 hw p2 h0 n0 Z0) e10 (argsL := [.int p2, .int 0]) (rest := []) 104 rfl (hml ▸ rfl) (lenOf pd_0 rfl) rfl rfl (W := 0) (nE rfl) (by decide) (by decide) (by decide) (by decide) (hb hby at_101) ?_
 intro v11 T11 L11 q11 X11
 obtain ⟨z11_0, z11_1, d11_0, d11_1, rfl, N11, e11⟩ := q11
 show Go _ _ _ _ (T11.setTop (mkF m 104 #[vI p0, vI p1, vI p2, vI 0, vI 0, vI z7_0, vI z8_0, vI z9_0, vI z10_0, uS, uS, uS, uS, uS, uS, uS, uS] [.int z11_0]))
 refine Go.istore X11 hx 106 rfl (hb hby at_104) (Ls' := #[vI p0, vI p1, vI p2, vI 0, vI 0, vI z7_0, vI z8_0, vI z9_0, vI z10_0, vI z11_0, uS, uS, uS, uS, uS, uS, uS]) rfl ?_
 refine Go.iload X11 hx 108 rfl (hb hby at_106) rfl ?_
 refine Go.ifYes X11 hx 116 (hb hby at_108) (by decide) (by decide) (by decide) ?_
 refine Go.iloadN X11 hx 117 rfl (hb hby at_116) rfl ?_
 refine Go.iconst X11 hx 118 rfl (hb hby at_117) (v := (1 : Int32)) rfl ?_
 refine Go.callS X11 hx hZ hown (tw_0 hw) (tw_1 hw) (tw_2 hw) (tw_3 hw) (by decide) (tw_3 hw) (tw_2 hw) (au_2 l Z a0 hw p2 h0 n0 Z0) e11 (argsL := [.int p2, .int 1]) (rest := []) 121 rfl (hml ▸ rfl) (lenOf pd_0 rfl) rfl rfl (W := 0) (nE rfl) (by decide) (by decide) (by decide) (by decide) (hb hby at_118) ?_
 intro v12 T12 L12 q12 X12
 obtain ⟨z12_0, z12_1, d12_0, d12_1, rfl, N12, e12⟩ := q12
 show Go _ _ _ _ (T12.setTop (mkF m 121 #[vI p0, vI p1, vI p2, vI 0, vI 0, vI z7_0, vI z8_0, vI z9_0, vI z10_0, vI z11_0, uS, uS, uS, uS, uS, uS, uS] [.int z12_0]))
 refine Go.istore X12 hx 123 rfl (hb hby at_121) (Ls' := #[vI p0, vI p1, vI p2, vI 0, vI 0, vI z7_0, vI z8_0, vI z9_0, vI z10_0, vI z11_0, vI z12_0, uS, uS, uS, uS, uS, uS]) rfl ?_
 refine Go.iload X12 hx 125 rfl (hb hby at_123) rfl ?_
 refine Go.ifYes X12 hx 133 (hb hby at_125) (by decide) (by decide) (by decide) ?_
 refine Go.iloadN X12 hx 134 rfl (hb hby at_133) rfl ?_
 refine Go.iconst X12 hx 135 rfl (hb hby at_134) (v := (2 : Int32)) rfl ?_
 refine Go.callS X12 hx hZ hown (tw_0 hw) (tw_1 hw) (tw_2 hw) (tw_3 hw) (by decide) (tw_3 hw) (tw_2 hw) (au_3 l Z a0 hw p2 h0 n0 Z0) e12 (argsL := [.int p2, .int 2]) (rest := []) 138 rfl (hml ▸ rfl) (lenOf pd_0 rfl) rfl rfl (W := 0) (nE rfl) (by decide) (by decide) (by decide) (by decide) (hb hby at_135) ?_
 intro v13 T13 L13 q13 X13
 obtain ⟨z13_0, z13_1, d13_0, d13_1, rfl, N13, e13⟩ := q13
 show Go _ _ _ _ (T13.setTop (mkF m 138 #[vI p0, vI p1, vI p2, vI 0, vI 0, vI z7_0, vI z8_0, vI z9_0, vI z10_0, vI z11_0, vI z12_0, uS, uS, uS, uS, uS, uS] [.int z13_0]))
 refine Go.istore X13 hx 140 rfl (hb hby at_138) (Ls' := #[vI p0, vI p1, vI p2, vI 0, vI 0, vI z7_0, vI z8_0, vI z9_0, vI z10_0, vI z11_0, vI z12_0, vI z13_0, uS, uS, uS, uS, uS]) rfl ?_
 refine Go.iload X13 hx 142 rfl (hb hby at_140) rfl ?_
 refine Go.ifYes X13 hx 150 (hb hby at_142) (by decide) (by decide) (by decide) ?_
 refine Go.iloadN X13 hx 151 rfl (hb hby at_150) rfl ?_
 refine Go.iconst X13 hx 152 rfl (hb hby at_151) (v := (3 : Int32)) rfl ?_
 refine Go.callS X13 hx hZ hown (tw_0 hw) (tw_1 hw) (tw_2 hw) (tw_3 hw) (by decide) (tw_3 hw) (tw_2 hw) (au_4 l Z a0 hw p2 h0 n0 Z0) e13 (argsL := [.int p2, .int 3]) (rest := []) 155 rfl (hml ▸ rfl) (lenOf pd_0 rfl) rfl rfl (W := 0) (nE rfl) (by decide) (by decide) (by decide) (by decide) (hb hby at_152) ?_
 intro v14 T14 L14 q14 X14
 obtain ⟨z14_0, d14_0, rfl, N14, e14⟩ := q14
 show Go _ _ _ _ (T14.setTop (mkF m 155 #[vI p0, vI p1, vI p2, vI 0, vI 0, vI z7_0, vI z8_0, vI z9_0, vI z10_0, vI z11_0, vI z12_0, vI z13_0, uS, uS, uS, uS, uS] [.int z14_0]))
 refine Go.istore X14 hx 157 rfl (hb hby at_155) (Ls' := #[vI p0, vI p1, vI p2, vI 0, vI 0, vI z7_0, vI z8_0, vI z9_0, vI z10_0, vI z11_0, vI z12_0, vI z13_0, vI z14_0, uS, uS, uS, uS]) rfl ?_
 refine Go.iloadN X14 hx 158 rfl (hb hby at_157) rfl ?_
 refine Go.ifYes X14 hx 165 (hb hby at_158) (by decide) (by decide) (by decide) ?_
 refine Go.new X14 hx hZ hown (tw_4 hw) (tw_5 hw) (tw_6 hw) e14 (by decide) (by decide) 168 rfl (hb hby at_165) ?_
 intro T15 h15 b15 e15 E15 g15 A15 D15 X15
 have b15_coder : Fld Z h15 b15 s1 s4 "B" (.int 0) := D15 (Or.inr (tw_31 hw)) (ty := .byte) (by decide)
 have b15_value : Fld Z h15 b15 s1 s5 "[B" .null := D15 (Or.inr (tw_33 hw)) (ty := (.array .byte)) (by decide)
 refine Go.dup X15 hx 169 rfl (hb hby at_168) rfl ?_
 refine Go.iconst X15 hx 170 rfl (hb hby at_169) (v := (4 : Int32)) rfl ?_
 refine Go.newarray X15 hx hZ (ty := .char) rfl (tw_7 hw) e15 (by decide) (cap := 4) (by decide) (by decide) (by decide) (by decide) (ad := "[C") (by decide) 4 172 rfl (hb hby at_170) ?_
 intro T16 h16 b16 k16 e16 E16 g16 V16 A16 X16
 have V16' : Arv Z h16 b16 k16 .char (4 : Int32) [.int 0, .int 0, .int 0, .int 0] (.int 0) := V16
 refine Go.dup X16 hx 173 rfl (hb hby at_172) rfl ?_
 refine Go.iconst X16 hx 174 rfl (hb hby at_173) (v := (0 : Int32)) rfl ?_
 refine Go.iloadN X16 hx 175 rfl (hb hby at_174) rfl ?_
 refine Go.iconst X16 hx 176 rfl (hb hby at_175) (v := (0 : Int32)) rfl ?_
 have Kp18 := ((Keep.refl h0 []).ext E15)
 have Kp19 := (Kp18.ext E16)
 have Zn17 := Nat.le_trans Z0 Kp19.1
 refine Go.callS X16 hx hZ hown (tw_0 hw) (tw_1 hw) (tw_2 hw) (tw_3 hw) (by decide) (tw_3 hw) (tw_2 hw) (au_1 l Z a0 hw p1 h16 n0 Zn17) e16 (argsL := [.int p1, .int 0]) (rest := [.int 0, .ref b16, .ref b16, .ref b15, .ref b15]) 179 rfl (hml ▸ rfl) (lenOf pd_0 rfl) rfl rfl (W := 5) (nE rfl) (by decide) (by decide) (by decide) (by decide) (hb hby at_176) ?_
 intro v20 T20 L20 q20 X20
 obtain ⟨z20_0, z20_1, d20_0, d20_1, rfl, N20, e20⟩ := q20
 have e20_z20_1 : z7_1 = z20_1 := d7_0.symm.trans d20_0
 subst e20_z20_1
 have e20_z20_0 : z7_0 = z20_0 := d7_1.symm.trans d20_1
 subst e20_z20_0
 show Go _ _ _ _ (T20.setTop (mkF m 179 #[vI p0, vI p1, vI p2, vI 0, vI 0, vI z7_0, vI z8_0, vI z9_0, vI z10_0, vI z11_0, vI z12_0, vI z13_0, vI z14_0, uS, uS, uS, uS] [.int z7_0, .int 0, .ref b16, .ref b16, .ref b15, .ref b15]))
 have sz22 := Nat.le_trans Kp18.1 (Nat.le_of_eq g16.symm)
 have ge21 := Nat.le_trans Z0 sz22
 have r23 : 0 ≤ z7_0.toInt ∧ z7_0.toInt ≤ 255 := own_rand d7_1 (by decide)
 refine Go.castore X20 hx hZ e20 V16' z7_0 (own_nar_char r23 (by decide) (by decide)) ⟨by decide, by decide⟩ 0 rfl (nB rfl) 180 rfl (hb hby at_179) ?_
 intro T24 h24 e24 W24 V24 X24
 have N24 := Fr.snoc X24 (Fr.app (Fr.app (Fr.app (Fr.app (Fr.app (Fr.app (Fr.app (Fr.app (Fr.app (Fr.nil n0) N7) N8) N9) N10) N11) N12) N13) N14) N20) ge21
 refine Go.dup X24 hx 181 rfl (hb hby at_180) rfl ?_
 refine Go.iconst X24 hx 182 rfl (hb hby at_181) (v := (1 : Int32)) rfl ?_
 refine Go.iloadN X24 hx 183 rfl (hb hby at_182) rfl ?_
 refine Go.iconst X24 hx 184 rfl (hb hby at_183) (v := (1 : Int32)) rfl ?_
 have Kp26 := (Kp19.wr W24 (Or.inr sz22))
 have Zn25 := Nat.le_trans Z0 Kp26.1
 refine Go.callS X24 hx hZ hown (tw_0 hw) (tw_1 hw) (tw_2 hw) (tw_3 hw) (by decide) (tw_3 hw) (tw_2 hw) (au_2 l Z a0 hw p1 h24 n0 Zn25) e24 (argsL := [.int p1, .int 1]) (rest := [.int 1, .ref b16, .ref b16, .ref b15, .ref b15]) 187 rfl (hml ▸ rfl) (lenOf pd_0 rfl) rfl rfl (W := 5) (nE rfl) (by decide) (by decide) (by decide) (by decide) (hb hby at_184) ?_
 intro v27 T27 L27 q27 X27
 obtain ⟨z27_0, z27_1, d27_0, d27_1, rfl, N27, e27⟩ := q27
 have e27_z27_1 : z8_1 = z27_1 := d8_0.symm.trans d27_0
 subst e27_z27_1
 have e27_z27_0 : z8_0 = z27_0 := d8_1.symm.trans d27_1
 subst e27_z27_0
 show Go _ _ _ _ (T27.setTop (mkF m 187 #[vI p0, vI p1, vI p2, vI 0, vI 0, vI z7_0, vI z8_0, vI z9_0, vI z10_0, vI z11_0, vI z12_0, vI z13_0, vI z14_0, uS, uS, uS, uS] [.int z8_0, .int 1, .ref b16, .ref b16, .ref b15, .ref b15]))
 have r28 : 0 ≤ z8_0.toInt ∧ z8_0.toInt ≤ 255 := own_rand d8_1 (by decide)
 refine Go.castore X27 hx hZ e27 V24 z8_0 (own_nar_char r28 (by decide) (by decide)) ⟨by decide, by decide⟩ 1 rfl (nB rfl) 188 rfl (hb hby at_187) ?_
 intro T29 h29 e29 W29 V29 X29
 have N29 := Fr.snoc X29 (Fr.app N24 N27) ge21
 refine Go.dup X29 hx 189 rfl (hb hby at_188) rfl ?_
 refine Go.iconst X29 hx 190 rfl (hb hby at_189) (v := (2 : Int32)) rfl ?_
 refine Go.iloadN X29 hx 191 rfl (hb hby at_190) rfl ?_
 refine Go.iconst X29 hx 192 rfl (hb hby at_191) (v := (2 : Int32)) rfl ?_
 have Kp31 := (Kp26.wr W29 (Or.inr sz22))
 have Zn30 := Nat.le_trans Z0 Kp31.1
 refine Go.callS X29 hx hZ hown (tw_0 hw) (tw_1 hw) (tw_2 hw) (tw_3 hw) (by decide) (tw_3 hw) (tw_2 hw) (au_3 l Z a0 hw p1 h29 n0 Zn30) e29 (argsL := [.int p1, .int 2]) (rest := [.int 2, .ref b16, .ref b16, .ref b15, .ref b15]) 195 rfl (hml ▸ rfl) (lenOf pd_0 rfl) rfl rfl (W := 5) (nE rfl) (by decide) (by decide) (by decide) (by decide) (hb hby at_192) ?_
 intro v32 T32 L32 q32 X32
 obtain ⟨z32_0, z32_1, d32_0, d32_1, rfl, N32, e32⟩ := q32
 have e32_z32_1 : z9_1 = z32_1 := d9_0.symm.trans d32_0
 subst e32_z32_1
 have e32_z32_0 : z9_0 = z32_0 := d9_1.symm.trans d32_1
 subst e32_z32_0
 show Go _ _ _ _ (T32.setTop (mkF m 195 #[vI p0, vI p1, vI p2, vI 0, vI 0, vI z7_0, vI z8_0, vI z9_0, vI z10_0, vI z11_0, vI z12_0, vI z13_0, vI z14_0, uS, uS, uS, uS] [.int z9_0, .int 2, .ref b16, .ref b16, .ref b15, .ref b15]))
 have r33 : 0 ≤ z9_0.toInt ∧ z9_0.toInt ≤ 255 := own_rand d9_1 (by decide)
 refine Go.castore X32 hx hZ e32 V29 z9_0 (own_nar_char r33 (by decide) (by decide)) ⟨by decide, by decide⟩ 2 rfl (nB rfl) 196 rfl (hb hby at_195) ?_
 intro T34 h34 e34 W34 V34 X34
 have N34 := Fr.snoc X34 (Fr.app N29 N32) ge21
 refine Go.dup X34 hx 197 rfl (hb hby at_196) rfl ?_
 refine Go.iconst X34 hx 198 rfl (hb hby at_197) (v := (3 : Int32)) rfl ?_
 refine Go.iloadN X34 hx 199 rfl (hb hby at_198) rfl ?_
 refine Go.iconst X34 hx 200 rfl (hb hby at_199) (v := (3 : Int32)) rfl ?_
 have Kp36 := (Kp31.wr W34 (Or.inr sz22))
 have Zn35 := Nat.le_trans Z0 Kp36.1
 refine Go.callS X34 hx hZ hown (tw_0 hw) (tw_1 hw) (tw_2 hw) (tw_3 hw) (by decide) (tw_3 hw) (tw_2 hw) (au_4 l Z a0 hw p1 h34 n0 Zn35) e34 (argsL := [.int p1, .int 3]) (rest := [.int 3, .ref b16, .ref b16, .ref b15, .ref b15]) 203 rfl (hml ▸ rfl) (lenOf pd_0 rfl) rfl rfl (W := 5) (nE rfl) (by decide) (by decide) (by decide) (by decide) (hb hby at_200) ?_
 intro v37 T37 L37 q37 X37
 obtain ⟨z37_0, d37_0, rfl, N37, e37⟩ := q37
 have e37_z37_0 : z10_0 = z37_0 := d10_0.symm.trans d37_0
 subst e37_z37_0
 show Go _ _ _ _ (T37.setTop (mkF m 203 #[vI p0, vI p1, vI p2, vI 0, vI 0, vI z7_0, vI z8_0, vI z9_0, vI z10_0, vI z11_0, vI z12_0, vI z13_0, vI z14_0, uS, uS, uS, uS] [.int z10_0, .int 3, .ref b16, .ref b16, .ref b15, .ref b15]))
 have V38 : Arv Z h34 b16 k16 .char (4 : Int32) [.int z7_0, .int z8_0, .int z9_0, .int 0] (.int 0) := V34
 have r39 : 0 ≤ z10_0.toInt ∧ z10_0.toInt ≤ 255 := own_rushr d10_0 (k := 24) (by decide) (by decide) (by decide)
 refine Go.castore X37 hx hZ e37 V38 z10_0 (own_nar_char r39 (by decide) (by decide)) ⟨by decide, by decide⟩ 3 rfl (nB rfl) 204 rfl (hb hby at_203) ?_
 intro T40 h40 e40 W40 V40 X40
 have N40 := Fr.snoc X40 (Fr.app N34 N37) ge21
 have Kp42 := (Kp36.wr W40 (Or.inr sz22))
 have Zn41 := Nat.le_trans Z0 Kp42.1
 have O43 := (O0.ext E15)
 have O44 := (O43.ext E16)
 have O45 := (O44.wr W24 ge21)
 have O46 := (O45.wr W29 ge21)
 have O47 := (O46.wr W34 ge21)
 have O48 := (O47.wr W40 ge21)
 have fk49 := (((((A15.ext E16).wr W24).wr W29).wr W34).wr W40)
 have ne50 := Nat.ne_of_lt (Nat.lt_of_lt_of_le A15.lt (Nat.le_of_eq g16.symm))
 have fk51 := (((((b15_coder.ext E16).other W24 (Or.inl ne50)).other W29 (Or.inl ne50)).other W34 (Or.inl ne50)).other W40 (Or.inl ne50))
 have fk52 := (((((b15_value.ext E16).other W24 (Or.inl ne50)).other W29 (Or.inl ne50)).other W34 (Or.inl ne50)).other W40 (Or.inl ne50))
 have V53 : Arv Z h40 b16 k16 .char (4 : Int32) [.int z7_0, .int z8_0, .int z9_0, .int z10_0] (.int 0) := V40
 have sz55 := Nat.le_trans (Keep.refl h0 []).1 (Nat.le_of_eq g15.symm)
 have ge54 := Nat.le_trans Z0 sz55
 refine Go.callN X40 hx hZ hown rfl (tw_8 hw) (tw_9 hw) (tw_10 hw) (by decide) (tw_10 hw) (tw_6 hw) (au_5 l Z a0 hw b15 b16 k16 z7_0 z8_0 z9_0 z10_0 gz1 gv5 h40 n0 Zn41 O48 G fk49 fk51 fk52 V53 r23 r28 r33 r39 ge54) e40 (a := b15) (argsL := [.ref b16]) (rest := [.ref b15]) 207 rfl (hml ▸ rfl) (lenOf pd_5 rfl) rfl rfl (W := 1) (nE rfl) (by decide) (by decide) (by decide) (by decide) (hb hby at_204) ?_
 intro v56 T56 L56 q56 X56
 obtain ⟨h56, e56⟩ : ∃ z, T56.heap = z := ⟨_, rfl⟩
 rw [e56] at q56
 obtain ⟨z56_0, z56_1, z56_2, z56_3, b56_0, k56_0, d56_0, d56_1, d56_2, d56_3, rfl, N56, K56, s56_0, F56_0, F56_1, F56_2, F56_3, F56_4⟩ := q56
 show Go _ _ _ _ (T56.setTop (mkF m 207 #[vI p0, vI p1, vI p2, vI 0, vI 0, vI z7_0, vI z8_0, vI z9_0, vI z10_0, vI z11_0, vI z12_0, vI z13_0, vI z14_0, uS, uS, uS, uS] [.ref b15]))
 refine Go.astore X56 hx 209 rfl (hb hby at_207) (Ls' := #[vI p0, vI p1, vI p2, vI 0, vI 0, vI z7_0, vI z8_0, vI z9_0, vI z10_0, vI z11_0, vI z12_0, vI z13_0, vI z14_0, vR b15, uS, uS, uS]) rfl rfl ?_
 refine Go.iload X56 hx 211 rfl (hb hby at_209) rfl ?_
 refine Go.ifYes X56 hx 218 (hb hby at_211) (by decide) (by decide) (by decide) ?_
 refine Go.new X56 hx hZ hown (tw_4 hw) (tw_5 hw) (tw_6 hw) e56 (by decide) (by decide) 221 rfl (hb hby at_218) ?_
 intro T57 h57 b57 e57 E57 g57 A57 D57 X57
 have b57_coder : Fld Z h57 b57 s1 s4 "B" (.int 0) := D57 (Or.inr (tw_31 hw)) (ty := .byte) (by decide)
 have b57_value : Fld Z h57 b57 s1 s5 "[B" .null := D57 (Or.inr (tw_33 hw)) (ty := (.array .byte)) (by decide)
 refine Go.dup X57 hx 222 rfl (hb hby at_221) rfl ?_
 refine Go.iconst X57 hx 223 rfl (hb hby at_222) (v := (4 : Int32)) rfl ?_
 refine Go.newarray X57 hx hZ (ty := .char) rfl (tw_7 hw) e57 (by decide) (cap := 4) (by decide) (by decide) (by decide) (by decide) (ad := "[C") (by decide) 4 225 rfl (hb hby at_223) ?_
 intro T58 h58 b58 k58 e58 E58 g58 V58 A58 X58
 have V58' : Arv Z h58 b58 k58 .char (4 : Int32) [.int 0, .int 0, .int 0, .int 0] (.int 0) := V58
 refine Go.dup X58 hx 226 rfl (hb hby at_225) rfl ?_
 refine Go.iconst X58 hx 227 rfl (hb hby at_226) (v := (0 : Int32)) rfl ?_
 refine Go.iloadN X58 hx 228 rfl (hb hby at_227) rfl ?_
 refine Go.iconst X58 hx 229 rfl (hb hby at_228) (v := (0 : Int32)) rfl ?_
 have Kp60 := (Kp42.trans K56 (allS (Or.inr sz55) all0))
 have Kp61 := (Kp60.ext E57)
 have Kp62 := (Kp61.ext E58)
 have Zn59 := Nat.le_trans Z0 Kp62.1
 refine Go.callS X58 hx hZ hown (tw_0 hw) (tw_1 hw) (tw_2 hw) (tw_3 hw) (by decide) (tw_3 hw) (tw_2 hw) (au_1 l Z a0 hw p2 h58 n0 Zn59) e58 (argsL := [.int p2, .int 0]) (rest := [.int 0, .ref b58, .ref b58, .ref b57, .ref b57]) 232 rfl (hml ▸ rfl) (lenOf pd_0 rfl) rfl rfl (W := 5) (nE rfl) (by decide) (by decide) (by decide) (by decide) (hb hby at_229) ?_
 intro v63 T63 L63 q63 X63
 obtain ⟨z63_0, z63_1, d63_0, d63_1, rfl, N63, e63⟩ := q63
 have e63_z63_1 : z11_1 = z63_1 := d11_0.symm.trans d63_0
 subst e63_z63_1
 have e63_z63_0 : z11_0 = z63_0 := d11_1.symm.trans d63_1
 subst e63_z63_0
 show Go _ _ _ _ (T63.setTop (mkF m 232 #[vI p0, vI p1, vI p2, vI 0, vI 0, vI z7_0, vI z8_0, vI z9_0, vI z10_0, vI z11_0, vI z12_0, vI z13_0, vI z14_0, vR b15, uS, uS, uS] [.int z11_0, .int 0, .ref b58, .ref b58, .ref b57, .ref b57]))
 have sz65 := Nat.le_trans Kp61.1 (Nat.le_of_eq g58.symm)
 have ge64 := Nat.le_trans Z0 sz65
 have r66 : 0 ≤ z11_0.toInt ∧ z11_0.toInt ≤ 255 := own_rand d11_1 (by decide)
 refine Go.castore X63 hx hZ e63 V58' z11_0 (own_nar_char r66 (by decide) (by decide)) ⟨by decide, by decide⟩ 0 rfl (nB rfl) 233 rfl (hb hby at_232) ?_
 intro T67 h67 e67 W67 V67 X67
 have N67 := Fr.snoc X67 (Fr.app (Fr.app N40 N56) N63) ge64
 refine Go.dup X67 hx 234 rfl (hb hby at_233) rfl ?_
 refine Go.iconst X67 hx 235 rfl (hb hby at_234) (v := (1 : Int32)) rfl ?_
 refine Go.iloadN X67 hx 236 rfl (hb hby at_235) rfl ?_
 refine Go.iconst X67 hx 237 rfl (hb hby at_236) (v := (1 : Int32)) rfl ?_
 have Kp69 := (Kp62.wr W67 (Or.inr sz65))
 have Zn68 := Nat.le_trans Z0 Kp69.1
 refine Go.callS X67 hx hZ hown (tw_0 hw) (tw_1 hw) (tw_2 hw) (tw_3 hw) (by decide) (tw_3 hw) (tw_2 hw) (au_2 l Z a0 hw p2 h67 n0 Zn68) e67 (argsL := [.int p2, .int 1]) (rest := [.int 1, .ref b58, .ref b58, .ref b57, .ref b57]) 240 rfl (hml ▸ rfl) (lenOf pd_0 rfl) rfl rfl (W := 5) (nE rfl) (by decide) (by decide) (by decide) (by decide) (hb hby at_237) ?_
 intro v70 T70 L70 q70 X70
 obtain ⟨z70_0, z70_1, d70_0, d70_1, rfl, N70, e70⟩ := q70
 have e70_z70_1 : z12_1 = z70_1 := d12_0.symm.trans d70_0
 subst e70_z70_1
 have e70_z70_0 : z12_0 = z70_0 := d12_1.symm.trans d70_1
 subst e70_z70_0
 show Go _ _ _ _ (T70.setTop (mkF m 240 #[vI p0, vI p1, vI p2, vI 0, vI 0, vI z7_0, vI z8_0, vI z9_0, vI z10_0, vI z11_0, vI z12_0, vI z13_0, vI z14_0, vR b15, uS, uS, uS] [.int z12_0, .int 1, .ref b58, .ref b58, .ref b57, .ref b57]))
 have r71 : 0 ≤ z12_0.toInt ∧ z12_0.toInt ≤ 255 := own_rand d12_1 (by decide)
 refine Go.castore X70 hx hZ e70 V67 z12_0 (own_nar_char r71 (by decide) (by decide)) ⟨by decide, by decide⟩ 1 rfl (nB rfl) 241 rfl (hb hby at_240) ?_
 intro T72 h72 e72 W72 V72 X72
 have N72 := Fr.snoc X72 (Fr.app N67 N70) ge64
 refine Go.dup X72 hx 242 rfl (hb hby at_241) rfl ?_
 refine Go.iconst X72 hx 243 rfl (hb hby at_242) (v := (2 : Int32)) rfl ?_
 refine Go.iloadN X72 hx 244 rfl (hb hby at_243) rfl ?_
 refine Go.iconst X72 hx 245 rfl (hb hby at_244) (v := (2 : Int32)) rfl ?_
 have Kp74 := (Kp69.wr W72 (Or.inr sz65))
 have Zn73 := Nat.le_trans Z0 Kp74.1
 refine Go.callS X72 hx hZ hown (tw_0 hw) (tw_1 hw) (tw_2 hw) (tw_3 hw) (by decide) (tw_3 hw) (tw_2 hw) (au_3 l Z a0 hw p2 h72 n0 Zn73) e72 (argsL := [.int p2, .int 2]) (rest := [.int 2, .ref b58, .ref b58, .ref b57, .ref b57]) 248 rfl (hml ▸ rfl) (lenOf pd_0 rfl) rfl rfl (W := 5) (nE rfl) (by decide) (by decide) (by decide) (by decide) (hb hby at_245) ?_
 intro v75 T75 L75 q75 X75
 obtain ⟨z75_0, z75_1, d75_0, d75_1, rfl, N75, e75⟩ := q75
 have e75_z75_1 : z13_1 = z75_1 := d13_0.symm.trans d75_0
 subst e75_z75_1
 have e75_z75_0 : z13_0 = z75_0 := d13_1.symm.trans d75_1
 subst e75_z75_0
 show Go _ _ _ _ (T75.setTop (mkF m 248 #[vI p0, vI p1, vI p2, vI 0, vI 0, vI z7_0, vI z8_0, vI z9_0, vI z10_0, vI z11_0, vI z12_0, vI z13_0, vI z14_0, vR b15, uS, uS, uS] [.int z13_0, .int 2, .ref b58, .ref b58, .ref b57, .ref b57]))
 have r76 : 0 ≤ z13_0.toInt ∧ z13_0.toInt ≤ 255 := own_rand d13_1 (by decide)
 refine Go.castore X75 hx hZ e75 V72 z13_0 (own_nar_char r76 (by decide) (by decide)) ⟨by decide, by decide⟩ 2 rfl (nB rfl) 249 rfl (hb hby at_248) ?_
 intro T77 h77 e77 W77 V77 X77
 have N77 := Fr.snoc X77 (Fr.app N72 N75) ge64
 refine Go.dup X77 hx 250 rfl (hb hby at_249) rfl ?_
 refine Go.iconst X77 hx 251 rfl (hb hby at_250) (v := (3 : Int32)) rfl ?_
 refine Go.iloadN X77 hx 252 rfl (hb hby at_251) rfl ?_
 refine Go.iconst X77 hx 253 rfl (hb hby at_252) (v := (3 : Int32)) rfl ?_
 have Kp79 := (Kp74.wr W77 (Or.inr sz65))
 have Zn78 := Nat.le_trans Z0 Kp79.1
 refine Go.callS X77 hx hZ hown (tw_0 hw) (tw_1 hw) (tw_2 hw) (tw_3 hw) (by decide) (tw_3 hw) (tw_2 hw) (au_4 l Z a0 hw p2 h77 n0 Zn78) e77 (argsL := [.int p2, .int 3]) (rest := [.int 3, .ref b58, .ref b58, .ref b57, .ref b57]) 256 rfl (hml ▸ rfl) (lenOf pd_0 rfl) rfl rfl (W := 5) (nE rfl) (by decide) (by decide) (by decide) (by decide) (hb hby at_253) ?_
 intro v80 T80 L80 q80 X80
 obtain ⟨z80_0, d80_0, rfl, N80, e80⟩ := q80
 have e80_z80_0 : z14_0 = z80_0 := d14_0.symm.trans d80_0
 subst e80_z80_0
 show Go _ _ _ _ (T80.setTop (mkF m 256 #[vI p0, vI p1, vI p2, vI 0, vI 0, vI z7_0, vI z8_0, vI z9_0, vI z10_0, vI z11_0, vI z12_0, vI z13_0, vI z14_0, vR b15, uS, uS, uS] [.int z14_0, .int 3, .ref b58, .ref b58, .ref b57, .ref b57]))
 have V81 : Arv Z h77 b58 k58 .char (4 : Int32) [.int z11_0, .int z12_0, .int z13_0, .int 0] (.int 0) := V77
 have r82 : 0 ≤ z14_0.toInt ∧ z14_0.toInt ≤ 255 := own_rushr d14_0 (k := 24) (by decide) (by decide) (by decide)
 refine Go.castore X80 hx hZ e80 V81 z14_0 (own_nar_char r82 (by decide) (by decide)) ⟨by decide, by decide⟩ 3 rfl (nB rfl) 257 rfl (hb hby at_256) ?_
 intro T83 h83 e83 W83 V83 X83
 have N83 := Fr.snoc X83 (Fr.app N77 N80) ge64
 have Kp85 := (Kp79.wr W83 (Or.inr sz65))
 have Zn84 := Nat.le_trans Z0 Kp85.1
 have O86 := (O48.keep K56 (allS ge54 all0))
 have O87 := (O86.ext E57)
 have O88 := (O87.ext E58)
 have O89 := (O88.wr W67 ge64)
 have O90 := (O89.wr W72 ge64)
 have O91 := (O90.wr W77 ge64)
 have O92 := (O91.wr W83 ge64)
 have fk93 := (((((A57.ext E58).wr W67).wr W72).wr W77).wr W83)
 have ne94 := Nat.ne_of_lt (Nat.lt_of_lt_of_le A57.lt (Nat.le_of_eq g58.symm))
 have fk95 := (((((b57_coder.ext E58).other W67 (Or.inl ne94)).other W72 (Or.inl ne94)).other W77 (Or.inl ne94)).other W83 (Or.inl ne94))
 have fk96 := (((((b57_value.ext E58).other W67 (Or.inl ne94)).other W72 (Or.inl ne94)).other W77 (Or.inl ne94)).other W83 (Or.inl ne94))
 have V97 : Arv Z h83 b58 k58 .char (4 : Int32) [.int z11_0, .int z12_0, .int z13_0, .int z14_0] (.int 0) := V83
 have sz99 := Nat.le_trans Kp60.1 (Nat.le_of_eq g57.symm)
 have ge98 := Nat.le_trans Z0 sz99
 refine Go.callN X83 hx hZ hown rfl (tw_8 hw) (tw_9 hw) (tw_10 hw) (by decide) (tw_10 hw) (tw_6 hw) (au_5 l Z a0 hw b57 b58 k58 z11_0 z12_0 z13_0 z14_0 gz1 gv5 h83 n0 Zn84 O92 G fk93 fk95 fk96 V97 r66 r71 r76 r82 ge98) e83 (a := b57) (argsL := [.ref b58]) (rest := [.ref b57]) 260 rfl (hml ▸ rfl) (lenOf pd_5 rfl) rfl rfl (W := 1) (nE rfl) (by decide) (by decide) (by decide) (by decide) (hb hby at_257) ?_
 intro v100 T100 L100 q100 X100
 obtain ⟨h100, e100⟩ : ∃ z, T100.heap = z := ⟨_, rfl⟩
 rw [e100] at q100
 obtain ⟨z100_0, z100_1, z100_2, z100_3, b100_0, k100_0, d100_0, d100_1, d100_2, d100_3, rfl, N100, K100, s100_0, F100_0, F100_1, F100_2, F100_3, F100_4⟩ := q100
 show Go _ _ _ _ (T100.setTop (mkF m 260 #[vI p0, vI p1, vI p2, vI 0, vI 0, vI z7_0, vI z8_0, vI z9_0, vI z10_0, vI z11_0, vI z12_0, vI z13_0, vI z14_0, vR b15, uS, uS, uS] [.ref b57]))
 refine Go.astore X100 hx 262 rfl (hb hby at_260) (Ls' := #[vI p0, vI p1, vI p2, vI 0, vI 0, vI z7_0, vI z8_0, vI z9_0, vI z10_0, vI z11_0, vI z12_0, vI z13_0, vI z14_0, vR b15, vR b57, uS, uS]) rfl rfl ?_
 refine Go.bipush X100 hx 264 rfl (hb hby at_262) (v := (29 : Int32)) (by decide) ?_
 refine Go.newarray X100 hx hZ (ty := .char) rfl (tw_7 hw) e100 (by decide) (cap := 29) (by decide) (by decide) (by decide) (by decide) (ad := "[C") (by decide) 29 266 rfl (hb hby at_264) ?_
 intro T101 h101 b101 k101 e101 E101 g101 V101 A101 X101
 have V101' : Arv Z h101 b101 k101 .char (29 : Int32) [.int 0, .int 0, .int 0, .int 0, .int 0, .int 0, .int 0, .int 0, .int 0, .int 0, .int 0, .int 0, .int 0, .int 0, .int 0, .int 0, .int 0, .int 0, .int 0, .int 0, .int 0, .int 0, .int 0, .int 0, .int 0, .int 0, .int 0, .int 0, .int 0] (.int 0) := V101
 refine Go.dup X101 hx 267 rfl (hb hby at_266) rfl ?_
 refine Go.iconst X101 hx 268 rfl (hb hby at_267) (v := (0 : Int32)) rfl ?_
 refine Go.bipush X101 hx 270 rfl (hb hby at_268) (v := (69 : Int32)) (by decide) ?_
 have Kp104 := (Kp85.trans K100 (allS (Or.inr sz99) all0))
 have sz103 := Nat.le_trans Kp104.1 (Nat.le_of_eq g101.symm)
 have ge102 := Nat.le_trans Z0 sz103
 refine Go.castore X101 hx hZ e101 V101' (69 : Int32) rfl ⟨by decide, by decide⟩ 0 rfl (nB rfl) 271 rfl (hb hby at_270) ?_
 intro T105 h105 e105 W105 V105 X105
 have N105 := Fr.snoc X105 (Fr.app N83 N100) ge102
 refine Go.dup X105 hx 272 rfl (hb hby at_271) rfl ?_
 refine Go.iconst X105 hx 273 rfl (hb hby at_272) (v := (1 : Int32)) rfl ?_
 refine Go.bipush X105 hx 275 rfl (hb hby at_273) (v := (84 : Int32)) (by decide) ?_
 refine Go.castore X105 hx hZ e105 V105 (84 : Int32) rfl ⟨by decide, by decide⟩ 1 rfl (nB rfl) 276 rfl (hb hby at_275) ?_
 intro T106 h106 e106 W106 V106 X106
 have N106 := Fr.snoc X106 N105 ge102
 refine Go.dup X106 hx 277 rfl (hb hby at_276) rfl ?_
 refine Go.iconst X106 hx 278 rfl (hb hby at_277) (v := (2 : Int32)) rfl ?_
 refine Go.bipush X106 hx 280 rfl (hb hby at_278) (v := (97 : Int32)) (by decide) ?_
 refine Go.castore X106 hx hZ e106 V106 (97 : Int32) rfl ⟨by decide, by decide⟩ 2 rfl (nB rfl) 281 rfl (hb hby at_280) ?_
 intro T107 h107 e107 W107 V107 X107
 have N107 := Fr.snoc X107 N106 ge102
 refine Go.dup X107 hx 282 rfl (hb hby at_281) rfl ?_
 refine Go.iconst X107 hx 283 rfl (hb hby at_282) (v := (3 : Int32)) rfl ?_
 refine Go.bipush X107 hx 285 rfl (hb hby at_283) (v := (103 : Int32)) (by decide) ?_
 have V108 : Arv Z h107 b101 k101 .char (29 : Int32) [.int 69, .int 84, .int 97, .int 0, .int 0, .int 0, .int 0, .int 0, .int 0, .int 0, .int 0, .int 0, .int 0, .int 0, .int 0, .int 0, .int 0, .int 0, .int 0, .int 0, .int 0, .int 0, .int 0, .int 0, .int 0, .int 0, .int 0, .int 0, .int 0] (.int 0) := V107
 refine Go.castore X107 hx hZ e107 V108 (103 : Int32) rfl ⟨by decide, by decide⟩ 3 rfl (nB rfl) 286 rfl (hb hby at_285) ?_
 intro T109 h109 e109 W109 V109 X109
 have N109 := Fr.snoc X109 N107 ge102
 refine Go.dup X109 hx 287 rfl (hb hby at_286) rfl ?_
 refine Go.iconst X109 hx 288 rfl (hb hby at_287) (v := (4 : Int32)) rfl ?_
 refine Go.bipush X109 hx 290 rfl (hb hby at_288) (v := (32 : Int32)) (by decide) ?_
 refine Go.castore X109 hx hZ e109 V109 (32 : Int32) rfl ⟨by decide, by decide⟩ 4 rfl (nB rfl) 291 rfl (hb hby at_290) ?_
 intro T110 h110 e110 W110 V110 X110
 have N110 := Fr.snoc X110 N109 ge102
 refine Go.dup X110 hx 292 rfl (hb hby at_291) rfl ?_
 refine Go.iconst X110 hx 293 rfl (hb hby at_292) (v := (5 : Int32)) rfl ?_
 refine Go.iload X110 hx 295 rfl (hb hby at_293) rfl ?_
 refine Go.castore X110 hx hZ e110 V110 z7_0 (own_nar_char r23 (by decide) (by decide)) ⟨by decide, by decide⟩ 5 rfl (nB rfl) 296 rfl (hb hby at_295) ?_
 intro T111 h111 e111 W111 V111 X111
 have N111 := Fr.snoc X111 N110 ge102
 refine Go.dup X111 hx 297 rfl (hb hby at_296) rfl ?_
 refine Go.bipush X111 hx 299 rfl (hb hby at_297) (v := (6 : Int32)) (by decide) ?_
 refine Go.iload X111 hx 301 rfl (hb hby at_299) rfl ?_
 refine Go.castore X111 hx hZ e111 V111 z8_0 (own_nar_char r28 (by decide) (by decide)) ⟨by decide, by decide⟩ 6 rfl (nB rfl) 302 rfl (hb hby at_301) ?_
 intro T112 h112 e112 W112 V112 X112
 have N112 := Fr.snoc X112 N111 ge102
 refine Go.dup X112 hx 303 rfl (hb hby at_302) rfl ?_
 refine Go.bipush X112 hx 305 rfl (hb hby at_303) (v := (7 : Int32)) (by decide) ?_
 refine Go.iload X112 hx 307 rfl (hb hby at_305) rfl ?_
 have V113 : Arv Z h112 b101 k101 .char (29 : Int32) [.int 69, .int 84, .int 97, .int 103, .int 32, .int z7_0, .int z8_0, .int 0, .int 0, .int 0, .int 0, .int 0, .int 0, .int 0, .int 0, .int 0, .int 0, .int 0, .int 0, .int 0, .int 0, .int 0, .int 0, .int 0, .int 0, .int 0, .int 0, .int 0, .int 0] (.int 0) := V112
 refine Go.castore X112 hx hZ e112 V113 z9_0 (own_nar_char r33 (by decide) (by decide)) ⟨by decide, by decide⟩ 7 rfl (nB rfl) 308 rfl (hb hby at_307) ?_
 intro T114 h114 e114 W114 V114 X114
 have N114 := Fr.snoc X114 N112 ge102
 refine Go.dup X114 hx 309 rfl (hb hby at_308) rfl ?_
 refine Go.bipush X114 hx 311 rfl (hb hby at_309) (v := (8 : Int32)) (by decide) ?_
 refine Go.iload X114 hx 313 rfl (hb hby at_311) rfl ?_
 refine Go.castore X114 hx hZ e114 V114 z10_0 (own_nar_char r39 (by decide) (by decide)) ⟨by decide, by decide⟩ 8 rfl (nB rfl) 314 rfl (hb hby at_313) ?_
 intro T115 h115 e115 W115 V115 X115
 have N115 := Fr.snoc X115 N114 ge102
 refine Go.dup X115 hx 315 rfl (hb hby at_314) rfl ?_
 refine Go.bipush X115 hx 317 rfl (hb hby at_315) (v := (9 : Int32)) (by decide) ?_
 refine Go.bipush X115 hx 319 rfl (hb hby at_317) (v := (44 : Int32)) (by decide) ?_
 refine Go.castore X115 hx hZ e115 V115 (44 : Int32) rfl ⟨by decide, by decide⟩ 9 rfl (nB rfl) 320 rfl (hb hby at_319) ?_
 intro T116 h116 e116 W116 V116 X116
 have N116 := Fr.snoc X116 N115 ge102
 refine Go.dup X116 hx 321 rfl (hb hby at_320) rfl ?_
 refine Go.bipush X116 hx 323 rfl (hb hby at_321) (v := (10 : Int32)) (by decide) ?_
 refine Go.bipush X116 hx 325 rfl (hb hby at_323) (v := (32 : Int32)) (by decide) ?_
 refine Go.castore X116 hx hZ e116 V116 (32 : Int32) rfl ⟨by decide, by decide⟩ 10 rfl (nB rfl) 326 rfl (hb hby at_325) ?_
 intro T117 h117 e117 W117 V117 X117
 have N117 := Fr.snoc X117 N116 ge102
 refine Go.dup X117 hx 327 rfl (hb hby at_326) rfl ?_
 refine Go.bipush X117 hx 329 rfl (hb hby at_327) (v := (11 : Int32)) (by decide) ?_
 refine Go.bipush X117 hx 331 rfl (hb hby at_329) (v := (76 : Int32)) (by decide) ?_
 have V118 : Arv Z h117 b101 k101 .char (29 : Int32) [.int 69, .int 84, .int 97, .int 103, .int 32, .int z7_0, .int z8_0, .int z9_0, .int z10_0, .int 44, .int 32, .int 0, .int 0, .int 0, .int 0, .int 0, .int 0, .int 0, .int 0, .int 0, .int 0, .int 0, .int 0, .int 0, .int 0, .int 0, .int 0, .int 0, .int 0] (.int 0) := V117
 refine Go.castore X117 hx hZ e117 V118 (76 : Int32) rfl ⟨by decide, by decide⟩ 11 rfl (nB rfl) 332 rfl (hb hby at_331) ?_
 intro T119 h119 e119 W119 V119 X119
 have N119 := Fr.snoc X119 N117 ge102
 refine Go.dup X119 hx 333 rfl (hb hby at_332) rfl ?_
 refine Go.bipush X119 hx 335 rfl (hb hby at_333) (v := (12 : Int32)) (by decide) ?_
 refine Go.bipush X119 hx 337 rfl (hb hby at_335) (v := (97 : Int32)) (by decide) ?_
 refine Go.castore X119 hx hZ e119 V119 (97 : Int32) rfl ⟨by decide, by decide⟩ 12 rfl (nB rfl) 338 rfl (hb hby at_337) ?_
 intro T120 h120 e120 W120 V120 X120
 have N120 := Fr.snoc X120 N119 ge102
 refine Go.dup X120 hx 339 rfl (hb hby at_338) rfl ?_
 refine Go.bipush X120 hx 341 rfl (hb hby at_339) (v := (13 : Int32)) (by decide) ?_
 refine Go.bipush X120 hx 343 rfl (hb hby at_341) (v := (115 : Int32)) (by decide) ?_
 refine Go.castore X120 hx hZ e120 V120 (115 : Int32) rfl ⟨by decide, by decide⟩ 13 rfl (nB rfl) 344 rfl (hb hby at_343) ?_
 intro T121 h121 e121 W121 V121 X121
 have N121 := Fr.snoc X121 N120 ge102
 refine Go.dup X121 hx 345 rfl (hb hby at_344) rfl ?_
 refine Go.bipush X121 hx 347 rfl (hb hby at_345) (v := (14 : Int32)) (by decide) ?_
 refine Go.bipush X121 hx 349 rfl (hb hby at_347) (v := (116 : Int32)) (by decide) ?_
 refine Go.castore X121 hx hZ e121 V121 (116 : Int32) rfl ⟨by decide, by decide⟩ 14 rfl (nB rfl) 350 rfl (hb hby at_349) ?_
 intro T122 h122 e122 W122 V122 X122
 have N122 := Fr.snoc X122 N121 ge102
 refine Go.dup X122 hx 351 rfl (hb hby at_350) rfl ?_
 refine Go.bipush X122 hx 353 rfl (hb hby at_351) (v := (15 : Int32)) (by decide) ?_
 refine Go.bipush X122 hx 355 rfl (hb hby at_353) (v := (45 : Int32)) (by decide) ?_
 have V123 : Arv Z h122 b101 k101 .char (29 : Int32) [.int 69, .int 84, .int 97, .int 103, .int 32, .int z7_0, .int z8_0, .int z9_0, .int z10_0, .int 44, .int 32, .int 76, .int 97, .int 115, .int 116, .int 0, .int 0, .int 0, .int 0, .int 0, .int 0, .int 0, .int 0, .int 0, .int 0, .int 0, .int 0, .int 0, .int 0] (.int 0) := V122
 refine Go.castore X122 hx hZ e122 V123 (45 : Int32) rfl ⟨by decide, by decide⟩ 15 rfl (nB rfl) 356 rfl (hb hby at_355) ?_
 intro T124 h124 e124 W124 V124 X124
 have N124 := Fr.snoc X124 N122 ge102
 refine Go.dup X124 hx 357 rfl (hb hby at_356) rfl ?_
 refine Go.bipush X124 hx 359 rfl (hb hby at_357) (v := (16 : Int32)) (by decide) ?_
 refine Go.bipush X124 hx 361 rfl (hb hby at_359) (v := (77 : Int32)) (by decide) ?_
 refine Go.castore X124 hx hZ e124 V124 (77 : Int32) rfl ⟨by decide, by decide⟩ 16 rfl (nB rfl) 362 rfl (hb hby at_361) ?_
 intro T125 h125 e125 W125 V125 X125
 have N125 := Fr.snoc X125 N124 ge102
 refine Go.dup X125 hx 363 rfl (hb hby at_362) rfl ?_
 refine Go.bipush X125 hx 365 rfl (hb hby at_363) (v := (17 : Int32)) (by decide) ?_
 refine Go.bipush X125 hx 367 rfl (hb hby at_365) (v := (111 : Int32)) (by decide) ?_
 refine Go.castore X125 hx hZ e125 V125 (111 : Int32) rfl ⟨by decide, by decide⟩ 17 rfl (nB rfl) 368 rfl (hb hby at_367) ?_
 intro T126 h126 e126 W126 V126 X126
 have N126 := Fr.snoc X126 N125 ge102
 refine Go.dup X126 hx 369 rfl (hb hby at_368) rfl ?_
 refine Go.bipush X126 hx 371 rfl (hb hby at_369) (v := (18 : Int32)) (by decide) ?_
 refine Go.bipush X126 hx 373 rfl (hb hby at_371) (v := (100 : Int32)) (by decide) ?_
 refine Go.castore X126 hx hZ e126 V126 (100 : Int32) rfl ⟨by decide, by decide⟩ 18 rfl (nB rfl) 374 rfl (hb hby at_373) ?_
 intro T127 h127 e127 W127 V127 X127
 have N127 := Fr.snoc X127 N126 ge102
 refine Go.dup X127 hx 375 rfl (hb hby at_374) rfl ?_
 refine Go.bipush X127 hx 377 rfl (hb hby at_375) (v := (19 : Int32)) (by decide) ?_
 refine Go.bipush X127 hx 379 rfl (hb hby at_377) (v := (105 : Int32)) (by decide) ?_
 have V128 : Arv Z h127 b101 k101 .char (29 : Int32) [.int 69, .int 84, .int 97, .int 103, .int 32, .int z7_0, .int z8_0, .int z9_0, .int z10_0, .int 44, .int 32, .int 76, .int 97, .int 115, .int 116, .int 45, .int 77, .int 111, .int 100, .int 0, .int 0, .int 0, .int 0, .int 0, .int 0, .int 0, .int 0, .int 0, .int 0] (.int 0) := V127
 refine Go.castore X127 hx hZ e127 V128 (105 : Int32) rfl ⟨by decide, by decide⟩ 19 rfl (nB rfl) 380 rfl (hb hby at_379) ?_
 intro T129 h129 e129 W129 V129 X129
 have N129 := Fr.snoc X129 N127 ge102
 refine Go.dup X129 hx 381 rfl (hb hby at_380) rfl ?_
 refine Go.bipush X129 hx 383 rfl (hb hby at_381) (v := (20 : Int32)) (by decide) ?_
 refine Go.bipush X129 hx 385 rfl (hb hby at_383) (v := (102 : Int32)) (by decide) ?_
 refine Go.castore X129 hx hZ e129 V129 (102 : Int32) rfl ⟨by decide, by decide⟩ 20 rfl (nB rfl) 386 rfl (hb hby at_385) ?_
 intro T130 h130 e130 W130 V130 X130
 have N130 := Fr.snoc X130 N129 ge102
 refine Go.dup X130 hx 387 rfl (hb hby at_386) rfl ?_
 refine Go.bipush X130 hx 389 rfl (hb hby at_387) (v := (21 : Int32)) (by decide) ?_
 refine Go.bipush X130 hx 391 rfl (hb hby at_389) (v := (105 : Int32)) (by decide) ?_
 refine Go.castore X130 hx hZ e130 V130 (105 : Int32) rfl ⟨by decide, by decide⟩ 21 rfl (nB rfl) 392 rfl (hb hby at_391) ?_
 intro T131 h131 e131 W131 V131 X131
 have N131 := Fr.snoc X131 N130 ge102
 refine Go.dup X131 hx 393 rfl (hb hby at_392) rfl ?_
 refine Go.bipush X131 hx 395 rfl (hb hby at_393) (v := (22 : Int32)) (by decide) ?_
 refine Go.bipush X131 hx 397 rfl (hb hby at_395) (v := (101 : Int32)) (by decide) ?_
 refine Go.castore X131 hx hZ e131 V131 (101 : Int32) rfl ⟨by decide, by decide⟩ 22 rfl (nB rfl) 398 rfl (hb hby at_397) ?_
 intro T132 h132 e132 W132 V132 X132
 have N132 := Fr.snoc X132 N131 ge102
 refine Go.dup X132 hx 399 rfl (hb hby at_398) rfl ?_
 refine Go.bipush X132 hx 401 rfl (hb hby at_399) (v := (23 : Int32)) (by decide) ?_
 refine Go.bipush X132 hx 403 rfl (hb hby at_401) (v := (100 : Int32)) (by decide) ?_
 have V133 : Arv Z h132 b101 k101 .char (29 : Int32) [.int 69, .int 84, .int 97, .int 103, .int 32, .int z7_0, .int z8_0, .int z9_0, .int z10_0, .int 44, .int 32, .int 76, .int 97, .int 115, .int 116, .int 45, .int 77, .int 111, .int 100, .int 105, .int 102, .int 105, .int 101, .int 0, .int 0, .int 0, .int 0, .int 0, .int 0] (.int 0) := V132
 refine Go.castore X132 hx hZ e132 V133 (100 : Int32) rfl ⟨by decide, by decide⟩ 23 rfl (nB rfl) 404 rfl (hb hby at_403) ?_
 intro T134 h134 e134 W134 V134 X134
 have N134 := Fr.snoc X134 N132 ge102
 refine Go.dup X134 hx 405 rfl (hb hby at_404) rfl ?_
 refine Go.bipush X134 hx 407 rfl (hb hby at_405) (v := (24 : Int32)) (by decide) ?_
 refine Go.bipush X134 hx 409 rfl (hb hby at_407) (v := (32 : Int32)) (by decide) ?_
 refine Go.castore X134 hx hZ e134 V134 (32 : Int32) rfl ⟨by decide, by decide⟩ 24 rfl (nB rfl) 410 rfl (hb hby at_409) ?_
 intro T135 h135 e135 W135 V135 X135
 have N135 := Fr.snoc X135 N134 ge102
 refine Go.dup X135 hx 411 rfl (hb hby at_410) rfl ?_
 refine Go.bipush X135 hx 413 rfl (hb hby at_411) (v := (25 : Int32)) (by decide) ?_
 refine Go.iload X135 hx 415 rfl (hb hby at_413) rfl ?_
 refine Go.castore X135 hx hZ e135 V135 z11_0 (own_nar_char r66 (by decide) (by decide)) ⟨by decide, by decide⟩ 25 rfl (nB rfl) 416 rfl (hb hby at_415) ?_
 intro T136 h136 e136 W136 V136 X136
 have N136 := Fr.snoc X136 N135 ge102
 refine Go.dup X136 hx 417 rfl (hb hby at_416) rfl ?_
 refine Go.bipush X136 hx 419 rfl (hb hby at_417) (v := (26 : Int32)) (by decide) ?_
 refine Go.iload X136 hx 421 rfl (hb hby at_419) rfl ?_
 refine Go.castore X136 hx hZ e136 V136 z12_0 (own_nar_char r71 (by decide) (by decide)) ⟨by decide, by decide⟩ 26 rfl (nB rfl) 422 rfl (hb hby at_421) ?_
 intro T137 h137 e137 W137 V137 X137
 have N137 := Fr.snoc X137 N136 ge102
 refine Go.dup X137 hx 423 rfl (hb hby at_422) rfl ?_
 refine Go.bipush X137 hx 425 rfl (hb hby at_423) (v := (27 : Int32)) (by decide) ?_
 refine Go.iload X137 hx 427 rfl (hb hby at_425) rfl ?_
 have V138 : Arv Z h137 b101 k101 .char (29 : Int32) [.int 69, .int 84, .int 97, .int 103, .int 32, .int z7_0, .int z8_0, .int z9_0, .int z10_0, .int 44, .int 32, .int 76, .int 97, .int 115, .int 116, .int 45, .int 77, .int 111, .int 100, .int 105, .int 102, .int 105, .int 101, .int 100, .int 32, .int z11_0, .int z12_0, .int 0, .int 0] (.int 0) := V137
 refine Go.castore X137 hx hZ e137 V138 z13_0 (own_nar_char r76 (by decide) (by decide)) ⟨by decide, by decide⟩ 27 rfl (nB rfl) 428 rfl (hb hby at_427) ?_
 intro T139 h139 e139 W139 V139 X139
 have N139 := Fr.snoc X139 N137 ge102
 refine Go.dup X139 hx 429 rfl (hb hby at_428) rfl ?_
 refine Go.bipush X139 hx 431 rfl (hb hby at_429) (v := (28 : Int32)) (by decide) ?_
 refine Go.iload X139 hx 433 rfl (hb hby at_431) rfl ?_
 refine Go.castore X139 hx hZ e139 V139 z14_0 (own_nar_char r82 (by decide) (by decide)) ⟨by decide, by decide⟩ 28 rfl (nB rfl) 434 rfl (hb hby at_433) ?_
 intro T140 h140 e140 W140 V140 X140
 have N140 := Fr.snoc X140 N139 ge102
 refine Go.astore X140 hx 436 rfl (hb hby at_434) (Ls' := #[vI p0, vI p1, vI p2, vI 0, vI 0, vI z7_0, vI z8_0, vI z9_0, vI z10_0, vI z11_0, vI z12_0, vI z13_0, vI z14_0, vR b15, vR b57, vR b101, uS]) rfl rfl ?_
 refine Go.new X140 hx hZ hown (tw_34 hw) (tw_35 hw) (tw_36 hw) e140 (by decide) (by decide) 439 rfl (hb hby at_436) ?_
 intro T141 h141 b141 e141 E141 g141 A141 D141 X141
 have b141_etag : Fld Z h141 b141 s2 "etag" s6 .null := D141 (Or.inr (tw_42 hw)) (ty := (.object s1)) (by decide)
 have b141_lastModified : Fld Z h141 b141 s2 "lastModified" s6 .null := D141 (Or.inr (tw_44 hw)) (ty := (.object s1)) (by decide)
 refine Go.dup X141 hx 440 rfl (hb hby at_439) rfl ?_
 refine Go.aload X141 hx 442 rfl (hb hby at_440) rfl rfl ?_
 refine Go.aload X141 hx 444 rfl (hb hby at_442) rfl rfl ?_
 have r142 : -128 ≤ z56_0.toInt ∧ z56_0.toInt ≤ 127 := own_ri2b d56_0
 have r143 : -128 ≤ z56_1.toInt ∧ z56_1.toInt ≤ 127 := own_ri2b d56_1
 have r144 : -128 ≤ z56_2.toInt ∧ z56_2.toInt ≤ 127 := own_ri2b d56_2
 have r145 : -128 ≤ z56_3.toInt ∧ z56_3.toInt ≤ 127 := own_ri2b d56_3
 have r146 : -128 ≤ z100_0.toInt ∧ z100_0.toInt ≤ 127 := own_ri2b d100_0
 have r147 : -128 ≤ z100_1.toInt ∧ z100_1.toInt ≤ 127 := own_ri2b d100_1
 have r148 : -128 ≤ z100_2.toInt ∧ z100_2.toInt ≤ 127 := own_ri2b d100_2
 have r149 : -128 ≤ z100_3.toInt ∧ z100_3.toInt ≤ 127 := own_ri2b d100_3
 have Kp151 := (Kp104.ext E101)
 have Kp152 := (Kp151.wr W105 (Or.inr sz103))
 have Kp153 := (Kp152.wr W106 (Or.inr sz103))
 have Kp154 := (Kp153.wr W107 (Or.inr sz103))
 have Kp155 := (Kp154.wr W109 (Or.inr sz103))
 have Kp156 := (Kp155.wr W110 (Or.inr sz103))
 have Kp157 := (Kp156.wr W111 (Or.inr sz103))
 have Kp158 := (Kp157.wr W112 (Or.inr sz103))
 have Kp159 := (Kp158.wr W114 (Or.inr sz103))
 have Kp160 := (Kp159.wr W115 (Or.inr sz103))
 have Kp161 := (Kp160.wr W116 (Or.inr sz103))
 have Kp162 := (Kp161.wr W117 (Or.inr sz103))
 have Kp163 := (Kp162.wr W119 (Or.inr sz103))
 have Kp164 := (Kp163.wr W120 (Or.inr sz103))
 have Kp165 := (Kp164.wr W121 (Or.inr sz103))
 have Kp166 := (Kp165.wr W122 (Or.inr sz103))
 have Kp167 := (Kp166.wr W124 (Or.inr sz103))
 have Kp168 := (Kp167.wr W125 (Or.inr sz103))
 have Kp169 := (Kp168.wr W126 (Or.inr sz103))
 have Kp170 := (Kp169.wr W127 (Or.inr sz103))
 have Kp171 := (Kp170.wr W129 (Or.inr sz103))
 have Kp172 := (Kp171.wr W130 (Or.inr sz103))
 have Kp173 := (Kp172.wr W131 (Or.inr sz103))
 have Kp174 := (Kp173.wr W132 (Or.inr sz103))
 have Kp175 := (Kp174.wr W134 (Or.inr sz103))
 have Kp176 := (Kp175.wr W135 (Or.inr sz103))
 have Kp177 := (Kp176.wr W136 (Or.inr sz103))
 have Kp178 := (Kp177.wr W137 (Or.inr sz103))
 have Kp179 := (Kp178.wr W139 (Or.inr sz103))
 have Kp180 := (Kp179.wr W140 (Or.inr sz103))
 have Kp181 := (Kp180.ext E141)
 have Zn150 := Nat.le_trans Z0 Kp181.1
 have sz183 := Nat.le_trans Kp180.1 (Nat.le_of_eq g141.symm)
 have ge182 := Nat.le_trans Z0 sz183
 refine Go.callN X141 hx hZ hown rfl (tw_37 hw) (tw_38 hw) (tw_39 hw) (by decide) (tw_39 hw) (tw_36 hw) (au_9 l Z a0 hw b141 b15 b57 h141 n0 Zn150 A141 b141_etag b141_lastModified ge182) e141 (a := b141) (argsL := [.ref b15, .ref b57]) (rest := [.ref b141]) 447 rfl (hml ▸ rfl) (lenOf pd_6 rfl) rfl rfl (W := 1) (nE rfl) (by decide) (by decide) (by decide) (by decide) (hb hby at_444) ?_
 intro v184 T184 L184 q184 X184
 obtain ⟨h184, e184⟩ : ∃ z, T184.heap = z := ⟨_, rfl⟩
 rw [e184] at q184
 obtain ⟨rfl, N184, K184, F184_0, F184_1, F184_2⟩ := q184
 show Go _ _ _ _ (T184.setTop (mkF m 447 #[vI p0, vI p1, vI p2, vI 0, vI 0, vI z7_0, vI z8_0, vI z9_0, vI z10_0, vI z11_0, vI z12_0, vI z13_0, vI z14_0, vR b15, vR b57, vR b101, uS] [.ref b141]))
 have Kp186 := (Kp181.trans K184 (allS (Or.inr sz183) all0))
 have Zn185 := Nat.le_trans Z0 Kp186.1
 have O187 := (O92.keep K100 (allS ge98 all0))
 have O188 := (O187.ext E101)
 have O189 := (O188.wr W105 ge102)
 have O190 := (O189.wr W106 ge102)
 have O191 := (O190.wr W107 ge102)
 have O192 := (O191.wr W109 ge102)
 have O193 := (O192.wr W110 ge102)
 have O194 := (O193.wr W111 ge102)
 have O195 := (O194.wr W112 ge102)
 have O196 := (O195.wr W114 ge102)
 have O197 := (O196.wr W115 ge102)
 have O198 := (O197.wr W116 ge102)
 have O199 := (O198.wr W117 ge102)
 have O200 := (O199.wr W119 ge102)
 have O201 := (O200.wr W120 ge102)
 have O202 := (O201.wr W121 ge102)
 have O203 := (O202.wr W122 ge102)
 have O204 := (O203.wr W124 ge102)
 have O205 := (O204.wr W125 ge102)
 have O206 := (O205.wr W126 ge102)
 have O207 := (O206.wr W127 ge102)
 have O208 := (O207.wr W129 ge102)
 have O209 := (O208.wr W130 ge102)
 have O210 := (O209.wr W131 ge102)
 have O211 := (O210.wr W132 ge102)
 have O212 := (O211.wr W134 ge102)
 have O213 := (O212.wr W135 ge102)
 have O214 := (O213.wr W136 ge102)
 have O215 := (O214.wr W137 ge102)
 have O216 := (O215.wr W139 ge102)
 have O217 := (O216.wr W140 ge102)
 have O218 := (O217.ext E141)
 have O219 := (O218.keep K184 (allS ge182 all0))
 have fk220 := (((((((((((((((((((((((((((((((((((((((F56_0.ext E57).ext E58).wr W67).wr W72).wr W77).wr W83).keep K100).ext E101).wr W105).wr W106).wr W107).wr W109).wr W110).wr W111).wr W112).wr W114).wr W115).wr W116).wr W117).wr W119).wr W120).wr W121).wr W122).wr W124).wr W125).wr W126).wr W127).wr W129).wr W130).wr W131).wr W132).wr W134).wr W135).wr W136).wr W137).wr W139).wr W140).ext E141).keep K184)
 have fk222 := (F56_0.ext E57)
 have ne221 := Nat.ne_of_lt (Nat.lt_of_lt_of_le fk222.lt (Nat.le_of_eq g58.symm))
 have ne223 := Nat.ne_of_lt (Nat.lt_of_lt_of_le F56_0.lt (Nat.le_of_eq g57.symm))
 have fk225 := ((((((fk222.ext E58).wr W67).wr W72).wr W77).wr W83).keep K100)
 have ne224 := Nat.ne_of_lt (Nat.lt_of_lt_of_le fk225.lt (Nat.le_of_eq g101.symm))
 have fk227 := ((((((((((((((((((((((((((((((fk225.ext E101).wr W105).wr W106).wr W107).wr W109).wr W110).wr W111).wr W112).wr W114).wr W115).wr W116).wr W117).wr W119).wr W120).wr W121).wr W122).wr W124).wr W125).wr W126).wr W127).wr W129).wr W130).wr W131).wr W132).wr W134).wr W135).wr W136).wr W137).wr W139).wr W140)
 have ne226 := Nat.ne_of_lt (Nat.lt_of_lt_of_le fk227.lt (Nat.le_of_eq g141.symm))
 have fk228 := (((((((((((((((((((((((((((((((((((((((F56_1.ext E57).ext E58).other W67 (Or.inl ne221)).other W72 (Or.inl ne221)).other W77 (Or.inl ne221)).other W83 (Or.inl ne221)).keep K100 (ninS ne223 nin0)).ext E101).other W105 (Or.inl ne224)).other W106 (Or.inl ne224)).other W107 (Or.inl ne224)).other W109 (Or.inl ne224)).other W110 (Or.inl ne224)).other W111 (Or.inl ne224)).other W112 (Or.inl ne224)).other W114 (Or.inl ne224)).other W115 (Or.inl ne224)).other W116 (Or.inl ne224)).other W117 (Or.inl ne224)).other W119 (Or.inl ne224)).other W120 (Or.inl ne224)).other W121 (Or.inl ne224)).other W122 (Or.inl ne224)).other W124 (Or.inl ne224)).other W125 (Or.inl ne224)).other W126 (Or.inl ne224)).other W127 (Or.inl ne224)).other W129 (Or.inl ne224)).other W130 (Or.inl ne224)).other W131 (Or.inl ne224)).other W132 (Or.inl ne224)).other W134 (Or.inl ne224)).other W135 (Or.inl ne224)).other W136 (Or.inl ne224)).other W137 (Or.inl ne224)).other W139 (Or.inl ne224)).other W140 (Or.inl ne224)).ext E141).keep K184 (ninS ne226 nin0))
 have fk229 := (((((((((((((((((((((((((((((((((((((((F56_2.ext E57).ext E58).other W67 (Or.inl ne221)).other W72 (Or.inl ne221)).other W77 (Or.inl ne221)).other W83 (Or.inl ne221)).keep K100 (ninS ne223 nin0)).ext E101).other W105 (Or.inl ne224)).other W106 (Or.inl ne224)).other W107 (Or.inl ne224)).other W109 (Or.inl ne224)).other W110 (Or.inl ne224)).other W111 (Or.inl ne224)).other W112 (Or.inl ne224)).other W114 (Or.inl ne224)).other W115 (Or.inl ne224)).other W116 (Or.inl ne224)).other W117 (Or.inl ne224)).other W119 (Or.inl ne224)).other W120 (Or.inl ne224)).other W121 (Or.inl ne224)).other W122 (Or.inl ne224)).other W124 (Or.inl ne224)).other W125 (Or.inl ne224)).other W126 (Or.inl ne224)).other W127 (Or.inl ne224)).other W129 (Or.inl ne224)).other W130 (Or.inl ne224)).other W131 (Or.inl ne224)).other W132 (Or.inl ne224)).other W134 (Or.inl ne224)).other W135 (Or.inl ne224)).other W136 (Or.inl ne224)).other W137 (Or.inl ne224)).other W139 (Or.inl ne224)).other W140 (Or.inl ne224)).ext E141).keep K184 (ninS ne226 nin0))
 have fk230 := ((((((((((((((((((((((((((((((((F100_0.ext E101).wr W105).wr W106).wr W107).wr W109).wr W110).wr W111).wr W112).wr W114).wr W115).wr W116).wr W117).wr W119).wr W120).wr W121).wr W122).wr W124).wr W125).wr W126).wr W127).wr W129).wr W130).wr W131).wr W132).wr W134).wr W135).wr W136).wr W137).wr W139).wr W140).ext E141).keep K184)
 have ne231 := Nat.ne_of_lt (Nat.lt_of_lt_of_le F100_0.lt (Nat.le_of_eq g101.symm))
 have fk233 := ((((((((((((((((((((((((((((((F100_0.ext E101).wr W105).wr W106).wr W107).wr W109).wr W110).wr W111).wr W112).wr W114).wr W115).wr W116).wr W117).wr W119).wr W120).wr W121).wr W122).wr W124).wr W125).wr W126).wr W127).wr W129).wr W130).wr W131).wr W132).wr W134).wr W135).wr W136).wr W137).wr W139).wr W140)
 have ne232 := Nat.ne_of_lt (Nat.lt_of_lt_of_le fk233.lt (Nat.le_of_eq g141.symm))
 have fk234 := ((((((((((((((((((((((((((((((((F100_1.ext E101).other W105 (Or.inl ne231)).other W106 (Or.inl ne231)).other W107 (Or.inl ne231)).other W109 (Or.inl ne231)).other W110 (Or.inl ne231)).other W111 (Or.inl ne231)).other W112 (Or.inl ne231)).other W114 (Or.inl ne231)).other W115 (Or.inl ne231)).other W116 (Or.inl ne231)).other W117 (Or.inl ne231)).other W119 (Or.inl ne231)).other W120 (Or.inl ne231)).other W121 (Or.inl ne231)).other W122 (Or.inl ne231)).other W124 (Or.inl ne231)).other W125 (Or.inl ne231)).other W126 (Or.inl ne231)).other W127 (Or.inl ne231)).other W129 (Or.inl ne231)).other W130 (Or.inl ne231)).other W131 (Or.inl ne231)).other W132 (Or.inl ne231)).other W134 (Or.inl ne231)).other W135 (Or.inl ne231)).other W136 (Or.inl ne231)).other W137 (Or.inl ne231)).other W139 (Or.inl ne231)).other W140 (Or.inl ne231)).ext E141).keep K184 (ninS ne232 nin0))
 have fk235 := ((((((((((((((((((((((((((((((((F100_2.ext E101).other W105 (Or.inl ne231)).other W106 (Or.inl ne231)).other W107 (Or.inl ne231)).other W109 (Or.inl ne231)).other W110 (Or.inl ne231)).other W111 (Or.inl ne231)).other W112 (Or.inl ne231)).other W114 (Or.inl ne231)).other W115 (Or.inl ne231)).other W116 (Or.inl ne231)).other W117 (Or.inl ne231)).other W119 (Or.inl ne231)).other W120 (Or.inl ne231)).other W121 (Or.inl ne231)).other W122 (Or.inl ne231)).other W124 (Or.inl ne231)).other W125 (Or.inl ne231)).other W126 (Or.inl ne231)).other W127 (Or.inl ne231)).other W129 (Or.inl ne231)).other W130 (Or.inl ne231)).other W131 (Or.inl ne231)).other W132 (Or.inl ne231)).other W134 (Or.inl ne231)).other W135 (Or.inl ne231)).other W136 (Or.inl ne231)).other W137 (Or.inl ne231)).other W139 (Or.inl ne231)).other W140 (Or.inl ne231)).ext E141).keep K184 (ninS ne232 nin0))
 have fk237 := (F56_3.ext E57)
 have ne236 := Nat.ne_of_lt (Nat.lt_of_lt_of_le fk237.lt (Nat.le_of_eq g58.symm))
 have ne238 := Nat.ne_of_lt (Nat.lt_of_lt_of_le F56_3.lt (Nat.le_of_eq g57.symm))
 have fk240 := ((((((fk237.ext E58).other W67 ne236).other W72 ne236).other W77 ne236).other W83 ne236).keep K100 (ninS ne238 nin0))
 have ne239 := Nat.ne_of_lt (Nat.lt_of_lt_of_le fk240.lt (Nat.le_of_eq g101.symm))
 have fk242 := ((((((((((((((((((((((((((((((fk240.ext E101).other W105 ne239).other W106 ne239).other W107 ne239).other W109 ne239).other W110 ne239).other W111 ne239).other W112 ne239).other W114 ne239).other W115 ne239).other W116 ne239).other W117 ne239).other W119 ne239).other W120 ne239).other W121 ne239).other W122 ne239).other W124 ne239).other W125 ne239).other W126 ne239).other W127 ne239).other W129 ne239).other W130 ne239).other W131 ne239).other W132 ne239).other W134 ne239).other W135 ne239).other W136 ne239).other W137 ne239).other W139 ne239).other W140 ne239)
 have ne241 := Nat.ne_of_lt (Nat.lt_of_lt_of_le fk242.lt (Nat.le_of_eq g141.symm))
 have fk243 := (((((((((((((((((((((((((((((((((((((((F56_3.ext E57).ext E58).other W67 ne236).other W72 ne236).other W77 ne236).other W83 ne236).keep K100 (ninS ne238 nin0)).ext E101).other W105 ne239).other W106 ne239).other W107 ne239).other W109 ne239).other W110 ne239).other W111 ne239).other W112 ne239).other W114 ne239).other W115 ne239).other W116 ne239).other W117 ne239).other W119 ne239).other W120 ne239).other W121 ne239).other W122 ne239).other W124 ne239).other W125 ne239).other W126 ne239).other W127 ne239).other W129 ne239).other W130 ne239).other W131 ne239).other W132 ne239).other W134 ne239).other W135 ne239).other W136 ne239).other W137 ne239).other W139 ne239).other W140 ne239).ext E141).keep K184 (ninS ne241 nin0))
 have ne244 := Nat.ne_of_lt (Nat.lt_of_lt_of_le F100_3.lt (Nat.le_of_eq g101.symm))
 have fk246 := ((((((((((((((((((((((((((((((F100_3.ext E101).other W105 ne244).other W106 ne244).other W107 ne244).other W109 ne244).other W110 ne244).other W111 ne244).other W112 ne244).other W114 ne244).other W115 ne244).other W116 ne244).other W117 ne244).other W119 ne244).other W120 ne244).other W121 ne244).other W122 ne244).other W124 ne244).other W125 ne244).other W126 ne244).other W127 ne244).other W129 ne244).other W130 ne244).other W131 ne244).other W132 ne244).other W134 ne244).other W135 ne244).other W136 ne244).other W137 ne244).other W139 ne244).other W140 ne244)
 have ne245 := Nat.ne_of_lt (Nat.lt_of_lt_of_le fk246.lt (Nat.le_of_eq g141.symm))
 have fk247 := ((((((((((((((((((((((((((((((((F100_3.ext E101).other W105 ne244).other W106 ne244).other W107 ne244).other W109 ne244).other W110 ne244).other W111 ne244).other W112 ne244).other W114 ne244).other W115 ne244).other W116 ne244).other W117 ne244).other W119 ne244).other W120 ne244).other W121 ne244).other W122 ne244).other W124 ne244).other W125 ne244).other W126 ne244).other W127 ne244).other W129 ne244).other W130 ne244).other W131 ne244).other W132 ne244).other W134 ne244).other W135 ne244).other W136 ne244).other W137 ne244).other W139 ne244).other W140 ne244).ext E141).keep K184 (ninS ne245 nin0))
 have C248 := (C0.trans (CHr.ext E15 C0.1))
 have C249 := (C248.trans (CHr.ext E16 C248.1))
 have fk250 := (Safe.ext E16 C248.1 (Safe.new (Nat.le_of_eq g16.symm) : Safe Z EL0 s.vm h15 b16))
 have C251 := (C249.trans (CHr.wr W24 fk250 C249.1))
 have fk252 := (Safe.wr W24 fk250 C249.1 fk250)
 have C253 := (C251.trans (CHr.wr W29 fk252 C251.1))
 have fk254 := (Safe.wr W29 fk252 C251.1 fk252)
 have C255 := (C253.trans (CHr.wr W34 fk254 C253.1))
 have fk256 := (Safe.wr W34 fk254 C253.1 fk254)
 have C257 := (C255.trans (CHr.wr W40 fk256 C255.1))
 have fk258 := (Safe.ext E15 C0.1 (Safe.new (Nat.le_of_eq g15.symm) : Safe Z EL0 s.vm h0 b15))
 have fk259 := (Safe.ext E16 C248.1 fk258)
 have fk260 := (Safe.wr W24 fk250 C249.1 fk259)
 have fk261 := (Safe.wr W29 fk252 C251.1 fk260)
 have fk262 := (Safe.wr W34 fk254 C253.1 fk261)
 have fk263 := (Safe.wr W40 fk256 C255.1 fk262)
 have C264 := (C257.trans (CHr.keep K56 (sfS fk263 sf0) C257.1))
 have C265 := (C264.trans (CHr.ext E57 C264.1))
 have C266 := (C265.trans (CHr.ext E58 C265.1))
 have fk267 := (Safe.ext E58 C265.1 (Safe.new (Nat.le_of_eq g58.symm) : Safe Z EL0 s.vm h57 b58))
 have C268 := (C266.trans (CHr.wr W67 fk267 C266.1))
 have fk269 := (Safe.wr W67 fk267 C266.1 fk267)
 have C270 := (C268.trans (CHr.wr W72 fk269 C268.1))
 have fk271 := (Safe.wr W72 fk269 C268.1 fk269)
 have C272 := (C270.trans (CHr.wr W77 fk271 C270.1))
 have fk273 := (Safe.wr W77 fk271 C270.1 fk271)
 have C274 := (C272.trans (CHr.wr W83 fk273 C272.1))
 have fk275 := (Safe.ext E57 C264.1 (Safe.new (Nat.le_of_eq g57.symm) : Safe Z EL0 s.vm h56 b57))
 have fk276 := (Safe.ext E58 C265.1 fk275)
 have fk277 := (Safe.wr W67 fk267 C266.1 fk276)
 have fk278 := (Safe.wr W72 fk269 C268.1 fk277)
 have fk279 := (Safe.wr W77 fk271 C270.1 fk278)
 have fk280 := (Safe.wr W83 fk273 C272.1 fk279)
 have C281 := (C274.trans (CHr.keep K100 (sfS fk280 sf0) C274.1))
 have C282 := (C281.trans (CHr.ext E101 C281.1))
 have fk283 := (Safe.ext E101 C281.1 (Safe.new (Nat.le_of_eq g101.symm) : Safe Z EL0 s.vm h100 b101))
 have C284 := (C282.trans (CHr.wr W105 fk283 C282.1))
 have fk285 := (Safe.wr W105 fk283 C282.1 fk283)
 have C286 := (C284.trans (CHr.wr W106 fk285 C284.1))
 have fk287 := (Safe.wr W106 fk285 C284.1 fk285)
 have C288 := (C286.trans (CHr.wr W107 fk287 C286.1))
 have fk289 := (Safe.wr W107 fk287 C286.1 fk287)
 have C290 := (C288.trans (CHr.wr W109 fk289 C288.1))
 have fk291 := (Safe.wr W109 fk289 C288.1 fk289)
 have C292 := (C290.trans (CHr.wr W110 fk291 C290.1))
 have fk293 := (Safe.wr W110 fk291 C290.1 fk291)
 have C294 := (C292.trans (CHr.wr W111 fk293 C292.1))
 have fk295 := (Safe.wr W111 fk293 C292.1 fk293)
 have C296 := (C294.trans (CHr.wr W112 fk295 C294.1))
 have fk297 := (Safe.wr W112 fk295 C294.1 fk295)
 have C298 := (C296.trans (CHr.wr W114 fk297 C296.1))
 have fk299 := (Safe.wr W114 fk297 C296.1 fk297)
 have C300 := (C298.trans (CHr.wr W115 fk299 C298.1))
 have fk301 := (Safe.wr W115 fk299 C298.1 fk299)
 have C302 := (C300.trans (CHr.wr W116 fk301 C300.1))
 have fk303 := (Safe.wr W116 fk301 C300.1 fk301)
 have C304 := (C302.trans (CHr.wr W117 fk303 C302.1))
 have fk305 := (Safe.wr W117 fk303 C302.1 fk303)
 have C306 := (C304.trans (CHr.wr W119 fk305 C304.1))
 have fk307 := (Safe.wr W119 fk305 C304.1 fk305)
 have C308 := (C306.trans (CHr.wr W120 fk307 C306.1))
 have fk309 := (Safe.wr W120 fk307 C306.1 fk307)
 have C310 := (C308.trans (CHr.wr W121 fk309 C308.1))
 have fk311 := (Safe.wr W121 fk309 C308.1 fk309)
 have C312 := (C310.trans (CHr.wr W122 fk311 C310.1))
 have fk313 := (Safe.wr W122 fk311 C310.1 fk311)
 have C314 := (C312.trans (CHr.wr W124 fk313 C312.1))
 have fk315 := (Safe.wr W124 fk313 C312.1 fk313)
 have C316 := (C314.trans (CHr.wr W125 fk315 C314.1))
 have fk317 := (Safe.wr W125 fk315 C314.1 fk315)
 have C318 := (C316.trans (CHr.wr W126 fk317 C316.1))
 have fk319 := (Safe.wr W126 fk317 C316.1 fk317)
 have C320 := (C318.trans (CHr.wr W127 fk319 C318.1))
 have fk321 := (Safe.wr W127 fk319 C318.1 fk319)
 have C322 := (C320.trans (CHr.wr W129 fk321 C320.1))
 have fk323 := (Safe.wr W129 fk321 C320.1 fk321)
 have C324 := (C322.trans (CHr.wr W130 fk323 C322.1))
 have fk325 := (Safe.wr W130 fk323 C322.1 fk323)
 have C326 := (C324.trans (CHr.wr W131 fk325 C324.1))
 have fk327 := (Safe.wr W131 fk325 C324.1 fk325)
 have C328 := (C326.trans (CHr.wr W132 fk327 C326.1))
 have fk329 := (Safe.wr W132 fk327 C326.1 fk327)
 have C330 := (C328.trans (CHr.wr W134 fk329 C328.1))
 have fk331 := (Safe.wr W134 fk329 C328.1 fk329)
 have C332 := (C330.trans (CHr.wr W135 fk331 C330.1))
 have fk333 := (Safe.wr W135 fk331 C330.1 fk331)
 have C334 := (C332.trans (CHr.wr W136 fk333 C332.1))
 have fk335 := (Safe.wr W136 fk333 C332.1 fk333)
 have C336 := (C334.trans (CHr.wr W137 fk335 C334.1))
 have fk337 := (Safe.wr W137 fk335 C334.1 fk335)
 have C338 := (C336.trans (CHr.wr W139 fk337 C336.1))
 have fk339 := (Safe.wr W139 fk337 C336.1 fk337)
 have C340 := (C338.trans (CHr.wr W140 fk339 C338.1))
 have C341 := (C340.trans (CHr.ext E141 C340.1))
 have fk342 := (Safe.ext E141 C340.1 (Safe.new (Nat.le_of_eq g141.symm) : Safe Z EL0 s.vm h140 b141))
 have C343 := (C341.trans (CHr.keep K184 (sfS fk342 sf0) C341.1))
 have hk344 := (Nat.le_trans (Nat.le_trans (Nat.le_trans (Nat.le_trans (Nat.le_trans (Nat.le_trans (Nat.le_trans (Nat.le_trans (Nat.le_trans (Nat.le_trans (Nat.le_trans (Nat.le_trans (Nat.le_trans (Nat.le_trans (Nat.le_trans (Nat.le_trans (Nat.le_trans (Nat.le_trans (Nat.le_trans (Nat.le_trans (Nat.le_trans (Nat.le_trans (Nat.le_trans (Nat.le_trans (Nat.le_trans (Nat.le_trans (Nat.le_trans (Nat.le_trans (Nat.le_trans (Nat.le_trans (Nat.le_trans (Nat.le_trans (Nat.le_trans (Nat.le_trans (Nat.le_trans (Nat.le_trans (Nat.le_trans (Nat.le_trans (Nat.le_trans (Nat.le_trans (Nat.le_trans (Nat.le_trans (Nat.le_trans (Nat.le_trans (Nat.le_trans (Nat.le_trans (Nat.le_refl _) E15.1) E16.1) (Keep.of_wr W24).1) (Keep.of_wr W29).1) (Keep.of_wr W34).1) (Keep.of_wr W40).1) K56.1) E57.1) E58.1) (Keep.of_wr W67).1) (Keep.of_wr W72).1) (Keep.of_wr W77).1) (Keep.of_wr W83).1) K100.1) E101.1) (Keep.of_wr W105).1) (Keep.of_wr W106).1) (Keep.of_wr W107).1) (Keep.of_wr W109).1) (Keep.of_wr W110).1) (Keep.of_wr W111).1) (Keep.of_wr W112).1) (Keep.of_wr W114).1) (Keep.of_wr W115).1) (Keep.of_wr W116).1) (Keep.of_wr W117).1) (Keep.of_wr W119).1) (Keep.of_wr W120).1) (Keep.of_wr W121).1) (Keep.of_wr W122).1) (Keep.of_wr W124).1) (Keep.of_wr W125).1) (Keep.of_wr W126).1) (Keep.of_wr W127).1) (Keep.of_wr W129).1) (Keep.of_wr W130).1) (Keep.of_wr W131).1) (Keep.of_wr W132).1) (Keep.of_wr W134).1) (Keep.of_wr W135).1) (Keep.of_wr W136).1) (Keep.of_wr W137).1) (Keep.of_wr W139).1) (Keep.of_wr W140).1) E141.1) K184.1)
 refine Go.callVW X184 hx hZ hown (tw_45 hw) (tw_46 hw) (notFace_of_selects (args := #[]) (mvT hZ (tw_48 hw))) (tw_48 hw) (tw_47 hw) (by decide) (tw_49 hw) (tw_36 hw) (au_13 l Z a0 hw b141 b15 b57 b56_0 b100_0 k56_0 z56_0 z56_1 z56_2 z56_3 k100_0 z100_0 z100_1 z100_2 z100_3 gz1 gv5 h184 n0 Zn185 O219 G F184_0 F184_1 F184_2 fk220 fk228 fk229 fk230 fk234 fk235 fk243 fk247) (own_EW hw) C343.1 all0 hS0 hk344 e184 F184_0 (argsL := []) (rest := []) 450 rfl (hml ▸ rfl) (lenOf pd_26 rfl) rfl rfl (W := 0) (nE rfl) (by decide) (by decide) (by decide) (by decide) (hb hby at_447) ?_
 intro v345 T345 L345 h345 e345 q345 C345 S345 Z345 O345 X345
 obtain ⟨b345_0, b345_1, k345_0, rfl, N345, K345, s345_0, s345_1, n345_0, y345_0, y345_1, F345_0, F345_1, F345_2, F345_3, F345_4⟩ := q345
 show Go _ _ _ _ (T345.setTop (mkF m 450 #[vI p0, vI p1, vI p2, vI 0, vI 0, vI z7_0, vI z8_0, vI z9_0, vI z10_0, vI z11_0, vI z12_0, vI z13_0, vI z14_0, vR b15, vR b57, vR b101, uS] [.ref b345_0]))
 refine Go.astore X345 hx 452 rfl (hb hby at_450) (Ls' := #[vI p0, vI p1, vI p2, vI 0, vI 0, vI z7_0, vI z8_0, vI z9_0, vI z10_0, vI z11_0, vI z12_0, vI z13_0, vI z14_0, vR b15, vR b57, vR b101, vR b345_0]) rfl rfl ?_
 refine Go.new X345 hx Z345 O345 (tw_4 hw) (tw_5 hw) (tw_6 hw) e345 (by decide) (by decide) 455 rfl (hb hby at_452) ?_
 intro T346 h346 b346 e346 E346 g346 A346 D346 X346
 have b346_coder : Fld Z h346 b346 s1 s4 "B" (.int 0) := D346 (Or.inr (tw_31 hw)) (ty := .byte) (by decide)
 have b346_value : Fld Z h346 b346 s1 s5 "[B" .null := D346 (Or.inr (tw_33 hw)) (ty := (.array .byte)) (by decide)
 refine Go.dup X346 hx 456 rfl (hb hby at_455) rfl ?_
 refine Go.aload X346 hx 458 rfl (hb hby at_456) rfl rfl ?_
 have Kp348 := (Kp186.trans K345 all0)
 have Kp349 := (Kp348.ext E346)
 have Zn347 := Nat.le_trans Z0 Kp349.1
 have O350 := (O219.keep K345 all0)
 have O351 := (O350.ext E346)
 have V352 : Arv Z h140 b101 k101 .char (29 : Int32) [.int 69, .int 84, .int 97, .int 103, .int 32, .int z7_0, .int z8_0, .int z9_0, .int z10_0, .int 44, .int 32, .int 76, .int 97, .int 115, .int 116, .int 45, .int 77, .int 111, .int 100, .int 105, .int 102, .int 105, .int 101, .int 100, .int 32, .int z11_0, .int z12_0, .int z13_0, .int z14_0] (.int 0) := V140
 have fk354 := (((((((((((((((((((((((((((((A101.wr W105).wr W106).wr W107).wr W109).wr W110).wr W111).wr W112).wr W114).wr W115).wr W116).wr W117).wr W119).wr W120).wr W121).wr W122).wr W124).wr W125).wr W126).wr W127).wr W129).wr W130).wr W131).wr W132).wr W134).wr W135).wr W136).wr W137).wr W139).wr W140)
 have ne353 := Nat.ne_of_lt (Nat.lt_of_lt_of_le fk354.lt (Nat.le_of_eq g141.symm))
 have fk355 := ((((V352.ext E141).keep K184 (ninS ne353 nin0)).keep K345 nin0).ext E346)
 have sz357 := Nat.le_trans Kp348.1 (Nat.le_of_eq g346.symm)
 have ge356 := Nat.le_trans Z0 sz357
 refine Go.callN X346 hx Z345 O345 rfl (tw_8 hw) (tw_9 hw) (tw_10 hw) (by decide) (tw_10 hw) (tw_6 hw) (au_60 l Z a0 hw b346 b101 k101 z7_0 z8_0 z9_0 z10_0 z11_0 z12_0 z13_0 z14_0 gz1 gv5 h346 n0 Zn347 O351 G A346 b346_coder b346_value fk355 r23 r28 r33 r39 r66 r71 r76 r82 ge356) e346 (a := b346) (argsL := [.ref b101]) (rest := [.ref b346]) 461 rfl (hml ▸ rfl) (lenOf pd_5 rfl) rfl rfl (W := 1) (nE rfl) (by decide) (by decide) (by decide) (by decide) (hb hby at_458) ?_
 intro v358 T358 L358 q358 X358
 obtain ⟨h358, e358⟩ : ∃ z, T358.heap = z := ⟨_, rfl⟩
 rw [e358] at q358
 obtain ⟨z358_0, z358_1, z358_2, z358_3, z358_4, z358_5, z358_6, z358_7, b358_0, k358_0, d358_0, d358_1, d358_2, d358_3, d358_4, d358_5, d358_6, d358_7, rfl, N358, K358, s358_0, F358_0, F358_1, F358_2, F358_3, F358_4⟩ := q358
 have e358_z358_0 : z56_0 = z358_0 := d56_0.symm.trans d358_0
 subst e358_z358_0
 have e358_z358_1 : z56_1 = z358_1 := d56_1.symm.trans d358_1
 subst e358_z358_1
 have e358_z358_2 : z56_2 = z358_2 := d56_2.symm.trans d358_2
 subst e358_z358_2
 have e358_z358_3 : z56_3 = z358_3 := d56_3.symm.trans d358_3
 subst e358_z358_3
 have e358_z358_4 : z100_0 = z358_4 := d100_0.symm.trans d358_4
 subst e358_z358_4
 have e358_z358_5 : z100_1 = z358_5 := d100_1.symm.trans d358_5
 subst e358_z358_5
 have e358_z358_6 : z100_2 = z358_6 := d100_2.symm.trans d358_6
 subst e358_z358_6
 have e358_z358_7 : z100_3 = z358_7 := d100_3.symm.trans d358_7
 subst e358_z358_7
 show Go _ _ _ _ (T358.setTop (mkF m 461 #[vI p0, vI p1, vI p2, vI 0, vI 0, vI z7_0, vI z8_0, vI z9_0, vI z10_0, vI z11_0, vI z12_0, vI z13_0, vI z14_0, vR b15, vR b57, vR b101, vR b345_0] [.ref b346]))
 refine Go.aload X358 hx 463 rfl (hb hby at_461) rfl rfl ?_
 have Kp360 := (Kp349.trans K358 (allS (Or.inr sz357) all0))
 have Zn359 := Nat.le_trans Z0 Kp360.1
 have O361 := (O351.keep K358 (allS ge356 all0))
 have fk362 := ((F345_0.ext E346).keep K358)
 have ne363 := Nat.ne_of_lt (Nat.lt_of_lt_of_le F345_0.lt (Nat.le_of_eq g346.symm))
 have fk364 := ((F345_1.ext E346).keep K358 (ninS ne363 nin0))
 have fk365 := ((F345_2.ext E346).keep K358 (ninS ne363 nin0))
 have ne366 := Nat.ne_of_lt (Nat.lt_of_lt_of_le F345_3.lt (Nat.le_of_eq g346.symm))
 have fk367 := ((F345_3.ext E346).keep K358 (ninS ne366 nin0))
 refine Go.callV X358 hx Z345 O345 (tw_181 hw) (tw_182 hw) (notFace_of_selects (args := #[]) (mvT Z345 (tw_184 hw))) (tw_184 hw) (tw_183 hw) (by decide) (tw_185 hw) (tw_6 hw) (au_64 l Z a0 hw b346 b345_0 b358_0 b345_1 k358_0 z56_0 z56_1 z56_2 z56_3 z100_0 z100_1 z100_2 z100_3 k345_0 gz1 gv5 h358 n0 Zn359 O361 G F358_1 F358_2 fk362 fk364 fk365 F358_3 fk367 (Ne.symm ne363)) e358 F358_0 (argsL := [.ref b345_0]) (rest := []) 466 rfl (hml ▸ rfl) (lenOf pd_28 rfl) rfl rfl (W := 0) (nE rfl) (by decide) (by decide) (by decide) (by decide) (hb hby at_463) ?_
 intro v368 T368 L368 q368 X368
 obtain ⟨rfl, N368, e368⟩ := q368
 show Go _ _ _ _ (T368.setTop (mkF m 466 #[vI p0, vI p1, vI p2, vI 0, vI 0, vI z7_0, vI z8_0, vI z9_0, vI z10_0, vI z11_0, vI z12_0, vI z13_0, vI z14_0, vR b15, vR b57, vR b101, vR b345_0] [.int 1]))
 have C369 := (C343.trans C345)
 have C370 := (C369.trans (CHr.ext E346 C369.1))
 have fk371 := (Safe.ext E346 C369.1 (Safe.new (Nat.le_of_eq g346.symm) : Safe Z EL0 T345.vm h345 b346))
 have C372 := (C370.trans (CHr.keep K358 (sfS fk371 sf0) C370.1))
 have hk373 := (Nat.le_trans (Nat.le_trans (Nat.le_refl _) E346.1) K358.1)
 refine Go.retNW X368 hx hlk Z345 (own_EW hw) e368 S345 hk373 C372 (t := .boolean) hret (by simp) (hb hby at_466) (by decide) (by decide) (fun hat => ?_)
 exact ⟨rfl, (Fr.app (Fr.app (Fr.app (Fr.app N140 N184) N345) N358) N368)⟩
 refine Go.ifNo X0 hx 18 rfl (hb hby at_15) (feq hc6).1 ?_
 refine Go.iconst X0 hx 19 rfl (hb hby at_18) (v := (1 : Int32)) rfl ?_
 refine Go.goto X0 hx 23 (hb hby at_19) (by decide) (by decide) ?_
 refine Go.istore X0 hx 25 rfl (hb hby at_23) (Ls' := #[vI p0, vI p1, vI p2, vI 0, vI 1, uS, uS, uS, uS, uS, uS, uS, uS, uS, uS, uS, uS]) rfl ?_
 refine Go.iloadN X0 hx 26 rfl (hb hby at_25) rfl ?_
 refine Go.ifYes X0 hx 34 (hb hby at_26) (by decide) (by decide) (by decide) ?_
 refine Go.iloadN X0 hx 35 rfl (hb hby at_34) rfl ?_
 refine Go.iconst X0 hx 36 rfl (hb hby at_35) (v := (0 : Int32)) rfl ?_
 refine Go.callS X0 hx hZ hown (tw_0 hw) (tw_1 hw) (tw_2 hw) (tw_3 hw) (by decide) (tw_3 hw) (tw_2 hw) (au_1 l Z a0 hw p1 h0 n0 Z0) e0 (argsL := [.int p1, .int 0]) (rest := []) 39 rfl (hml ▸ rfl) (lenOf pd_0 rfl) rfl rfl (W := 0) (nE rfl) (by decide) (by decide) (by decide) (by decide) (hb hby at_36) ?_
 intro v374 T374 L374 q374 X374
 obtain ⟨z374_0, z374_1, d374_0, d374_1, rfl, N374, e374⟩ := q374
 show Go _ _ _ _ (T374.setTop (mkF m 39 #[vI p0, vI p1, vI p2, vI 0, vI 1, uS, uS, uS, uS, uS, uS, uS, uS, uS, uS, uS, uS] [.int z374_0]))
 refine Go.istore X374 hx 41 rfl (hb hby at_39) (Ls' := #[vI p0, vI p1, vI p2, vI 0, vI 1, vI z374_0, uS, uS, uS, uS, uS, uS, uS, uS, uS, uS, uS]) rfl ?_
 refine Go.iloadN X374 hx 42 rfl (hb hby at_41) rfl ?_
 refine Go.ifYes X374 hx 50 (hb hby at_42) (by decide) (by decide) (by decide) ?_
 refine Go.iloadN X374 hx 51 rfl (hb hby at_50) rfl ?_
 refine Go.iconst X374 hx 52 rfl (hb hby at_51) (v := (1 : Int32)) rfl ?_
 refine Go.callS X374 hx hZ hown (tw_0 hw) (tw_1 hw) (tw_2 hw) (tw_3 hw) (by decide) (tw_3 hw) (tw_2 hw) (au_2 l Z a0 hw p1 h0 n0 Z0) e374 (argsL := [.int p1, .int 1]) (rest := []) 55 rfl (hml ▸ rfl) (lenOf pd_0 rfl) rfl rfl (W := 0) (nE rfl) (by decide) (by decide) (by decide) (by decide) (hb hby at_52) ?_
 intro v375 T375 L375 q375 X375
 obtain ⟨z375_0, z375_1, d375_0, d375_1, rfl, N375, e375⟩ := q375
 show Go _ _ _ _ (T375.setTop (mkF m 55 #[vI p0, vI p1, vI p2, vI 0, vI 1, vI z374_0, uS, uS, uS, uS, uS, uS, uS, uS, uS, uS, uS] [.int z375_0]))
 refine Go.istore X375 hx 57 rfl (hb hby at_55) (Ls' := #[vI p0, vI p1, vI p2, vI 0, vI 1, vI z374_0, vI z375_0, uS, uS, uS, uS, uS, uS, uS, uS, uS, uS]) rfl ?_
 refine Go.iloadN X375 hx 58 rfl (hb hby at_57) rfl ?_
 refine Go.ifYes X375 hx 66 (hb hby at_58) (by decide) (by decide) (by decide) ?_
 refine Go.iloadN X375 hx 67 rfl (hb hby at_66) rfl ?_
 refine Go.iconst X375 hx 68 rfl (hb hby at_67) (v := (2 : Int32)) rfl ?_
 refine Go.callS X375 hx hZ hown (tw_0 hw) (tw_1 hw) (tw_2 hw) (tw_3 hw) (by decide) (tw_3 hw) (tw_2 hw) (au_3 l Z a0 hw p1 h0 n0 Z0) e375 (argsL := [.int p1, .int 2]) (rest := []) 71 rfl (hml ▸ rfl) (lenOf pd_0 rfl) rfl rfl (W := 0) (nE rfl) (by decide) (by decide) (by decide) (by decide) (hb hby at_68) ?_
 intro v376 T376 L376 q376 X376
 obtain ⟨z376_0, z376_1, d376_0, d376_1, rfl, N376, e376⟩ := q376
 show Go _ _ _ _ (T376.setTop (mkF m 71 #[vI p0, vI p1, vI p2, vI 0, vI 1, vI z374_0, vI z375_0, uS, uS, uS, uS, uS, uS, uS, uS, uS, uS] [.int z376_0]))
 refine Go.istore X376 hx 73 rfl (hb hby at_71) (Ls' := #[vI p0, vI p1, vI p2, vI 0, vI 1, vI z374_0, vI z375_0, vI z376_0, uS, uS, uS, uS, uS, uS, uS, uS, uS]) rfl ?_
 refine Go.iloadN X376 hx 74 rfl (hb hby at_73) rfl ?_
 refine Go.ifYes X376 hx 82 (hb hby at_74) (by decide) (by decide) (by decide) ?_
 refine Go.iloadN X376 hx 83 rfl (hb hby at_82) rfl ?_
 refine Go.iconst X376 hx 84 rfl (hb hby at_83) (v := (3 : Int32)) rfl ?_
 refine Go.callS X376 hx hZ hown (tw_0 hw) (tw_1 hw) (tw_2 hw) (tw_3 hw) (by decide) (tw_3 hw) (tw_2 hw) (au_4 l Z a0 hw p1 h0 n0 Z0) e376 (argsL := [.int p1, .int 3]) (rest := []) 87 rfl (hml ▸ rfl) (lenOf pd_0 rfl) rfl rfl (W := 0) (nE rfl) (by decide) (by decide) (by decide) (by decide) (hb hby at_84) ?_
 intro v377 T377 L377 q377 X377
 obtain ⟨z377_0, d377_0, rfl, N377, e377⟩ := q377
 show Go _ _ _ _ (T377.setTop (mkF m 87 #[vI p0, vI p1, vI p2, vI 0, vI 1, vI z374_0, vI z375_0, vI z376_0, uS, uS, uS, uS, uS, uS, uS, uS, uS] [.int z377_0]))
 refine Go.istore X377 hx 89 rfl (hb hby at_87) (Ls' := #[vI p0, vI p1, vI p2, vI 0, vI 1, vI z374_0, vI z375_0, vI z376_0, vI z377_0, uS, uS, uS, uS, uS, uS, uS, uS]) rfl ?_
 refine Go.iload X377 hx 91 rfl (hb hby at_89) rfl ?_
 refine Go.ifNo X377 hx 94 rfl (hb hby at_91) (by decide) ?_
 refine Go.bipush X377 hx 96 rfl (hb hby at_94) (v := (110 : Int32)) (by decide) ?_
 refine Go.goto X377 hx 104 (hb hby at_96) (by decide) (by decide) ?_
 refine Go.istore X377 hx 106 rfl (hb hby at_104) (Ls' := #[vI p0, vI p1, vI p2, vI 0, vI 1, vI z374_0, vI z375_0, vI z376_0, vI z377_0, vI 110, uS, uS, uS, uS, uS, uS, uS]) rfl ?_
 refine Go.iload X377 hx 108 rfl (hb hby at_106) rfl ?_
 refine Go.ifNo X377 hx 111 rfl (hb hby at_108) (by decide) ?_
 refine Go.bipush X377 hx 113 rfl (hb hby at_111) (v := (117 : Int32)) (by decide) ?_
 refine Go.goto X377 hx 121 (hb hby at_113) (by decide) (by decide) ?_
 refine Go.istore X377 hx 123 rfl (hb hby at_121) (Ls' := #[vI p0, vI p1, vI p2, vI 0, vI 1, vI z374_0, vI z375_0, vI z376_0, vI z377_0, vI 110, vI 117, uS, uS, uS, uS, uS, uS]) rfl ?_
 refine Go.iload X377 hx 125 rfl (hb hby at_123) rfl ?_
 refine Go.ifNo X377 hx 128 rfl (hb hby at_125) (by decide) ?_
 refine Go.bipush X377 hx 130 rfl (hb hby at_128) (v := (108 : Int32)) (by decide) ?_
 refine Go.goto X377 hx 138 (hb hby at_130) (by decide) (by decide) ?_
 refine Go.istore X377 hx 140 rfl (hb hby at_138) (Ls' := #[vI p0, vI p1, vI p2, vI 0, vI 1, vI z374_0, vI z375_0, vI z376_0, vI z377_0, vI 110, vI 117, vI 108, uS, uS, uS, uS, uS]) rfl ?_
 refine Go.iload X377 hx 142 rfl (hb hby at_140) rfl ?_
 refine Go.ifNo X377 hx 145 rfl (hb hby at_142) (by decide) ?_
 refine Go.bipush X377 hx 147 rfl (hb hby at_145) (v := (108 : Int32)) (by decide) ?_
 refine Go.goto X377 hx 155 (hb hby at_147) (by decide) (by decide) ?_
 refine Go.istore X377 hx 157 rfl (hb hby at_155) (Ls' := #[vI p0, vI p1, vI p2, vI 0, vI 1, vI z374_0, vI z375_0, vI z376_0, vI z377_0, vI 110, vI 117, vI 108, vI 108, uS, uS, uS, uS]) rfl ?_
 refine Go.iloadN X377 hx 158 rfl (hb hby at_157) rfl ?_
 refine Go.ifYes X377 hx 165 (hb hby at_158) (by decide) (by decide) (by decide) ?_
 refine Go.new X377 hx hZ hown (tw_4 hw) (tw_5 hw) (tw_6 hw) e377 (by decide) (by decide) 168 rfl (hb hby at_165) ?_
 intro T378 h378 b378 e378 E378 g378 A378 D378 X378
 have b378_coder : Fld Z h378 b378 s1 s4 "B" (.int 0) := D378 (Or.inr (tw_31 hw)) (ty := .byte) (by decide)
 have b378_value : Fld Z h378 b378 s1 s5 "[B" .null := D378 (Or.inr (tw_33 hw)) (ty := (.array .byte)) (by decide)
 refine Go.dup X378 hx 169 rfl (hb hby at_168) rfl ?_
 refine Go.iconst X378 hx 170 rfl (hb hby at_169) (v := (4 : Int32)) rfl ?_
 refine Go.newarray X378 hx hZ (ty := .char) rfl (tw_7 hw) e378 (by decide) (cap := 4) (by decide) (by decide) (by decide) (by decide) (ad := "[C") (by decide) 4 172 rfl (hb hby at_170) ?_
 intro T379 h379 b379 k379 e379 E379 g379 V379 A379 X379
 have V379' : Arv Z h379 b379 k379 .char (4 : Int32) [.int 0, .int 0, .int 0, .int 0] (.int 0) := V379
 refine Go.dup X379 hx 173 rfl (hb hby at_172) rfl ?_
 refine Go.iconst X379 hx 174 rfl (hb hby at_173) (v := (0 : Int32)) rfl ?_
 refine Go.iloadN X379 hx 175 rfl (hb hby at_174) rfl ?_
 refine Go.iconst X379 hx 176 rfl (hb hby at_175) (v := (0 : Int32)) rfl ?_
 have Kp381 := ((Keep.refl h0 []).ext E378)
 have Kp382 := (Kp381.ext E379)
 have Zn380 := Nat.le_trans Z0 Kp382.1
 refine Go.callS X379 hx hZ hown (tw_0 hw) (tw_1 hw) (tw_2 hw) (tw_3 hw) (by decide) (tw_3 hw) (tw_2 hw) (au_1 l Z a0 hw p1 h379 n0 Zn380) e379 (argsL := [.int p1, .int 0]) (rest := [.int 0, .ref b379, .ref b379, .ref b378, .ref b378]) 179 rfl (hml ▸ rfl) (lenOf pd_0 rfl) rfl rfl (W := 5) (nE rfl) (by decide) (by decide) (by decide) (by decide) (hb hby at_176) ?_
 intro v383 T383 L383 q383 X383
 obtain ⟨z383_0, z383_1, d383_0, d383_1, rfl, N383, e383⟩ := q383
 have e383_z383_1 : z374_1 = z383_1 := d374_0.symm.trans d383_0
 subst e383_z383_1
 have e383_z383_0 : z374_0 = z383_0 := d374_1.symm.trans d383_1
 subst e383_z383_0
 show Go _ _ _ _ (T383.setTop (mkF m 179 #[vI p0, vI p1, vI p2, vI 0, vI 1, vI z374_0, vI z375_0, vI z376_0, vI z377_0, vI 110, vI 117, vI 108, vI 108, uS, uS, uS, uS] [.int z374_0, .int 0, .ref b379, .ref b379, .ref b378, .ref b378]))
 have sz385 := Nat.le_trans Kp381.1 (Nat.le_of_eq g379.symm)
 have ge384 := Nat.le_trans Z0 sz385
 have r386 : 0 ≤ z374_0.toInt ∧ z374_0.toInt ≤ 255 := own_rand d374_1 (by decide)
 refine Go.castore X383 hx hZ e383 V379' z374_0 (own_nar_char r386 (by decide) (by decide)) ⟨by decide, by decide⟩ 0 rfl (nB rfl) 180 rfl (hb hby at_179) ?_
 intro T387 h387 e387 W387 V387 X387
 have N387 := Fr.snoc X387 (Fr.app (Fr.app (Fr.app (Fr.app (Fr.app (Fr.nil n0) N374) N375) N376) N377) N383) ge384
 refine Go.dup X387 hx 181 rfl (hb hby at_180) rfl ?_
 refine Go.iconst X387 hx 182 rfl (hb hby at_181) (v := (1 : Int32)) rfl ?_
 refine Go.iloadN X387 hx 183 rfl (hb hby at_182) rfl ?_
 refine Go.iconst X387 hx 184 rfl (hb hby at_183) (v := (1 : Int32)) rfl ?_
 have Kp389 := (Kp382.wr W387 (Or.inr sz385))
 have Zn388 := Nat.le_trans Z0 Kp389.1
 refine Go.callS X387 hx hZ hown (tw_0 hw) (tw_1 hw) (tw_2 hw) (tw_3 hw) (by decide) (tw_3 hw) (tw_2 hw) (au_2 l Z a0 hw p1 h387 n0 Zn388) e387 (argsL := [.int p1, .int 1]) (rest := [.int 1, .ref b379, .ref b379, .ref b378, .ref b378]) 187 rfl (hml ▸ rfl) (lenOf pd_0 rfl) rfl rfl (W := 5) (nE rfl) (by decide) (by decide) (by decide) (by decide) (hb hby at_184) ?_
 intro v390 T390 L390 q390 X390
 obtain ⟨z390_0, z390_1, d390_0, d390_1, rfl, N390, e390⟩ := q390
 have e390_z390_1 : z375_1 = z390_1 := d375_0.symm.trans d390_0
 subst e390_z390_1
 have e390_z390_0 : z375_0 = z390_0 := d375_1.symm.trans d390_1
 subst e390_z390_0
 show Go _ _ _ _ (T390.setTop (mkF m 187 #[vI p0, vI p1, vI p2, vI 0, vI 1, vI z374_0, vI z375_0, vI z376_0, vI z377_0, vI 110, vI 117, vI 108, vI 108, uS, uS, uS, uS] [.int z375_0, .int 1, .ref b379, .ref b379, .ref b378, .ref b378]))
 have r391 : 0 ≤ z375_0.toInt ∧ z375_0.toInt ≤ 255 := own_rand d375_1 (by decide)
 refine Go.castore X390 hx hZ e390 V387 z375_0 (own_nar_char r391 (by decide) (by decide)) ⟨by decide, by decide⟩ 1 rfl (nB rfl) 188 rfl (hb hby at_187) ?_
 intro T392 h392 e392 W392 V392 X392
 have N392 := Fr.snoc X392 (Fr.app N387 N390) ge384
 refine Go.dup X392 hx 189 rfl (hb hby at_188) rfl ?_
 refine Go.iconst X392 hx 190 rfl (hb hby at_189) (v := (2 : Int32)) rfl ?_
 refine Go.iloadN X392 hx 191 rfl (hb hby at_190) rfl ?_
 refine Go.iconst X392 hx 192 rfl (hb hby at_191) (v := (2 : Int32)) rfl ?_
 have Kp394 := (Kp389.wr W392 (Or.inr sz385))
 have Zn393 := Nat.le_trans Z0 Kp394.1
 refine Go.callS X392 hx hZ hown (tw_0 hw) (tw_1 hw) (tw_2 hw) (tw_3 hw) (by decide) (tw_3 hw) (tw_2 hw) (au_3 l Z a0 hw p1 h392 n0 Zn393) e392 (argsL := [.int p1, .int 2]) (rest := [.int 2, .ref b379, .ref b379, .ref b378, .ref b378]) 195 rfl (hml ▸ rfl) (lenOf pd_0 rfl) rfl rfl (W := 5) (nE rfl) (by decide) (by decide) (by decide) (by decide) (hb hby at_192) ?_
 intro v395 T395 L395 q395 X395
 obtain ⟨z395_0, z395_1, d395_0, d395_1, rfl, N395, e395⟩ := q395
 have e395_z395_1 : z376_1 = z395_1 := d376_0.symm.trans d395_0
 subst e395_z395_1
 have e395_z395_0 : z376_0 = z395_0 := d376_1.symm.trans d395_1
 subst e395_z395_0
 show Go _ _ _ _ (T395.setTop (mkF m 195 #[vI p0, vI p1, vI p2, vI 0, vI 1, vI z374_0, vI z375_0, vI z376_0, vI z377_0, vI 110, vI 117, vI 108, vI 108, uS, uS, uS, uS] [.int z376_0, .int 2, .ref b379, .ref b379, .ref b378, .ref b378]))
 have r396 : 0 ≤ z376_0.toInt ∧ z376_0.toInt ≤ 255 := own_rand d376_1 (by decide)
 refine Go.castore X395 hx hZ e395 V392 z376_0 (own_nar_char r396 (by decide) (by decide)) ⟨by decide, by decide⟩ 2 rfl (nB rfl) 196 rfl (hb hby at_195) ?_
 intro T397 h397 e397 W397 V397 X397
 have N397 := Fr.snoc X397 (Fr.app N392 N395) ge384
 refine Go.dup X397 hx 197 rfl (hb hby at_196) rfl ?_
 refine Go.iconst X397 hx 198 rfl (hb hby at_197) (v := (3 : Int32)) rfl ?_
 refine Go.iloadN X397 hx 199 rfl (hb hby at_198) rfl ?_
 refine Go.iconst X397 hx 200 rfl (hb hby at_199) (v := (3 : Int32)) rfl ?_
 have Kp399 := (Kp394.wr W397 (Or.inr sz385))
 have Zn398 := Nat.le_trans Z0 Kp399.1
 refine Go.callS X397 hx hZ hown (tw_0 hw) (tw_1 hw) (tw_2 hw) (tw_3 hw) (by decide) (tw_3 hw) (tw_2 hw) (au_4 l Z a0 hw p1 h397 n0 Zn398) e397 (argsL := [.int p1, .int 3]) (rest := [.int 3, .ref b379, .ref b379, .ref b378, .ref b378]) 203 rfl (hml ▸ rfl) (lenOf pd_0 rfl) rfl rfl (W := 5) (nE rfl) (by decide) (by decide) (by decide) (by decide) (hb hby at_200) ?_
 intro v400 T400 L400 q400 X400
 obtain ⟨z400_0, d400_0, rfl, N400, e400⟩ := q400
 have e400_z400_0 : z377_0 = z400_0 := d377_0.symm.trans d400_0
 subst e400_z400_0
 show Go _ _ _ _ (T400.setTop (mkF m 203 #[vI p0, vI p1, vI p2, vI 0, vI 1, vI z374_0, vI z375_0, vI z376_0, vI z377_0, vI 110, vI 117, vI 108, vI 108, uS, uS, uS, uS] [.int z377_0, .int 3, .ref b379, .ref b379, .ref b378, .ref b378]))
 have V401 : Arv Z h397 b379 k379 .char (4 : Int32) [.int z374_0, .int z375_0, .int z376_0, .int 0] (.int 0) := V397
 have r402 : 0 ≤ z377_0.toInt ∧ z377_0.toInt ≤ 255 := own_rushr d377_0 (k := 24) (by decide) (by decide) (by decide)
 refine Go.castore X400 hx hZ e400 V401 z377_0 (own_nar_char r402 (by decide) (by decide)) ⟨by decide, by decide⟩ 3 rfl (nB rfl) 204 rfl (hb hby at_203) ?_
 intro T403 h403 e403 W403 V403 X403
 have N403 := Fr.snoc X403 (Fr.app N397 N400) ge384
 have Kp405 := (Kp399.wr W403 (Or.inr sz385))
 have Zn404 := Nat.le_trans Z0 Kp405.1
 have O406 := (O0.ext E378)
 have O407 := (O406.ext E379)
 have O408 := (O407.wr W387 ge384)
 have O409 := (O408.wr W392 ge384)
 have O410 := (O409.wr W397 ge384)
 have O411 := (O410.wr W403 ge384)
 have fk412 := (((((A378.ext E379).wr W387).wr W392).wr W397).wr W403)
 have ne413 := Nat.ne_of_lt (Nat.lt_of_lt_of_le A378.lt (Nat.le_of_eq g379.symm))
 have fk414 := (((((b378_coder.ext E379).other W387 (Or.inl ne413)).other W392 (Or.inl ne413)).other W397 (Or.inl ne413)).other W403 (Or.inl ne413))
 have fk415 := (((((b378_value.ext E379).other W387 (Or.inl ne413)).other W392 (Or.inl ne413)).other W397 (Or.inl ne413)).other W403 (Or.inl ne413))
 have V416 : Arv Z h403 b379 k379 .char (4 : Int32) [.int z374_0, .int z375_0, .int z376_0, .int z377_0] (.int 0) := V403
 have sz418 := Nat.le_trans (Keep.refl h0 []).1 (Nat.le_of_eq g378.symm)
 have ge417 := Nat.le_trans Z0 sz418
 refine Go.callN X403 hx hZ hown rfl (tw_8 hw) (tw_9 hw) (tw_10 hw) (by decide) (tw_10 hw) (tw_6 hw) (au_5 l Z a0 hw b378 b379 k379 z374_0 z375_0 z376_0 z377_0 gz1 gv5 h403 n0 Zn404 O411 G fk412 fk414 fk415 V416 r386 r391 r396 r402 ge417) e403 (a := b378) (argsL := [.ref b379]) (rest := [.ref b378]) 207 rfl (hml ▸ rfl) (lenOf pd_5 rfl) rfl rfl (W := 1) (nE rfl) (by decide) (by decide) (by decide) (by decide) (hb hby at_204) ?_
 intro v419 T419 L419 q419 X419
 obtain ⟨h419, e419⟩ : ∃ z, T419.heap = z := ⟨_, rfl⟩
 rw [e419] at q419
 obtain ⟨z419_0, z419_1, z419_2, z419_3, b419_0, k419_0, d419_0, d419_1, d419_2, d419_3, rfl, N419, K419, s419_0, F419_0, F419_1, F419_2, F419_3, F419_4⟩ := q419
 show Go _ _ _ _ (T419.setTop (mkF m 207 #[vI p0, vI p1, vI p2, vI 0, vI 1, vI z374_0, vI z375_0, vI z376_0, vI z377_0, vI 110, vI 117, vI 108, vI 108, uS, uS, uS, uS] [.ref b378]))
 refine Go.astore X419 hx 209 rfl (hb hby at_207) (Ls' := #[vI p0, vI p1, vI p2, vI 0, vI 1, vI z374_0, vI z375_0, vI z376_0, vI z377_0, vI 110, vI 117, vI 108, vI 108, vR b378, uS, uS, uS]) rfl rfl ?_
 refine Go.iload X419 hx 211 rfl (hb hby at_209) rfl ?_
 refine Go.ifNo X419 hx 214 rfl (hb hby at_211) (by decide) ?_
 refine Go.anull X419 hx 215 rfl (hb hby at_214) ?_
 refine Go.goto X419 hx 260 (hb hby at_215) (by decide) (by decide) ?_
 refine Go.astore X419 hx 262 rfl (hb hby at_260) (Ls' := #[vI p0, vI p1, vI p2, vI 0, vI 1, vI z374_0, vI z375_0, vI z376_0, vI z377_0, vI 110, vI 117, vI 108, vI 108, vR b378, .val .null, uS, uS]) rfl rfl ?_
 refine Go.bipush X419 hx 264 rfl (hb hby at_262) (v := (29 : Int32)) (by decide) ?_
 refine Go.newarray X419 hx hZ (ty := .char) rfl (tw_7 hw) e419 (by decide) (cap := 29) (by decide) (by decide) (by decide) (by decide) (ad := "[C") (by decide) 29 266 rfl (hb hby at_264) ?_
 intro T420 h420 b420 k420 e420 E420 g420 V420 A420 X420
 have V420' : Arv Z h420 b420 k420 .char (29 : Int32) [.int 0, .int 0, .int 0, .int 0, .int 0, .int 0, .int 0, .int 0, .int 0, .int 0, .int 0, .int 0, .int 0, .int 0, .int 0, .int 0, .int 0, .int 0, .int 0, .int 0, .int 0, .int 0, .int 0, .int 0, .int 0, .int 0, .int 0, .int 0, .int 0] (.int 0) := V420
 refine Go.dup X420 hx 267 rfl (hb hby at_266) rfl ?_
 refine Go.iconst X420 hx 268 rfl (hb hby at_267) (v := (0 : Int32)) rfl ?_
 refine Go.bipush X420 hx 270 rfl (hb hby at_268) (v := (69 : Int32)) (by decide) ?_
 have Kp423 := (Kp405.trans K419 (allS (Or.inr sz418) all0))
 have sz422 := Nat.le_trans Kp423.1 (Nat.le_of_eq g420.symm)
 have ge421 := Nat.le_trans Z0 sz422
 refine Go.castore X420 hx hZ e420 V420' (69 : Int32) rfl ⟨by decide, by decide⟩ 0 rfl (nB rfl) 271 rfl (hb hby at_270) ?_
 intro T424 h424 e424 W424 V424 X424
 have N424 := Fr.snoc X424 (Fr.app N403 N419) ge421
 refine Go.dup X424 hx 272 rfl (hb hby at_271) rfl ?_
 refine Go.iconst X424 hx 273 rfl (hb hby at_272) (v := (1 : Int32)) rfl ?_
 refine Go.bipush X424 hx 275 rfl (hb hby at_273) (v := (84 : Int32)) (by decide) ?_
 refine Go.castore X424 hx hZ e424 V424 (84 : Int32) rfl ⟨by decide, by decide⟩ 1 rfl (nB rfl) 276 rfl (hb hby at_275) ?_
 intro T425 h425 e425 W425 V425 X425
 have N425 := Fr.snoc X425 N424 ge421
 refine Go.dup X425 hx 277 rfl (hb hby at_276) rfl ?_
 refine Go.iconst X425 hx 278 rfl (hb hby at_277) (v := (2 : Int32)) rfl ?_
 refine Go.bipush X425 hx 280 rfl (hb hby at_278) (v := (97 : Int32)) (by decide) ?_
 refine Go.castore X425 hx hZ e425 V425 (97 : Int32) rfl ⟨by decide, by decide⟩ 2 rfl (nB rfl) 281 rfl (hb hby at_280) ?_
 intro T426 h426 e426 W426 V426 X426
 have N426 := Fr.snoc X426 N425 ge421
 refine Go.dup X426 hx 282 rfl (hb hby at_281) rfl ?_
 refine Go.iconst X426 hx 283 rfl (hb hby at_282) (v := (3 : Int32)) rfl ?_
 refine Go.bipush X426 hx 285 rfl (hb hby at_283) (v := (103 : Int32)) (by decide) ?_
 have V427 : Arv Z h426 b420 k420 .char (29 : Int32) [.int 69, .int 84, .int 97, .int 0, .int 0, .int 0, .int 0, .int 0, .int 0, .int 0, .int 0, .int 0, .int 0, .int 0, .int 0, .int 0, .int 0, .int 0, .int 0, .int 0, .int 0, .int 0, .int 0, .int 0, .int 0, .int 0, .int 0, .int 0, .int 0] (.int 0) := V426
 refine Go.castore X426 hx hZ e426 V427 (103 : Int32) rfl ⟨by decide, by decide⟩ 3 rfl (nB rfl) 286 rfl (hb hby at_285) ?_
 intro T428 h428 e428 W428 V428 X428
 have N428 := Fr.snoc X428 N426 ge421
 refine Go.dup X428 hx 287 rfl (hb hby at_286) rfl ?_
 refine Go.iconst X428 hx 288 rfl (hb hby at_287) (v := (4 : Int32)) rfl ?_
 refine Go.bipush X428 hx 290 rfl (hb hby at_288) (v := (32 : Int32)) (by decide) ?_
 refine Go.castore X428 hx hZ e428 V428 (32 : Int32) rfl ⟨by decide, by decide⟩ 4 rfl (nB rfl) 291 rfl (hb hby at_290) ?_
 intro T429 h429 e429 W429 V429 X429
 have N429 := Fr.snoc X429 N428 ge421
 refine Go.dup X429 hx 292 rfl (hb hby at_291) rfl ?_
 refine Go.iconst X429 hx 293 rfl (hb hby at_292) (v := (5 : Int32)) rfl ?_
 refine Go.iload X429 hx 295 rfl (hb hby at_293) rfl ?_
 refine Go.castore X429 hx hZ e429 V429 z374_0 (own_nar_char r386 (by decide) (by decide)) ⟨by decide, by decide⟩ 5 rfl (nB rfl) 296 rfl (hb hby at_295) ?_
 intro T430 h430 e430 W430 V430 X430
 have N430 := Fr.snoc X430 N429 ge421
 refine Go.dup X430 hx 297 rfl (hb hby at_296) rfl ?_
 refine Go.bipush X430 hx 299 rfl (hb hby at_297) (v := (6 : Int32)) (by decide) ?_
 refine Go.iload X430 hx 301 rfl (hb hby at_299) rfl ?_
 refine Go.castore X430 hx hZ e430 V430 z375_0 (own_nar_char r391 (by decide) (by decide)) ⟨by decide, by decide⟩ 6 rfl (nB rfl) 302 rfl (hb hby at_301) ?_
 intro T431 h431 e431 W431 V431 X431
 have N431 := Fr.snoc X431 N430 ge421
 refine Go.dup X431 hx 303 rfl (hb hby at_302) rfl ?_
 refine Go.bipush X431 hx 305 rfl (hb hby at_303) (v := (7 : Int32)) (by decide) ?_
 refine Go.iload X431 hx 307 rfl (hb hby at_305) rfl ?_
 have V432 : Arv Z h431 b420 k420 .char (29 : Int32) [.int 69, .int 84, .int 97, .int 103, .int 32, .int z374_0, .int z375_0, .int 0, .int 0, .int 0, .int 0, .int 0, .int 0, .int 0, .int 0, .int 0, .int 0, .int 0, .int 0, .int 0, .int 0, .int 0, .int 0, .int 0, .int 0, .int 0, .int 0, .int 0, .int 0] (.int 0) := V431
 refine Go.castore X431 hx hZ e431 V432 z376_0 (own_nar_char r396 (by decide) (by decide)) ⟨by decide, by decide⟩ 7 rfl (nB rfl) 308 rfl (hb hby at_307) ?_
 intro T433 h433 e433 W433 V433 X433
 have N433 := Fr.snoc X433 N431 ge421
 refine Go.dup X433 hx 309 rfl (hb hby at_308) rfl ?_
 refine Go.bipush X433 hx 311 rfl (hb hby at_309) (v := (8 : Int32)) (by decide) ?_
 refine Go.iload X433 hx 313 rfl (hb hby at_311) rfl ?_
 refine Go.castore X433 hx hZ e433 V433 z377_0 (own_nar_char r402 (by decide) (by decide)) ⟨by decide, by decide⟩ 8 rfl (nB rfl) 314 rfl (hb hby at_313) ?_
 intro T434 h434 e434 W434 V434 X434
 have N434 := Fr.snoc X434 N433 ge421
 refine Go.dup X434 hx 315 rfl (hb hby at_314) rfl ?_
 refine Go.bipush X434 hx 317 rfl (hb hby at_315) (v := (9 : Int32)) (by decide) ?_
 refine Go.bipush X434 hx 319 rfl (hb hby at_317) (v := (44 : Int32)) (by decide) ?_
 refine Go.castore X434 hx hZ e434 V434 (44 : Int32) rfl ⟨by decide, by decide⟩ 9 rfl (nB rfl) 320 rfl (hb hby at_319) ?_
 intro T435 h435 e435 W435 V435 X435
 have N435 := Fr.snoc X435 N434 ge421
 refine Go.dup X435 hx 321 rfl (hb hby at_320) rfl ?_
 refine Go.bipush X435 hx 323 rfl (hb hby at_321) (v := (10 : Int32)) (by decide) ?_
 refine Go.bipush X435 hx 325 rfl (hb hby at_323) (v := (32 : Int32)) (by decide) ?_
 refine Go.castore X435 hx hZ e435 V435 (32 : Int32) rfl ⟨by decide, by decide⟩ 10 rfl (nB rfl) 326 rfl (hb hby at_325) ?_
 intro T436 h436 e436 W436 V436 X436
 have N436 := Fr.snoc X436 N435 ge421
 refine Go.dup X436 hx 327 rfl (hb hby at_326) rfl ?_
 refine Go.bipush X436 hx 329 rfl (hb hby at_327) (v := (11 : Int32)) (by decide) ?_
 refine Go.bipush X436 hx 331 rfl (hb hby at_329) (v := (76 : Int32)) (by decide) ?_
 have V437 : Arv Z h436 b420 k420 .char (29 : Int32) [.int 69, .int 84, .int 97, .int 103, .int 32, .int z374_0, .int z375_0, .int z376_0, .int z377_0, .int 44, .int 32, .int 0, .int 0, .int 0, .int 0, .int 0, .int 0, .int 0, .int 0, .int 0, .int 0, .int 0, .int 0, .int 0, .int 0, .int 0, .int 0, .int 0, .int 0] (.int 0) := V436
 refine Go.castore X436 hx hZ e436 V437 (76 : Int32) rfl ⟨by decide, by decide⟩ 11 rfl (nB rfl) 332 rfl (hb hby at_331) ?_
 intro T438 h438 e438 W438 V438 X438
 have N438 := Fr.snoc X438 N436 ge421
 refine Go.dup X438 hx 333 rfl (hb hby at_332) rfl ?_
 refine Go.bipush X438 hx 335 rfl (hb hby at_333) (v := (12 : Int32)) (by decide) ?_
 refine Go.bipush X438 hx 337 rfl (hb hby at_335) (v := (97 : Int32)) (by decide) ?_
 refine Go.castore X438 hx hZ e438 V438 (97 : Int32) rfl ⟨by decide, by decide⟩ 12 rfl (nB rfl) 338 rfl (hb hby at_337) ?_
 intro T439 h439 e439 W439 V439 X439
 have N439 := Fr.snoc X439 N438 ge421
 refine Go.dup X439 hx 339 rfl (hb hby at_338) rfl ?_
 refine Go.bipush X439 hx 341 rfl (hb hby at_339) (v := (13 : Int32)) (by decide) ?_
 refine Go.bipush X439 hx 343 rfl (hb hby at_341) (v := (115 : Int32)) (by decide) ?_
 refine Go.castore X439 hx hZ e439 V439 (115 : Int32) rfl ⟨by decide, by decide⟩ 13 rfl (nB rfl) 344 rfl (hb hby at_343) ?_
 intro T440 h440 e440 W440 V440 X440
 have N440 := Fr.snoc X440 N439 ge421
 refine Go.dup X440 hx 345 rfl (hb hby at_344) rfl ?_
 refine Go.bipush X440 hx 347 rfl (hb hby at_345) (v := (14 : Int32)) (by decide) ?_
 refine Go.bipush X440 hx 349 rfl (hb hby at_347) (v := (116 : Int32)) (by decide) ?_
 refine Go.castore X440 hx hZ e440 V440 (116 : Int32) rfl ⟨by decide, by decide⟩ 14 rfl (nB rfl) 350 rfl (hb hby at_349) ?_
 intro T441 h441 e441 W441 V441 X441
 have N441 := Fr.snoc X441 N440 ge421
 refine Go.dup X441 hx 351 rfl (hb hby at_350) rfl ?_
 refine Go.bipush X441 hx 353 rfl (hb hby at_351) (v := (15 : Int32)) (by decide) ?_
 refine Go.bipush X441 hx 355 rfl (hb hby at_353) (v := (45 : Int32)) (by decide) ?_
 have V442 : Arv Z h441 b420 k420 .char (29 : Int32) [.int 69, .int 84, .int 97, .int 103, .int 32, .int z374_0, .int z375_0, .int z376_0, .int z377_0, .int 44, .int 32, .int 76, .int 97, .int 115, .int 116, .int 0, .int 0, .int 0, .int 0, .int 0, .int 0, .int 0, .int 0, .int 0, .int 0, .int 0, .int 0, .int 0, .int 0] (.int 0) := V441
 refine Go.castore X441 hx hZ e441 V442 (45 : Int32) rfl ⟨by decide, by decide⟩ 15 rfl (nB rfl) 356 rfl (hb hby at_355) ?_
 intro T443 h443 e443 W443 V443 X443
 have N443 := Fr.snoc X443 N441 ge421
 refine Go.dup X443 hx 357 rfl (hb hby at_356) rfl ?_
 refine Go.bipush X443 hx 359 rfl (hb hby at_357) (v := (16 : Int32)) (by decide) ?_
 refine Go.bipush X443 hx 361 rfl (hb hby at_359) (v := (77 : Int32)) (by decide) ?_
 refine Go.castore X443 hx hZ e443 V443 (77 : Int32) rfl ⟨by decide, by decide⟩ 16 rfl (nB rfl) 362 rfl (hb hby at_361) ?_
 intro T444 h444 e444 W444 V444 X444
 have N444 := Fr.snoc X444 N443 ge421
 refine Go.dup X444 hx 363 rfl (hb hby at_362) rfl ?_
 refine Go.bipush X444 hx 365 rfl (hb hby at_363) (v := (17 : Int32)) (by decide) ?_
 refine Go.bipush X444 hx 367 rfl (hb hby at_365) (v := (111 : Int32)) (by decide) ?_
 refine Go.castore X444 hx hZ e444 V444 (111 : Int32) rfl ⟨by decide, by decide⟩ 17 rfl (nB rfl) 368 rfl (hb hby at_367) ?_
 intro T445 h445 e445 W445 V445 X445
 have N445 := Fr.snoc X445 N444 ge421
 refine Go.dup X445 hx 369 rfl (hb hby at_368) rfl ?_
 refine Go.bipush X445 hx 371 rfl (hb hby at_369) (v := (18 : Int32)) (by decide) ?_
 refine Go.bipush X445 hx 373 rfl (hb hby at_371) (v := (100 : Int32)) (by decide) ?_
 refine Go.castore X445 hx hZ e445 V445 (100 : Int32) rfl ⟨by decide, by decide⟩ 18 rfl (nB rfl) 374 rfl (hb hby at_373) ?_
 intro T446 h446 e446 W446 V446 X446
 have N446 := Fr.snoc X446 N445 ge421
 refine Go.dup X446 hx 375 rfl (hb hby at_374) rfl ?_
 refine Go.bipush X446 hx 377 rfl (hb hby at_375) (v := (19 : Int32)) (by decide) ?_
 refine Go.bipush X446 hx 379 rfl (hb hby at_377) (v := (105 : Int32)) (by decide) ?_
 have V447 : Arv Z h446 b420 k420 .char (29 : Int32) [.int 69, .int 84, .int 97, .int 103, .int 32, .int z374_0, .int z375_0, .int z376_0, .int z377_0, .int 44, .int 32, .int 76, .int 97, .int 115, .int 116, .int 45, .int 77, .int 111, .int 100, .int 0, .int 0, .int 0, .int 0, .int 0, .int 0, .int 0, .int 0, .int 0, .int 0] (.int 0) := V446
 refine Go.castore X446 hx hZ e446 V447 (105 : Int32) rfl ⟨by decide, by decide⟩ 19 rfl (nB rfl) 380 rfl (hb hby at_379) ?_
 intro T448 h448 e448 W448 V448 X448
 have N448 := Fr.snoc X448 N446 ge421
 refine Go.dup X448 hx 381 rfl (hb hby at_380) rfl ?_
 refine Go.bipush X448 hx 383 rfl (hb hby at_381) (v := (20 : Int32)) (by decide) ?_
 refine Go.bipush X448 hx 385 rfl (hb hby at_383) (v := (102 : Int32)) (by decide) ?_
 refine Go.castore X448 hx hZ e448 V448 (102 : Int32) rfl ⟨by decide, by decide⟩ 20 rfl (nB rfl) 386 rfl (hb hby at_385) ?_
 intro T449 h449 e449 W449 V449 X449
 have N449 := Fr.snoc X449 N448 ge421
 refine Go.dup X449 hx 387 rfl (hb hby at_386) rfl ?_
 refine Go.bipush X449 hx 389 rfl (hb hby at_387) (v := (21 : Int32)) (by decide) ?_
 refine Go.bipush X449 hx 391 rfl (hb hby at_389) (v := (105 : Int32)) (by decide) ?_
 refine Go.castore X449 hx hZ e449 V449 (105 : Int32) rfl ⟨by decide, by decide⟩ 21 rfl (nB rfl) 392 rfl (hb hby at_391) ?_
 intro T450 h450 e450 W450 V450 X450
 have N450 := Fr.snoc X450 N449 ge421
 refine Go.dup X450 hx 393 rfl (hb hby at_392) rfl ?_
 refine Go.bipush X450 hx 395 rfl (hb hby at_393) (v := (22 : Int32)) (by decide) ?_
 refine Go.bipush X450 hx 397 rfl (hb hby at_395) (v := (101 : Int32)) (by decide) ?_
 refine Go.castore X450 hx hZ e450 V450 (101 : Int32) rfl ⟨by decide, by decide⟩ 22 rfl (nB rfl) 398 rfl (hb hby at_397) ?_
 intro T451 h451 e451 W451 V451 X451
 have N451 := Fr.snoc X451 N450 ge421
 refine Go.dup X451 hx 399 rfl (hb hby at_398) rfl ?_
 refine Go.bipush X451 hx 401 rfl (hb hby at_399) (v := (23 : Int32)) (by decide) ?_
 refine Go.bipush X451 hx 403 rfl (hb hby at_401) (v := (100 : Int32)) (by decide) ?_
 have V452 : Arv Z h451 b420 k420 .char (29 : Int32) [.int 69, .int 84, .int 97, .int 103, .int 32, .int z374_0, .int z375_0, .int z376_0, .int z377_0, .int 44, .int 32, .int 76, .int 97, .int 115, .int 116, .int 45, .int 77, .int 111, .int 100, .int 105, .int 102, .int 105, .int 101, .int 0, .int 0, .int 0, .int 0, .int 0, .int 0] (.int 0) := V451
 refine Go.castore X451 hx hZ e451 V452 (100 : Int32) rfl ⟨by decide, by decide⟩ 23 rfl (nB rfl) 404 rfl (hb hby at_403) ?_
 intro T453 h453 e453 W453 V453 X453
 have N453 := Fr.snoc X453 N451 ge421
 refine Go.dup X453 hx 405 rfl (hb hby at_404) rfl ?_
 refine Go.bipush X453 hx 407 rfl (hb hby at_405) (v := (24 : Int32)) (by decide) ?_
 refine Go.bipush X453 hx 409 rfl (hb hby at_407) (v := (32 : Int32)) (by decide) ?_
 refine Go.castore X453 hx hZ e453 V453 (32 : Int32) rfl ⟨by decide, by decide⟩ 24 rfl (nB rfl) 410 rfl (hb hby at_409) ?_
 intro T454 h454 e454 W454 V454 X454
 have N454 := Fr.snoc X454 N453 ge421
 refine Go.dup X454 hx 411 rfl (hb hby at_410) rfl ?_
 refine Go.bipush X454 hx 413 rfl (hb hby at_411) (v := (25 : Int32)) (by decide) ?_
 refine Go.iload X454 hx 415 rfl (hb hby at_413) rfl ?_
 refine Go.castore X454 hx hZ e454 V454 (110 : Int32) rfl ⟨by decide, by decide⟩ 25 rfl (nB rfl) 416 rfl (hb hby at_415) ?_
 intro T455 h455 e455 W455 V455 X455
 have N455 := Fr.snoc X455 N454 ge421
 refine Go.dup X455 hx 417 rfl (hb hby at_416) rfl ?_
 refine Go.bipush X455 hx 419 rfl (hb hby at_417) (v := (26 : Int32)) (by decide) ?_
 refine Go.iload X455 hx 421 rfl (hb hby at_419) rfl ?_
 refine Go.castore X455 hx hZ e455 V455 (117 : Int32) rfl ⟨by decide, by decide⟩ 26 rfl (nB rfl) 422 rfl (hb hby at_421) ?_
 intro T456 h456 e456 W456 V456 X456
 have N456 := Fr.snoc X456 N455 ge421
 refine Go.dup X456 hx 423 rfl (hb hby at_422) rfl ?_
 refine Go.bipush X456 hx 425 rfl (hb hby at_423) (v := (27 : Int32)) (by decide) ?_
 refine Go.iload X456 hx 427 rfl (hb hby at_425) rfl ?_
 have V457 : Arv Z h456 b420 k420 .char (29 : Int32) [.int 69, .int 84, .int 97, .int 103, .int 32, .int z374_0, .int z375_0, .int z376_0, .int z377_0, .int 44, .int 32, .int 76, .int 97, .int 115, .int 116, .int 45, .int 77, .int 111, .int 100, .int 105, .int 102, .int 105, .int 101, .int 100, .int 32, .int 110, .int 117, .int 0, .int 0] (.int 0) := V456
 refine Go.castore X456 hx hZ e456 V457 (108 : Int32) rfl ⟨by decide, by decide⟩ 27 rfl (nB rfl) 428 rfl (hb hby at_427) ?_
 intro T458 h458 e458 W458 V458 X458
 have N458 := Fr.snoc X458 N456 ge421
 refine Go.dup X458 hx 429 rfl (hb hby at_428) rfl ?_
 refine Go.bipush X458 hx 431 rfl (hb hby at_429) (v := (28 : Int32)) (by decide) ?_
 refine Go.iload X458 hx 433 rfl (hb hby at_431) rfl ?_
 refine Go.castore X458 hx hZ e458 V458 (108 : Int32) rfl ⟨by decide, by decide⟩ 28 rfl (nB rfl) 434 rfl (hb hby at_433) ?_
 intro T459 h459 e459 W459 V459 X459
 have N459 := Fr.snoc X459 N458 ge421
 refine Go.astore X459 hx 436 rfl (hb hby at_434) (Ls' := #[vI p0, vI p1, vI p2, vI 0, vI 1, vI z374_0, vI z375_0, vI z376_0, vI z377_0, vI 110, vI 117, vI 108, vI 108, vR b378, .val .null, vR b420, uS]) rfl rfl ?_
 refine Go.new X459 hx hZ hown (tw_34 hw) (tw_35 hw) (tw_36 hw) e459 (by decide) (by decide) 439 rfl (hb hby at_436) ?_
 intro T460 h460 b460 e460 E460 g460 A460 D460 X460
 have b460_etag : Fld Z h460 b460 s2 "etag" s6 .null := D460 (Or.inr (tw_42 hw)) (ty := (.object s1)) (by decide)
 have b460_lastModified : Fld Z h460 b460 s2 "lastModified" s6 .null := D460 (Or.inr (tw_44 hw)) (ty := (.object s1)) (by decide)
 refine Go.dup X460 hx 440 rfl (hb hby at_439) rfl ?_
 refine Go.aload X460 hx 442 rfl (hb hby at_440) rfl rfl ?_
 refine Go.aload X460 hx 444 rfl (hb hby at_442) rfl rfl ?_
 have r461 : -128 ≤ z419_0.toInt ∧ z419_0.toInt ≤ 127 := own_ri2b d419_0
 have r462 : -128 ≤ z419_1.toInt ∧ z419_1.toInt ≤ 127 := own_ri2b d419_1
 have r463 : -128 ≤ z419_2.toInt ∧ z419_2.toInt ≤ 127 := own_ri2b d419_2
 have r464 : -128 ≤ z419_3.toInt ∧ z419_3.toInt ≤ 127 := own_ri2b d419_3
 have Kp466 := (Kp423.ext E420)
 have Kp467 := (Kp466.wr W424 (Or.inr sz422))
 have Kp468 := (Kp467.wr W425 (Or.inr sz422))
 have Kp469 := (Kp468.wr W426 (Or.inr sz422))
 have Kp470 := (Kp469.wr W428 (Or.inr sz422))
 have Kp471 := (Kp470.wr W429 (Or.inr sz422))
 have Kp472 := (Kp471.wr W430 (Or.inr sz422))
 have Kp473 := (Kp472.wr W431 (Or.inr sz422))
 have Kp474 := (Kp473.wr W433 (Or.inr sz422))
 have Kp475 := (Kp474.wr W434 (Or.inr sz422))
 have Kp476 := (Kp475.wr W435 (Or.inr sz422))
 have Kp477 := (Kp476.wr W436 (Or.inr sz422))
 have Kp478 := (Kp477.wr W438 (Or.inr sz422))
 have Kp479 := (Kp478.wr W439 (Or.inr sz422))
 have Kp480 := (Kp479.wr W440 (Or.inr sz422))
 have Kp481 := (Kp480.wr W441 (Or.inr sz422))
 have Kp482 := (Kp481.wr W443 (Or.inr sz422))
 have Kp483 := (Kp482.wr W444 (Or.inr sz422))
 have Kp484 := (Kp483.wr W445 (Or.inr sz422))
 have Kp485 := (Kp484.wr W446 (Or.inr sz422))
 have Kp486 := (Kp485.wr W448 (Or.inr sz422))
 have Kp487 := (Kp486.wr W449 (Or.inr sz422))
 have Kp488 := (Kp487.wr W450 (Or.inr sz422))
 have Kp489 := (Kp488.wr W451 (Or.inr sz422))
 have Kp490 := (Kp489.wr W453 (Or.inr sz422))
 have Kp491 := (Kp490.wr W454 (Or.inr sz422))
 have Kp492 := (Kp491.wr W455 (Or.inr sz422))
 have Kp493 := (Kp492.wr W456 (Or.inr sz422))
 have Kp494 := (Kp493.wr W458 (Or.inr sz422))
 have Kp495 := (Kp494.wr W459 (Or.inr sz422))
 have Kp496 := (Kp495.ext E460)
 have Zn465 := Nat.le_trans Z0 Kp496.1
 have sz498 := Nat.le_trans Kp495.1 (Nat.le_of_eq g460.symm)
 have ge497 := Nat.le_trans Z0 sz498
 refine Go.callN X460 hx hZ hown rfl (tw_37 hw) (tw_38 hw) (tw_39 hw) (by decide) (tw_39 hw) (tw_36 hw) (au_65 l Z a0 hw b460 b378 h460 n0 Zn465 A460 b460_etag b460_lastModified ge497) e460 (a := b460) (argsL := [.ref b378, .null]) (rest := [.ref b460]) 447 rfl (hml ▸ rfl) (lenOf pd_6 rfl) rfl rfl (W := 1) (nE rfl) (by decide) (by decide) (by decide) (by decide) (hb hby at_444) ?_
 intro v499 T499 L499 q499 X499
 obtain ⟨h499, e499⟩ : ∃ z, T499.heap = z := ⟨_, rfl⟩
 rw [e499] at q499
 obtain ⟨rfl, N499, K499, F499_0, F499_1, F499_2⟩ := q499
 show Go _ _ _ _ (T499.setTop (mkF m 447 #[vI p0, vI p1, vI p2, vI 0, vI 1, vI z374_0, vI z375_0, vI z376_0, vI z377_0, vI 110, vI 117, vI 108, vI 108, vR b378, .val .null, vR b420, uS] [.ref b460]))
 have Kp501 := (Kp496.trans K499 (allS (Or.inr sz498) all0))
 have Zn500 := Nat.le_trans Z0 Kp501.1
 have O502 := (O411.keep K419 (allS ge417 all0))
 have O503 := (O502.ext E420)
 have O504 := (O503.wr W424 ge421)
 have O505 := (O504.wr W425 ge421)
 have O506 := (O505.wr W426 ge421)
 have O507 := (O506.wr W428 ge421)
 have O508 := (O507.wr W429 ge421)
 have O509 := (O508.wr W430 ge421)
 have O510 := (O509.wr W431 ge421)
 have O511 := (O510.wr W433 ge421)
 have O512 := (O511.wr W434 ge421)
 have O513 := (O512.wr W435 ge421)
 have O514 := (O513.wr W436 ge421)
 have O515 := (O514.wr W438 ge421)
 have O516 := (O515.wr W439 ge421)
 have O517 := (O516.wr W440 ge421)
 have O518 := (O517.wr W441 ge421)
 have O519 := (O518.wr W443 ge421)
 have O520 := (O519.wr W444 ge421)
 have O521 := (O520.wr W445 ge421)
 have O522 := (O521.wr W446 ge421)
 have O523 := (O522.wr W448 ge421)
 have O524 := (O523.wr W449 ge421)
 have O525 := (O524.wr W450 ge421)
 have O526 := (O525.wr W451 ge421)
 have O527 := (O526.wr W453 ge421)
 have O528 := (O527.wr W454 ge421)
 have O529 := (O528.wr W455 ge421)
 have O530 := (O529.wr W456 ge421)
 have O531 := (O530.wr W458 ge421)
 have O532 := (O531.wr W459 ge421)
 have O533 := (O532.ext E460)
 have O534 := (O533.keep K499 (allS ge497 all0))
 have fk535 := ((((((((((((((((((((((((((((((((F419_0.ext E420).wr W424).wr W425).wr W426).wr W428).wr W429).wr W430).wr W431).wr W433).wr W434).wr W435).wr W436).wr W438).wr W439).wr W440).wr W441).wr W443).wr W444).wr W445).wr W446).wr W448).wr W449).wr W450).wr W451).wr W453).wr W454).wr W455).wr W456).wr W458).wr W459).ext E460).keep K499)
 have ne536 := Nat.ne_of_lt (Nat.lt_of_lt_of_le F419_0.lt (Nat.le_of_eq g420.symm))
 have fk538 := ((((((((((((((((((((((((((((((F419_0.ext E420).wr W424).wr W425).wr W426).wr W428).wr W429).wr W430).wr W431).wr W433).wr W434).wr W435).wr W436).wr W438).wr W439).wr W440).wr W441).wr W443).wr W444).wr W445).wr W446).wr W448).wr W449).wr W450).wr W451).wr W453).wr W454).wr W455).wr W456).wr W458).wr W459)
 have ne537 := Nat.ne_of_lt (Nat.lt_of_lt_of_le fk538.lt (Nat.le_of_eq g460.symm))
 have fk539 := ((((((((((((((((((((((((((((((((F419_1.ext E420).other W424 (Or.inl ne536)).other W425 (Or.inl ne536)).other W426 (Or.inl ne536)).other W428 (Or.inl ne536)).other W429 (Or.inl ne536)).other W430 (Or.inl ne536)).other W431 (Or.inl ne536)).other W433 (Or.inl ne536)).other W434 (Or.inl ne536)).other W435 (Or.inl ne536)).other W436 (Or.inl ne536)).other W438 (Or.inl ne536)).other W439 (Or.inl ne536)).other W440 (Or.inl ne536)).other W441 (Or.inl ne536)).other W443 (Or.inl ne536)).other W444 (Or.inl ne536)).other W445 (Or.inl ne536)).other W446 (Or.inl ne536)).other W448 (Or.inl ne536)).other W449 (Or.inl ne536)).other W450 (Or.inl ne536)).other W451 (Or.inl ne536)).other W453 (Or.inl ne536)).other W454 (Or.inl ne536)).other W455 (Or.inl ne536)).other W456 (Or.inl ne536)).other W458 (Or.inl ne536)).other W459 (Or.inl ne536)).ext E460).keep K499 (ninS ne537 nin0))
 have fk540 := ((((((((((((((((((((((((((((((((F419_2.ext E420).other W424 (Or.inl ne536)).other W425 (Or.inl ne536)).other W426 (Or.inl ne536)).other W428 (Or.inl ne536)).other W429 (Or.inl ne536)).other W430 (Or.inl ne536)).other W431 (Or.inl ne536)).other W433 (Or.inl ne536)).other W434 (Or.inl ne536)).other W435 (Or.inl ne536)).other W436 (Or.inl ne536)).other W438 (Or.inl ne536)).other W439 (Or.inl ne536)).other W440 (Or.inl ne536)).other W441 (Or.inl ne536)).other W443 (Or.inl ne536)).other W444 (Or.inl ne536)).other W445 (Or.inl ne536)).other W446 (Or.inl ne536)).other W448 (Or.inl ne536)).other W449 (Or.inl ne536)).other W450 (Or.inl ne536)).other W451 (Or.inl ne536)).other W453 (Or.inl ne536)).other W454 (Or.inl ne536)).other W455 (Or.inl ne536)).other W456 (Or.inl ne536)).other W458 (Or.inl ne536)).other W459 (Or.inl ne536)).ext E460).keep K499 (ninS ne537 nin0))
 have ne541 := Nat.ne_of_lt (Nat.lt_of_lt_of_le F419_3.lt (Nat.le_of_eq g420.symm))
 have fk543 := ((((((((((((((((((((((((((((((F419_3.ext E420).other W424 ne541).other W425 ne541).other W426 ne541).other W428 ne541).other W429 ne541).other W430 ne541).other W431 ne541).other W433 ne541).other W434 ne541).other W435 ne541).other W436 ne541).other W438 ne541).other W439 ne541).other W440 ne541).other W441 ne541).other W443 ne541).other W444 ne541).other W445 ne541).other W446 ne541).other W448 ne541).other W449 ne541).other W450 ne541).other W451 ne541).other W453 ne541).other W454 ne541).other W455 ne541).other W456 ne541).other W458 ne541).other W459 ne541)
 have ne542 := Nat.ne_of_lt (Nat.lt_of_lt_of_le fk543.lt (Nat.le_of_eq g460.symm))
 have fk544 := ((((((((((((((((((((((((((((((((F419_3.ext E420).other W424 ne541).other W425 ne541).other W426 ne541).other W428 ne541).other W429 ne541).other W430 ne541).other W431 ne541).other W433 ne541).other W434 ne541).other W435 ne541).other W436 ne541).other W438 ne541).other W439 ne541).other W440 ne541).other W441 ne541).other W443 ne541).other W444 ne541).other W445 ne541).other W446 ne541).other W448 ne541).other W449 ne541).other W450 ne541).other W451 ne541).other W453 ne541).other W454 ne541).other W455 ne541).other W456 ne541).other W458 ne541).other W459 ne541).ext E460).keep K499 (ninS ne542 nin0))
 have C545 := (C0.trans (CHr.ext E378 C0.1))
 have C546 := (C545.trans (CHr.ext E379 C545.1))
 have fk547 := (Safe.ext E379 C545.1 (Safe.new (Nat.le_of_eq g379.symm) : Safe Z EL0 s.vm h378 b379))
 have C548 := (C546.trans (CHr.wr W387 fk547 C546.1))
 have fk549 := (Safe.wr W387 fk547 C546.1 fk547)
 have C550 := (C548.trans (CHr.wr W392 fk549 C548.1))
 have fk551 := (Safe.wr W392 fk549 C548.1 fk549)
 have C552 := (C550.trans (CHr.wr W397 fk551 C550.1))
 have fk553 := (Safe.wr W397 fk551 C550.1 fk551)
 have C554 := (C552.trans (CHr.wr W403 fk553 C552.1))
 have fk555 := (Safe.ext E378 C0.1 (Safe.new (Nat.le_of_eq g378.symm) : Safe Z EL0 s.vm h0 b378))
 have fk556 := (Safe.ext E379 C545.1 fk555)
 have fk557 := (Safe.wr W387 fk547 C546.1 fk556)
 have fk558 := (Safe.wr W392 fk549 C548.1 fk557)
 have fk559 := (Safe.wr W397 fk551 C550.1 fk558)
 have fk560 := (Safe.wr W403 fk553 C552.1 fk559)
 have C561 := (C554.trans (CHr.keep K419 (sfS fk560 sf0) C554.1))
 have C562 := (C561.trans (CHr.ext E420 C561.1))
 have fk563 := (Safe.ext E420 C561.1 (Safe.new (Nat.le_of_eq g420.symm) : Safe Z EL0 s.vm h419 b420))
 have C564 := (C562.trans (CHr.wr W424 fk563 C562.1))
 have fk565 := (Safe.wr W424 fk563 C562.1 fk563)
 have C566 := (C564.trans (CHr.wr W425 fk565 C564.1))
 have fk567 := (Safe.wr W425 fk565 C564.1 fk565)
 have C568 := (C566.trans (CHr.wr W426 fk567 C566.1))
 have fk569 := (Safe.wr W426 fk567 C566.1 fk567)
 have C570 := (C568.trans (CHr.wr W428 fk569 C568.1))
 have fk571 := (Safe.wr W428 fk569 C568.1 fk569)
 have C572 := (C570.trans (CHr.wr W429 fk571 C570.1))
 have fk573 := (Safe.wr W429 fk571 C570.1 fk571)
 have C574 := (C572.trans (CHr.wr W430 fk573 C572.1))
 have fk575 := (Safe.wr W430 fk573 C572.1 fk573)
 have C576 := (C574.trans (CHr.wr W431 fk575 C574.1))
 have fk577 := (Safe.wr W431 fk575 C574.1 fk575)
 have C578 := (C576.trans (CHr.wr W433 fk577 C576.1))
 have fk579 := (Safe.wr W433 fk577 C576.1 fk577)
 have C580 := (C578.trans (CHr.wr W434 fk579 C578.1))
 have fk581 := (Safe.wr W434 fk579 C578.1 fk579)
 have C582 := (C580.trans (CHr.wr W435 fk581 C580.1))
 have fk583 := (Safe.wr W435 fk581 C580.1 fk581)
 have C584 := (C582.trans (CHr.wr W436 fk583 C582.1))
 have fk585 := (Safe.wr W436 fk583 C582.1 fk583)
 have C586 := (C584.trans (CHr.wr W438 fk585 C584.1))
 have fk587 := (Safe.wr W438 fk585 C584.1 fk585)
 have C588 := (C586.trans (CHr.wr W439 fk587 C586.1))
 have fk589 := (Safe.wr W439 fk587 C586.1 fk587)
 have C590 := (C588.trans (CHr.wr W440 fk589 C588.1))
 have fk591 := (Safe.wr W440 fk589 C588.1 fk589)
 have C592 := (C590.trans (CHr.wr W441 fk591 C590.1))
 have fk593 := (Safe.wr W441 fk591 C590.1 fk591)
 have C594 := (C592.trans (CHr.wr W443 fk593 C592.1))
 have fk595 := (Safe.wr W443 fk593 C592.1 fk593)
 have C596 := (C594.trans (CHr.wr W444 fk595 C594.1))
 have fk597 := (Safe.wr W444 fk595 C594.1 fk595)
 have C598 := (C596.trans (CHr.wr W445 fk597 C596.1))
 have fk599 := (Safe.wr W445 fk597 C596.1 fk597)
 have C600 := (C598.trans (CHr.wr W446 fk599 C598.1))
 have fk601 := (Safe.wr W446 fk599 C598.1 fk599)
 have C602 := (C600.trans (CHr.wr W448 fk601 C600.1))
 have fk603 := (Safe.wr W448 fk601 C600.1 fk601)
 have C604 := (C602.trans (CHr.wr W449 fk603 C602.1))
 have fk605 := (Safe.wr W449 fk603 C602.1 fk603)
 have C606 := (C604.trans (CHr.wr W450 fk605 C604.1))
 have fk607 := (Safe.wr W450 fk605 C604.1 fk605)
 have C608 := (C606.trans (CHr.wr W451 fk607 C606.1))
 have fk609 := (Safe.wr W451 fk607 C606.1 fk607)
 have C610 := (C608.trans (CHr.wr W453 fk609 C608.1))
 have fk611 := (Safe.wr W453 fk609 C608.1 fk609)
 have C612 := (C610.trans (CHr.wr W454 fk611 C610.1))
 have fk613 := (Safe.wr W454 fk611 C610.1 fk611)
 have C614 := (C612.trans (CHr.wr W455 fk613 C612.1))
 have fk615 := (Safe.wr W455 fk613 C612.1 fk613)
 have C616 := (C614.trans (CHr.wr W456 fk615 C614.1))
 have fk617 := (Safe.wr W456 fk615 C614.1 fk615)
 have C618 := (C616.trans (CHr.wr W458 fk617 C616.1))
 have fk619 := (Safe.wr W458 fk617 C616.1 fk617)
 have C620 := (C618.trans (CHr.wr W459 fk619 C618.1))
 have C621 := (C620.trans (CHr.ext E460 C620.1))
 have fk622 := (Safe.ext E460 C620.1 (Safe.new (Nat.le_of_eq g460.symm) : Safe Z EL0 s.vm h459 b460))
 have C623 := (C621.trans (CHr.keep K499 (sfS fk622 sf0) C621.1))
 have hk624 := (Nat.le_trans (Nat.le_trans (Nat.le_trans (Nat.le_trans (Nat.le_trans (Nat.le_trans (Nat.le_trans (Nat.le_trans (Nat.le_trans (Nat.le_trans (Nat.le_trans (Nat.le_trans (Nat.le_trans (Nat.le_trans (Nat.le_trans (Nat.le_trans (Nat.le_trans (Nat.le_trans (Nat.le_trans (Nat.le_trans (Nat.le_trans (Nat.le_trans (Nat.le_trans (Nat.le_trans (Nat.le_trans (Nat.le_trans (Nat.le_trans (Nat.le_trans (Nat.le_trans (Nat.le_trans (Nat.le_trans (Nat.le_trans (Nat.le_trans (Nat.le_trans (Nat.le_trans (Nat.le_trans (Nat.le_trans (Nat.le_trans (Nat.le_trans (Nat.le_refl _) E378.1) E379.1) (Keep.of_wr W387).1) (Keep.of_wr W392).1) (Keep.of_wr W397).1) (Keep.of_wr W403).1) K419.1) E420.1) (Keep.of_wr W424).1) (Keep.of_wr W425).1) (Keep.of_wr W426).1) (Keep.of_wr W428).1) (Keep.of_wr W429).1) (Keep.of_wr W430).1) (Keep.of_wr W431).1) (Keep.of_wr W433).1) (Keep.of_wr W434).1) (Keep.of_wr W435).1) (Keep.of_wr W436).1) (Keep.of_wr W438).1) (Keep.of_wr W439).1) (Keep.of_wr W440).1) (Keep.of_wr W441).1) (Keep.of_wr W443).1) (Keep.of_wr W444).1) (Keep.of_wr W445).1) (Keep.of_wr W446).1) (Keep.of_wr W448).1) (Keep.of_wr W449).1) (Keep.of_wr W450).1) (Keep.of_wr W451).1) (Keep.of_wr W453).1) (Keep.of_wr W454).1) (Keep.of_wr W455).1) (Keep.of_wr W456).1) (Keep.of_wr W458).1) (Keep.of_wr W459).1) E460.1) K499.1)
 refine Go.callVW X499 hx hZ hown (tw_45 hw) (tw_46 hw) (notFace_of_selects (args := #[]) (mvT hZ (tw_48 hw))) (tw_48 hw) (tw_47 hw) (by decide) (tw_49 hw) (tw_36 hw) (au_67 l Z a0 hw b460 b378 b419_0 k419_0 z419_0 z419_1 z419_2 z419_3 gz1 gv5 h499 n0 Zn500 O534 G F499_0 F499_1 F499_2 fk535 fk539 fk540 fk544) (own_EW hw) C623.1 all0 hS0 hk624 e499 F499_0 (argsL := []) (rest := []) 450 rfl (hml ▸ rfl) (lenOf pd_26 rfl) rfl rfl (W := 0) (nE rfl) (by decide) (by decide) (by decide) (by decide) (hb hby at_447) ?_
 intro v625 T625 L625 h625 e625 q625 C625 S625 Z625 O625 X625
 obtain ⟨b625_0, b625_1, k625_0, rfl, N625, K625, s625_0, s625_1, n625_0, y625_0, y625_1, F625_0, F625_1, F625_2, F625_3, F625_4⟩ := q625
 show Go _ _ _ _ (T625.setTop (mkF m 450 #[vI p0, vI p1, vI p2, vI 0, vI 1, vI z374_0, vI z375_0, vI z376_0, vI z377_0, vI 110, vI 117, vI 108, vI 108, vR b378, .val .null, vR b420, uS] [.ref b625_0]))
 refine Go.astore X625 hx 452 rfl (hb hby at_450) (Ls' := #[vI p0, vI p1, vI p2, vI 0, vI 1, vI z374_0, vI z375_0, vI z376_0, vI z377_0, vI 110, vI 117, vI 108, vI 108, vR b378, .val .null, vR b420, vR b625_0]) rfl rfl ?_
 refine Go.new X625 hx Z625 O625 (tw_4 hw) (tw_5 hw) (tw_6 hw) e625 (by decide) (by decide) 455 rfl (hb hby at_452) ?_
 intro T626 h626 b626 e626 E626 g626 A626 D626 X626
 have b626_coder : Fld Z h626 b626 s1 s4 "B" (.int 0) := D626 (Or.inr (tw_31 hw)) (ty := .byte) (by decide)
 have b626_value : Fld Z h626 b626 s1 s5 "[B" .null := D626 (Or.inr (tw_33 hw)) (ty := (.array .byte)) (by decide)
 refine Go.dup X626 hx 456 rfl (hb hby at_455) rfl ?_
 refine Go.aload X626 hx 458 rfl (hb hby at_456) rfl rfl ?_
 have Kp628 := (Kp501.trans K625 all0)
 have Kp629 := (Kp628.ext E626)
 have Zn627 := Nat.le_trans Z0 Kp629.1
 have O630 := (O534.keep K625 all0)
 have O631 := (O630.ext E626)
 have V632 : Arv Z h459 b420 k420 .char (29 : Int32) [.int 69, .int 84, .int 97, .int 103, .int 32, .int z374_0, .int z375_0, .int z376_0, .int z377_0, .int 44, .int 32, .int 76, .int 97, .int 115, .int 116, .int 45, .int 77, .int 111, .int 100, .int 105, .int 102, .int 105, .int 101, .int 100, .int 32, .int 110, .int 117, .int 108, .int 108] (.int 0) := V459
 have fk634 := (((((((((((((((((((((((((((((A420.wr W424).wr W425).wr W426).wr W428).wr W429).wr W430).wr W431).wr W433).wr W434).wr W435).wr W436).wr W438).wr W439).wr W440).wr W441).wr W443).wr W444).wr W445).wr W446).wr W448).wr W449).wr W450).wr W451).wr W453).wr W454).wr W455).wr W456).wr W458).wr W459)
 have ne633 := Nat.ne_of_lt (Nat.lt_of_lt_of_le fk634.lt (Nat.le_of_eq g460.symm))
 have fk635 := ((((V632.ext E460).keep K499 (ninS ne633 nin0)).keep K625 nin0).ext E626)
 have sz637 := Nat.le_trans Kp628.1 (Nat.le_of_eq g626.symm)
 have ge636 := Nat.le_trans Z0 sz637
 refine Go.callN X626 hx Z625 O625 rfl (tw_8 hw) (tw_9 hw) (tw_10 hw) (by decide) (tw_10 hw) (tw_6 hw) (au_81 l Z a0 hw b626 b420 k420 z374_0 z375_0 z376_0 z377_0 gz1 gv5 h626 n0 Zn627 O631 G A626 b626_coder b626_value fk635 r386 r391 r396 r402 ge636) e626 (a := b626) (argsL := [.ref b420]) (rest := [.ref b626]) 461 rfl (hml ▸ rfl) (lenOf pd_5 rfl) rfl rfl (W := 1) (nE rfl) (by decide) (by decide) (by decide) (by decide) (hb hby at_458) ?_
 intro v638 T638 L638 q638 X638
 obtain ⟨h638, e638⟩ : ∃ z, T638.heap = z := ⟨_, rfl⟩
 rw [e638] at q638
 obtain ⟨z638_0, z638_1, z638_2, z638_3, b638_0, k638_0, d638_0, d638_1, d638_2, d638_3, rfl, N638, K638, s638_0, F638_0, F638_1, F638_2, F638_3, F638_4⟩ := q638
 have e638_z638_0 : z419_0 = z638_0 := d419_0.symm.trans d638_0
 subst e638_z638_0
 have e638_z638_1 : z419_1 = z638_1 := d419_1.symm.trans d638_1
 subst e638_z638_1
 have e638_z638_2 : z419_2 = z638_2 := d419_2.symm.trans d638_2
 subst e638_z638_2
 have e638_z638_3 : z419_3 = z638_3 := d419_3.symm.trans d638_3
 subst e638_z638_3
 show Go _ _ _ _ (T638.setTop (mkF m 461 #[vI p0, vI p1, vI p2, vI 0, vI 1, vI z374_0, vI z375_0, vI z376_0, vI z377_0, vI 110, vI 117, vI 108, vI 108, vR b378, .val .null, vR b420, vR b625_0] [.ref b626]))
 refine Go.aload X638 hx 463 rfl (hb hby at_461) rfl rfl ?_
 have Kp640 := (Kp629.trans K638 (allS (Or.inr sz637) all0))
 have Zn639 := Nat.le_trans Z0 Kp640.1
 have O641 := (O631.keep K638 (allS ge636 all0))
 have fk642 := ((F625_0.ext E626).keep K638)
 have ne643 := Nat.ne_of_lt (Nat.lt_of_lt_of_le F625_0.lt (Nat.le_of_eq g626.symm))
 have fk644 := ((F625_1.ext E626).keep K638 (ninS ne643 nin0))
 have fk645 := ((F625_2.ext E626).keep K638 (ninS ne643 nin0))
 have ne646 := Nat.ne_of_lt (Nat.lt_of_lt_of_le F625_3.lt (Nat.le_of_eq g626.symm))
 have fk647 := ((F625_3.ext E626).keep K638 (ninS ne646 nin0))
 refine Go.callV X638 hx Z625 O625 (tw_181 hw) (tw_182 hw) (notFace_of_selects (args := #[]) (mvT Z625 (tw_184 hw))) (tw_184 hw) (tw_183 hw) (by decide) (tw_185 hw) (tw_6 hw) (au_85 l Z a0 hw b626 b625_0 b638_0 b625_1 k638_0 z419_0 z419_1 z419_2 z419_3 k625_0 gz1 gv5 h638 n0 Zn639 O641 G F638_1 F638_2 fk642 fk644 fk645 F638_3 fk647 (Ne.symm ne643)) e638 F638_0 (argsL := [.ref b625_0]) (rest := []) 466 rfl (hml ▸ rfl) (lenOf pd_28 rfl) rfl rfl (W := 0) (nE rfl) (by decide) (by decide) (by decide) (by decide) (hb hby at_463) ?_
 intro v648 T648 L648 q648 X648
 obtain ⟨rfl, N648, e648⟩ := q648
 show Go _ _ _ _ (T648.setTop (mkF m 466 #[vI p0, vI p1, vI p2, vI 0, vI 1, vI z374_0, vI z375_0, vI z376_0, vI z377_0, vI 110, vI 117, vI 108, vI 108, vR b378, .val .null, vR b420, vR b625_0] [.int 1]))
 have C649 := (C623.trans C625)
 have C650 := (C649.trans (CHr.ext E626 C649.1))
 have fk651 := (Safe.ext E626 C649.1 (Safe.new (Nat.le_of_eq g626.symm) : Safe Z EL0 T625.vm h625 b626))
 have C652 := (C650.trans (CHr.keep K638 (sfS fk651 sf0) C650.1))
 have hk653 := (Nat.le_trans (Nat.le_trans (Nat.le_refl _) E626.1) K638.1)
 refine Go.retNW X648 hx hlk Z625 (own_EW hw) e648 S625 hk653 C652 (t := .boolean) hret (by simp) (hb hby at_466) (by decide) (by decide) (fun hat => ?_)
 exact ⟨rfl, (Fr.app (Fr.app (Fr.app (Fr.app N459 N499) N625) N638) N648)⟩
 refine Go.ifNo X0 hx 6 rfl (hb hby at_3) (feq hc3).1 ?_
 refine Go.iconst X0 hx 7 rfl (hb hby at_6) (v := (1 : Int32)) rfl ?_
 refine Go.goto X0 hx 11 (hb hby at_7) (by decide) (by decide) ?_
 refine Go.istoreN X0 hx 12 rfl (hb hby at_11) (Ls' := #[vI p0, vI p1, vI p2, vI 1, uS, uS, uS, uS, uS, uS, uS, uS, uS, uS, uS, uS, uS]) rfl ?_
 refine Go.iloadN X0 hx 13 rfl (hb hby at_12) rfl ?_
 refine Go.iconst X0 hx 14 rfl (hb hby at_13) (v := (2 : Int32)) rfl ?_
 refine Go.iand X0 hx 15 rfl (hb hby at_14) ?_
 generalize hz654 : (p0 &&& (2 : Int32)) = z654
 have r655 : 0 ≤ z654.toInt ∧ z654.toInt ≤ 2 := own_rand hz654 (by decide)
 by_cases hc656 : z654 = (0 : Int32)
 refine Go.ifYes X0 hx 22 (hb hby at_15) (teq hc656).1 (by decide) (by decide) ?_
 refine Go.iconst X0 hx 23 rfl (hb hby at_22) (v := (0 : Int32)) rfl ?_
 refine Go.istore X0 hx 25 rfl (hb hby at_23) (Ls' := #[vI p0, vI p1, vI p2, vI 1, vI 0, uS, uS, uS, uS, uS, uS, uS, uS, uS, uS, uS, uS]) rfl ?_
 refine Go.iloadN X0 hx 26 rfl (hb hby at_25) rfl ?_
 refine Go.ifNo X0 hx 29 rfl (hb hby at_26) (by decide) ?_
 refine Go.bipush X0 hx 31 rfl (hb hby at_29) (v := (110 : Int32)) (by decide) ?_
 refine Go.goto X0 hx 39 (hb hby at_31) (by decide) (by decide) ?_
 refine Go.istore X0 hx 41 rfl (hb hby at_39) (Ls' := #[vI p0, vI p1, vI p2, vI 1, vI 0, vI 110, uS, uS, uS, uS, uS, uS, uS, uS, uS, uS, uS]) rfl ?_
 refine Go.iloadN X0 hx 42 rfl (hb hby at_41) rfl ?_
 refine Go.ifNo X0 hx 45 rfl (hb hby at_42) (by decide) ?_
 refine Go.bipush X0 hx 47 rfl (hb hby at_45) (v := (117 : Int32)) (by decide) ?_
 refine Go.goto X0 hx 55 (hb hby at_47) (by decide) (by decide) ?_
 refine Go.istore X0 hx 57 rfl (hb hby at_55) (Ls' := #[vI p0, vI p1, vI p2, vI 1, vI 0, vI 110, vI 117, uS, uS, uS, uS, uS, uS, uS, uS, uS, uS]) rfl ?_
 refine Go.iloadN X0 hx 58 rfl (hb hby at_57) rfl ?_
 refine Go.ifNo X0 hx 61 rfl (hb hby at_58) (by decide) ?_
 refine Go.bipush X0 hx 63 rfl (hb hby at_61) (v := (108 : Int32)) (by decide) ?_
 refine Go.goto X0 hx 71 (hb hby at_63) (by decide) (by decide) ?_
 refine Go.istore X0 hx 73 rfl (hb hby at_71) (Ls' := #[vI p0, vI p1, vI p2, vI 1, vI 0, vI 110, vI 117, vI 108, uS, uS, uS, uS, uS, uS, uS, uS, uS]) rfl ?_
 refine Go.iloadN X0 hx 74 rfl (hb hby at_73) rfl ?_
 refine Go.ifNo X0 hx 77 rfl (hb hby at_74) (by decide) ?_
 refine Go.bipush X0 hx 79 rfl (hb hby at_77) (v := (108 : Int32)) (by decide) ?_
 refine Go.goto X0 hx 87 (hb hby at_79) (by decide) (by decide) ?_
 refine Go.istore X0 hx 89 rfl (hb hby at_87) (Ls' := #[vI p0, vI p1, vI p2, vI 1, vI 0, vI 110, vI 117, vI 108, vI 108, uS, uS, uS, uS, uS, uS, uS, uS]) rfl ?_
 refine Go.iload X0 hx 91 rfl (hb hby at_89) rfl ?_
 refine Go.ifYes X0 hx 99 (hb hby at_91) (by decide) (by decide) (by decide) ?_
 refine Go.iloadN X0 hx 100 rfl (hb hby at_99) rfl ?_
 refine Go.iconst X0 hx 101 rfl (hb hby at_100) (v := (0 : Int32)) rfl ?_
 refine Go.callS X0 hx hZ hown (tw_0 hw) (tw_1 hw) (tw_2 hw) (tw_3 hw) (by decide) (tw_3 hw) (tw_2 hw) (au_1 l Z a0 hw p2 h0 n0 Z0) e0 (argsL := [.int p2, .int 0]) (rest := []) 104 rfl (hml ▸ rfl) (lenOf pd_0 rfl) rfl rfl (W := 0) (nE rfl) (by decide) (by decide) (by decide) (by decide) (hb hby at_101) ?_
 intro v657 T657 L657 q657 X657
 obtain ⟨z657_0, z657_1, d657_0, d657_1, rfl, N657, e657⟩ := q657
 show Go _ _ _ _ (T657.setTop (mkF m 104 #[vI p0, vI p1, vI p2, vI 1, vI 0, vI 110, vI 117, vI 108, vI 108, uS, uS, uS, uS, uS, uS, uS, uS] [.int z657_0]))
 refine Go.istore X657 hx 106 rfl (hb hby at_104) (Ls' := #[vI p0, vI p1, vI p2, vI 1, vI 0, vI 110, vI 117, vI 108, vI 108, vI z657_0, uS, uS, uS, uS, uS, uS, uS]) rfl ?_
 refine Go.iload X657 hx 108 rfl (hb hby at_106) rfl ?_
 refine Go.ifYes X657 hx 116 (hb hby at_108) (by decide) (by decide) (by decide) ?_
 refine Go.iloadN X657 hx 117 rfl (hb hby at_116) rfl ?_
 refine Go.iconst X657 hx 118 rfl (hb hby at_117) (v := (1 : Int32)) rfl ?_
 refine Go.callS X657 hx hZ hown (tw_0 hw) (tw_1 hw) (tw_2 hw) (tw_3 hw) (by decide) (tw_3 hw) (tw_2 hw) (au_2 l Z a0 hw p2 h0 n0 Z0) e657 (argsL := [.int p2, .int 1]) (rest := []) 121 rfl (hml ▸ rfl) (lenOf pd_0 rfl) rfl rfl (W := 0) (nE rfl) (by decide) (by decide) (by decide) (by decide) (hb hby at_118) ?_
 intro v658 T658 L658 q658 X658
 obtain ⟨z658_0, z658_1, d658_0, d658_1, rfl, N658, e658⟩ := q658
 show Go _ _ _ _ (T658.setTop (mkF m 121 #[vI p0, vI p1, vI p2, vI 1, vI 0, vI 110, vI 117, vI 108, vI 108, vI z657_0, uS, uS, uS, uS, uS, uS, uS] [.int z658_0]))
 refine Go.istore X658 hx 123 rfl (hb hby at_121) (Ls' := #[vI p0, vI p1, vI p2, vI 1, vI 0, vI 110, vI 117, vI 108, vI 108, vI z657_0, vI z658_0, uS, uS, uS, uS, uS, uS]) rfl ?_
 refine Go.iload X658 hx 125 rfl (hb hby at_123) rfl ?_
 refine Go.ifYes X658 hx 133 (hb hby at_125) (by decide) (by decide) (by decide) ?_
 refine Go.iloadN X658 hx 134 rfl (hb hby at_133) rfl ?_
 refine Go.iconst X658 hx 135 rfl (hb hby at_134) (v := (2 : Int32)) rfl ?_
 refine Go.callS X658 hx hZ hown (tw_0 hw) (tw_1 hw) (tw_2 hw) (tw_3 hw) (by decide) (tw_3 hw) (tw_2 hw) (au_3 l Z a0 hw p2 h0 n0 Z0) e658 (argsL := [.int p2, .int 2]) (rest := []) 138 rfl (hml ▸ rfl) (lenOf pd_0 rfl) rfl rfl (W := 0) (nE rfl) (by decide) (by decide) (by decide) (by decide) (hb hby at_135) ?_
 intro v659 T659 L659 q659 X659
 obtain ⟨z659_0, z659_1, d659_0, d659_1, rfl, N659, e659⟩ := q659
 show Go _ _ _ _ (T659.setTop (mkF m 138 #[vI p0, vI p1, vI p2, vI 1, vI 0, vI 110, vI 117, vI 108, vI 108, vI z657_0, vI z658_0, uS, uS, uS, uS, uS, uS] [.int z659_0]))
 refine Go.istore X659 hx 140 rfl (hb hby at_138) (Ls' := #[vI p0, vI p1, vI p2, vI 1, vI 0, vI 110, vI 117, vI 108, vI 108, vI z657_0, vI z658_0, vI z659_0, uS, uS, uS, uS, uS]) rfl ?_
 refine Go.iload X659 hx 142 rfl (hb hby at_140) rfl ?_
 refine Go.ifYes X659 hx 150 (hb hby at_142) (by decide) (by decide) (by decide) ?_
 refine Go.iloadN X659 hx 151 rfl (hb hby at_150) rfl ?_
 refine Go.iconst X659 hx 152 rfl (hb hby at_151) (v := (3 : Int32)) rfl ?_
 refine Go.callS X659 hx hZ hown (tw_0 hw) (tw_1 hw) (tw_2 hw) (tw_3 hw) (by decide) (tw_3 hw) (tw_2 hw) (au_4 l Z a0 hw p2 h0 n0 Z0) e659 (argsL := [.int p2, .int 3]) (rest := []) 155 rfl (hml ▸ rfl) (lenOf pd_0 rfl) rfl rfl (W := 0) (nE rfl) (by decide) (by decide) (by decide) (by decide) (hb hby at_152) ?_
 intro v660 T660 L660 q660 X660
 obtain ⟨z660_0, d660_0, rfl, N660, e660⟩ := q660
 show Go _ _ _ _ (T660.setTop (mkF m 155 #[vI p0, vI p1, vI p2, vI 1, vI 0, vI 110, vI 117, vI 108, vI 108, vI z657_0, vI z658_0, vI z659_0, uS, uS, uS, uS, uS] [.int z660_0]))
 refine Go.istore X660 hx 157 rfl (hb hby at_155) (Ls' := #[vI p0, vI p1, vI p2, vI 1, vI 0, vI 110, vI 117, vI 108, vI 108, vI z657_0, vI z658_0, vI z659_0, vI z660_0, uS, uS, uS, uS]) rfl ?_
 refine Go.iloadN X660 hx 158 rfl (hb hby at_157) rfl ?_
 refine Go.ifNo X660 hx 161 rfl (hb hby at_158) (by decide) ?_
 refine Go.anull X660 hx 162 rfl (hb hby at_161) ?_
 refine Go.goto X660 hx 207 (hb hby at_162) (by decide) (by decide) ?_
 refine Go.astore X660 hx 209 rfl (hb hby at_207) (Ls' := #[vI p0, vI p1, vI p2, vI 1, vI 0, vI 110, vI 117, vI 108, vI 108, vI z657_0, vI z658_0, vI z659_0, vI z660_0, .val .null, uS, uS, uS]) rfl rfl ?_
 refine Go.iload X660 hx 211 rfl (hb hby at_209) rfl ?_
 refine Go.ifYes X660 hx 218 (hb hby at_211) (by decide) (by decide) (by decide) ?_
 refine Go.new X660 hx hZ hown (tw_4 hw) (tw_5 hw) (tw_6 hw) e660 (by decide) (by decide) 221 rfl (hb hby at_218) ?_
 intro T661 h661 b661 e661 E661 g661 A661 D661 X661
 have b661_coder : Fld Z h661 b661 s1 s4 "B" (.int 0) := D661 (Or.inr (tw_31 hw)) (ty := .byte) (by decide)
 have b661_value : Fld Z h661 b661 s1 s5 "[B" .null := D661 (Or.inr (tw_33 hw)) (ty := (.array .byte)) (by decide)
 refine Go.dup X661 hx 222 rfl (hb hby at_221) rfl ?_
 refine Go.iconst X661 hx 223 rfl (hb hby at_222) (v := (4 : Int32)) rfl ?_
 refine Go.newarray X661 hx hZ (ty := .char) rfl (tw_7 hw) e661 (by decide) (cap := 4) (by decide) (by decide) (by decide) (by decide) (ad := "[C") (by decide) 4 225 rfl (hb hby at_223) ?_
 intro T662 h662 b662 k662 e662 E662 g662 V662 A662 X662
 have V662' : Arv Z h662 b662 k662 .char (4 : Int32) [.int 0, .int 0, .int 0, .int 0] (.int 0) := V662
 refine Go.dup X662 hx 226 rfl (hb hby at_225) rfl ?_
 refine Go.iconst X662 hx 227 rfl (hb hby at_226) (v := (0 : Int32)) rfl ?_
 refine Go.iloadN X662 hx 228 rfl (hb hby at_227) rfl ?_
 refine Go.iconst X662 hx 229 rfl (hb hby at_228) (v := (0 : Int32)) rfl ?_
 have Kp664 := ((Keep.refl h0 []).ext E661)
 have Kp665 := (Kp664.ext E662)
 have Zn663 := Nat.le_trans Z0 Kp665.1
 refine Go.callS X662 hx hZ hown (tw_0 hw) (tw_1 hw) (tw_2 hw) (tw_3 hw) (by decide) (tw_3 hw) (tw_2 hw) (au_1 l Z a0 hw p2 h662 n0 Zn663) e662 (argsL := [.int p2, .int 0]) (rest := [.int 0, .ref b662, .ref b662, .ref b661, .ref b661]) 232 rfl (hml ▸ rfl) (lenOf pd_0 rfl) rfl rfl (W := 5) (nE rfl) (by decide) (by decide) (by decide) (by decide) (hb hby at_229) ?_
 intro v666 T666 L666 q666 X666
 obtain ⟨z666_0, z666_1, d666_0, d666_1, rfl, N666, e666⟩ := q666
 have e666_z666_1 : z657_1 = z666_1 := d657_0.symm.trans d666_0
 subst e666_z666_1
 have e666_z666_0 : z657_0 = z666_0 := d657_1.symm.trans d666_1
 subst e666_z666_0
 show Go _ _ _ _ (T666.setTop (mkF m 232 #[vI p0, vI p1, vI p2, vI 1, vI 0, vI 110, vI 117, vI 108, vI 108, vI z657_0, vI z658_0, vI z659_0, vI z660_0, .val .null, uS, uS, uS] [.int z657_0, .int 0, .ref b662, .ref b662, .ref b661, .ref b661]))
 have sz668 := Nat.le_trans Kp664.1 (Nat.le_of_eq g662.symm)
 have ge667 := Nat.le_trans Z0 sz668
 have r669 : 0 ≤ z657_0.toInt ∧ z657_0.toInt ≤ 255 := own_rand d657_1 (by decide)
 refine Go.castore X666 hx hZ e666 V662' z657_0 (own_nar_char r669 (by decide) (by decide)) ⟨by decide, by decide⟩ 0 rfl (nB rfl) 233 rfl (hb hby at_232) ?_
 intro T670 h670 e670 W670 V670 X670
 have N670 := Fr.snoc X670 (Fr.app (Fr.app (Fr.app (Fr.app (Fr.app (Fr.nil n0) N657) N658) N659) N660) N666) ge667
 refine Go.dup X670 hx 234 rfl (hb hby at_233) rfl ?_
 refine Go.iconst X670 hx 235 rfl (hb hby at_234) (v := (1 : Int32)) rfl ?_
 refine Go.iloadN X670 hx 236 rfl (hb hby at_235) rfl ?_
 refine Go.iconst X670 hx 237 rfl (hb hby at_236) (v := (1 : Int32)) rfl ?_
 have Kp672 := (Kp665.wr W670 (Or.inr sz668))
 have Zn671 := Nat.le_trans Z0 Kp672.1
 refine Go.callS X670 hx hZ hown (tw_0 hw) (tw_1 hw) (tw_2 hw) (tw_3 hw) (by decide) (tw_3 hw) (tw_2 hw) (au_2 l Z a0 hw p2 h670 n0 Zn671) e670 (argsL := [.int p2, .int 1]) (rest := [.int 1, .ref b662, .ref b662, .ref b661, .ref b661]) 240 rfl (hml ▸ rfl) (lenOf pd_0 rfl) rfl rfl (W := 5) (nE rfl) (by decide) (by decide) (by decide) (by decide) (hb hby at_237) ?_
 intro v673 T673 L673 q673 X673
 obtain ⟨z673_0, z673_1, d673_0, d673_1, rfl, N673, e673⟩ := q673
 have e673_z673_1 : z658_1 = z673_1 := d658_0.symm.trans d673_0
 subst e673_z673_1
 have e673_z673_0 : z658_0 = z673_0 := d658_1.symm.trans d673_1
 subst e673_z673_0
 show Go _ _ _ _ (T673.setTop (mkF m 240 #[vI p0, vI p1, vI p2, vI 1, vI 0, vI 110, vI 117, vI 108, vI 108, vI z657_0, vI z658_0, vI z659_0, vI z660_0, .val .null, uS, uS, uS] [.int z658_0, .int 1, .ref b662, .ref b662, .ref b661, .ref b661]))
 have r674 : 0 ≤ z658_0.toInt ∧ z658_0.toInt ≤ 255 := own_rand d658_1 (by decide)
 refine Go.castore X673 hx hZ e673 V670 z658_0 (own_nar_char r674 (by decide) (by decide)) ⟨by decide, by decide⟩ 1 rfl (nB rfl) 241 rfl (hb hby at_240) ?_
 intro T675 h675 e675 W675 V675 X675
 have N675 := Fr.snoc X675 (Fr.app N670 N673) ge667
 refine Go.dup X675 hx 242 rfl (hb hby at_241) rfl ?_
 refine Go.iconst X675 hx 243 rfl (hb hby at_242) (v := (2 : Int32)) rfl ?_
 refine Go.iloadN X675 hx 244 rfl (hb hby at_243) rfl ?_
 refine Go.iconst X675 hx 245 rfl (hb hby at_244) (v := (2 : Int32)) rfl ?_
 have Kp677 := (Kp672.wr W675 (Or.inr sz668))
 have Zn676 := Nat.le_trans Z0 Kp677.1
 refine Go.callS X675 hx hZ hown (tw_0 hw) (tw_1 hw) (tw_2 hw) (tw_3 hw) (by decide) (tw_3 hw) (tw_2 hw) (au_3 l Z a0 hw p2 h675 n0 Zn676) e675 (argsL := [.int p2, .int 2]) (rest := [.int 2, .ref b662, .ref b662, .ref b661, .ref b661]) 248 rfl (hml ▸ rfl) (lenOf pd_0 rfl) rfl rfl (W := 5) (nE rfl) (by decide) (by decide) (by decide) (by decide) (hb hby at_245) ?_
 intro v678 T678 L678 q678 X678
 obtain ⟨z678_0, z678_1, d678_0, d678_1, rfl, N678, e678⟩ := q678
 have e678_z678_1 : z659_1 = z678_1 := d659_0.symm.trans d678_0
 subst e678_z678_1
 have e678_z678_0 : z659_0 = z678_0 := d659_1.symm.trans d678_1
 subst e678_z678_0
 show Go _ _ _ _ (T678.setTop (mkF m 248 #[vI p0, vI p1, vI p2, vI 1, vI 0, vI 110, vI 117, vI 108, vI 108, vI z657_0, vI z658_0, vI z659_0, vI z660_0, .val .null, uS, uS, uS] [.int z659_0, .int 2, .ref b662, .ref b662, .ref b661, .ref b661]))
 have r679 : 0 ≤ z659_0.toInt ∧ z659_0.toInt ≤ 255 := own_rand d659_1 (by decide)
 refine Go.castore X678 hx hZ e678 V675 z659_0 (own_nar_char r679 (by decide) (by decide)) ⟨by decide, by decide⟩ 2 rfl (nB rfl) 249 rfl (hb hby at_248) ?_
 intro T680 h680 e680 W680 V680 X680
 have N680 := Fr.snoc X680 (Fr.app N675 N678) ge667
 refine Go.dup X680 hx 250 rfl (hb hby at_249) rfl ?_
 refine Go.iconst X680 hx 251 rfl (hb hby at_250) (v := (3 : Int32)) rfl ?_
 refine Go.iloadN X680 hx 252 rfl (hb hby at_251) rfl ?_
 refine Go.iconst X680 hx 253 rfl (hb hby at_252) (v := (3 : Int32)) rfl ?_
 have Kp682 := (Kp677.wr W680 (Or.inr sz668))
 have Zn681 := Nat.le_trans Z0 Kp682.1
 refine Go.callS X680 hx hZ hown (tw_0 hw) (tw_1 hw) (tw_2 hw) (tw_3 hw) (by decide) (tw_3 hw) (tw_2 hw) (au_4 l Z a0 hw p2 h680 n0 Zn681) e680 (argsL := [.int p2, .int 3]) (rest := [.int 3, .ref b662, .ref b662, .ref b661, .ref b661]) 256 rfl (hml ▸ rfl) (lenOf pd_0 rfl) rfl rfl (W := 5) (nE rfl) (by decide) (by decide) (by decide) (by decide) (hb hby at_253) ?_
 intro v683 T683 L683 q683 X683
 obtain ⟨z683_0, d683_0, rfl, N683, e683⟩ := q683
 have e683_z683_0 : z660_0 = z683_0 := d660_0.symm.trans d683_0
 subst e683_z683_0
 show Go _ _ _ _ (T683.setTop (mkF m 256 #[vI p0, vI p1, vI p2, vI 1, vI 0, vI 110, vI 117, vI 108, vI 108, vI z657_0, vI z658_0, vI z659_0, vI z660_0, .val .null, uS, uS, uS] [.int z660_0, .int 3, .ref b662, .ref b662, .ref b661, .ref b661]))
 have V684 : Arv Z h680 b662 k662 .char (4 : Int32) [.int z657_0, .int z658_0, .int z659_0, .int 0] (.int 0) := V680
 have r685 : 0 ≤ z660_0.toInt ∧ z660_0.toInt ≤ 255 := own_rushr d660_0 (k := 24) (by decide) (by decide) (by decide)
 refine Go.castore X683 hx hZ e683 V684 z660_0 (own_nar_char r685 (by decide) (by decide)) ⟨by decide, by decide⟩ 3 rfl (nB rfl) 257 rfl (hb hby at_256) ?_
 intro T686 h686 e686 W686 V686 X686
 have N686 := Fr.snoc X686 (Fr.app N680 N683) ge667
 have Kp688 := (Kp682.wr W686 (Or.inr sz668))
 have Zn687 := Nat.le_trans Z0 Kp688.1
 have O689 := (O0.ext E661)
 have O690 := (O689.ext E662)
 have O691 := (O690.wr W670 ge667)
 have O692 := (O691.wr W675 ge667)
 have O693 := (O692.wr W680 ge667)
 have O694 := (O693.wr W686 ge667)
 have fk695 := (((((A661.ext E662).wr W670).wr W675).wr W680).wr W686)
 have ne696 := Nat.ne_of_lt (Nat.lt_of_lt_of_le A661.lt (Nat.le_of_eq g662.symm))
 have fk697 := (((((b661_coder.ext E662).other W670 (Or.inl ne696)).other W675 (Or.inl ne696)).other W680 (Or.inl ne696)).other W686 (Or.inl ne696))
 have fk698 := (((((b661_value.ext E662).other W670 (Or.inl ne696)).other W675 (Or.inl ne696)).other W680 (Or.inl ne696)).other W686 (Or.inl ne696))
 have V699 : Arv Z h686 b662 k662 .char (4 : Int32) [.int z657_0, .int z658_0, .int z659_0, .int z660_0] (.int 0) := V686
 have sz701 := Nat.le_trans (Keep.refl h0 []).1 (Nat.le_of_eq g661.symm)
 have ge700 := Nat.le_trans Z0 sz701
 refine Go.callN X686 hx hZ hown rfl (tw_8 hw) (tw_9 hw) (tw_10 hw) (by decide) (tw_10 hw) (tw_6 hw) (au_5 l Z a0 hw b661 b662 k662 z657_0 z658_0 z659_0 z660_0 gz1 gv5 h686 n0 Zn687 O694 G fk695 fk697 fk698 V699 r669 r674 r679 r685 ge700) e686 (a := b661) (argsL := [.ref b662]) (rest := [.ref b661]) 260 rfl (hml ▸ rfl) (lenOf pd_5 rfl) rfl rfl (W := 1) (nE rfl) (by decide) (by decide) (by decide) (by decide) (hb hby at_257) ?_
 intro v702 T702 L702 q702 X702
 obtain ⟨h702, e702⟩ : ∃ z, T702.heap = z := ⟨_, rfl⟩
 rw [e702] at q702
 obtain ⟨z702_0, z702_1, z702_2, z702_3, b702_0, k702_0, d702_0, d702_1, d702_2, d702_3, rfl, N702, K702, s702_0, F702_0, F702_1, F702_2, F702_3, F702_4⟩ := q702
 show Go _ _ _ _ (T702.setTop (mkF m 260 #[vI p0, vI p1, vI p2, vI 1, vI 0, vI 110, vI 117, vI 108, vI 108, vI z657_0, vI z658_0, vI z659_0, vI z660_0, .val .null, uS, uS, uS] [.ref b661]))
 refine Go.astore X702 hx 262 rfl (hb hby at_260) (Ls' := #[vI p0, vI p1, vI p2, vI 1, vI 0, vI 110, vI 117, vI 108, vI 108, vI z657_0, vI z658_0, vI z659_0, vI z660_0, .val .null, vR b661, uS, uS]) rfl rfl ?_
 refine Go.bipush X702 hx 264 rfl (hb hby at_262) (v := (29 : Int32)) (by decide) ?_
 refine Go.newarray X702 hx hZ (ty := .char) rfl (tw_7 hw) e702 (by decide) (cap := 29) (by decide) (by decide) (by decide) (by decide) (ad := "[C") (by decide) 29 266 rfl (hb hby at_264) ?_
 intro T703 h703 b703 k703 e703 E703 g703 V703 A703 X703
 have V703' : Arv Z h703 b703 k703 .char (29 : Int32) [.int 0, .int 0, .int 0, .int 0, .int 0, .int 0, .int 0, .int 0, .int 0, .int 0, .int 0, .int 0, .int 0, .int 0, .int 0, .int 0, .int 0, .int 0, .int 0, .int 0, .int 0, .int 0, .int 0, .int 0, .int 0, .int 0, .int 0, .int 0, .int 0] (.int 0) := V703
 refine Go.dup X703 hx 267 rfl (hb hby at_266) rfl ?_
 refine Go.iconst X703 hx 268 rfl (hb hby at_267) (v := (0 : Int32)) rfl ?_
 refine Go.bipush X703 hx 270 rfl (hb hby at_268) (v := (69 : Int32)) (by decide) ?_
 have Kp706 := (Kp688.trans K702 (allS (Or.inr sz701) all0))
 have sz705 := Nat.le_trans Kp706.1 (Nat.le_of_eq g703.symm)
 have ge704 := Nat.le_trans Z0 sz705
 refine Go.castore X703 hx hZ e703 V703' (69 : Int32) rfl ⟨by decide, by decide⟩ 0 rfl (nB rfl) 271 rfl (hb hby at_270) ?_
 intro T707 h707 e707 W707 V707 X707
 have N707 := Fr.snoc X707 (Fr.app N686 N702) ge704
 refine Go.dup X707 hx 272 rfl (hb hby at_271) rfl ?_
 refine Go.iconst X707 hx 273 rfl (hb hby at_272) (v := (1 : Int32)) rfl ?_
 refine Go.bipush X707 hx 275 rfl (hb hby at_273) (v := (84 : Int32)) (by decide) ?_
 refine Go.castore X707 hx hZ e707 V707 (84 : Int32) rfl ⟨by decide, by decide⟩ 1 rfl (nB rfl) 276 rfl (hb hby at_275) ?_
 intro T708 h708 e708 W708 V708 X708
 have N708 := Fr.snoc X708 N707 ge704
 refine Go.dup X708 hx 277 rfl (hb hby at_276) rfl ?_
 refine Go.iconst X708 hx 278 rfl (hb hby at_277) (v := (2 : Int32)) rfl ?_
 refine Go.bipush X708 hx 280 rfl (hb hby at_278) (v := (97 : Int32)) (by decide) ?_
 refine Go.castore X708 hx hZ e708 V708 (97 : Int32) rfl ⟨by decide, by decide⟩ 2 rfl (nB rfl) 281 rfl (hb hby at_280) ?_
 intro T709 h709 e709 W709 V709 X709
 have N709 := Fr.snoc X709 N708 ge704
 refine Go.dup X709 hx 282 rfl (hb hby at_281) rfl ?_
 refine Go.iconst X709 hx 283 rfl (hb hby at_282) (v := (3 : Int32)) rfl ?_
 refine Go.bipush X709 hx 285 rfl (hb hby at_283) (v := (103 : Int32)) (by decide) ?_
 have V710 : Arv Z h709 b703 k703 .char (29 : Int32) [.int 69, .int 84, .int 97, .int 0, .int 0, .int 0, .int 0, .int 0, .int 0, .int 0, .int 0, .int 0, .int 0, .int 0, .int 0, .int 0, .int 0, .int 0, .int 0, .int 0, .int 0, .int 0, .int 0, .int 0, .int 0, .int 0, .int 0, .int 0, .int 0] (.int 0) := V709
 refine Go.castore X709 hx hZ e709 V710 (103 : Int32) rfl ⟨by decide, by decide⟩ 3 rfl (nB rfl) 286 rfl (hb hby at_285) ?_
 intro T711 h711 e711 W711 V711 X711
 have N711 := Fr.snoc X711 N709 ge704
 refine Go.dup X711 hx 287 rfl (hb hby at_286) rfl ?_
 refine Go.iconst X711 hx 288 rfl (hb hby at_287) (v := (4 : Int32)) rfl ?_
 refine Go.bipush X711 hx 290 rfl (hb hby at_288) (v := (32 : Int32)) (by decide) ?_
 refine Go.castore X711 hx hZ e711 V711 (32 : Int32) rfl ⟨by decide, by decide⟩ 4 rfl (nB rfl) 291 rfl (hb hby at_290) ?_
 intro T712 h712 e712 W712 V712 X712
 have N712 := Fr.snoc X712 N711 ge704
 refine Go.dup X712 hx 292 rfl (hb hby at_291) rfl ?_
 refine Go.iconst X712 hx 293 rfl (hb hby at_292) (v := (5 : Int32)) rfl ?_
 refine Go.iload X712 hx 295 rfl (hb hby at_293) rfl ?_
 refine Go.castore X712 hx hZ e712 V712 (110 : Int32) rfl ⟨by decide, by decide⟩ 5 rfl (nB rfl) 296 rfl (hb hby at_295) ?_
 intro T713 h713 e713 W713 V713 X713
 have N713 := Fr.snoc X713 N712 ge704
 refine Go.dup X713 hx 297 rfl (hb hby at_296) rfl ?_
 refine Go.bipush X713 hx 299 rfl (hb hby at_297) (v := (6 : Int32)) (by decide) ?_
 refine Go.iload X713 hx 301 rfl (hb hby at_299) rfl ?_
 refine Go.castore X713 hx hZ e713 V713 (117 : Int32) rfl ⟨by decide, by decide⟩ 6 rfl (nB rfl) 302 rfl (hb hby at_301) ?_
 intro T714 h714 e714 W714 V714 X714
 have N714 := Fr.snoc X714 N713 ge704
 refine Go.dup X714 hx 303 rfl (hb hby at_302) rfl ?_
 refine Go.bipush X714 hx 305 rfl (hb hby at_303) (v := (7 : Int32)) (by decide) ?_
 refine Go.iload X714 hx 307 rfl (hb hby at_305) rfl ?_
 have V715 : Arv Z h714 b703 k703 .char (29 : Int32) [.int 69, .int 84, .int 97, .int 103, .int 32, .int 110, .int 117, .int 0, .int 0, .int 0, .int 0, .int 0, .int 0, .int 0, .int 0, .int 0, .int 0, .int 0, .int 0, .int 0, .int 0, .int 0, .int 0, .int 0, .int 0, .int 0, .int 0, .int 0, .int 0] (.int 0) := V714
 refine Go.castore X714 hx hZ e714 V715 (108 : Int32) rfl ⟨by decide, by decide⟩ 7 rfl (nB rfl) 308 rfl (hb hby at_307) ?_
 intro T716 h716 e716 W716 V716 X716
 have N716 := Fr.snoc X716 N714 ge704
 refine Go.dup X716 hx 309 rfl (hb hby at_308) rfl ?_
 refine Go.bipush X716 hx 311 rfl (hb hby at_309) (v := (8 : Int32)) (by decide) ?_
 refine Go.iload X716 hx 313 rfl (hb hby at_311) rfl ?_
 refine Go.castore X716 hx hZ e716 V716 (108 : Int32) rfl ⟨by decide, by decide⟩ 8 rfl (nB rfl) 314 rfl (hb hby at_313) ?_
 intro T717 h717 e717 W717 V717 X717
 have N717 := Fr.snoc X717 N716 ge704
 refine Go.dup X717 hx 315 rfl (hb hby at_314) rfl ?_
 refine Go.bipush X717 hx 317 rfl (hb hby at_315) (v := (9 : Int32)) (by decide) ?_
 refine Go.bipush X717 hx 319 rfl (hb hby at_317) (v := (44 : Int32)) (by decide) ?_
 refine Go.castore X717 hx hZ e717 V717 (44 : Int32) rfl ⟨by decide, by decide⟩ 9 rfl (nB rfl) 320 rfl (hb hby at_319) ?_
 intro T718 h718 e718 W718 V718 X718
 have N718 := Fr.snoc X718 N717 ge704
 refine Go.dup X718 hx 321 rfl (hb hby at_320) rfl ?_
 refine Go.bipush X718 hx 323 rfl (hb hby at_321) (v := (10 : Int32)) (by decide) ?_
 refine Go.bipush X718 hx 325 rfl (hb hby at_323) (v := (32 : Int32)) (by decide) ?_
 refine Go.castore X718 hx hZ e718 V718 (32 : Int32) rfl ⟨by decide, by decide⟩ 10 rfl (nB rfl) 326 rfl (hb hby at_325) ?_
 intro T719 h719 e719 W719 V719 X719
 have N719 := Fr.snoc X719 N718 ge704
 refine Go.dup X719 hx 327 rfl (hb hby at_326) rfl ?_
 refine Go.bipush X719 hx 329 rfl (hb hby at_327) (v := (11 : Int32)) (by decide) ?_
 refine Go.bipush X719 hx 331 rfl (hb hby at_329) (v := (76 : Int32)) (by decide) ?_
 have V720 : Arv Z h719 b703 k703 .char (29 : Int32) [.int 69, .int 84, .int 97, .int 103, .int 32, .int 110, .int 117, .int 108, .int 108, .int 44, .int 32, .int 0, .int 0, .int 0, .int 0, .int 0, .int 0, .int 0, .int 0, .int 0, .int 0, .int 0, .int 0, .int 0, .int 0, .int 0, .int 0, .int 0, .int 0] (.int 0) := V719
 refine Go.castore X719 hx hZ e719 V720 (76 : Int32) rfl ⟨by decide, by decide⟩ 11 rfl (nB rfl) 332 rfl (hb hby at_331) ?_
 intro T721 h721 e721 W721 V721 X721
 have N721 := Fr.snoc X721 N719 ge704
 refine Go.dup X721 hx 333 rfl (hb hby at_332) rfl ?_
 refine Go.bipush X721 hx 335 rfl (hb hby at_333) (v := (12 : Int32)) (by decide) ?_
 refine Go.bipush X721 hx 337 rfl (hb hby at_335) (v := (97 : Int32)) (by decide) ?_
 refine Go.castore X721 hx hZ e721 V721 (97 : Int32) rfl ⟨by decide, by decide⟩ 12 rfl (nB rfl) 338 rfl (hb hby at_337) ?_
 intro T722 h722 e722 W722 V722 X722
 have N722 := Fr.snoc X722 N721 ge704
 refine Go.dup X722 hx 339 rfl (hb hby at_338) rfl ?_
 refine Go.bipush X722 hx 341 rfl (hb hby at_339) (v := (13 : Int32)) (by decide) ?_
 refine Go.bipush X722 hx 343 rfl (hb hby at_341) (v := (115 : Int32)) (by decide) ?_
 refine Go.castore X722 hx hZ e722 V722 (115 : Int32) rfl ⟨by decide, by decide⟩ 13 rfl (nB rfl) 344 rfl (hb hby at_343) ?_
 intro T723 h723 e723 W723 V723 X723
 have N723 := Fr.snoc X723 N722 ge704
 refine Go.dup X723 hx 345 rfl (hb hby at_344) rfl ?_
 refine Go.bipush X723 hx 347 rfl (hb hby at_345) (v := (14 : Int32)) (by decide) ?_
 refine Go.bipush X723 hx 349 rfl (hb hby at_347) (v := (116 : Int32)) (by decide) ?_
 refine Go.castore X723 hx hZ e723 V723 (116 : Int32) rfl ⟨by decide, by decide⟩ 14 rfl (nB rfl) 350 rfl (hb hby at_349) ?_
 intro T724 h724 e724 W724 V724 X724
 have N724 := Fr.snoc X724 N723 ge704
 refine Go.dup X724 hx 351 rfl (hb hby at_350) rfl ?_
 refine Go.bipush X724 hx 353 rfl (hb hby at_351) (v := (15 : Int32)) (by decide) ?_
 refine Go.bipush X724 hx 355 rfl (hb hby at_353) (v := (45 : Int32)) (by decide) ?_
 have V725 : Arv Z h724 b703 k703 .char (29 : Int32) [.int 69, .int 84, .int 97, .int 103, .int 32, .int 110, .int 117, .int 108, .int 108, .int 44, .int 32, .int 76, .int 97, .int 115, .int 116, .int 0, .int 0, .int 0, .int 0, .int 0, .int 0, .int 0, .int 0, .int 0, .int 0, .int 0, .int 0, .int 0, .int 0] (.int 0) := V724
 refine Go.castore X724 hx hZ e724 V725 (45 : Int32) rfl ⟨by decide, by decide⟩ 15 rfl (nB rfl) 356 rfl (hb hby at_355) ?_
 intro T726 h726 e726 W726 V726 X726
 have N726 := Fr.snoc X726 N724 ge704
 refine Go.dup X726 hx 357 rfl (hb hby at_356) rfl ?_
 refine Go.bipush X726 hx 359 rfl (hb hby at_357) (v := (16 : Int32)) (by decide) ?_
 refine Go.bipush X726 hx 361 rfl (hb hby at_359) (v := (77 : Int32)) (by decide) ?_
 refine Go.castore X726 hx hZ e726 V726 (77 : Int32) rfl ⟨by decide, by decide⟩ 16 rfl (nB rfl) 362 rfl (hb hby at_361) ?_
 intro T727 h727 e727 W727 V727 X727
 have N727 := Fr.snoc X727 N726 ge704
 refine Go.dup X727 hx 363 rfl (hb hby at_362) rfl ?_
 refine Go.bipush X727 hx 365 rfl (hb hby at_363) (v := (17 : Int32)) (by decide) ?_
 refine Go.bipush X727 hx 367 rfl (hb hby at_365) (v := (111 : Int32)) (by decide) ?_
 refine Go.castore X727 hx hZ e727 V727 (111 : Int32) rfl ⟨by decide, by decide⟩ 17 rfl (nB rfl) 368 rfl (hb hby at_367) ?_
 intro T728 h728 e728 W728 V728 X728
 have N728 := Fr.snoc X728 N727 ge704
 refine Go.dup X728 hx 369 rfl (hb hby at_368) rfl ?_
 refine Go.bipush X728 hx 371 rfl (hb hby at_369) (v := (18 : Int32)) (by decide) ?_
 refine Go.bipush X728 hx 373 rfl (hb hby at_371) (v := (100 : Int32)) (by decide) ?_
 refine Go.castore X728 hx hZ e728 V728 (100 : Int32) rfl ⟨by decide, by decide⟩ 18 rfl (nB rfl) 374 rfl (hb hby at_373) ?_
 intro T729 h729 e729 W729 V729 X729
 have N729 := Fr.snoc X729 N728 ge704
 refine Go.dup X729 hx 375 rfl (hb hby at_374) rfl ?_
 refine Go.bipush X729 hx 377 rfl (hb hby at_375) (v := (19 : Int32)) (by decide) ?_
 refine Go.bipush X729 hx 379 rfl (hb hby at_377) (v := (105 : Int32)) (by decide) ?_
 have V730 : Arv Z h729 b703 k703 .char (29 : Int32) [.int 69, .int 84, .int 97, .int 103, .int 32, .int 110, .int 117, .int 108, .int 108, .int 44, .int 32, .int 76, .int 97, .int 115, .int 116, .int 45, .int 77, .int 111, .int 100, .int 0, .int 0, .int 0, .int 0, .int 0, .int 0, .int 0, .int 0, .int 0, .int 0] (.int 0) := V729
 refine Go.castore X729 hx hZ e729 V730 (105 : Int32) rfl ⟨by decide, by decide⟩ 19 rfl (nB rfl) 380 rfl (hb hby at_379) ?_
 intro T731 h731 e731 W731 V731 X731
 have N731 := Fr.snoc X731 N729 ge704
 refine Go.dup X731 hx 381 rfl (hb hby at_380) rfl ?_
 refine Go.bipush X731 hx 383 rfl (hb hby at_381) (v := (20 : Int32)) (by decide) ?_
 refine Go.bipush X731 hx 385 rfl (hb hby at_383) (v := (102 : Int32)) (by decide) ?_
 refine Go.castore X731 hx hZ e731 V731 (102 : Int32) rfl ⟨by decide, by decide⟩ 20 rfl (nB rfl) 386 rfl (hb hby at_385) ?_
 intro T732 h732 e732 W732 V732 X732
 have N732 := Fr.snoc X732 N731 ge704
 refine Go.dup X732 hx 387 rfl (hb hby at_386) rfl ?_
 refine Go.bipush X732 hx 389 rfl (hb hby at_387) (v := (21 : Int32)) (by decide) ?_
 refine Go.bipush X732 hx 391 rfl (hb hby at_389) (v := (105 : Int32)) (by decide) ?_
 refine Go.castore X732 hx hZ e732 V732 (105 : Int32) rfl ⟨by decide, by decide⟩ 21 rfl (nB rfl) 392 rfl (hb hby at_391) ?_
 intro T733 h733 e733 W733 V733 X733
 have N733 := Fr.snoc X733 N732 ge704
 refine Go.dup X733 hx 393 rfl (hb hby at_392) rfl ?_
 refine Go.bipush X733 hx 395 rfl (hb hby at_393) (v := (22 : Int32)) (by decide) ?_
 refine Go.bipush X733 hx 397 rfl (hb hby at_395) (v := (101 : Int32)) (by decide) ?_
 refine Go.castore X733 hx hZ e733 V733 (101 : Int32) rfl ⟨by decide, by decide⟩ 22 rfl (nB rfl) 398 rfl (hb hby at_397) ?_
 intro T734 h734 e734 W734 V734 X734
 have N734 := Fr.snoc X734 N733 ge704
 refine Go.dup X734 hx 399 rfl (hb hby at_398) rfl ?_
 refine Go.bipush X734 hx 401 rfl (hb hby at_399) (v := (23 : Int32)) (by decide) ?_
 refine Go.bipush X734 hx 403 rfl (hb hby at_401) (v := (100 : Int32)) (by decide) ?_
 have V735 : Arv Z h734 b703 k703 .char (29 : Int32) [.int 69, .int 84, .int 97, .int 103, .int 32, .int 110, .int 117, .int 108, .int 108, .int 44, .int 32, .int 76, .int 97, .int 115, .int 116, .int 45, .int 77, .int 111, .int 100, .int 105, .int 102, .int 105, .int 101, .int 0, .int 0, .int 0, .int 0, .int 0, .int 0] (.int 0) := V734
 refine Go.castore X734 hx hZ e734 V735 (100 : Int32) rfl ⟨by decide, by decide⟩ 23 rfl (nB rfl) 404 rfl (hb hby at_403) ?_
 intro T736 h736 e736 W736 V736 X736
 have N736 := Fr.snoc X736 N734 ge704
 refine Go.dup X736 hx 405 rfl (hb hby at_404) rfl ?_
 refine Go.bipush X736 hx 407 rfl (hb hby at_405) (v := (24 : Int32)) (by decide) ?_
 refine Go.bipush X736 hx 409 rfl (hb hby at_407) (v := (32 : Int32)) (by decide) ?_
 refine Go.castore X736 hx hZ e736 V736 (32 : Int32) rfl ⟨by decide, by decide⟩ 24 rfl (nB rfl) 410 rfl (hb hby at_409) ?_
 intro T737 h737 e737 W737 V737 X737
 have N737 := Fr.snoc X737 N736 ge704
 refine Go.dup X737 hx 411 rfl (hb hby at_410) rfl ?_
 refine Go.bipush X737 hx 413 rfl (hb hby at_411) (v := (25 : Int32)) (by decide) ?_
 refine Go.iload X737 hx 415 rfl (hb hby at_413) rfl ?_
 refine Go.castore X737 hx hZ e737 V737 z657_0 (own_nar_char r669 (by decide) (by decide)) ⟨by decide, by decide⟩ 25 rfl (nB rfl) 416 rfl (hb hby at_415) ?_
 intro T738 h738 e738 W738 V738 X738
 have N738 := Fr.snoc X738 N737 ge704
 refine Go.dup X738 hx 417 rfl (hb hby at_416) rfl ?_
 refine Go.bipush X738 hx 419 rfl (hb hby at_417) (v := (26 : Int32)) (by decide) ?_
 refine Go.iload X738 hx 421 rfl (hb hby at_419) rfl ?_
 refine Go.castore X738 hx hZ e738 V738 z658_0 (own_nar_char r674 (by decide) (by decide)) ⟨by decide, by decide⟩ 26 rfl (nB rfl) 422 rfl (hb hby at_421) ?_
 intro T739 h739 e739 W739 V739 X739
 have N739 := Fr.snoc X739 N738 ge704
 refine Go.dup X739 hx 423 rfl (hb hby at_422) rfl ?_
 refine Go.bipush X739 hx 425 rfl (hb hby at_423) (v := (27 : Int32)) (by decide) ?_
 refine Go.iload X739 hx 427 rfl (hb hby at_425) rfl ?_
 have V740 : Arv Z h739 b703 k703 .char (29 : Int32) [.int 69, .int 84, .int 97, .int 103, .int 32, .int 110, .int 117, .int 108, .int 108, .int 44, .int 32, .int 76, .int 97, .int 115, .int 116, .int 45, .int 77, .int 111, .int 100, .int 105, .int 102, .int 105, .int 101, .int 100, .int 32, .int z657_0, .int z658_0, .int 0, .int 0] (.int 0) := V739
 refine Go.castore X739 hx hZ e739 V740 z659_0 (own_nar_char r679 (by decide) (by decide)) ⟨by decide, by decide⟩ 27 rfl (nB rfl) 428 rfl (hb hby at_427) ?_
 intro T741 h741 e741 W741 V741 X741
 have N741 := Fr.snoc X741 N739 ge704
 refine Go.dup X741 hx 429 rfl (hb hby at_428) rfl ?_
 refine Go.bipush X741 hx 431 rfl (hb hby at_429) (v := (28 : Int32)) (by decide) ?_
 refine Go.iload X741 hx 433 rfl (hb hby at_431) rfl ?_
 refine Go.castore X741 hx hZ e741 V741 z660_0 (own_nar_char r685 (by decide) (by decide)) ⟨by decide, by decide⟩ 28 rfl (nB rfl) 434 rfl (hb hby at_433) ?_
 intro T742 h742 e742 W742 V742 X742
 have N742 := Fr.snoc X742 N741 ge704
 refine Go.astore X742 hx 436 rfl (hb hby at_434) (Ls' := #[vI p0, vI p1, vI p2, vI 1, vI 0, vI 110, vI 117, vI 108, vI 108, vI z657_0, vI z658_0, vI z659_0, vI z660_0, .val .null, vR b661, vR b703, uS]) rfl rfl ?_
 refine Go.new X742 hx hZ hown (tw_34 hw) (tw_35 hw) (tw_36 hw) e742 (by decide) (by decide) 439 rfl (hb hby at_436) ?_
 intro T743 h743 b743 e743 E743 g743 A743 D743 X743
 have b743_etag : Fld Z h743 b743 s2 "etag" s6 .null := D743 (Or.inr (tw_42 hw)) (ty := (.object s1)) (by decide)
 have b743_lastModified : Fld Z h743 b743 s2 "lastModified" s6 .null := D743 (Or.inr (tw_44 hw)) (ty := (.object s1)) (by decide)
 refine Go.dup X743 hx 440 rfl (hb hby at_439) rfl ?_
 refine Go.aload X743 hx 442 rfl (hb hby at_440) rfl rfl ?_
 refine Go.aload X743 hx 444 rfl (hb hby at_442) rfl rfl ?_
 have r744 : -128 ≤ z702_0.toInt ∧ z702_0.toInt ≤ 127 := own_ri2b d702_0
 have r745 : -128 ≤ z702_1.toInt ∧ z702_1.toInt ≤ 127 := own_ri2b d702_1
 have r746 : -128 ≤ z702_2.toInt ∧ z702_2.toInt ≤ 127 := own_ri2b d702_2
 have r747 : -128 ≤ z702_3.toInt ∧ z702_3.toInt ≤ 127 := own_ri2b d702_3
 have Kp749 := (Kp706.ext E703)
 have Kp750 := (Kp749.wr W707 (Or.inr sz705))
 have Kp751 := (Kp750.wr W708 (Or.inr sz705))
 have Kp752 := (Kp751.wr W709 (Or.inr sz705))
 have Kp753 := (Kp752.wr W711 (Or.inr sz705))
 have Kp754 := (Kp753.wr W712 (Or.inr sz705))
 have Kp755 := (Kp754.wr W713 (Or.inr sz705))
 have Kp756 := (Kp755.wr W714 (Or.inr sz705))
 have Kp757 := (Kp756.wr W716 (Or.inr sz705))
 have Kp758 := (Kp757.wr W717 (Or.inr sz705))
 have Kp759 := (Kp758.wr W718 (Or.inr sz705))
 have Kp760 := (Kp759.wr W719 (Or.inr sz705))
 have Kp761 := (Kp760.wr W721 (Or.inr sz705))
 have Kp762 := (Kp761.wr W722 (Or.inr sz705))
 have Kp763 := (Kp762.wr W723 (Or.inr sz705))
 have Kp764 := (Kp763.wr W724 (Or.inr sz705))
 have Kp765 := (Kp764.wr W726 (Or.inr sz705))
 have Kp766 := (Kp765.wr W727 (Or.inr sz705))
 have Kp767 := (Kp766.wr W728 (Or.inr sz705))
 have Kp768 := (Kp767.wr W729 (Or.inr sz705))
 have Kp769 := (Kp768.wr W731 (Or.inr sz705))
 have Kp770 := (Kp769.wr W732 (Or.inr sz705))
 have Kp771 := (Kp770.wr W733 (Or.inr sz705))
 have Kp772 := (Kp771.wr W734 (Or.inr sz705))
 have Kp773 := (Kp772.wr W736 (Or.inr sz705))
 have Kp774 := (Kp773.wr W737 (Or.inr sz705))
 have Kp775 := (Kp774.wr W738 (Or.inr sz705))
 have Kp776 := (Kp775.wr W739 (Or.inr sz705))
 have Kp777 := (Kp776.wr W741 (Or.inr sz705))
 have Kp778 := (Kp777.wr W742 (Or.inr sz705))
 have Kp779 := (Kp778.ext E743)
 have Zn748 := Nat.le_trans Z0 Kp779.1
 have sz781 := Nat.le_trans Kp778.1 (Nat.le_of_eq g743.symm)
 have ge780 := Nat.le_trans Z0 sz781
 refine Go.callN X743 hx hZ hown rfl (tw_37 hw) (tw_38 hw) (tw_39 hw) (by decide) (tw_39 hw) (tw_36 hw) (au_86 l Z a0 hw b743 b661 h743 n0 Zn748 A743 b743_etag b743_lastModified ge780) e743 (a := b743) (argsL := [.null, .ref b661]) (rest := [.ref b743]) 447 rfl (hml ▸ rfl) (lenOf pd_6 rfl) rfl rfl (W := 1) (nE rfl) (by decide) (by decide) (by decide) (by decide) (hb hby at_444) ?_
 intro v782 T782 L782 q782 X782
 obtain ⟨h782, e782⟩ : ∃ z, T782.heap = z := ⟨_, rfl⟩
 rw [e782] at q782
 obtain ⟨rfl, N782, K782, F782_0, F782_1, F782_2⟩ := q782
 show Go _ _ _ _ (T782.setTop (mkF m 447 #[vI p0, vI p1, vI p2, vI 1, vI 0, vI 110, vI 117, vI 108, vI 108, vI z657_0, vI z658_0, vI z659_0, vI z660_0, .val .null, vR b661, vR b703, uS] [.ref b743]))
 have Kp784 := (Kp779.trans K782 (allS (Or.inr sz781) all0))
 have Zn783 := Nat.le_trans Z0 Kp784.1
 have O785 := (O694.keep K702 (allS ge700 all0))
 have O786 := (O785.ext E703)
 have O787 := (O786.wr W707 ge704)
 have O788 := (O787.wr W708 ge704)
 have O789 := (O788.wr W709 ge704)
 have O790 := (O789.wr W711 ge704)
 have O791 := (O790.wr W712 ge704)
 have O792 := (O791.wr W713 ge704)
 have O793 := (O792.wr W714 ge704)
 have O794 := (O793.wr W716 ge704)
 have O795 := (O794.wr W717 ge704)
 have O796 := (O795.wr W718 ge704)
 have O797 := (O796.wr W719 ge704)
 have O798 := (O797.wr W721 ge704)
 have O799 := (O798.wr W722 ge704)
 have O800 := (O799.wr W723 ge704)
 have O801 := (O800.wr W724 ge704)
 have O802 := (O801.wr W726 ge704)
 have O803 := (O802.wr W727 ge704)
 have O804 := (O803.wr W728 ge704)
 have O805 := (O804.wr W729 ge704)
 have O806 := (O805.wr W731 ge704)
 have O807 := (O806.wr W732 ge704)
 have O808 := (O807.wr W733 ge704)
 have O809 := (O808.wr W734 ge704)
 have O810 := (O809.wr W736 ge704)
 have O811 := (O810.wr W737 ge704)
 have O812 := (O811.wr W738 ge704)
 have O813 := (O812.wr W739 ge704)
 have O814 := (O813.wr W741 ge704)
 have O815 := (O814.wr W742 ge704)
 have O816 := (O815.ext E743)
 have O817 := (O816.keep K782 (allS ge780 all0))
 have fk818 := ((((((((((((((((((((((((((((((((F702_0.ext E703).wr W707).wr W708).wr W709).wr W711).wr W712).wr W713).wr W714).wr W716).wr W717).wr W718).wr W719).wr W721).wr W722).wr W723).wr W724).wr W726).wr W727).wr W728).wr W729).wr W731).wr W732).wr W733).wr W734).wr W736).wr W737).wr W738).wr W739).wr W741).wr W742).ext E743).keep K782)
 have ne819 := Nat.ne_of_lt (Nat.lt_of_lt_of_le F702_0.lt (Nat.le_of_eq g703.symm))
 have fk821 := ((((((((((((((((((((((((((((((F702_0.ext E703).wr W707).wr W708).wr W709).wr W711).wr W712).wr W713).wr W714).wr W716).wr W717).wr W718).wr W719).wr W721).wr W722).wr W723).wr W724).wr W726).wr W727).wr W728).wr W729).wr W731).wr W732).wr W733).wr W734).wr W736).wr W737).wr W738).wr W739).wr W741).wr W742)
 have ne820 := Nat.ne_of_lt (Nat.lt_of_lt_of_le fk821.lt (Nat.le_of_eq g743.symm))
 have fk822 := ((((((((((((((((((((((((((((((((F702_1.ext E703).other W707 (Or.inl ne819)).other W708 (Or.inl ne819)).other W709 (Or.inl ne819)).other W711 (Or.inl ne819)).other W712 (Or.inl ne819)).other W713 (Or.inl ne819)).other W714 (Or.inl ne819)).other W716 (Or.inl ne819)).other W717 (Or.inl ne819)).other W718 (Or.inl ne819)).other W719 (Or.inl ne819)).other W721 (Or.inl ne819)).other W722 (Or.inl ne819)).other W723 (Or.inl ne819)).other W724 (Or.inl ne819)).other W726 (Or.inl ne819)).other W727 (Or.inl ne819)).other W728 (Or.inl ne819)).other W729 (Or.inl ne819)).other W731 (Or.inl ne819)).other W732 (Or.inl ne819)).other W733 (Or.inl ne819)).other W734 (Or.inl ne819)).other W736 (Or.inl ne819)).other W737 (Or.inl ne819)).other W738 (Or.inl ne819)).other W739 (Or.inl ne819)).other W741 (Or.inl ne819)).other W742 (Or.inl ne819)).ext E743).keep K782 (ninS ne820 nin0))
 have fk823 := ((((((((((((((((((((((((((((((((F702_2.ext E703).other W707 (Or.inl ne819)).other W708 (Or.inl ne819)).other W709 (Or.inl ne819)).other W711 (Or.inl ne819)).other W712 (Or.inl ne819)).other W713 (Or.inl ne819)).other W714 (Or.inl ne819)).other W716 (Or.inl ne819)).other W717 (Or.inl ne819)).other W718 (Or.inl ne819)).other W719 (Or.inl ne819)).other W721 (Or.inl ne819)).other W722 (Or.inl ne819)).other W723 (Or.inl ne819)).other W724 (Or.inl ne819)).other W726 (Or.inl ne819)).other W727 (Or.inl ne819)).other W728 (Or.inl ne819)).other W729 (Or.inl ne819)).other W731 (Or.inl ne819)).other W732 (Or.inl ne819)).other W733 (Or.inl ne819)).other W734 (Or.inl ne819)).other W736 (Or.inl ne819)).other W737 (Or.inl ne819)).other W738 (Or.inl ne819)).other W739 (Or.inl ne819)).other W741 (Or.inl ne819)).other W742 (Or.inl ne819)).ext E743).keep K782 (ninS ne820 nin0))
 have ne824 := Nat.ne_of_lt (Nat.lt_of_lt_of_le F702_3.lt (Nat.le_of_eq g703.symm))
 have fk826 := ((((((((((((((((((((((((((((((F702_3.ext E703).other W707 ne824).other W708 ne824).other W709 ne824).other W711 ne824).other W712 ne824).other W713 ne824).other W714 ne824).other W716 ne824).other W717 ne824).other W718 ne824).other W719 ne824).other W721 ne824).other W722 ne824).other W723 ne824).other W724 ne824).other W726 ne824).other W727 ne824).other W728 ne824).other W729 ne824).other W731 ne824).other W732 ne824).other W733 ne824).other W734 ne824).other W736 ne824).other W737 ne824).other W738 ne824).other W739 ne824).other W741 ne824).other W742 ne824)
 have ne825 := Nat.ne_of_lt (Nat.lt_of_lt_of_le fk826.lt (Nat.le_of_eq g743.symm))
 have fk827 := ((((((((((((((((((((((((((((((((F702_3.ext E703).other W707 ne824).other W708 ne824).other W709 ne824).other W711 ne824).other W712 ne824).other W713 ne824).other W714 ne824).other W716 ne824).other W717 ne824).other W718 ne824).other W719 ne824).other W721 ne824).other W722 ne824).other W723 ne824).other W724 ne824).other W726 ne824).other W727 ne824).other W728 ne824).other W729 ne824).other W731 ne824).other W732 ne824).other W733 ne824).other W734 ne824).other W736 ne824).other W737 ne824).other W738 ne824).other W739 ne824).other W741 ne824).other W742 ne824).ext E743).keep K782 (ninS ne825 nin0))
 have C828 := (C0.trans (CHr.ext E661 C0.1))
 have C829 := (C828.trans (CHr.ext E662 C828.1))
 have fk830 := (Safe.ext E662 C828.1 (Safe.new (Nat.le_of_eq g662.symm) : Safe Z EL0 s.vm h661 b662))
 have C831 := (C829.trans (CHr.wr W670 fk830 C829.1))
 have fk832 := (Safe.wr W670 fk830 C829.1 fk830)
 have C833 := (C831.trans (CHr.wr W675 fk832 C831.1))
 have fk834 := (Safe.wr W675 fk832 C831.1 fk832)
 have C835 := (C833.trans (CHr.wr W680 fk834 C833.1))
 have fk836 := (Safe.wr W680 fk834 C833.1 fk834)
 have C837 := (C835.trans (CHr.wr W686 fk836 C835.1))
 have fk838 := (Safe.ext E661 C0.1 (Safe.new (Nat.le_of_eq g661.symm) : Safe Z EL0 s.vm h0 b661))
 have fk839 := (Safe.ext E662 C828.1 fk838)
 have fk840 := (Safe.wr W670 fk830 C829.1 fk839)
 have fk841 := (Safe.wr W675 fk832 C831.1 fk840)
 have fk842 := (Safe.wr W680 fk834 C833.1 fk841)
 have fk843 := (Safe.wr W686 fk836 C835.1 fk842)
 have C844 := (C837.trans (CHr.keep K702 (sfS fk843 sf0) C837.1))
 have C845 := (C844.trans (CHr.ext E703 C844.1))
 have fk846 := (Safe.ext E703 C844.1 (Safe.new (Nat.le_of_eq g703.symm) : Safe Z EL0 s.vm h702 b703))
 have C847 := (C845.trans (CHr.wr W707 fk846 C845.1))
 have fk848 := (Safe.wr W707 fk846 C845.1 fk846)
 have C849 := (C847.trans (CHr.wr W708 fk848 C847.1))
 have fk850 := (Safe.wr W708 fk848 C847.1 fk848)
 have C851 := (C849.trans (CHr.wr W709 fk850 C849.1))
 have fk852 := (Safe.wr W709 fk850 C849.1 fk850)
 have C853 := (C851.trans (CHr.wr W711 fk852 C851.1))
 have fk854 := (Safe.wr W711 fk852 C851.1 fk852)
 have C855 := (C853.trans (CHr.wr W712 fk854 C853.1))
 have fk856 := (Safe.wr W712 fk854 C853.1 fk854)
 have C857 := (C855.trans (CHr.wr W713 fk856 C855.1))
 have fk858 := (Safe.wr W713 fk856 C855.1 fk856)
 have C859 := (C857.trans (CHr.wr W714 fk858 C857.1))
 have fk860 := (Safe.wr W714 fk858 C857.1 fk858)
 have C861 := (C859.trans (CHr.wr W716 fk860 C859.1))
 have fk862 := (Safe.wr W716 fk860 C859.1 fk860)
 have C863 := (C861.trans (CHr.wr W717 fk862 C861.1))
 have fk864 := (Safe.wr W717 fk862 C861.1 fk862)
 have C865 := (C863.trans (CHr.wr W718 fk864 C863.1))
 have fk866 := (Safe.wr W718 fk864 C863.1 fk864)
 have C867 := (C865.trans (CHr.wr W719 fk866 C865.1))
 have fk868 := (Safe.wr W719 fk866 C865.1 fk866)
 have C869 := (C867.trans (CHr.wr W721 fk868 C867.1))
 have fk870 := (Safe.wr W721 fk868 C867.1 fk868)
 have C871 := (C869.trans (CHr.wr W722 fk870 C869.1))
 have fk872 := (Safe.wr W722 fk870 C869.1 fk870)
 have C873 := (C871.trans (CHr.wr W723 fk872 C871.1))
 have fk874 := (Safe.wr W723 fk872 C871.1 fk872)
 have C875 := (C873.trans (CHr.wr W724 fk874 C873.1))
 have fk876 := (Safe.wr W724 fk874 C873.1 fk874)
 have C877 := (C875.trans (CHr.wr W726 fk876 C875.1))
 have fk878 := (Safe.wr W726 fk876 C875.1 fk876)
 have C879 := (C877.trans (CHr.wr W727 fk878 C877.1))
 have fk880 := (Safe.wr W727 fk878 C877.1 fk878)
 have C881 := (C879.trans (CHr.wr W728 fk880 C879.1))
 have fk882 := (Safe.wr W728 fk880 C879.1 fk880)
 have C883 := (C881.trans (CHr.wr W729 fk882 C881.1))
 have fk884 := (Safe.wr W729 fk882 C881.1 fk882)
 have C885 := (C883.trans (CHr.wr W731 fk884 C883.1))
 have fk886 := (Safe.wr W731 fk884 C883.1 fk884)
 have C887 := (C885.trans (CHr.wr W732 fk886 C885.1))
 have fk888 := (Safe.wr W732 fk886 C885.1 fk886)
 have C889 := (C887.trans (CHr.wr W733 fk888 C887.1))
 have fk890 := (Safe.wr W733 fk888 C887.1 fk888)
 have C891 := (C889.trans (CHr.wr W734 fk890 C889.1))
 have fk892 := (Safe.wr W734 fk890 C889.1 fk890)
 have C893 := (C891.trans (CHr.wr W736 fk892 C891.1))
 have fk894 := (Safe.wr W736 fk892 C891.1 fk892)
 have C895 := (C893.trans (CHr.wr W737 fk894 C893.1))
 have fk896 := (Safe.wr W737 fk894 C893.1 fk894)
 have C897 := (C895.trans (CHr.wr W738 fk896 C895.1))
 have fk898 := (Safe.wr W738 fk896 C895.1 fk896)
 have C899 := (C897.trans (CHr.wr W739 fk898 C897.1))
 have fk900 := (Safe.wr W739 fk898 C897.1 fk898)
 have C901 := (C899.trans (CHr.wr W741 fk900 C899.1))
 have fk902 := (Safe.wr W741 fk900 C899.1 fk900)
 have C903 := (C901.trans (CHr.wr W742 fk902 C901.1))
 have C904 := (C903.trans (CHr.ext E743 C903.1))
 have fk905 := (Safe.ext E743 C903.1 (Safe.new (Nat.le_of_eq g743.symm) : Safe Z EL0 s.vm h742 b743))
 have C906 := (C904.trans (CHr.keep K782 (sfS fk905 sf0) C904.1))
 have hk907 := (Nat.le_trans (Nat.le_trans (Nat.le_trans (Nat.le_trans (Nat.le_trans (Nat.le_trans (Nat.le_trans (Nat.le_trans (Nat.le_trans (Nat.le_trans (Nat.le_trans (Nat.le_trans (Nat.le_trans (Nat.le_trans (Nat.le_trans (Nat.le_trans (Nat.le_trans (Nat.le_trans (Nat.le_trans (Nat.le_trans (Nat.le_trans (Nat.le_trans (Nat.le_trans (Nat.le_trans (Nat.le_trans (Nat.le_trans (Nat.le_trans (Nat.le_trans (Nat.le_trans (Nat.le_trans (Nat.le_trans (Nat.le_trans (Nat.le_trans (Nat.le_trans (Nat.le_trans (Nat.le_trans (Nat.le_trans (Nat.le_trans (Nat.le_trans (Nat.le_refl _) E661.1) E662.1) (Keep.of_wr W670).1) (Keep.of_wr W675).1) (Keep.of_wr W680).1) (Keep.of_wr W686).1) K702.1) E703.1) (Keep.of_wr W707).1) (Keep.of_wr W708).1) (Keep.of_wr W709).1) (Keep.of_wr W711).1) (Keep.of_wr W712).1) (Keep.of_wr W713).1) (Keep.of_wr W714).1) (Keep.of_wr W716).1) (Keep.of_wr W717).1) (Keep.of_wr W718).1) (Keep.of_wr W719).1) (Keep.of_wr W721).1) (Keep.of_wr W722).1) (Keep.of_wr W723).1) (Keep.of_wr W724).1) (Keep.of_wr W726).1) (Keep.of_wr W727).1) (Keep.of_wr W728).1) (Keep.of_wr W729).1) (Keep.of_wr W731).1) (Keep.of_wr W732).1) (Keep.of_wr W733).1) (Keep.of_wr W734).1) (Keep.of_wr W736).1) (Keep.of_wr W737).1) (Keep.of_wr W738).1) (Keep.of_wr W739).1) (Keep.of_wr W741).1) (Keep.of_wr W742).1) E743.1) K782.1)
 refine Go.callVW X782 hx hZ hown (tw_45 hw) (tw_46 hw) (notFace_of_selects (args := #[]) (mvT hZ (tw_48 hw))) (tw_48 hw) (tw_47 hw) (by decide) (tw_49 hw) (tw_36 hw) (au_88 l Z a0 hw b743 b661 b702_0 k702_0 z702_0 z702_1 z702_2 z702_3 gz1 gv5 h782 n0 Zn783 O817 G F782_0 F782_1 F782_2 fk818 fk822 fk823 fk827) (own_EW hw) C906.1 all0 hS0 hk907 e782 F782_0 (argsL := []) (rest := []) 450 rfl (hml ▸ rfl) (lenOf pd_26 rfl) rfl rfl (W := 0) (nE rfl) (by decide) (by decide) (by decide) (by decide) (hb hby at_447) ?_
 intro v908 T908 L908 h908 e908 q908 C908 S908 Z908 O908 X908
 obtain ⟨b908_0, b908_1, k908_0, rfl, N908, K908, s908_0, s908_1, n908_0, y908_0, y908_1, F908_0, F908_1, F908_2, F908_3, F908_4⟩ := q908
 show Go _ _ _ _ (T908.setTop (mkF m 450 #[vI p0, vI p1, vI p2, vI 1, vI 0, vI 110, vI 117, vI 108, vI 108, vI z657_0, vI z658_0, vI z659_0, vI z660_0, .val .null, vR b661, vR b703, uS] [.ref b908_0]))
 refine Go.astore X908 hx 452 rfl (hb hby at_450) (Ls' := #[vI p0, vI p1, vI p2, vI 1, vI 0, vI 110, vI 117, vI 108, vI 108, vI z657_0, vI z658_0, vI z659_0, vI z660_0, .val .null, vR b661, vR b703, vR b908_0]) rfl rfl ?_
 refine Go.new X908 hx Z908 O908 (tw_4 hw) (tw_5 hw) (tw_6 hw) e908 (by decide) (by decide) 455 rfl (hb hby at_452) ?_
 intro T909 h909 b909 e909 E909 g909 A909 D909 X909
 have b909_coder : Fld Z h909 b909 s1 s4 "B" (.int 0) := D909 (Or.inr (tw_31 hw)) (ty := .byte) (by decide)
 have b909_value : Fld Z h909 b909 s1 s5 "[B" .null := D909 (Or.inr (tw_33 hw)) (ty := (.array .byte)) (by decide)
 refine Go.dup X909 hx 456 rfl (hb hby at_455) rfl ?_
 refine Go.aload X909 hx 458 rfl (hb hby at_456) rfl rfl ?_
 have Kp911 := (Kp784.trans K908 all0)
 have Kp912 := (Kp911.ext E909)
 have Zn910 := Nat.le_trans Z0 Kp912.1
 have O913 := (O817.keep K908 all0)
 have O914 := (O913.ext E909)
 have V915 : Arv Z h742 b703 k703 .char (29 : Int32) [.int 69, .int 84, .int 97, .int 103, .int 32, .int 110, .int 117, .int 108, .int 108, .int 44, .int 32, .int 76, .int 97, .int 115, .int 116, .int 45, .int 77, .int 111, .int 100, .int 105, .int 102, .int 105, .int 101, .int 100, .int 32, .int z657_0, .int z658_0, .int z659_0, .int z660_0] (.int 0) := V742
 have fk917 := (((((((((((((((((((((((((((((A703.wr W707).wr W708).wr W709).wr W711).wr W712).wr W713).wr W714).wr W716).wr W717).wr W718).wr W719).wr W721).wr W722).wr W723).wr W724).wr W726).wr W727).wr W728).wr W729).wr W731).wr W732).wr W733).wr W734).wr W736).wr W737).wr W738).wr W739).wr W741).wr W742)
 have ne916 := Nat.ne_of_lt (Nat.lt_of_lt_of_le fk917.lt (Nat.le_of_eq g743.symm))
 have fk918 := ((((V915.ext E743).keep K782 (ninS ne916 nin0)).keep K908 nin0).ext E909)
 have sz920 := Nat.le_trans Kp911.1 (Nat.le_of_eq g909.symm)
 have ge919 := Nat.le_trans Z0 sz920
 refine Go.callN X909 hx Z908 O908 rfl (tw_8 hw) (tw_9 hw) (tw_10 hw) (by decide) (tw_10 hw) (tw_6 hw) (au_116 l Z a0 hw b909 b703 k703 z657_0 z658_0 z659_0 z660_0 gz1 gv5 h909 n0 Zn910 O914 G A909 b909_coder b909_value fk918 r669 r674 r679 r685 ge919) e909 (a := b909) (argsL := [.ref b703]) (rest := [.ref b909]) 461 rfl (hml ▸ rfl) (lenOf pd_5 rfl) rfl rfl (W := 1) (nE rfl) (by decide) (by decide) (by decide) (by decide) (hb hby at_458) ?_
 intro v921 T921 L921 q921 X921
 obtain ⟨h921, e921⟩ : ∃ z, T921.heap = z := ⟨_, rfl⟩
 rw [e921] at q921
 obtain ⟨z921_0, z921_1, z921_2, z921_3, b921_0, k921_0, d921_0, d921_1, d921_2, d921_3, rfl, N921, K921, s921_0, F921_0, F921_1, F921_2, F921_3, F921_4⟩ := q921
 have e921_z921_0 : z702_0 = z921_0 := d702_0.symm.trans d921_0
 subst e921_z921_0
 have e921_z921_1 : z702_1 = z921_1 := d702_1.symm.trans d921_1
 subst e921_z921_1
 have e921_z921_2 : z702_2 = z921_2 := d702_2.symm.trans d921_2
 subst e921_z921_2
 have e921_z921_3 : z702_3 = z921_3 := d702_3.symm.trans d921_3
 subst e921_z921_3
 show Go _ _ _ _ (T921.setTop (mkF m 461 #[vI p0, vI p1, vI p2, vI 1, vI 0, vI 110, vI 117, vI 108, vI 108, vI z657_0, vI z658_0, vI z659_0, vI z660_0, .val .null, vR b661, vR b703, vR b908_0] [.ref b909]))
 refine Go.aload X921 hx 463 rfl (hb hby at_461) rfl rfl ?_
 have Kp923 := (Kp912.trans K921 (allS (Or.inr sz920) all0))
 have Zn922 := Nat.le_trans Z0 Kp923.1
 have O924 := (O914.keep K921 (allS ge919 all0))
 have fk925 := ((F908_0.ext E909).keep K921)
 have ne926 := Nat.ne_of_lt (Nat.lt_of_lt_of_le F908_0.lt (Nat.le_of_eq g909.symm))
 have fk927 := ((F908_1.ext E909).keep K921 (ninS ne926 nin0))
 have fk928 := ((F908_2.ext E909).keep K921 (ninS ne926 nin0))
 have ne929 := Nat.ne_of_lt (Nat.lt_of_lt_of_le F908_3.lt (Nat.le_of_eq g909.symm))
 have fk930 := ((F908_3.ext E909).keep K921 (ninS ne929 nin0))
 refine Go.callV X921 hx Z908 O908 (tw_181 hw) (tw_182 hw) (notFace_of_selects (args := #[]) (mvT Z908 (tw_184 hw))) (tw_184 hw) (tw_183 hw) (by decide) (tw_185 hw) (tw_6 hw) (au_120 l Z a0 hw b909 b908_0 b921_0 b908_1 k921_0 z702_0 z702_1 z702_2 z702_3 k908_0 gz1 gv5 h921 n0 Zn922 O924 G F921_1 F921_2 fk925 fk927 fk928 F921_3 fk930 (Ne.symm ne926)) e921 F921_0 (argsL := [.ref b908_0]) (rest := []) 466 rfl (hml ▸ rfl) (lenOf pd_28 rfl) rfl rfl (W := 0) (nE rfl) (by decide) (by decide) (by decide) (by decide) (hb hby at_463) ?_
 intro v931 T931 L931 q931 X931
 obtain ⟨rfl, N931, e931⟩ := q931
 show Go _ _ _ _ (T931.setTop (mkF m 466 #[vI p0, vI p1, vI p2, vI 1, vI 0, vI 110, vI 117, vI 108, vI 108, vI z657_0, vI z658_0, vI z659_0, vI z660_0, .val .null, vR b661, vR b703, vR b908_0] [.int 1]))
 have C932 := (C906.trans C908)
 have C933 := (C932.trans (CHr.ext E909 C932.1))
 have fk934 := (Safe.ext E909 C932.1 (Safe.new (Nat.le_of_eq g909.symm) : Safe Z EL0 T908.vm h908 b909))
 have C935 := (C933.trans (CHr.keep K921 (sfS fk934 sf0) C933.1))
 have hk936 := (Nat.le_trans (Nat.le_trans (Nat.le_refl _) E909.1) K921.1)
 refine Go.retNW X931 hx hlk Z908 (own_EW hw) e931 S908 hk936 C935 (t := .boolean) hret (by simp) (hb hby at_466) (by decide) (by decide) (fun hat => ?_)
 exact ⟨rfl, (Fr.app (Fr.app (Fr.app (Fr.app N742 N782) N908) N921) N931)⟩
 refine Go.ifNo X0 hx 18 rfl (hb hby at_15) (feq hc656).1 ?_
 refine Go.iconst X0 hx 19 rfl (hb hby at_18) (v := (1 : Int32)) rfl ?_
 refine Go.goto X0 hx 23 (hb hby at_19) (by decide) (by decide) ?_
 refine Go.istore X0 hx 25 rfl (hb hby at_23) (Ls' := #[vI p0, vI p1, vI p2, vI 1, vI 1, uS, uS, uS, uS, uS, uS, uS, uS, uS, uS, uS, uS]) rfl ?_
 refine Go.iloadN X0 hx 26 rfl (hb hby at_25) rfl ?_
 refine Go.ifNo X0 hx 29 rfl (hb hby at_26) (by decide) ?_
 refine Go.bipush X0 hx 31 rfl (hb hby at_29) (v := (110 : Int32)) (by decide) ?_
 refine Go.goto X0 hx 39 (hb hby at_31) (by decide) (by decide) ?_
 refine Go.istore X0 hx 41 rfl (hb hby at_39) (Ls' := #[vI p0, vI p1, vI p2, vI 1, vI 1, vI 110, uS, uS, uS, uS, uS, uS, uS, uS, uS, uS, uS]) rfl ?_
 refine Go.iloadN X0 hx 42 rfl (hb hby at_41) rfl ?_
 refine Go.ifNo X0 hx 45 rfl (hb hby at_42) (by decide) ?_
 refine Go.bipush X0 hx 47 rfl (hb hby at_45) (v := (117 : Int32)) (by decide) ?_
 refine Go.goto X0 hx 55 (hb hby at_47) (by decide) (by decide) ?_
 refine Go.istore X0 hx 57 rfl (hb hby at_55) (Ls' := #[vI p0, vI p1, vI p2, vI 1, vI 1, vI 110, vI 117, uS, uS, uS, uS, uS, uS, uS, uS, uS, uS]) rfl ?_
 refine Go.iloadN X0 hx 58 rfl (hb hby at_57) rfl ?_
 refine Go.ifNo X0 hx 61 rfl (hb hby at_58) (by decide) ?_
 refine Go.bipush X0 hx 63 rfl (hb hby at_61) (v := (108 : Int32)) (by decide) ?_
 refine Go.goto X0 hx 71 (hb hby at_63) (by decide) (by decide) ?_
 refine Go.istore X0 hx 73 rfl (hb hby at_71) (Ls' := #[vI p0, vI p1, vI p2, vI 1, vI 1, vI 110, vI 117, vI 108, uS, uS, uS, uS, uS, uS, uS, uS, uS]) rfl ?_
 refine Go.iloadN X0 hx 74 rfl (hb hby at_73) rfl ?_
 refine Go.ifNo X0 hx 77 rfl (hb hby at_74) (by decide) ?_
 refine Go.bipush X0 hx 79 rfl (hb hby at_77) (v := (108 : Int32)) (by decide) ?_
 refine Go.goto X0 hx 87 (hb hby at_79) (by decide) (by decide) ?_
 refine Go.istore X0 hx 89 rfl (hb hby at_87) (Ls' := #[vI p0, vI p1, vI p2, vI 1, vI 1, vI 110, vI 117, vI 108, vI 108, uS, uS, uS, uS, uS, uS, uS, uS]) rfl ?_
 refine Go.iload X0 hx 91 rfl (hb hby at_89) rfl ?_
 refine Go.ifNo X0 hx 94 rfl (hb hby at_91) (by decide) ?_
 refine Go.bipush X0 hx 96 rfl (hb hby at_94) (v := (110 : Int32)) (by decide) ?_
 refine Go.goto X0 hx 104 (hb hby at_96) (by decide) (by decide) ?_
 refine Go.istore X0 hx 106 rfl (hb hby at_104) (Ls' := #[vI p0, vI p1, vI p2, vI 1, vI 1, vI 110, vI 117, vI 108, vI 108, vI 110, uS, uS, uS, uS, uS, uS, uS]) rfl ?_
 refine Go.iload X0 hx 108 rfl (hb hby at_106) rfl ?_
 refine Go.ifNo X0 hx 111 rfl (hb hby at_108) (by decide) ?_
 refine Go.bipush X0 hx 113 rfl (hb hby at_111) (v := (117 : Int32)) (by decide) ?_
 refine Go.goto X0 hx 121 (hb hby at_113) (by decide) (by decide) ?_
 refine Go.istore X0 hx 123 rfl (hb hby at_121) (Ls' := #[vI p0, vI p1, vI p2, vI 1, vI 1, vI 110, vI 117, vI 108, vI 108, vI 110, vI 117, uS, uS, uS, uS, uS, uS]) rfl ?_
 refine Go.iload X0 hx 125 rfl (hb hby at_123) rfl ?_
 refine Go.ifNo X0 hx 128 rfl (hb hby at_125) (by decide) ?_
 refine Go.bipush X0 hx 130 rfl (hb hby at_128) (v := (108 : Int32)) (by decide) ?_
 refine Go.goto X0 hx 138 (hb hby at_130) (by decide) (by decide) ?_
 refine Go.istore X0 hx 140 rfl (hb hby at_138) (Ls' := #[vI p0, vI p1, vI p2, vI 1, vI 1, vI 110, vI 117, vI 108, vI 108, vI 110, vI 117, vI 108, uS, uS, uS, uS, uS]) rfl ?_
 refine Go.iload X0 hx 142 rfl (hb hby at_140) rfl ?_
 refine Go.ifNo X0 hx 145 rfl (hb hby at_142) (by decide) ?_
 refine Go.bipush X0 hx 147 rfl (hb hby at_145) (v := (108 : Int32)) (by decide) ?_
 refine Go.goto X0 hx 155 (hb hby at_147) (by decide) (by decide) ?_
 refine Go.istore X0 hx 157 rfl (hb hby at_155) (Ls' := #[vI p0, vI p1, vI p2, vI 1, vI 1, vI 110, vI 117, vI 108, vI 108, vI 110, vI 117, vI 108, vI 108, uS, uS, uS, uS]) rfl ?_
 refine Go.iloadN X0 hx 158 rfl (hb hby at_157) rfl ?_
 refine Go.ifNo X0 hx 161 rfl (hb hby at_158) (by decide) ?_
 refine Go.anull X0 hx 162 rfl (hb hby at_161) ?_
 refine Go.goto X0 hx 207 (hb hby at_162) (by decide) (by decide) ?_
 refine Go.astore X0 hx 209 rfl (hb hby at_207) (Ls' := #[vI p0, vI p1, vI p2, vI 1, vI 1, vI 110, vI 117, vI 108, vI 108, vI 110, vI 117, vI 108, vI 108, .val .null, uS, uS, uS]) rfl rfl ?_
 refine Go.iload X0 hx 211 rfl (hb hby at_209) rfl ?_
 refine Go.ifNo X0 hx 214 rfl (hb hby at_211) (by decide) ?_
 refine Go.anull X0 hx 215 rfl (hb hby at_214) ?_
 refine Go.goto X0 hx 260 (hb hby at_215) (by decide) (by decide) ?_
 refine Go.astore X0 hx 262 rfl (hb hby at_260) (Ls' := #[vI p0, vI p1, vI p2, vI 1, vI 1, vI 110, vI 117, vI 108, vI 108, vI 110, vI 117, vI 108, vI 108, .val .null, .val .null, uS, uS]) rfl rfl ?_
 refine Go.bipush X0 hx 264 rfl (hb hby at_262) (v := (29 : Int32)) (by decide) ?_
 refine Go.newarray X0 hx hZ (ty := .char) rfl (tw_7 hw) e0 (by decide) (cap := 29) (by decide) (by decide) (by decide) (by decide) (ad := "[C") (by decide) 29 266 rfl (hb hby at_264) ?_
 intro T937 h937 b937 k937 e937 E937 g937 V937 A937 X937
 have V937' : Arv Z h937 b937 k937 .char (29 : Int32) [.int 0, .int 0, .int 0, .int 0, .int 0, .int 0, .int 0, .int 0, .int 0, .int 0, .int 0, .int 0, .int 0, .int 0, .int 0, .int 0, .int 0, .int 0, .int 0, .int 0, .int 0, .int 0, .int 0, .int 0, .int 0, .int 0, .int 0, .int 0, .int 0] (.int 0) := V937
 refine Go.dup X937 hx 267 rfl (hb hby at_266) rfl ?_
 refine Go.iconst X937 hx 268 rfl (hb hby at_267) (v := (0 : Int32)) rfl ?_
 refine Go.bipush X937 hx 270 rfl (hb hby at_268) (v := (69 : Int32)) (by decide) ?_
 have sz939 := Nat.le_trans (Keep.refl h0 []).1 (Nat.le_of_eq g937.symm)
 have ge938 := Nat.le_trans Z0 sz939
 refine Go.castore X937 hx hZ e937 V937' (69 : Int32) rfl ⟨by decide, by decide⟩ 0 rfl (nB rfl) 271 rfl (hb hby at_270) ?_
 intro T940 h940 e940 W940 V940 X940
 have N940 := Fr.snoc X940 (Fr.nil n0) ge938
 refine Go.dup X940 hx 272 rfl (hb hby at_271) rfl ?_
 refine Go.iconst X940 hx 273 rfl (hb hby at_272) (v := (1 : Int32)) rfl ?_
 refine Go.bipush X940 hx 275 rfl (hb hby at_273) (v := (84 : Int32)) (by decide) ?_
 refine Go.castore X940 hx hZ e940 V940 (84 : Int32) rfl ⟨by decide, by decide⟩ 1 rfl (nB rfl) 276 rfl (hb hby at_275) ?_
 intro T941 h941 e941 W941 V941 X941
 have N941 := Fr.snoc X941 N940 ge938
 refine Go.dup X941 hx 277 rfl (hb hby at_276) rfl ?_
 refine Go.iconst X941 hx 278 rfl (hb hby at_277) (v := (2 : Int32)) rfl ?_
 refine Go.bipush X941 hx 280 rfl (hb hby at_278) (v := (97 : Int32)) (by decide) ?_
 refine Go.castore X941 hx hZ e941 V941 (97 : Int32) rfl ⟨by decide, by decide⟩ 2 rfl (nB rfl) 281 rfl (hb hby at_280) ?_
 intro T942 h942 e942 W942 V942 X942
 have N942 := Fr.snoc X942 N941 ge938
 refine Go.dup X942 hx 282 rfl (hb hby at_281) rfl ?_
 refine Go.iconst X942 hx 283 rfl (hb hby at_282) (v := (3 : Int32)) rfl ?_
 refine Go.bipush X942 hx 285 rfl (hb hby at_283) (v := (103 : Int32)) (by decide) ?_
 have V943 : Arv Z h942 b937 k937 .char (29 : Int32) [.int 69, .int 84, .int 97, .int 0, .int 0, .int 0, .int 0, .int 0, .int 0, .int 0, .int 0, .int 0, .int 0, .int 0, .int 0, .int 0, .int 0, .int 0, .int 0, .int 0, .int 0, .int 0, .int 0, .int 0, .int 0, .int 0, .int 0, .int 0, .int 0] (.int 0) := V942
 refine Go.castore X942 hx hZ e942 V943 (103 : Int32) rfl ⟨by decide, by decide⟩ 3 rfl (nB rfl) 286 rfl (hb hby at_285) ?_
 intro T944 h944 e944 W944 V944 X944
 have N944 := Fr.snoc X944 N942 ge938
 refine Go.dup X944 hx 287 rfl (hb hby at_286) rfl ?_
 refine Go.iconst X944 hx 288 rfl (hb hby at_287) (v := (4 : Int32)) rfl ?_
 refine Go.bipush X944 hx 290 rfl (hb hby at_288) (v := (32 : Int32)) (by decide) ?_
 refine Go.castore X944 hx hZ e944 V944 (32 : Int32) rfl ⟨by decide, by decide⟩ 4 rfl (nB rfl) 291 rfl (hb hby at_290) ?_
 intro T945 h945 e945 W945 V945 X945
 have N945 := Fr.snoc X945 N944 ge938
 refine Go.dup X945 hx 292 rfl (hb hby at_291) rfl ?_
 refine Go.iconst X945 hx 293 rfl (hb hby at_292) (v := (5 : Int32)) rfl ?_
 refine Go.iload X945 hx 295 rfl (hb hby at_293) rfl ?_
 refine Go.castore X945 hx hZ e945 V945 (110 : Int32) rfl ⟨by decide, by decide⟩ 5 rfl (nB rfl) 296 rfl (hb hby at_295) ?_
 intro T946 h946 e946 W946 V946 X946
 have N946 := Fr.snoc X946 N945 ge938
 refine Go.dup X946 hx 297 rfl (hb hby at_296) rfl ?_
 refine Go.bipush X946 hx 299 rfl (hb hby at_297) (v := (6 : Int32)) (by decide) ?_
 refine Go.iload X946 hx 301 rfl (hb hby at_299) rfl ?_
 refine Go.castore X946 hx hZ e946 V946 (117 : Int32) rfl ⟨by decide, by decide⟩ 6 rfl (nB rfl) 302 rfl (hb hby at_301) ?_
 intro T947 h947 e947 W947 V947 X947
 have N947 := Fr.snoc X947 N946 ge938
 refine Go.dup X947 hx 303 rfl (hb hby at_302) rfl ?_
 refine Go.bipush X947 hx 305 rfl (hb hby at_303) (v := (7 : Int32)) (by decide) ?_
 refine Go.iload X947 hx 307 rfl (hb hby at_305) rfl ?_
 have V948 : Arv Z h947 b937 k937 .char (29 : Int32) [.int 69, .int 84, .int 97, .int 103, .int 32, .int 110, .int 117, .int 0, .int 0, .int 0, .int 0, .int 0, .int 0, .int 0, .int 0, .int 0, .int 0, .int 0, .int 0, .int 0, .int 0, .int 0, .int 0, .int 0, .int 0, .int 0, .int 0, .int 0, .int 0] (.int 0) := V947
 refine Go.castore X947 hx hZ e947 V948 (108 : Int32) rfl ⟨by decide, by decide⟩ 7 rfl (nB rfl) 308 rfl (hb hby at_307) ?_
 intro T949 h949 e949 W949 V949 X949
 have N949 := Fr.snoc X949 N947 ge938
 refine Go.dup X949 hx 309 rfl (hb hby at_308) rfl ?_
 refine Go.bipush X949 hx 311 rfl (hb hby at_309) (v := (8 : Int32)) (by decide) ?_
 refine Go.iload X949 hx 313 rfl (hb hby at_311) rfl ?_
 refine Go.castore X949 hx hZ e949 V949 (108 : Int32) rfl ⟨by decide, by decide⟩ 8 rfl (nB rfl) 314 rfl (hb hby at_313) ?_
 intro T950 h950 e950 W950 V950 X950
 have N950 := Fr.snoc X950 N949 ge938
 refine Go.dup X950 hx 315 rfl (hb hby at_314) rfl ?_
 refine Go.bipush X950 hx 317 rfl (hb hby at_315) (v := (9 : Int32)) (by decide) ?_
 refine Go.bipush X950 hx 319 rfl (hb hby at_317) (v := (44 : Int32)) (by decide) ?_
 refine Go.castore X950 hx hZ e950 V950 (44 : Int32) rfl ⟨by decide, by decide⟩ 9 rfl (nB rfl) 320 rfl (hb hby at_319) ?_
 intro T951 h951 e951 W951 V951 X951
 have N951 := Fr.snoc X951 N950 ge938
 refine Go.dup X951 hx 321 rfl (hb hby at_320) rfl ?_
 refine Go.bipush X951 hx 323 rfl (hb hby at_321) (v := (10 : Int32)) (by decide) ?_
 refine Go.bipush X951 hx 325 rfl (hb hby at_323) (v := (32 : Int32)) (by decide) ?_
 refine Go.castore X951 hx hZ e951 V951 (32 : Int32) rfl ⟨by decide, by decide⟩ 10 rfl (nB rfl) 326 rfl (hb hby at_325) ?_
 intro T952 h952 e952 W952 V952 X952
 have N952 := Fr.snoc X952 N951 ge938
 refine Go.dup X952 hx 327 rfl (hb hby at_326) rfl ?_
 refine Go.bipush X952 hx 329 rfl (hb hby at_327) (v := (11 : Int32)) (by decide) ?_
 refine Go.bipush X952 hx 331 rfl (hb hby at_329) (v := (76 : Int32)) (by decide) ?_
 have V953 : Arv Z h952 b937 k937 .char (29 : Int32) [.int 69, .int 84, .int 97, .int 103, .int 32, .int 110, .int 117, .int 108, .int 108, .int 44, .int 32, .int 0, .int 0, .int 0, .int 0, .int 0, .int 0, .int 0, .int 0, .int 0, .int 0, .int 0, .int 0, .int 0, .int 0, .int 0, .int 0, .int 0, .int 0] (.int 0) := V952
 refine Go.castore X952 hx hZ e952 V953 (76 : Int32) rfl ⟨by decide, by decide⟩ 11 rfl (nB rfl) 332 rfl (hb hby at_331) ?_
 intro T954 h954 e954 W954 V954 X954
 have N954 := Fr.snoc X954 N952 ge938
 refine Go.dup X954 hx 333 rfl (hb hby at_332) rfl ?_
 refine Go.bipush X954 hx 335 rfl (hb hby at_333) (v := (12 : Int32)) (by decide) ?_
 refine Go.bipush X954 hx 337 rfl (hb hby at_335) (v := (97 : Int32)) (by decide) ?_
 refine Go.castore X954 hx hZ e954 V954 (97 : Int32) rfl ⟨by decide, by decide⟩ 12 rfl (nB rfl) 338 rfl (hb hby at_337) ?_
 intro T955 h955 e955 W955 V955 X955
 have N955 := Fr.snoc X955 N954 ge938
 refine Go.dup X955 hx 339 rfl (hb hby at_338) rfl ?_
 refine Go.bipush X955 hx 341 rfl (hb hby at_339) (v := (13 : Int32)) (by decide) ?_
 refine Go.bipush X955 hx 343 rfl (hb hby at_341) (v := (115 : Int32)) (by decide) ?_
 refine Go.castore X955 hx hZ e955 V955 (115 : Int32) rfl ⟨by decide, by decide⟩ 13 rfl (nB rfl) 344 rfl (hb hby at_343) ?_
 intro T956 h956 e956 W956 V956 X956
 have N956 := Fr.snoc X956 N955 ge938
 refine Go.dup X956 hx 345 rfl (hb hby at_344) rfl ?_
 refine Go.bipush X956 hx 347 rfl (hb hby at_345) (v := (14 : Int32)) (by decide) ?_
 refine Go.bipush X956 hx 349 rfl (hb hby at_347) (v := (116 : Int32)) (by decide) ?_
 refine Go.castore X956 hx hZ e956 V956 (116 : Int32) rfl ⟨by decide, by decide⟩ 14 rfl (nB rfl) 350 rfl (hb hby at_349) ?_
 intro T957 h957 e957 W957 V957 X957
 have N957 := Fr.snoc X957 N956 ge938
 refine Go.dup X957 hx 351 rfl (hb hby at_350) rfl ?_
 refine Go.bipush X957 hx 353 rfl (hb hby at_351) (v := (15 : Int32)) (by decide) ?_
 refine Go.bipush X957 hx 355 rfl (hb hby at_353) (v := (45 : Int32)) (by decide) ?_
 have V958 : Arv Z h957 b937 k937 .char (29 : Int32) [.int 69, .int 84, .int 97, .int 103, .int 32, .int 110, .int 117, .int 108, .int 108, .int 44, .int 32, .int 76, .int 97, .int 115, .int 116, .int 0, .int 0, .int 0, .int 0, .int 0, .int 0, .int 0, .int 0, .int 0, .int 0, .int 0, .int 0, .int 0, .int 0] (.int 0) := V957
 refine Go.castore X957 hx hZ e957 V958 (45 : Int32) rfl ⟨by decide, by decide⟩ 15 rfl (nB rfl) 356 rfl (hb hby at_355) ?_
 intro T959 h959 e959 W959 V959 X959
 have N959 := Fr.snoc X959 N957 ge938
 refine Go.dup X959 hx 357 rfl (hb hby at_356) rfl ?_
 refine Go.bipush X959 hx 359 rfl (hb hby at_357) (v := (16 : Int32)) (by decide) ?_
 refine Go.bipush X959 hx 361 rfl (hb hby at_359) (v := (77 : Int32)) (by decide) ?_
 refine Go.castore X959 hx hZ e959 V959 (77 : Int32) rfl ⟨by decide, by decide⟩ 16 rfl (nB rfl) 362 rfl (hb hby at_361) ?_
 intro T960 h960 e960 W960 V960 X960
 have N960 := Fr.snoc X960 N959 ge938
 refine Go.dup X960 hx 363 rfl (hb hby at_362) rfl ?_
 refine Go.bipush X960 hx 365 rfl (hb hby at_363) (v := (17 : Int32)) (by decide) ?_
 refine Go.bipush X960 hx 367 rfl (hb hby at_365) (v := (111 : Int32)) (by decide) ?_
 refine Go.castore X960 hx hZ e960 V960 (111 : Int32) rfl ⟨by decide, by decide⟩ 17 rfl (nB rfl) 368 rfl (hb hby at_367) ?_
 intro T961 h961 e961 W961 V961 X961
 have N961 := Fr.snoc X961 N960 ge938
 refine Go.dup X961 hx 369 rfl (hb hby at_368) rfl ?_
 refine Go.bipush X961 hx 371 rfl (hb hby at_369) (v := (18 : Int32)) (by decide) ?_
 refine Go.bipush X961 hx 373 rfl (hb hby at_371) (v := (100 : Int32)) (by decide) ?_
 refine Go.castore X961 hx hZ e961 V961 (100 : Int32) rfl ⟨by decide, by decide⟩ 18 rfl (nB rfl) 374 rfl (hb hby at_373) ?_
 intro T962 h962 e962 W962 V962 X962
 have N962 := Fr.snoc X962 N961 ge938
 refine Go.dup X962 hx 375 rfl (hb hby at_374) rfl ?_
 refine Go.bipush X962 hx 377 rfl (hb hby at_375) (v := (19 : Int32)) (by decide) ?_
 refine Go.bipush X962 hx 379 rfl (hb hby at_377) (v := (105 : Int32)) (by decide) ?_
 have V963 : Arv Z h962 b937 k937 .char (29 : Int32) [.int 69, .int 84, .int 97, .int 103, .int 32, .int 110, .int 117, .int 108, .int 108, .int 44, .int 32, .int 76, .int 97, .int 115, .int 116, .int 45, .int 77, .int 111, .int 100, .int 0, .int 0, .int 0, .int 0, .int 0, .int 0, .int 0, .int 0, .int 0, .int 0] (.int 0) := V962
 refine Go.castore X962 hx hZ e962 V963 (105 : Int32) rfl ⟨by decide, by decide⟩ 19 rfl (nB rfl) 380 rfl (hb hby at_379) ?_
 intro T964 h964 e964 W964 V964 X964
 have N964 := Fr.snoc X964 N962 ge938
 refine Go.dup X964 hx 381 rfl (hb hby at_380) rfl ?_
 refine Go.bipush X964 hx 383 rfl (hb hby at_381) (v := (20 : Int32)) (by decide) ?_
 refine Go.bipush X964 hx 385 rfl (hb hby at_383) (v := (102 : Int32)) (by decide) ?_
 refine Go.castore X964 hx hZ e964 V964 (102 : Int32) rfl ⟨by decide, by decide⟩ 20 rfl (nB rfl) 386 rfl (hb hby at_385) ?_
 intro T965 h965 e965 W965 V965 X965
 have N965 := Fr.snoc X965 N964 ge938
 refine Go.dup X965 hx 387 rfl (hb hby at_386) rfl ?_
 refine Go.bipush X965 hx 389 rfl (hb hby at_387) (v := (21 : Int32)) (by decide) ?_
 refine Go.bipush X965 hx 391 rfl (hb hby at_389) (v := (105 : Int32)) (by decide) ?_
 refine Go.castore X965 hx hZ e965 V965 (105 : Int32) rfl ⟨by decide, by decide⟩ 21 rfl (nB rfl) 392 rfl (hb hby at_391) ?_
 intro T966 h966 e966 W966 V966 X966
 have N966 := Fr.snoc X966 N965 ge938
 refine Go.dup X966 hx 393 rfl (hb hby at_392) rfl ?_
 refine Go.bipush X966 hx 395 rfl (hb hby at_393) (v := (22 : Int32)) (by decide) ?_
 refine Go.bipush X966 hx 397 rfl (hb hby at_395) (v := (101 : Int32)) (by decide) ?_
 refine Go.castore X966 hx hZ e966 V966 (101 : Int32) rfl ⟨by decide, by decide⟩ 22 rfl (nB rfl) 398 rfl (hb hby at_397) ?_
 intro T967 h967 e967 W967 V967 X967
 have N967 := Fr.snoc X967 N966 ge938
 refine Go.dup X967 hx 399 rfl (hb hby at_398) rfl ?_
 refine Go.bipush X967 hx 401 rfl (hb hby at_399) (v := (23 : Int32)) (by decide) ?_
 refine Go.bipush X967 hx 403 rfl (hb hby at_401) (v := (100 : Int32)) (by decide) ?_
 have V968 : Arv Z h967 b937 k937 .char (29 : Int32) [.int 69, .int 84, .int 97, .int 103, .int 32, .int 110, .int 117, .int 108, .int 108, .int 44, .int 32, .int 76, .int 97, .int 115, .int 116, .int 45, .int 77, .int 111, .int 100, .int 105, .int 102, .int 105, .int 101, .int 0, .int 0, .int 0, .int 0, .int 0, .int 0] (.int 0) := V967
 refine Go.castore X967 hx hZ e967 V968 (100 : Int32) rfl ⟨by decide, by decide⟩ 23 rfl (nB rfl) 404 rfl (hb hby at_403) ?_
 intro T969 h969 e969 W969 V969 X969
 have N969 := Fr.snoc X969 N967 ge938
 refine Go.dup X969 hx 405 rfl (hb hby at_404) rfl ?_
 refine Go.bipush X969 hx 407 rfl (hb hby at_405) (v := (24 : Int32)) (by decide) ?_
 refine Go.bipush X969 hx 409 rfl (hb hby at_407) (v := (32 : Int32)) (by decide) ?_
 refine Go.castore X969 hx hZ e969 V969 (32 : Int32) rfl ⟨by decide, by decide⟩ 24 rfl (nB rfl) 410 rfl (hb hby at_409) ?_
 intro T970 h970 e970 W970 V970 X970
 have N970 := Fr.snoc X970 N969 ge938
 refine Go.dup X970 hx 411 rfl (hb hby at_410) rfl ?_
 refine Go.bipush X970 hx 413 rfl (hb hby at_411) (v := (25 : Int32)) (by decide) ?_
 refine Go.iload X970 hx 415 rfl (hb hby at_413) rfl ?_
 refine Go.castore X970 hx hZ e970 V970 (110 : Int32) rfl ⟨by decide, by decide⟩ 25 rfl (nB rfl) 416 rfl (hb hby at_415) ?_
 intro T971 h971 e971 W971 V971 X971
 have N971 := Fr.snoc X971 N970 ge938
 refine Go.dup X971 hx 417 rfl (hb hby at_416) rfl ?_
 refine Go.bipush X971 hx 419 rfl (hb hby at_417) (v := (26 : Int32)) (by decide) ?_
 refine Go.iload X971 hx 421 rfl (hb hby at_419) rfl ?_
 refine Go.castore X971 hx hZ e971 V971 (117 : Int32) rfl ⟨by decide, by decide⟩ 26 rfl (nB rfl) 422 rfl (hb hby at_421) ?_
 intro T972 h972 e972 W972 V972 X972
 have N972 := Fr.snoc X972 N971 ge938
 refine Go.dup X972 hx 423 rfl (hb hby at_422) rfl ?_
 refine Go.bipush X972 hx 425 rfl (hb hby at_423) (v := (27 : Int32)) (by decide) ?_
 refine Go.iload X972 hx 427 rfl (hb hby at_425) rfl ?_
 have V973 : Arv Z h972 b937 k937 .char (29 : Int32) [.int 69, .int 84, .int 97, .int 103, .int 32, .int 110, .int 117, .int 108, .int 108, .int 44, .int 32, .int 76, .int 97, .int 115, .int 116, .int 45, .int 77, .int 111, .int 100, .int 105, .int 102, .int 105, .int 101, .int 100, .int 32, .int 110, .int 117, .int 0, .int 0] (.int 0) := V972
 refine Go.castore X972 hx hZ e972 V973 (108 : Int32) rfl ⟨by decide, by decide⟩ 27 rfl (nB rfl) 428 rfl (hb hby at_427) ?_
 intro T974 h974 e974 W974 V974 X974
 have N974 := Fr.snoc X974 N972 ge938
 refine Go.dup X974 hx 429 rfl (hb hby at_428) rfl ?_
 refine Go.bipush X974 hx 431 rfl (hb hby at_429) (v := (28 : Int32)) (by decide) ?_
 refine Go.iload X974 hx 433 rfl (hb hby at_431) rfl ?_
 refine Go.castore X974 hx hZ e974 V974 (108 : Int32) rfl ⟨by decide, by decide⟩ 28 rfl (nB rfl) 434 rfl (hb hby at_433) ?_
 intro T975 h975 e975 W975 V975 X975
 have N975 := Fr.snoc X975 N974 ge938
 refine Go.astore X975 hx 436 rfl (hb hby at_434) (Ls' := #[vI p0, vI p1, vI p2, vI 1, vI 1, vI 110, vI 117, vI 108, vI 108, vI 110, vI 117, vI 108, vI 108, .val .null, .val .null, vR b937, uS]) rfl rfl ?_
 refine Go.new X975 hx hZ hown (tw_34 hw) (tw_35 hw) (tw_36 hw) e975 (by decide) (by decide) 439 rfl (hb hby at_436) ?_
 intro T976 h976 b976 e976 E976 g976 A976 D976 X976
 have b976_etag : Fld Z h976 b976 s2 "etag" s6 .null := D976 (Or.inr (tw_42 hw)) (ty := (.object s1)) (by decide)
 have b976_lastModified : Fld Z h976 b976 s2 "lastModified" s6 .null := D976 (Or.inr (tw_44 hw)) (ty := (.object s1)) (by decide)
 refine Go.dup X976 hx 440 rfl (hb hby at_439) rfl ?_
 refine Go.aload X976 hx 442 rfl (hb hby at_440) rfl rfl ?_
 refine Go.aload X976 hx 444 rfl (hb hby at_442) rfl rfl ?_
 have Kp978 := ((Keep.refl h0 []).ext E937)
 have Kp979 := (Kp978.wr W940 (Or.inr sz939))
 have Kp980 := (Kp979.wr W941 (Or.inr sz939))
 have Kp981 := (Kp980.wr W942 (Or.inr sz939))
 have Kp982 := (Kp981.wr W944 (Or.inr sz939))
 have Kp983 := (Kp982.wr W945 (Or.inr sz939))
 have Kp984 := (Kp983.wr W946 (Or.inr sz939))
 have Kp985 := (Kp984.wr W947 (Or.inr sz939))
 have Kp986 := (Kp985.wr W949 (Or.inr sz939))
 have Kp987 := (Kp986.wr W950 (Or.inr sz939))
 have Kp988 := (Kp987.wr W951 (Or.inr sz939))
 have Kp989 := (Kp988.wr W952 (Or.inr sz939))
 have Kp990 := (Kp989.wr W954 (Or.inr sz939))
 have Kp991 := (Kp990.wr W955 (Or.inr sz939))
 have Kp992 := (Kp991.wr W956 (Or.inr sz939))
 have Kp993 := (Kp992.wr W957 (Or.inr sz939))
 have Kp994 := (Kp993.wr W959 (Or.inr sz939))
 have Kp995 := (Kp994.wr W960 (Or.inr sz939))
 have Kp996 := (Kp995.wr W961 (Or.inr sz939))
 have Kp997 := (Kp996.wr W962 (Or.inr sz939))
 have Kp998 := (Kp997.wr W964 (Or.inr sz939))
 have Kp999 := (Kp998.wr W965 (Or.inr sz939))
 have Kp1000 := (Kp999.wr W966 (Or.inr sz939))
 have Kp1001 := (Kp1000.wr W967 (Or.inr sz939))
 have Kp1002 := (Kp1001.wr W969 (Or.inr sz939))
 have Kp1003 := (Kp1002.wr W970 (Or.inr sz939))
 have Kp1004 := (Kp1003.wr W971 (Or.inr sz939))
 have Kp1005 := (Kp1004.wr W972 (Or.inr sz939))
 have Kp1006 := (Kp1005.wr W974 (Or.inr sz939))
 have Kp1007 := (Kp1006.wr W975 (Or.inr sz939))
 have Kp1008 := (Kp1007.ext E976)
 have Zn977 := Nat.le_trans Z0 Kp1008.1
 have sz1010 := Nat.le_trans Kp1007.1 (Nat.le_of_eq g976.symm)
 have ge1009 := Nat.le_trans Z0 sz1010
 refine Go.callN X976 hx hZ hown rfl (tw_37 hw) (tw_38 hw) (tw_39 hw) (by decide) (tw_39 hw) (tw_36 hw) (au_121 l Z a0 hw b976 h976 n0 Zn977 A976 b976_etag b976_lastModified ge1009) e976 (a := b976) (argsL := [.null, .null]) (rest := [.ref b976]) 447 rfl (hml ▸ rfl) (lenOf pd_6 rfl) rfl rfl (W := 1) (nE rfl) (by decide) (by decide) (by decide) (by decide) (hb hby at_444) ?_
 intro v1011 T1011 L1011 q1011 X1011
 obtain ⟨h1011, e1011⟩ : ∃ z, T1011.heap = z := ⟨_, rfl⟩
 rw [e1011] at q1011
 obtain ⟨rfl, N1011, K1011, F1011_0, F1011_1, F1011_2⟩ := q1011
 show Go _ _ _ _ (T1011.setTop (mkF m 447 #[vI p0, vI p1, vI p2, vI 1, vI 1, vI 110, vI 117, vI 108, vI 108, vI 110, vI 117, vI 108, vI 108, .val .null, .val .null, vR b937, uS] [.ref b976]))
 have Kp1013 := (Kp1008.trans K1011 (allS (Or.inr sz1010) all0))
 have Zn1012 := Nat.le_trans Z0 Kp1013.1
 have O1014 := (O0.ext E937)
 have O1015 := (O1014.wr W940 ge938)
 have O1016 := (O1015.wr W941 ge938)
 have O1017 := (O1016.wr W942 ge938)
 have O1018 := (O1017.wr W944 ge938)
 have O1019 := (O1018.wr W945 ge938)
 have O1020 := (O1019.wr W946 ge938)
 have O1021 := (O1020.wr W947 ge938)
 have O1022 := (O1021.wr W949 ge938)
 have O1023 := (O1022.wr W950 ge938)
 have O1024 := (O1023.wr W951 ge938)
 have O1025 := (O1024.wr W952 ge938)
 have O1026 := (O1025.wr W954 ge938)
 have O1027 := (O1026.wr W955 ge938)
 have O1028 := (O1027.wr W956 ge938)
 have O1029 := (O1028.wr W957 ge938)
 have O1030 := (O1029.wr W959 ge938)
 have O1031 := (O1030.wr W960 ge938)
 have O1032 := (O1031.wr W961 ge938)
 have O1033 := (O1032.wr W962 ge938)
 have O1034 := (O1033.wr W964 ge938)
 have O1035 := (O1034.wr W965 ge938)
 have O1036 := (O1035.wr W966 ge938)
 have O1037 := (O1036.wr W967 ge938)
 have O1038 := (O1037.wr W969 ge938)
 have O1039 := (O1038.wr W970 ge938)
 have O1040 := (O1039.wr W971 ge938)
 have O1041 := (O1040.wr W972 ge938)
 have O1042 := (O1041.wr W974 ge938)
 have O1043 := (O1042.wr W975 ge938)
 have O1044 := (O1043.ext E976)
 have O1045 := (O1044.keep K1011 (allS ge1009 all0))
 have C1046 := (C0.trans (CHr.ext E937 C0.1))
 have fk1047 := (Safe.ext E937 C0.1 (Safe.new (Nat.le_of_eq g937.symm) : Safe Z EL0 s.vm h0 b937))
 have C1048 := (C1046.trans (CHr.wr W940 fk1047 C1046.1))
 have fk1049 := (Safe.wr W940 fk1047 C1046.1 fk1047)
 have C1050 := (C1048.trans (CHr.wr W941 fk1049 C1048.1))
 have fk1051 := (Safe.wr W941 fk1049 C1048.1 fk1049)
 have C1052 := (C1050.trans (CHr.wr W942 fk1051 C1050.1))
 have fk1053 := (Safe.wr W942 fk1051 C1050.1 fk1051)
 have C1054 := (C1052.trans (CHr.wr W944 fk1053 C1052.1))
 have fk1055 := (Safe.wr W944 fk1053 C1052.1 fk1053)
 have C1056 := (C1054.trans (CHr.wr W945 fk1055 C1054.1))
 have fk1057 := (Safe.wr W945 fk1055 C1054.1 fk1055)
 have C1058 := (C1056.trans (CHr.wr W946 fk1057 C1056.1))
 have fk1059 := (Safe.wr W946 fk1057 C1056.1 fk1057)
 have C1060 := (C1058.trans (CHr.wr W947 fk1059 C1058.1))
 have fk1061 := (Safe.wr W947 fk1059 C1058.1 fk1059)
 have C1062 := (C1060.trans (CHr.wr W949 fk1061 C1060.1))
 have fk1063 := (Safe.wr W949 fk1061 C1060.1 fk1061)
 have C1064 := (C1062.trans (CHr.wr W950 fk1063 C1062.1))
 have fk1065 := (Safe.wr W950 fk1063 C1062.1 fk1063)
 have C1066 := (C1064.trans (CHr.wr W951 fk1065 C1064.1))
 have fk1067 := (Safe.wr W951 fk1065 C1064.1 fk1065)
 have C1068 := (C1066.trans (CHr.wr W952 fk1067 C1066.1))
 have fk1069 := (Safe.wr W952 fk1067 C1066.1 fk1067)
 have C1070 := (C1068.trans (CHr.wr W954 fk1069 C1068.1))
 have fk1071 := (Safe.wr W954 fk1069 C1068.1 fk1069)
 have C1072 := (C1070.trans (CHr.wr W955 fk1071 C1070.1))
 have fk1073 := (Safe.wr W955 fk1071 C1070.1 fk1071)
 have C1074 := (C1072.trans (CHr.wr W956 fk1073 C1072.1))
 have fk1075 := (Safe.wr W956 fk1073 C1072.1 fk1073)
 have C1076 := (C1074.trans (CHr.wr W957 fk1075 C1074.1))
 have fk1077 := (Safe.wr W957 fk1075 C1074.1 fk1075)
 have C1078 := (C1076.trans (CHr.wr W959 fk1077 C1076.1))
 have fk1079 := (Safe.wr W959 fk1077 C1076.1 fk1077)
 have C1080 := (C1078.trans (CHr.wr W960 fk1079 C1078.1))
 have fk1081 := (Safe.wr W960 fk1079 C1078.1 fk1079)
 have C1082 := (C1080.trans (CHr.wr W961 fk1081 C1080.1))
 have fk1083 := (Safe.wr W961 fk1081 C1080.1 fk1081)
 have C1084 := (C1082.trans (CHr.wr W962 fk1083 C1082.1))
 have fk1085 := (Safe.wr W962 fk1083 C1082.1 fk1083)
 have C1086 := (C1084.trans (CHr.wr W964 fk1085 C1084.1))
 have fk1087 := (Safe.wr W964 fk1085 C1084.1 fk1085)
 have C1088 := (C1086.trans (CHr.wr W965 fk1087 C1086.1))
 have fk1089 := (Safe.wr W965 fk1087 C1086.1 fk1087)
 have C1090 := (C1088.trans (CHr.wr W966 fk1089 C1088.1))
 have fk1091 := (Safe.wr W966 fk1089 C1088.1 fk1089)
 have C1092 := (C1090.trans (CHr.wr W967 fk1091 C1090.1))
 have fk1093 := (Safe.wr W967 fk1091 C1090.1 fk1091)
 have C1094 := (C1092.trans (CHr.wr W969 fk1093 C1092.1))
 have fk1095 := (Safe.wr W969 fk1093 C1092.1 fk1093)
 have C1096 := (C1094.trans (CHr.wr W970 fk1095 C1094.1))
 have fk1097 := (Safe.wr W970 fk1095 C1094.1 fk1095)
 have C1098 := (C1096.trans (CHr.wr W971 fk1097 C1096.1))
 have fk1099 := (Safe.wr W971 fk1097 C1096.1 fk1097)
 have C1100 := (C1098.trans (CHr.wr W972 fk1099 C1098.1))
 have fk1101 := (Safe.wr W972 fk1099 C1098.1 fk1099)
 have C1102 := (C1100.trans (CHr.wr W974 fk1101 C1100.1))
 have fk1103 := (Safe.wr W974 fk1101 C1100.1 fk1101)
 have C1104 := (C1102.trans (CHr.wr W975 fk1103 C1102.1))
 have C1105 := (C1104.trans (CHr.ext E976 C1104.1))
 have fk1106 := (Safe.ext E976 C1104.1 (Safe.new (Nat.le_of_eq g976.symm) : Safe Z EL0 s.vm h975 b976))
 have C1107 := (C1105.trans (CHr.keep K1011 (sfS fk1106 sf0) C1105.1))
 have hk1108 := (Nat.le_trans (Nat.le_trans (Nat.le_trans (Nat.le_trans (Nat.le_trans (Nat.le_trans (Nat.le_trans (Nat.le_trans (Nat.le_trans (Nat.le_trans (Nat.le_trans (Nat.le_trans (Nat.le_trans (Nat.le_trans (Nat.le_trans (Nat.le_trans (Nat.le_trans (Nat.le_trans (Nat.le_trans (Nat.le_trans (Nat.le_trans (Nat.le_trans (Nat.le_trans (Nat.le_trans (Nat.le_trans (Nat.le_trans (Nat.le_trans (Nat.le_trans (Nat.le_trans (Nat.le_trans (Nat.le_trans (Nat.le_trans (Nat.le_refl _) E937.1) (Keep.of_wr W940).1) (Keep.of_wr W941).1) (Keep.of_wr W942).1) (Keep.of_wr W944).1) (Keep.of_wr W945).1) (Keep.of_wr W946).1) (Keep.of_wr W947).1) (Keep.of_wr W949).1) (Keep.of_wr W950).1) (Keep.of_wr W951).1) (Keep.of_wr W952).1) (Keep.of_wr W954).1) (Keep.of_wr W955).1) (Keep.of_wr W956).1) (Keep.of_wr W957).1) (Keep.of_wr W959).1) (Keep.of_wr W960).1) (Keep.of_wr W961).1) (Keep.of_wr W962).1) (Keep.of_wr W964).1) (Keep.of_wr W965).1) (Keep.of_wr W966).1) (Keep.of_wr W967).1) (Keep.of_wr W969).1) (Keep.of_wr W970).1) (Keep.of_wr W971).1) (Keep.of_wr W972).1) (Keep.of_wr W974).1) (Keep.of_wr W975).1) E976.1) K1011.1)
 refine Go.callVW X1011 hx hZ hown (tw_45 hw) (tw_46 hw) (notFace_of_selects (args := #[]) (mvT hZ (tw_48 hw))) (tw_48 hw) (tw_47 hw) (by decide) (tw_49 hw) (tw_36 hw) (au_123 l Z a0 hw b976 gz1 gv5 h1011 n0 Zn1012 O1045 G F1011_0 F1011_1 F1011_2) (own_EW hw) C1107.1 all0 hS0 hk1108 e1011 F1011_0 (argsL := []) (rest := []) 450 rfl (hml ▸ rfl) (lenOf pd_26 rfl) rfl rfl (W := 0) (nE rfl) (by decide) (by decide) (by decide) (by decide) (hb hby at_447) ?_
 intro v1109 T1109 L1109 h1109 e1109 q1109 C1109 S1109 Z1109 O1109 X1109
 obtain ⟨b1109_0, b1109_1, k1109_0, rfl, N1109, K1109, s1109_0, s1109_1, n1109_0, y1109_0, y1109_1, F1109_0, F1109_1, F1109_2, F1109_3, F1109_4⟩ := q1109
 show Go _ _ _ _ (T1109.setTop (mkF m 450 #[vI p0, vI p1, vI p2, vI 1, vI 1, vI 110, vI 117, vI 108, vI 108, vI 110, vI 117, vI 108, vI 108, .val .null, .val .null, vR b937, uS] [.ref b1109_0]))
 refine Go.astore X1109 hx 452 rfl (hb hby at_450) (Ls' := #[vI p0, vI p1, vI p2, vI 1, vI 1, vI 110, vI 117, vI 108, vI 108, vI 110, vI 117, vI 108, vI 108, .val .null, .val .null, vR b937, vR b1109_0]) rfl rfl ?_
 refine Go.new X1109 hx Z1109 O1109 (tw_4 hw) (tw_5 hw) (tw_6 hw) e1109 (by decide) (by decide) 455 rfl (hb hby at_452) ?_
 intro T1110 h1110 b1110 e1110 E1110 g1110 A1110 D1110 X1110
 have b1110_coder : Fld Z h1110 b1110 s1 s4 "B" (.int 0) := D1110 (Or.inr (tw_31 hw)) (ty := .byte) (by decide)
 have b1110_value : Fld Z h1110 b1110 s1 s5 "[B" .null := D1110 (Or.inr (tw_33 hw)) (ty := (.array .byte)) (by decide)
 refine Go.dup X1110 hx 456 rfl (hb hby at_455) rfl ?_
 refine Go.aload X1110 hx 458 rfl (hb hby at_456) rfl rfl ?_
 have Kp1112 := (Kp1013.trans K1109 all0)
 have Kp1113 := (Kp1112.ext E1110)
 have Zn1111 := Nat.le_trans Z0 Kp1113.1
 have O1114 := (O1045.keep K1109 all0)
 have O1115 := (O1114.ext E1110)
 have V1116 : Arv Z h975 b937 k937 .char (29 : Int32) [.int 69, .int 84, .int 97, .int 103, .int 32, .int 110, .int 117, .int 108, .int 108, .int 44, .int 32, .int 76, .int 97, .int 115, .int 116, .int 45, .int 77, .int 111, .int 100, .int 105, .int 102, .int 105, .int 101, .int 100, .int 32, .int 110, .int 117, .int 108, .int 108] (.int 0) := V975
 have fk1118 := (((((((((((((((((((((((((((((A937.wr W940).wr W941).wr W942).wr W944).wr W945).wr W946).wr W947).wr W949).wr W950).wr W951).wr W952).wr W954).wr W955).wr W956).wr W957).wr W959).wr W960).wr W961).wr W962).wr W964).wr W965).wr W966).wr W967).wr W969).wr W970).wr W971).wr W972).wr W974).wr W975)
 have ne1117 := Nat.ne_of_lt (Nat.lt_of_lt_of_le fk1118.lt (Nat.le_of_eq g976.symm))
 have fk1119 := ((((V1116.ext E976).keep K1011 (ninS ne1117 nin0)).keep K1109 nin0).ext E1110)
 have sz1121 := Nat.le_trans Kp1112.1 (Nat.le_of_eq g1110.symm)
 have ge1120 := Nat.le_trans Z0 sz1121
 refine Go.callN X1110 hx Z1109 O1109 rfl (tw_8 hw) (tw_9 hw) (tw_10 hw) (by decide) (tw_10 hw) (tw_6 hw) (au_137 l Z a0 hw b1110 b937 k937 gz1 gv5 h1110 n0 Zn1111 O1115 G A1110 b1110_coder b1110_value fk1119 ge1120) e1110 (a := b1110) (argsL := [.ref b937]) (rest := [.ref b1110]) 461 rfl (hml ▸ rfl) (lenOf pd_5 rfl) rfl rfl (W := 1) (nE rfl) (by decide) (by decide) (by decide) (by decide) (hb hby at_458) ?_
 intro v1122 T1122 L1122 q1122 X1122
 obtain ⟨h1122, e1122⟩ : ∃ z, T1122.heap = z := ⟨_, rfl⟩
 rw [e1122] at q1122
 obtain ⟨b1122_0, k1122_0, rfl, N1122, K1122, s1122_0, F1122_0, F1122_1, F1122_2, F1122_3, F1122_4⟩ := q1122
 show Go _ _ _ _ (T1122.setTop (mkF m 461 #[vI p0, vI p1, vI p2, vI 1, vI 1, vI 110, vI 117, vI 108, vI 108, vI 110, vI 117, vI 108, vI 108, .val .null, .val .null, vR b937, vR b1109_0] [.ref b1110]))
 refine Go.aload X1122 hx 463 rfl (hb hby at_461) rfl rfl ?_
 have Kp1124 := (Kp1113.trans K1122 (allS (Or.inr sz1121) all0))
 have Zn1123 := Nat.le_trans Z0 Kp1124.1
 have O1125 := (O1115.keep K1122 (allS ge1120 all0))
 have fk1126 := ((F1109_0.ext E1110).keep K1122)
 have ne1127 := Nat.ne_of_lt (Nat.lt_of_lt_of_le F1109_0.lt (Nat.le_of_eq g1110.symm))
 have fk1128 := ((F1109_1.ext E1110).keep K1122 (ninS ne1127 nin0))
 have fk1129 := ((F1109_2.ext E1110).keep K1122 (ninS ne1127 nin0))
 have ne1130 := Nat.ne_of_lt (Nat.lt_of_lt_of_le F1109_3.lt (Nat.le_of_eq g1110.symm))
 have fk1131 := ((F1109_3.ext E1110).keep K1122 (ninS ne1130 nin0))
 refine Go.callV X1122 hx Z1109 O1109 (tw_181 hw) (tw_182 hw) (notFace_of_selects (args := #[]) (mvT Z1109 (tw_184 hw))) (tw_184 hw) (tw_183 hw) (by decide) (tw_185 hw) (tw_6 hw) (au_141 l Z a0 hw b1110 b1109_0 b1122_0 b1109_1 k1122_0 k1109_0 gz1 gv5 h1122 n0 Zn1123 O1125 G F1122_1 F1122_2 fk1126 fk1128 fk1129 F1122_3 fk1131 (Ne.symm ne1127)) e1122 F1122_0 (argsL := [.ref b1109_0]) (rest := []) 466 rfl (hml ▸ rfl) (lenOf pd_28 rfl) rfl rfl (W := 0) (nE rfl) (by decide) (by decide) (by decide) (by decide) (hb hby at_463) ?_
 intro v1132 T1132 L1132 q1132 X1132
 obtain ⟨rfl, N1132, e1132⟩ := q1132
 show Go _ _ _ _ (T1132.setTop (mkF m 466 #[vI p0, vI p1, vI p2, vI 1, vI 1, vI 110, vI 117, vI 108, vI 108, vI 110, vI 117, vI 108, vI 108, .val .null, .val .null, vR b937, vR b1109_0] [.int 1]))
 have C1133 := (C1107.trans C1109)
 have C1134 := (C1133.trans (CHr.ext E1110 C1133.1))
 have fk1135 := (Safe.ext E1110 C1133.1 (Safe.new (Nat.le_of_eq g1110.symm) : Safe Z EL0 T1109.vm h1109 b1110))
 have C1136 := (C1134.trans (CHr.keep K1122 (sfS fk1135 sf0) C1134.1))
 have hk1137 := (Nat.le_trans (Nat.le_trans (Nat.le_refl _) E1110.1) K1122.1)
 refine Go.retNW X1132 hx hlk Z1109 (own_EW hw) e1132 S1109 hk1137 C1136 (t := .boolean) hret (by simp) (hb hby at_466) (by decide) (by decide) (fun hat => ?_)
 exact ⟨rfl, (Fr.app (Fr.app (Fr.app (Fr.app N975 N1011) N1109) N1122) N1132)⟩
set_option maxRecDepth 65536 in
set_option maxHeartbeats 4000000 in
theorem comes_1 {Post : Tables → Env → Array Value → State → Outcome → State → Prop} (hpost : ∀ tb e args s v u, (limb_1_1.after args s (.returned v) u = true ∧ limb_1_2.after args s (.returned v) u = true ∧ True) → ReturnedEndW s (.returned v) u (Jvm.fieldLocs frame_1_writes args s ++ Jvm.arrayLocs frame_1_arrays args s ++ Jvm.staticLocs frame_1_statics s) 48 2496 → Post tb e args s (.returned v) u) :
    ArmFor flags0 classFile x code maxLocals ret World_1 tables_1 room_1 Calls_1 rest_1 Pre_1 Post := by
  intro l hfl _ _ p e ha hc hk s m args below hf hA hF happ hP
  obtain ⟨hcalls, hrest, hpre⟩ := hP
  obtain ⟨-, -, -, hnamed, -, -, -, hat⟩ := (Spec.applies_iff hf).mp happ
  obtain ⟨hg, hn⟩ := and_e (Cond.before_iff.mp (show (Jvm.Cond.and given_1 narrow_1).before args s = true from hpre))
  obtain ⟨g501, g502⟩ := and_e hg
  obtain ⟨g503, g504⟩ := and_e g502
  obtain ⟨g505, g506⟩ := and_e g504
  obtain ⟨w0, w1, w2, rfl⟩ : ∃ w0 w1 w2 : Value, args = #[w0, w1, w2] := by
    have hs : args.size = 3 := by simpa [Cond.value, given_1] using g501
    obtain ⟨L⟩ := args
    match L, hs with
    | [w0, w1, w2], _ => exact ⟨w0, w1, w2, rfl⟩
  have hw := fun d (hd : d ∈ tables_1) => atoms_spec (ws := Jvm.Cond.code x code maxLocals ret :: tables_1) hat d (List.mem_cons_of_mem _ hd)
  have hfit : Fit s := fun {y c} hc i hi => by
    obtain ⟨ha, rfl⟩ := Array.getElem?_eq_some_iff.mp hc
    have q := List.all_eq_true.mp ((Array.all_eq_true_iff_forall_mem.mp hF) _ (Array.getElem_mem ha)) i (List.mem_range.mpr hi)
    simpa [Array.getElem?_eq_getElem hi] using q
  obtain ⟨i0, ei0⟩ := is_v g503
  obtain rfl : w0 = (.int i0) := Option.some.inj ei0
  obtain ⟨i1, ei1⟩ := is_v g505
  obtain rfl : w1 = (.int i1) := Option.some.inj ei1
  obtain ⟨i2, ei2⟩ := is_v g506
  obtain rfl : w2 = (.int i2) := Option.some.inj ei2
  obtain ⟨hsets, hown0⟩ := atoms_of _ (rest_1_c_eq ▸ (show rest_1_c.before _ s = true from hrest))
  obtain ⟨gz1, ev2⟩ := is_v (Cond.before_iff.mp (hsets _ (List.mem_of_getElem? (i := 1) rfl)))
  have Sx3 : Sta s s.heap "java/lang/String" "COMPACT_STRINGS" "Z" (.int gz1) := Sta.start ev2 (Or.inl (Cond.before_iff.mpr (Cond.before_iff.mp (hsets _ (List.mem_of_getElem? (i := 0) rfl)))))
  have nz4 : ¬ gz1 = (0 : Int32) := gotF (Cond.eq_ints ev2 (Term.int_eval (0))) (not_v (Cond.before_iff.mp (hsets _ (List.mem_of_getElem? (i := 2) rfl))))
  obtain ⟨gv5, ev6, rv7⟩ := isR_v (Cond.before_iff.mp (hsets _ (List.mem_of_getElem? (i := 8) rfl)))
  have Sx8 : Sta s s.heap "jdk/internal/util/Preconditions" "SIOOBE_FORMATTER" "Ljava/util/function/BiFunction;" gv5 := Sta.start ev6 (Or.inl (Cond.before_iff.mpr (Cond.before_iff.mp (hsets _ (List.mem_of_getElem? (i := 7) rfl)))))
  have G : Glob s gz1 gv5 := ⟨Sx3, Sx8, nz4, rv7⟩
  have hCH : CHv s EL0 s.vm s.heap := CHv.start (own_EW hw) (fun p hp => hcalls.1 p hp) (hsets _ (List.mem_of_getElem? (i := 2) rfl)) (tw_23 hw) (tw_5 hw)
  obtain ⟨n, o, h1, h2, h3, _, L, rfl, ⟨rfl, N⟩, hcr, hq⟩ := (rm0 l s _ hw i0 i1 i2 gz1 gv5 s.heap s.heap.size (Nat.le_refl _) (Old.start s) G) tables_1 p e ha hc hk s m _ below hf ((Spec.applies_iff_loose hf).mp happ).1 ⟨rfl, State.Warmed39.refl s, rfl, hCH, fun _ hx => nomatch hx⟩ trivial
  refine ⟨n, _, h1, h2, h3, hpost _ _ _ _ _ _ ⟨Cond.after_iff.mpr rfl, Cond.after_iff.mpr (eq_i res_at (Term.int_eval (1)) rfl), trivial⟩ ⟨hq.1, hq.2.1, hq.2.2.1, (hq.2.2.2.sift fun y hy => Or.inr (N y hy)).mono (by decide) (by decide)⟩⟩
theorem main_1_1 : Claimed_1_1 := comes_1 fun _ _ _ _ _ _ h hF => ⟨h.1, hF⟩
theorem main_1_2 : Claimed_1_2 := comes_1 fun _ _ _ _ _ _ h hF => ⟨h.2.1, hF⟩
end Jvm.Pilot.@@N@@
namespace Jvm.Pilot.@@N@@
open Jvm Jvm.ClassFile Sem Op Lib Jvm.Free Jvm.Stand Jvm.Pilot.@@N@@.Jvm.D
/-! MADE BY PROGRAM (witnessworld.py) out of the Statement's table words and the real class files: 26 classes; the members and pool entries that the words name. The judged class is class 1, her method 1. -/
namespace start1
open Jvm.ClassFile
def u (s : String) : CpInfo := .utf8 (stringToUtf16 s)
/-- a pool by its gaps: so many unusable entries, then the entry; so many at the end -/
def gap : Nat → List CpInfo → List CpInfo
  | 0, r => r
  | n + 1, r => .unusable :: gap n r
def poolList (es : List (Nat × CpInfo)) (last : Nat) : List CpInfo := es.foldr (fun e r => gap e.1 (e.2 :: r)) (gap last [])
def pool (es : List (Nat × CpInfo)) (last : Nat) : Array CpInfo := ⟨poolList es last⟩
def fileOf (pool : Array CpInfo) (this : Nat) (attrs : Array Attribute := #[]) (ms : Array MethodInfo := #[]) (fl : Nat := 33) (sup : Nat := 0) (ifs : Array Nat := #[]) (fds : Array FieldInfo := #[]) : ClassFile where
  minorVersion := 0
  majorVersion := 65
  constantPool := pool
  accessFlags := fl
  thisClass := this
  superClass := sup
  interfaces := ifs
  fields := fds
  methods := ms
  attributes := attrs
def plain (name : String) (sup : Option ClassId) : Class where
  name := name
  kind := .ordinary
  loader := none
  accessFlags := 33
  super := sup
  interfaces := #[]
  cf := none
  fields := #[]
  methods := #[]
  instanceTypes := #[]
  staticTypes := #[]
  resolved := #[]
  callSites := []
  init := .initialized
  statics := none
  mirror := none

def pool0 : Array CpInfo := pool [(5, u "<init>"), (0, u "()V"), (1, .class_ 10), (1, u "java/lang/Object")] 113

def k0c0 : Code := { maxStack := 0, maxLocals := 1, code := object_method_1_code, exceptionTable := #[], attributes := #[] }
def k0m0 : Method := { name := "<init>", desc := "()V", sig := { parameters := [], returnType := none }, accessFlags := 1, code := some k0c0 }
/-- java/lang/Object -/
def k0 : Class := { plain "java/lang/Object" none with
  accessFlags := 33
  interfaces := #[]
  cf := some (fileOf pool0 8 #[] #[{ accessFlags := 1, nameIndex := 5, descriptorIndex := 6, attributes := #[] }] 33 0 #[] #[])
  fields := #[]
  methods := #[k0m0]
  instanceTypes := #[]
  staticTypes := #[]
  resolved := Array.replicate 124 none
  statics := none }

def pool1 : Array CpInfo := pool [(2, .class_ 4), (1, u "java/lang/Object"), (0, u "<init>"), (0, u "()V"), (0, .methodref 8 9), (0, .class_ 10), (0, .nameAndType 11 12), (0, u "com/example/rockhopper/rockhopper/model/ValidatorsToStringPinLaw"), (0, u "b"), (0, u "(II)C"), (0, .class_ 14), (0, u "java/lang/String"), (0, .methodref 13 16), (0, .nameAndType 5 17), (0, u "([C)V"), (0, .class_ 19), (0, u "com/example/rockhopper/rockhopper/model/Validators"), (0, .methodref 18 21), (0, .nameAndType 5 22), (0, u "(Ljava/lang/String;Ljava/lang/String;)V"), (0, .methodref 18 24), (0, .nameAndType 25 26), (0, u "toString"), (0, u "()Ljava/lang/String;"), (0, .methodref 13 28), (0, .nameAndType 29 30), (0, u "equals"), (0, u "(Ljava/lang/Object;)Z"), (2, u "law"), (0, u "(III)Z")] 3

def k1m0 : Method := { name := "<init>", desc := "()V", sig := { parameters := [], returnType := none }, accessFlags := 1, code := none }
def k1c1 : Code := { maxStack := 7, maxLocals := 17, code := code, exceptionTable := #[], attributes := #[] }
def k1m1 : Method := { name := "law", desc := "(III)Z", sig := { parameters := [.int, .int, .int], returnType := some .boolean }, accessFlags := 9, code := some k1c1 }
def k1c2 : Code := { maxStack := 3, maxLocals := 2, code := method_3_code, exceptionTable := #[], attributes := #[] }
def k1m2 : Method := { name := "b", desc := "(II)C", sig := { parameters := [.int, .int], returnType := some .char }, accessFlags := 10, code := some k1c2 }
/-- com/example/rockhopper/rockhopper/model/ValidatorsToStringPinLaw -/
def k1 : Class := { plain "com/example/rockhopper/rockhopper/model/ValidatorsToStringPinLaw" (some 0) with
  accessFlags := 49
  interfaces := #[]
  cf := some (fileOf pool1 8 #[] #[{ accessFlags := 1, nameIndex := 5, descriptorIndex := 6, attributes := #[] }, { accessFlags := 9, nameIndex := 33, descriptorIndex := 34, attributes := #[] }, { accessFlags := 10, nameIndex := 11, descriptorIndex := 12, attributes := #[] }] 49 2 #[] #[])
  fields := #[]
  methods := #[k1m0, k1m1, k1m2]
  instanceTypes := #[]
  staticTypes := #[]
  resolved := Array.replicate 38 none
  statics := none }

def pool2 : Array CpInfo := pool [(1, .class_ 2), (0, u "java/io/Serializable"), (0, .class_ 4), (0, u "java/lang/Object")] 2

/-- java/io/Serializable -/
def k2 : Class := { plain "java/io/Serializable" (some 0) with
  accessFlags := 1537
  interfaces := #[]
  cf := some (fileOf pool2 1 #[] #[] 1537 3 #[] #[])
  fields := #[]
  methods := #[]
  instanceTypes := #[]
  staticTypes := #[]
  resolved := Array.replicate 7 none
  statics := none }

def pool3 : Array CpInfo := pool [(1, .class_ 2), (0, u "java/lang/Comparable"), (0, .class_ 4), (0, u "java/lang/Object")] 7

/-- java/lang/Comparable -/
def k3 : Class := { plain "java/lang/Comparable" (some 0) with
  accessFlags := 1537
  interfaces := #[]
  cf := some (fileOf pool3 1 #[] #[] 1537 3 #[] #[])
  fields := #[]
  methods := #[]
  instanceTypes := #[]
  staticTypes := #[]
  resolved := Array.replicate 12 none
  statics := none }

def pool4 : Array CpInfo := pool [(2, .class_ 4), (1, u "java/lang/CharSequence"), (42, .class_ 48), (0, u "java/lang/CharSequence$1CodePointIterator"), (10, .class_ 60), (0, u "java/lang/CharSequence$1CharIterator"), (5, .class_ 67), (0, u "java/lang/Object")] 63

/-- java/lang/CharSequence -/
def k4 : Class := { plain "java/lang/CharSequence" (some 0) with
  accessFlags := 1537
  interfaces := #[]
  cf := some (fileOf pool4 2 #[.nestMembers #[47, 59]] #[] 1537 66 #[] #[])
  fields := #[]
  methods := #[]
  instanceTypes := #[]
  staticTypes := #[]
  resolved := Array.replicate 131 none
  statics := none }

def pool5 : Array CpInfo := pool [(1, .class_ 2), (0, u "java/lang/constant/Constable"), (0, .class_ 4), (0, u "java/lang/Object")] 6

/-- java/lang/constant/Constable -/
def k5 : Class := { plain "java/lang/constant/Constable" (some 0) with
  accessFlags := 1537
  interfaces := #[]
  cf := some (fileOf pool5 1 #[] #[] 1537 3 #[] #[])
  fields := #[]
  methods := #[]
  instanceTypes := #[]
  staticTypes := #[]
  resolved := Array.replicate 11 none
  statics := none }

def pool6 : Array CpInfo := pool [(1, .class_ 2), (0, u "java/lang/constant/ConstantDesc"), (0, .class_ 4), (0, u "java/lang/Object")] 32

/-- java/lang/constant/ConstantDesc -/
def k6 : Class := { plain "java/lang/constant/ConstantDesc" (some 0) with
  accessFlags := 1537
  interfaces := #[]
  cf := some (fileOf pool6 1 #[] #[] 1537 3 #[] #[])
  fields := #[]
  methods := #[]
  instanceTypes := #[]
  staticTypes := #[]
  resolved := Array.replicate 37 none
  statics := none }

def pool7 : Array CpInfo := pool [(1, .methodref 2 3), (0, .class_ 4), (0, .nameAndType 5 6), (0, u "java/lang/Object"), (0, u "<init>"), (0, u "()V"), (2, .fieldref 10 11), (0, .class_ 12), (0, .nameAndType 13 14), (0, u "java/lang/String"), (0, u "value"), (0, u "[B"), (0, .fieldref 10 16), (0, .nameAndType 17 18), (0, u "coder"), (0, u "B"), (2, u "hash"), (0, u "I"), (2, u "hashIsZero"), (0, u "Z"), (0, .methodref 10 28), (0, .nameAndType 5 29), (0, u "([CIILjava/lang/Void;)V"), (8, .fieldref 10 39), (0, .nameAndType 40 26), (0, u "COMPACT_STRINGS"), (1, .class_ 44), (1, u "java/lang/StringUTF16"), (0, u "compress"), (1, .methodref 42 48), (0, .nameAndType 49 50), (0, u "coderFromArrayLen"), (0, u "([BI)B"), (3, .methodref 55 56), (0, .class_ 57), (0, .nameAndType 58 59), (0, u "java/util/Arrays"), (0, u "copyOfRange"), (0, u "([BII)[B"), (47, .class_ 109), (1, u "java/lang/StringLatin1"), (32, u "()Z"), (34, .methodref 42 178), (0, .nameAndType 45 179), (0, u "([CII)[B"), (13, .class_ 195), (1, u "java/lang/System"), (16, .methodref 193 213), (0, .nameAndType 214 215), (0, u "arraycopy"), (0, u "(Ljava/lang/Object;ILjava/lang/Object;II)V"), (118, u "()I"), (0, .methodref 10 336), (0, .nameAndType 17 337), (0, u "()B"), (2, u "()[B"), (148, .methodref 10 490), (0, .nameAndType 5 491), (0, u "(Ljava/lang/AbstractStringBuilder;Ljava/lang/Void;)V"), (1, .nameAndType 494 142), (0, u "isLatin1"), (11, .nameAndType 507 334), (0, u "length"), (24, u "getBytes"), (8, .methodref 107 542), (0, .nameAndType 543 544), (0, u "equals"), (0, u "([B[B)Z"), (4, .methodref 550 506), (0, .class_ 551), (0, u "java/lang/AbstractStringBuilder"), (0, .methodref 550 553), (0, .nameAndType 554 340), (0, u "getValue"), (18, u "(Ljava/lang/Object;)Z"), (1, .class_ 576), (0, u "java/lang/CharSequence"), (22, u "CASE_INSENSITIVE_ORDER"), (0, u "Ljava/util/Comparator;"), (220, u "([BIB)V"), (188, u "([C)V"), (36, .methodref 550 493), (53, u "serialPersistentFields"), (0, u "[Ljava/io/ObjectStreamField;"), (0, .class_ 1104), (0, u "java/lang/String$CaseInsensitiveComparator"), (1, .class_ 1107), (0, u "java/io/Serializable"), (0, .class_ 1109), (0, u "java/lang/Comparable"), (0, .class_ 1111), (0, u "java/lang/constant/Constable"), (0, .class_ 1113), (0, u "java/lang/constant/ConstantDesc"), (2, u "serialVersionUID"), (0, u "J"), (3, u "REPL"), (0, u "C"), (2, u "LATIN1"), (1, u "UTF16"), (105, u "(Ljava/lang/StringBuilder;)V")] 217

def k7m0 : Method := { name := "<init>", desc := "()V", sig := { parameters := [], returnType := none }, accessFlags := 1, code := none }
def k7c1 : Code := { maxStack := 5, maxLocals := 2, code := jdk_42_method_3_code, exceptionTable := #[], attributes := #[] }
def k7m1 : Method := { name := "<init>", desc := "([C)V", sig := { parameters := [(.array .char)], returnType := none }, accessFlags := 1, code := some k7c1 }
def k7c2 : Code := { maxStack := 3, maxLocals := 2, code := jdk_42_method_53_code, exceptionTable := #[], attributes := #[] }
def k7m2 : Method := { name := "<init>", desc := "(Ljava/lang/StringBuilder;)V", sig := { parameters := [(.object "java/lang/StringBuilder")], returnType := none }, accessFlags := 1, code := some k7c2 }
def k7c3 : Code := { maxStack := 2, maxLocals := 1, code := jdk_42_method_54_code, exceptionTable := #[], attributes := #[] }
def k7m3 : Method := { name := "length", desc := "()I", sig := { parameters := [], returnType := some .int }, accessFlags := 1, code := some k7c3 }
def k7c4 : Code := { maxStack := 2, maxLocals := 3, code := jdk_42_method_66_code, exceptionTable := #[], attributes := #[] }
def k7m4 : Method := { name := "equals", desc := "(Ljava/lang/Object;)Z", sig := { parameters := [(.object "java/lang/Object")], returnType := some .boolean }, accessFlags := 1, code := some k7c4 }
def k7c5 : Code := { maxStack := 5, maxLocals := 4, code := jdk_42_method_147_code, exceptionTable := #[], attributes := #[] }
def k7m5 : Method := { name := "getBytes", desc := "([BIB)V", sig := { parameters := [(.array .byte), .int, .byte], returnType := none }, accessFlags := 0, code := some k7c5 }
def k7c6 : Code := { maxStack := 4, maxLocals := 6, code := jdk_42_method_149_code, exceptionTable := #[], attributes := #[] }
def k7m6 : Method := { name := "<init>", desc := "([CIILjava/lang/Void;)V", sig := { parameters := [(.array .char), .int, .int, (.object "java/lang/Void")], returnType := none }, accessFlags := 2, code := some k7c6 }
def k7c7 : Code := { maxStack := 5, maxLocals := 5, code := jdk_42_method_150_code, exceptionTable := #[], attributes := #[] }
def k7m7 : Method := { name := "<init>", desc := "(Ljava/lang/AbstractStringBuilder;Ljava/lang/Void;)V", sig := { parameters := [(.object "java/lang/AbstractStringBuilder"), (.object "java/lang/Void")], returnType := none }, accessFlags := 0, code := some k7c7 }
def k7c8 : Code := { maxStack := 1, maxLocals := 1, code := jdk_42_method_152_code, exceptionTable := #[], attributes := #[] }
def k7m8 : Method := { name := "coder", desc := "()B", sig := { parameters := [], returnType := some .byte }, accessFlags := 0, code := some k7c8 }
/-- java/lang/String -/
def k7 : Class := { plain "java/lang/String" (some 0) with
  accessFlags := 49
  interfaces := #[2, 3, 4, 5, 6]
  cf := some (fileOf pool7 10 #[.nestMembers #[1103]] #[{ accessFlags := 1, nameIndex := 5, descriptorIndex := 6, attributes := #[] }, { accessFlags := 1, nameIndex := 5, descriptorIndex := 1010, attributes := #[] }, { accessFlags := 1, nameIndex := 5, descriptorIndex := 1233, attributes := #[] }, { accessFlags := 1, nameIndex := 507, descriptorIndex := 334, attributes := #[] }, { accessFlags := 1, nameIndex := 543, descriptorIndex := 573, attributes := #[] }, { accessFlags := 0, nameIndex := 532, descriptorIndex := 821, attributes := #[] }, { accessFlags := 2, nameIndex := 5, descriptorIndex := 29, attributes := #[] }, { accessFlags := 0, nameIndex := 5, descriptorIndex := 491, attributes := #[] }, { accessFlags := 0, nameIndex := 17, descriptorIndex := 337, attributes := #[] }] 49 2 #[1106, 1108, 575, 1110, 1112] #[{ accessFlags := 18, nameIndex := 13, descriptorIndex := 14, attributes := #[] }, { accessFlags := 18, nameIndex := 17, descriptorIndex := 18, attributes := #[] }, { accessFlags := 2, nameIndex := 21, descriptorIndex := 22, attributes := #[] }, { accessFlags := 2, nameIndex := 25, descriptorIndex := 26, attributes := #[] }, { accessFlags := 26, nameIndex := 1116, descriptorIndex := 1117, attributes := #[] }, { accessFlags := 24, nameIndex := 40, descriptorIndex := 26, attributes := #[] }, { accessFlags := 26, nameIndex := 1101, descriptorIndex := 1102, attributes := #[] }, { accessFlags := 26, nameIndex := 1121, descriptorIndex := 1122, attributes := #[] }, { accessFlags := 25, nameIndex := 599, descriptorIndex := 600, attributes := #[] }, { accessFlags := 24, nameIndex := 1125, descriptorIndex := 18, attributes := #[] }, { accessFlags := 24, nameIndex := 1127, descriptorIndex := 18, attributes := #[] }])
  fields := #[{ name := "value", type := (.array .byte), accessFlags := 18, slot := 0, constantValue := 0 }, { name := "coder", type := .byte, accessFlags := 18, slot := 1, constantValue := 0 }, { name := "hash", type := .int, accessFlags := 2, slot := 2, constantValue := 0 }, { name := "hashIsZero", type := .boolean, accessFlags := 2, slot := 3, constantValue := 0 }, { name := "serialVersionUID", type := .long, accessFlags := 26, slot := 0, constantValue := 0 }, { name := "COMPACT_STRINGS", type := .boolean, accessFlags := 24, slot := 1, constantValue := 0 }, { name := "serialPersistentFields", type := (.array (.object "java/io/ObjectStreamField")), accessFlags := 26, slot := 2, constantValue := 0 }, { name := "REPL", type := .char, accessFlags := 26, slot := 3, constantValue := 0 }, { name := "CASE_INSENSITIVE_ORDER", type := (.object "java/util/Comparator"), accessFlags := 25, slot := 4, constantValue := 0 }, { name := "LATIN1", type := .byte, accessFlags := 24, slot := 5, constantValue := 0 }, { name := "UTF16", type := .byte, accessFlags := 24, slot := 6, constantValue := 0 }]
  methods := #[k7m0, k7m1, k7m2, k7m3, k7m4, k7m5, k7m6, k7m7, k7m8]
  instanceTypes := #[(.array .byte), .byte, .int, .boolean]
  staticTypes := #[.long, .boolean, (.array (.object "java/io/ObjectStreamField")), .char, (.object "java/util/Comparator"), .byte, .byte]
  resolved := Array.replicate 1451 none
  statics := some 0 }

def pool8 : Array CpInfo := pool [(6, .class_ 8), (1, u "java/lang/Object"), (0, u "<init>"), (0, u "()V"), (1, .class_ 14), (1, u "java/lang/StringUTF16"), (31, u "$assertionsDisabled"), (0, u "Z"), (13, u "HI_BYTE_SHIFT"), (0, u "I"), (2, u "LO_BYTE_SHIFT"), (49, .methodref 12 116), (0, .nameAndType 117 118), (0, u "compress"), (0, u "([CI[BII)I"), (3, u "([CII)[B"), (138, u "coderFromArrayLen"), (0, u "([BI)B"), (106, .class_ 371), (1, u "java/lang/StringUTF16$LinesSpliterator"), (58, u "MAX_LENGTH"), (196, .class_ 628), (0, u "java/lang/StringUTF16$CodePointsSpliterator"), (0, .class_ 630), (0, u "java/lang/StringUTF16$CharsSpliterator")] 4

def k8m0 : Method := { name := "<init>", desc := "()V", sig := { parameters := [], returnType := none }, accessFlags := 0, code := none }
def k8c1 : Code := { maxStack := 2, maxLocals := 2, code := jdk_52_method_15_code, exceptionTable := #[], attributes := #[] }
def k8m1 : Method := { name := "coderFromArrayLen", desc := "([BI)B", sig := { parameters := [(.array .byte), .int], returnType := some .byte }, accessFlags := 8, code := some k8c1 }
def k8c2 : Code := { maxStack := 5, maxLocals := 6, code := jdk_52_method_16_code, exceptionTable := #[], attributes := #[] }
def k8m2 : Method := { name := "compress", desc := "([CII)[B", sig := { parameters := [(.array .char), .int, .int], returnType := some (.array .byte) }, accessFlags := 9, code := some k8c2 }
def k8c3 : Code := { maxStack := 3, maxLocals := 7, code := jdk_52_method_21_code, exceptionTable := #[], attributes := #[] }
def k8m3 : Method := { name := "compress", desc := "([CI[BII)I", sig := { parameters := [(.array .char), .int, (.array .byte), .int, .int], returnType := some .int }, accessFlags := 9, code := some k8c3 }
/-- java/lang/StringUTF16 -/
def k8 : Class := { plain "java/lang/StringUTF16" (some 0) with
  accessFlags := 48
  interfaces := #[]
  cf := some (fileOf pool8 12 #[.nestMembers #[627, 629, 369]] #[{ accessFlags := 0, nameIndex := 9, descriptorIndex := 10, attributes := #[] }, { accessFlags := 8, nameIndex := 261, descriptorIndex := 262, attributes := #[] }, { accessFlags := 9, nameIndex := 117, descriptorIndex := 122, attributes := #[] }, { accessFlags := 9, nameIndex := 117, descriptorIndex := 118, attributes := #[] }] 48 6 #[] #[{ accessFlags := 26, nameIndex := 61, descriptorIndex := 62, attributes := #[] }, { accessFlags := 26, nameIndex := 65, descriptorIndex := 62, attributes := #[] }, { accessFlags := 24, nameIndex := 430, descriptorIndex := 62, attributes := #[] }, { accessFlags := 4120, nameIndex := 46, descriptorIndex := 47, attributes := #[] }])
  fields := #[{ name := "HI_BYTE_SHIFT", type := .int, accessFlags := 26, slot := 0, constantValue := 0 }, { name := "LO_BYTE_SHIFT", type := .int, accessFlags := 26, slot := 1, constantValue := 0 }, { name := "MAX_LENGTH", type := .int, accessFlags := 24, slot := 2, constantValue := 0 }, { name := "$assertionsDisabled", type := .boolean, accessFlags := 4120, slot := 3, constantValue := 0 }]
  methods := #[k8m0, k8m1, k8m2, k8m3]
  instanceTypes := #[]
  staticTypes := #[.int, .int, .int, .boolean]
  resolved := Array.replicate 635 none
  statics := none }

def pool9 : Array CpInfo := pool [(1, .methodref 2 3), (0, .class_ 4), (0, .nameAndType 5 6), (0, u "java/lang/Object"), (0, u "<init>"), (0, u "()V"), (0, .fieldref 8 9), (0, .class_ 10), (0, .nameAndType 11 12), (0, u "com/example/rockhopper/rockhopper/model/Validators"), (0, u "etag"), (0, u "Ljava/lang/String;"), (0, .fieldref 8 14), (0, .nameAndType 15 12), (0, u "lastModified"), (10, .class_ 27), (0, u "java/lang/StringBuilder"), (0, .methodref 26 3), (0, .string 30), (0, u "ETag "), (0, .methodref 26 32), (0, .nameAndType 33 34), (0, u "append"), (0, u "(Ljava/lang/String;)Ljava/lang/StringBuilder;"), (0, .string 36), (0, u ", Last-Modified "), (0, .methodref 26 38), (0, .nameAndType 39 40), (0, u "toString"), (0, u "()Ljava/lang/String;"), (2, u "(Ljava/lang/String;Ljava/lang/String;)V"), (2, u "NONE"), (0, u "Lcom/example/rockhopper/rockhopper/model/Validators;")] 9

def k9c0 : Code := { maxStack := 2, maxLocals := 3, code := prog_9_method_1_code, exceptionTable := #[], attributes := #[] }
def k9m0 : Method := { name := "<init>", desc := "(Ljava/lang/String;Ljava/lang/String;)V", sig := { parameters := [(.object "java/lang/String"), (.object "java/lang/String")], returnType := none }, accessFlags := 1, code := some k9c0 }
def k9c1 : Code := { maxStack := 2, maxLocals := 1, code := prog_9_method_6_code, exceptionTable := #[], attributes := #[] }
def k9m1 : Method := { name := "toString", desc := "()Ljava/lang/String;", sig := { parameters := [], returnType := some (.object "java/lang/String") }, accessFlags := 1, code := some k9c1 }
/-- com/example/rockhopper/rockhopper/model/Validators -/
def k9 : Class := { plain "com/example/rockhopper/rockhopper/model/Validators" (some 0) with
  accessFlags := 49
  interfaces := #[]
  cf := some (fileOf pool9 8 #[] #[{ accessFlags := 1, nameIndex := 5, descriptorIndex := 43, attributes := #[] }, { accessFlags := 1, nameIndex := 39, descriptorIndex := 40, attributes := #[] }] 49 2 #[] #[{ accessFlags := 25, nameIndex := 46, descriptorIndex := 47, attributes := #[] }, { accessFlags := 18, nameIndex := 11, descriptorIndex := 12, attributes := #[] }, { accessFlags := 18, nameIndex := 15, descriptorIndex := 12, attributes := #[] }])
  fields := #[{ name := "NONE", type := (.object "com/example/rockhopper/rockhopper/model/Validators"), accessFlags := 25, slot := 0, constantValue := 0 }, { name := "etag", type := (.object "java/lang/String"), accessFlags := 18, slot := 0, constantValue := 0 }, { name := "lastModified", type := (.object "java/lang/String"), accessFlags := 18, slot := 1, constantValue := 0 }]
  methods := #[k9m0, k9m1]
  instanceTypes := #[(.object "java/lang/String"), (.object "java/lang/String")]
  staticTypes := #[(.object "com/example/rockhopper/rockhopper/model/Validators")]
  resolved := Array.replicate 57 none
  statics := none }

def pool10 : Array CpInfo := pool [(1, .class_ 2), (0, u "java/lang/Appendable"), (0, .class_ 4), (0, u "java/lang/Object")] 9

/-- java/lang/Appendable -/
def k10 : Class := { plain "java/lang/Appendable" (some 0) with
  accessFlags := 1537
  interfaces := #[]
  cf := some (fileOf pool10 1 #[] #[] 1537 3 #[] #[])
  fields := #[]
  methods := #[]
  instanceTypes := #[]
  staticTypes := #[]
  resolved := Array.replicate 14 none
  statics := none }

def pool11 : Array CpInfo := pool [(1, .class_ 2), (0, u "java/lang/String"), (0, .methodref 4 5), (0, .class_ 6), (0, .nameAndType 7 8), (0, u "java/lang/Object"), (0, u "<init>"), (0, u "()V"), (1, .class_ 12), (1, u "java/lang/AbstractStringBuilder"), (0, u "EMPTYVALUE"), (0, u "[B"), (0, .fieldref 10 16), (0, .nameAndType 17 14), (0, u "value"), (0, .fieldref 1 19), (0, .nameAndType 20 21), (0, u "COMPACT_STRINGS"), (0, u "Z"), (0, .fieldref 10 23), (0, .nameAndType 24 25), (0, u "coder"), (0, u "B"), (6, .methodref 1 33), (0, .nameAndType 34 35), (0, u "length"), (0, u "()I"), (3, .integer 2147483647), (0, .methodref 1 41), (0, .nameAndType 24 42), (0, u "()B"), (2, u "append"), (0, u "(Ljava/lang/String;)Ljava/lang/AbstractStringBuilder;"), (1, .class_ 49), (0, u "java/lang/CharSequence"), (19, u "(Ljava/lang/String;)V"), (5, u "maybeLatin1"), (3, .fieldref 10 80), (0, .nameAndType 81 82), (0, u "count"), (0, u "I"), (0, .methodref 10 84), (0, .nameAndType 85 86), (0, u "isLatin1"), (0, u "()Z"), (13, .methodref 10 101), (0, .nameAndType 102 103), (0, u "ensureCapacityInternal"), (0, u "(I)V"), (0, .methodref 10 105), (0, .nameAndType 106 107), (0, u "newCapacity"), (0, u "(I)I"), (0, .methodref 109 110), (0, .class_ 111), (0, .nameAndType 112 113), (0, u "java/util/Arrays"), (0, u "copyOf"), (0, u "([BI)[B"), (0, .methodref 115 116), (0, .class_ 117), (0, .nameAndType 118 119), (0, u "jdk/internal/util/ArraysSupport"), (0, u "newLength"), (0, u "(III)I"), (84, .methodref 10 205), (0, .nameAndType 206 207), (0, u "appendNull"), (0, u "()Ljava/lang/AbstractStringBuilder;"), (0, .methodref 10 209), (0, .nameAndType 210 211), (0, u "putStringAt"), (0, u "(ILjava/lang/String;)V"), (5, u "inflateIfNeededFor"), (2, .nameAndType 221 222), (0, u "getBytes"), (0, u "([BIB)V"), (174, .methodref 10 398), (0, .nameAndType 217 69), (0, .methodref 1 220), (3, u "()[B"), (40, .class_ 445), (0, u "java/lang/Appendable"), (106, u "getValue")] 56

def k11m0 : Method := { name := "<init>", desc := "()V", sig := { parameters := [], returnType := none }, accessFlags := 0, code := none }
def k11c1 : Code := { maxStack := 2, maxLocals := 2, code := jdk_68_method_2_code, exceptionTable := #[], attributes := #[] }
def k11m1 : Method := { name := "<init>", desc := "(I)V", sig := { parameters := [.int], returnType := none }, accessFlags := 0, code := some k11c1 }
def k11c2 : Code := { maxStack := 1, maxLocals := 1, code := jdk_68_method_6_code, exceptionTable := #[], attributes := #[] }
def k11m2 : Method := { name := "length", desc := "()I", sig := { parameters := [], returnType := some .int }, accessFlags := 1, code := some k11c2 }
def k11c3 : Code := { maxStack := 4, maxLocals := 3, code := jdk_68_method_9_code, exceptionTable := #[], attributes := #[] }
def k11m3 : Method := { name := "ensureCapacityInternal", desc := "(I)V", sig := { parameters := [.int], returnType := none }, accessFlags := 2, code := some k11c3 }
def k11c4 : Code := { maxStack := 5, maxLocals := 6, code := jdk_68_method_10_code, exceptionTable := #[], attributes := #[] }
def k11m4 : Method := { name := "newCapacity", desc := "(I)I", sig := { parameters := [.int], returnType := some .int }, accessFlags := 2, code := some k11c4 }
def k11c5 : Code := { maxStack := 3, maxLocals := 3, code := jdk_68_method_22_code, exceptionTable := #[], attributes := #[] }
def k11m5 : Method := { name := "append", desc := "(Ljava/lang/String;)Ljava/lang/AbstractStringBuilder;", sig := { parameters := [(.object "java/lang/String")], returnType := some (.object "java/lang/AbstractStringBuilder") }, accessFlags := 1, code := some k11c5 }
def k11c6 : Code := { maxStack := 6, maxLocals := 3, code := jdk_68_method_26_code, exceptionTable := #[], attributes := #[] }
def k11m6 : Method := { name := "appendNull", desc := "()Ljava/lang/AbstractStringBuilder;", sig := { parameters := [], returnType := some (.object "java/lang/AbstractStringBuilder") }, accessFlags := 2, code := some k11c6 }
def k11c7 : Code := { maxStack := 1, maxLocals := 1, code := jdk_68_method_64_code, exceptionTable := #[], attributes := #[] }
def k11m7 : Method := { name := "getValue", desc := "()[B", sig := { parameters := [], returnType := some (.array .byte) }, accessFlags := 16, code := some k11c7 }
def k11c8 : Code := { maxStack := 1, maxLocals := 1, code := jdk_68_method_68_code, exceptionTable := #[], attributes := #[] }
def k11m8 : Method := { name := "isLatin1", desc := "()Z", sig := { parameters := [], returnType := some .boolean }, accessFlags := 16, code := some k11c8 }
def k11c9 : Code := { maxStack := 2, maxLocals := 2, code := jdk_68_method_71_code, exceptionTable := #[], attributes := #[] }
def k11m9 : Method := { name := "inflateIfNeededFor", desc := "(Ljava/lang/String;)V", sig := { parameters := [(.object "java/lang/String")], returnType := none }, accessFlags := 2, code := some k11c9 }
def k11c10 : Code := { maxStack := 4, maxLocals := 3, code := jdk_68_method_73_code, exceptionTable := #[], attributes := #[] }
def k11m10 : Method := { name := "putStringAt", desc := "(ILjava/lang/String;)V", sig := { parameters := [.int, (.object "java/lang/String")], returnType := none }, accessFlags := 2, code := some k11c10 }
/-- java/lang/AbstractStringBuilder -/
def k11 : Class := { plain "java/lang/AbstractStringBuilder" (some 0) with
  accessFlags := 1056
  interfaces := #[10, 4]
  cf := some (fileOf pool11 10 #[] #[{ accessFlags := 0, nameIndex := 7, descriptorIndex := 8, attributes := #[] }, { accessFlags := 0, nameIndex := 7, descriptorIndex := 103, attributes := #[] }, { accessFlags := 1, nameIndex := 34, descriptorIndex := 35, attributes := #[] }, { accessFlags := 2, nameIndex := 102, descriptorIndex := 103, attributes := #[] }, { accessFlags := 2, nameIndex := 106, descriptorIndex := 107, attributes := #[] }, { accessFlags := 1, nameIndex := 45, descriptorIndex := 46, attributes := #[] }, { accessFlags := 2, nameIndex := 206, descriptorIndex := 207, attributes := #[] }, { accessFlags := 16, nameIndex := 552, descriptorIndex := 403, attributes := #[] }, { accessFlags := 16, nameIndex := 85, descriptorIndex := 86, attributes := #[] }, { accessFlags := 2, nameIndex := 217, descriptorIndex := 69, attributes := #[] }, { accessFlags := 2, nameIndex := 210, descriptorIndex := 211, attributes := #[] }] 1056 4 #[444, 48] #[{ accessFlags := 0, nameIndex := 17, descriptorIndex := 14, attributes := #[] }, { accessFlags := 0, nameIndex := 24, descriptorIndex := 25, attributes := #[] }, { accessFlags := 0, nameIndex := 75, descriptorIndex := 21, attributes := #[] }, { accessFlags := 0, nameIndex := 81, descriptorIndex := 82, attributes := #[] }, { accessFlags := 26, nameIndex := 13, descriptorIndex := 14, attributes := #[] }])
  fields := #[{ name := "value", type := (.array .byte), accessFlags := 0, slot := 0, constantValue := 0 }, { name := "coder", type := .byte, accessFlags := 0, slot := 1, constantValue := 0 }, { name := "maybeLatin1", type := .boolean, accessFlags := 0, slot := 2, constantValue := 0 }, { name := "count", type := .int, accessFlags := 0, slot := 3, constantValue := 0 }, { name := "EMPTYVALUE", type := (.array .byte), accessFlags := 26, slot := 0, constantValue := 0 }]
  methods := #[k11m0, k11m1, k11m2, k11m3, k11m4, k11m5, k11m6, k11m7, k11m8, k11m9, k11m10]
  instanceTypes := #[(.array .byte), .byte, .boolean, .int]
  staticTypes := #[(.array .byte)]
  resolved := Array.replicate 609 none
  statics := none }

def pool12 : Array CpInfo := pool [(1, .methodref 2 3), (0, .class_ 4), (0, .nameAndType 5 6), (0, u "java/lang/AbstractStringBuilder"), (0, u "<init>"), (0, u "(I)V"), (11, .class_ 20), (1, u "java/lang/String"), (3, .class_ 26), (1, u "java/lang/StringBuilder"), (0, u "append"), (0, u "(Ljava/lang/String;)Ljava/lang/StringBuilder;"), (0, .methodref 2 30), (0, .nameAndType 27 31), (0, u "(Ljava/lang/String;)Ljava/lang/AbstractStringBuilder;"), (105, .methodref 18 138), (0, .nameAndType 5 139), (0, u "(Ljava/lang/StringBuilder;)V"), (5, u "()V"), (10, u "()I"), (186, .methodref 2 344), (0, .nameAndType 345 156), (0, u "length"), (3, .class_ 350), (0, u "java/lang/Appendable"), (0, .class_ 352), (0, u "java/io/Serializable"), (0, .class_ 354), (0, u "java/lang/Comparable"), (0, .class_ 356), (0, u "java/lang/CharSequence"), (0, u "serialVersionUID"), (0, u "J"), (40, u "toString"), (0, u "()Ljava/lang/String;")] 21

def k12c0 : Code := { maxStack := 2, maxLocals := 1, code := jdk_67_method_1_code, exceptionTable := #[], attributes := #[] }
def k12m0 : Method := { name := "<init>", desc := "()V", sig := { parameters := [], returnType := none }, accessFlags := 1, code := some k12c0 }
def k12c1 : Code := { maxStack := 2, maxLocals := 2, code := jdk_67_method_7_code, exceptionTable := #[], attributes := #[] }
def k12m1 : Method := { name := "append", desc := "(Ljava/lang/String;)Ljava/lang/StringBuilder;", sig := { parameters := [(.object "java/lang/String")], returnType := some (.object "java/lang/StringBuilder") }, accessFlags := 1, code := some k12c1 }
def k12c2 : Code := { maxStack := 3, maxLocals := 1, code := jdk_67_method_42_code, exceptionTable := #[], attributes := #[] }
def k12m2 : Method := { name := "toString", desc := "()Ljava/lang/String;", sig := { parameters := [], returnType := some (.object "java/lang/String") }, accessFlags := 1, code := some k12c2 }
def k12c3 : Code := { maxStack := 1, maxLocals := 1, code := jdk_67_method_93_code, exceptionTable := #[], attributes := #[] }
def k12m3 : Method := { name := "length", desc := "()I", sig := { parameters := [], returnType := some .int }, accessFlags := 4161, code := some k12c3 }
/-- java/lang/StringBuilder -/
def k12 : Class := { plain "java/lang/StringBuilder" (some 11) with
  accessFlags := 49
  interfaces := #[10, 2, 3, 4]
  cf := some (fileOf pool12 24 #[] #[{ accessFlags := 1, nameIndex := 5, descriptorIndex := 145, attributes := #[] }, { accessFlags := 1, nameIndex := 27, descriptorIndex := 28, attributes := #[] }, { accessFlags := 1, nameIndex := 399, descriptorIndex := 400, attributes := #[] }, { accessFlags := 4161, nameIndex := 345, descriptorIndex := 156, attributes := #[] }] 49 2 #[349, 351, 353, 355] #[{ accessFlags := 24, nameIndex := 357, descriptorIndex := 358, attributes := #[] }])
  fields := #[{ name := "serialVersionUID", type := .long, accessFlags := 24, slot := 0, constantValue := 0 }]
  methods := #[k12m0, k12m1, k12m2, k12m3]
  instanceTypes := #[(.array .byte), .byte, .boolean, .int]
  staticTypes := #[.long]
  resolved := Array.replicate 422 none
  statics := none }

def pool13 : Array CpInfo := pool [(2, .class_ 4), (1, u "java/lang/Object"), (0, u "<init>"), (0, u "()V"), (1, .class_ 10), (1, u "java/lang/System"), (0, u "allowSecurityManager"), (0, u "I"), (16, u "cons"), (0, u "Ljava/io/Console;"), (77, .class_ 110), (1, u "java/lang/System$CallersHolder"), (43, u "initialErrStream"), (0, u "Ljava/io/PrintStream;"), (19, u "security"), (0, u "Ljava/lang/SecurityManager;"), (31, .class_ 209), (0, u "java/lang/System$1"), (7, u "props"), (0, u "Ljava/util/Properties;"), (2, u "lineSeparator"), (0, u "Ljava/lang/String;"), (96, .class_ 321), (1, u "java/lang/System$LoggerFinder"), (5, .class_ 328), (0, u "java/lang/System$Logger"), (67, u "err"), (2, u "out"), (91, u "notSupportedJnuEncoding"), (15, u "in"), (17, u "initialIn"), (0, u "Ljava/io/InputStream;"), (35, u "bootLayer"), (0, u "Ljava/lang/ModuleLayer;"), (99, .class_ 664), (0, u "java/lang/System$2"), (9, u "NEVER"), (2, u "MAYBE"), (49, u "arraycopy"), (0, u "(Ljava/lang/Object;ILjava/lang/Object;II)V"), (72, .class_ 802), (0, u "java/lang/System$Logger$Level")] 31

def k13m0 : Method := { name := "<init>", desc := "()V", sig := { parameters := [], returnType := none }, accessFlags := 2, code := none }
def k13m1 : Method := { name := "arraycopy", desc := "(Ljava/lang/Object;ILjava/lang/Object;II)V", sig := { parameters := [(.object "java/lang/Object"), .int, (.object "java/lang/Object"), .int, .int], returnType := none }, accessFlags := 265, code := none }
/-- java/lang/System -/
def k13 : Class := { plain "java/lang/System" (some 0) with
  accessFlags := 49
  interfaces := #[]
  cf := some (fileOf pool13 8 #[.nestMembers #[319, 327, 801, 108, 663, 208]] #[{ accessFlags := 2, nameIndex := 5, descriptorIndex := 6, attributes := #[] }, { accessFlags := 265, nameIndex := 727, descriptorIndex := 728, attributes := #[] }] 49 2 #[] #[{ accessFlags := 25, nameIndex := 507, descriptorIndex := 526, attributes := #[] }, { accessFlags := 25, nameIndex := 399, descriptorIndex := 155, attributes := #[] }, { accessFlags := 25, nameIndex := 396, descriptorIndex := 155, attributes := #[] }, { accessFlags := 10, nameIndex := 525, descriptorIndex := 526, attributes := #[] }, { accessFlags := 26, nameIndex := 674, descriptorIndex := 12, attributes := #[] }, { accessFlags := 26, nameIndex := 677, descriptorIndex := 12, attributes := #[] }, { accessFlags := 10, nameIndex := 11, descriptorIndex := 12, attributes := #[] }, { accessFlags := 74, nameIndex := 175, descriptorIndex := 176, attributes := #[] }, { accessFlags := 10, nameIndex := 491, descriptorIndex := 222, attributes := #[] }, { accessFlags := 74, nameIndex := 29, descriptorIndex := 30, attributes := #[] }, { accessFlags := 74, nameIndex := 154, descriptorIndex := 155, attributes := #[] }, { accessFlags := 10, nameIndex := 217, descriptorIndex := 218, attributes := #[] }, { accessFlags := 10, nameIndex := 221, descriptorIndex := 222, attributes := #[] }, { accessFlags := 8, nameIndex := 562, descriptorIndex := 563, attributes := #[] }])
  fields := #[{ name := "in", type := (.object "java/io/InputStream"), accessFlags := 25, slot := 0, constantValue := 0 }, { name := "out", type := (.object "java/io/PrintStream"), accessFlags := 25, slot := 1, constantValue := 0 }, { name := "err", type := (.object "java/io/PrintStream"), accessFlags := 25, slot := 2, constantValue := 0 }, { name := "initialIn", type := (.object "java/io/InputStream"), accessFlags := 10, slot := 3, constantValue := 0 }, { name := "NEVER", type := .int, accessFlags := 26, slot := 4, constantValue := 0 }, { name := "MAYBE", type := .int, accessFlags := 26, slot := 5, constantValue := 0 }, { name := "allowSecurityManager", type := .int, accessFlags := 10, slot := 6, constantValue := 0 }, { name := "security", type := (.object "java/lang/SecurityManager"), accessFlags := 74, slot := 7, constantValue := 0 }, { name := "notSupportedJnuEncoding", type := (.object "java/lang/String"), accessFlags := 10, slot := 8, constantValue := 0 }, { name := "cons", type := (.object "java/io/Console"), accessFlags := 74, slot := 9, constantValue := 0 }, { name := "initialErrStream", type := (.object "java/io/PrintStream"), accessFlags := 74, slot := 10, constantValue := 0 }, { name := "props", type := (.object "java/util/Properties"), accessFlags := 10, slot := 11, constantValue := 0 }, { name := "lineSeparator", type := (.object "java/lang/String"), accessFlags := 10, slot := 12, constantValue := 0 }, { name := "bootLayer", type := (.object "java/lang/ModuleLayer"), accessFlags := 8, slot := 13, constantValue := 0 }]
  methods := #[k13m0, k13m1]
  instanceTypes := #[]
  staticTypes := #[(.object "java/io/InputStream"), (.object "java/io/PrintStream"), (.object "java/io/PrintStream"), (.object "java/io/InputStream"), .int, .int, .int, (.object "java/lang/SecurityManager"), (.object "java/lang/String"), (.object "java/io/Console"), (.object "java/io/PrintStream"), (.object "java/util/Properties"), (.object "java/lang/String"), (.object "java/lang/ModuleLayer")]
  resolved := Array.replicate 834 none
  statics := none }

def pool14 : Array CpInfo := pool [(9, u "<init>"), (6, .class_ 18), (1, u "java/lang/Object"), (0, u "()V"), (1, .class_ 23), (1, u "jdk/internal/util/ArraysSupport"), (0, u "LOG2_ARRAY_LONG_INDEX_SCALE"), (0, u "I"), (2, u "U"), (0, u "Ljdk/internal/misc/Unsafe;"), (8, u "BIG_ENDIAN"), (0, u "Z"), (8, u "LOG2_BYTE_BIT_SIZE"), (4, u "LOG2_ARRAY_INT_INDEX_SCALE"), (54, u "JLA"), (0, u "Ljdk/internal/access/JavaLangAccess;"), (11, u "LOG2_ARRAY_BOOLEAN_INDEX_SCALE"), (9, u "LOG2_ARRAY_BYTE_INDEX_SCALE"), (5, u "LOG2_ARRAY_CHAR_INDEX_SCALE"), (5, u "LOG2_ARRAY_SHORT_INDEX_SCALE"), (18, u "LOG2_ARRAY_FLOAT_INDEX_SCALE"), (24, u "LOG2_ARRAY_DOUBLE_INDEX_SCALE"), (6, .methodref 195 196), (0, .class_ 197), (0, .nameAndType 198 199), (0, u "java/lang/Math"), (0, u "max"), (0, u "(II)I"), (0, .integer 2147483639), (76, u "T_BOOLEAN"), (2, u "T_CHAR"), (1, u "T_FLOAT"), (1, u "T_DOUBLE"), (1, u "T_BYTE"), (1, u "T_SHORT"), (1, u "T_INT"), (1, u "T_LONG"), (1, u "SOFT_MAX_ARRAY_LENGTH"), (56, u "newLength"), (0, u "(III)I")] 25

def k14m0 : Method := { name := "<init>", desc := "()V", sig := { parameters := [], returnType := none }, accessFlags := 2, code := none }
def k14c1 : Code := { maxStack := 3, maxLocals := 4, code := jdk_48_method_27_code, exceptionTable := #[], attributes := #[] }
def k14m1 : Method := { name := "newLength", desc := "(III)I", sig := { parameters := [.int, .int, .int], returnType := some .int }, accessFlags := 9, code := some k14c1 }
/-- jdk/internal/util/ArraysSupport -/
def k14 : Class := { plain "jdk/internal/util/ArraysSupport" (some 0) with
  accessFlags := 33
  interfaces := #[]
  cf := some (fileOf pool14 21 #[] #[{ accessFlags := 2, nameIndex := 9, descriptorIndex := 19, attributes := #[] }, { accessFlags := 9, nameIndex := 351, descriptorIndex := 352, attributes := #[] }] 33 16 #[] #[{ accessFlags := 24, nameIndex := 28, descriptorIndex := 29, attributes := #[] }, { accessFlags := 26, nameIndex := 38, descriptorIndex := 39, attributes := #[] }, { accessFlags := 25, nameIndex := 121, descriptorIndex := 25, attributes := #[] }, { accessFlags := 25, nameIndex := 131, descriptorIndex := 25, attributes := #[] }, { accessFlags := 25, nameIndex := 137, descriptorIndex := 25, attributes := #[] }, { accessFlags := 25, nameIndex := 143, descriptorIndex := 25, attributes := #[] }, { accessFlags := 25, nameIndex := 53, descriptorIndex := 25, attributes := #[] }, { accessFlags := 25, nameIndex := 24, descriptorIndex := 25, attributes := #[] }, { accessFlags := 25, nameIndex := 162, descriptorIndex := 25, attributes := #[] }, { accessFlags := 25, nameIndex := 187, descriptorIndex := 25, attributes := #[] }, { accessFlags := 26, nameIndex := 48, descriptorIndex := 25, attributes := #[] }, { accessFlags := 25, nameIndex := 277, descriptorIndex := 25, attributes := #[] }, { accessFlags := 25, nameIndex := 280, descriptorIndex := 25, attributes := #[] }, { accessFlags := 25, nameIndex := 282, descriptorIndex := 25, attributes := #[] }, { accessFlags := 25, nameIndex := 284, descriptorIndex := 25, attributes := #[] }, { accessFlags := 25, nameIndex := 286, descriptorIndex := 25, attributes := #[] }, { accessFlags := 25, nameIndex := 288, descriptorIndex := 25, attributes := #[] }, { accessFlags := 25, nameIndex := 290, descriptorIndex := 25, attributes := #[] }, { accessFlags := 25, nameIndex := 292, descriptorIndex := 25, attributes := #[] }, { accessFlags := 26, nameIndex := 108, descriptorIndex := 109, attributes := #[] }, { accessFlags := 25, nameIndex := 294, descriptorIndex := 25, attributes := #[] }])
  fields := #[{ name := "U", type := (.object "jdk/internal/misc/Unsafe"), accessFlags := 24, slot := 0, constantValue := 0 }, { name := "BIG_ENDIAN", type := .boolean, accessFlags := 26, slot := 1, constantValue := 0 }, { name := "LOG2_ARRAY_BOOLEAN_INDEX_SCALE", type := .int, accessFlags := 25, slot := 2, constantValue := 0 }, { name := "LOG2_ARRAY_BYTE_INDEX_SCALE", type := .int, accessFlags := 25, slot := 3, constantValue := 0 }, { name := "LOG2_ARRAY_CHAR_INDEX_SCALE", type := .int, accessFlags := 25, slot := 4, constantValue := 0 }, { name := "LOG2_ARRAY_SHORT_INDEX_SCALE", type := .int, accessFlags := 25, slot := 5, constantValue := 0 }, { name := "LOG2_ARRAY_INT_INDEX_SCALE", type := .int, accessFlags := 25, slot := 6, constantValue := 0 }, { name := "LOG2_ARRAY_LONG_INDEX_SCALE", type := .int, accessFlags := 25, slot := 7, constantValue := 0 }, { name := "LOG2_ARRAY_FLOAT_INDEX_SCALE", type := .int, accessFlags := 25, slot := 8, constantValue := 0 }, { name := "LOG2_ARRAY_DOUBLE_INDEX_SCALE", type := .int, accessFlags := 25, slot := 9, constantValue := 0 }, { name := "LOG2_BYTE_BIT_SIZE", type := .int, accessFlags := 26, slot := 10, constantValue := 0 }, { name := "T_BOOLEAN", type := .int, accessFlags := 25, slot := 11, constantValue := 0 }, { name := "T_CHAR", type := .int, accessFlags := 25, slot := 12, constantValue := 0 }, { name := "T_FLOAT", type := .int, accessFlags := 25, slot := 13, constantValue := 0 }, { name := "T_DOUBLE", type := .int, accessFlags := 25, slot := 14, constantValue := 0 }, { name := "T_BYTE", type := .int, accessFlags := 25, slot := 15, constantValue := 0 }, { name := "T_SHORT", type := .int, accessFlags := 25, slot := 16, constantValue := 0 }, { name := "T_INT", type := .int, accessFlags := 25, slot := 17, constantValue := 0 }, { name := "T_LONG", type := .int, accessFlags := 25, slot := 18, constantValue := 0 }, { name := "JLA", type := (.object "jdk/internal/access/JavaLangAccess"), accessFlags := 26, slot := 19, constantValue := 0 }, { name := "SOFT_MAX_ARRAY_LENGTH", type := .int, accessFlags := 25, slot := 20, constantValue := 0 }]
  methods := #[k14m0, k14m1]
  instanceTypes := #[]
  staticTypes := #[(.object "jdk/internal/misc/Unsafe"), .boolean, .int, .int, .int, .int, .int, .int, .int, .int, .int, .int, .int, .int, .int, .int, .int, .int, .int, (.object "jdk/internal/access/JavaLangAccess"), .int]
  resolved := Array.replicate 378 none
  statics := none }

def pool15 : Array CpInfo := pool [(1, .class_ 2), (0, u "java/lang/Math"), (1, .class_ 6), (1, u "java/lang/Object"), (0, u "<init>"), (0, u "()V"), (89, .class_ 100), (1, u "java/lang/Math$RandomNumberGeneratorHolder"), (71, u "negativeZeroFloatBits"), (0, u "J"), (2, u "negativeZeroDoubleBits"), (21, u "max"), (2, u "min"), (43, u "$assertionsDisabled"), (0, u "Z"), (88, u "(II)I"), (2, u "twoToTheDoubleScaleDown"), (0, u "D"), (4, u "twoToTheDoubleScaleUp"), (9, u "E"), (3, u "PI"), (2, u "TAU"), (2, u "DEGREES_TO_RADIANS"), (0, u "RADIANS_TO_DEGREES")] 94

def k15m0 : Method := { name := "<init>", desc := "()V", sig := { parameters := [], returnType := none }, accessFlags := 2, code := none }
def k15c1 : Code := { maxStack := 2, maxLocals := 2, code := jdk_29_method_65_code, exceptionTable := #[], attributes := #[] }
def k15m1 : Method := { name := "max", desc := "(II)I", sig := { parameters := [.int, .int], returnType := some .int }, accessFlags := 9, code := some k15c1 }
def k15c2 : Code := { maxStack := 2, maxLocals := 2, code := jdk_29_method_69_code, exceptionTable := #[], attributes := #[] }
def k15m2 : Method := { name := "min", desc := "(II)I", sig := { parameters := [.int, .int], returnType := some .int }, accessFlags := 9, code := some k15c2 }
/-- java/lang/Math -/
def k15 : Class := { plain "java/lang/Math" (some 0) with
  accessFlags := 49
  interfaces := #[]
  cf := some (fileOf pool15 1 #[.nestMembers #[98]] #[{ accessFlags := 2, nameIndex := 7, descriptorIndex := 8, attributes := #[] }, { accessFlags := 9, nameIndex := 198, descriptorIndex := 335, attributes := #[] }, { accessFlags := 9, nameIndex := 201, descriptorIndex := 335, attributes := #[] }] 49 4 #[] #[{ accessFlags := 25, nameIndex := 354, descriptorIndex := 339, attributes := #[] }, { accessFlags := 25, nameIndex := 358, descriptorIndex := 339, attributes := #[] }, { accessFlags := 25, nameIndex := 361, descriptorIndex := 339, attributes := #[] }, { accessFlags := 26, nameIndex := 364, descriptorIndex := 339, attributes := #[] }, { accessFlags := 26, nameIndex := 365, descriptorIndex := 339, attributes := #[] }, { accessFlags := 26, nameIndex := 172, descriptorIndex := 173, attributes := #[] }, { accessFlags := 26, nameIndex := 176, descriptorIndex := 173, attributes := #[] }, { accessFlags := 8, nameIndex := 344, descriptorIndex := 339, attributes := #[] }, { accessFlags := 8, nameIndex := 338, descriptorIndex := 339, attributes := #[] }, { accessFlags := 4120, nameIndex := 245, descriptorIndex := 246, attributes := #[] }])
  fields := #[{ name := "E", type := .double, accessFlags := 25, slot := 0, constantValue := 0 }, { name := "PI", type := .double, accessFlags := 25, slot := 1, constantValue := 0 }, { name := "TAU", type := .double, accessFlags := 25, slot := 2, constantValue := 0 }, { name := "DEGREES_TO_RADIANS", type := .double, accessFlags := 26, slot := 3, constantValue := 0 }, { name := "RADIANS_TO_DEGREES", type := .double, accessFlags := 26, slot := 4, constantValue := 0 }, { name := "negativeZeroFloatBits", type := .long, accessFlags := 26, slot := 5, constantValue := 0 }, { name := "negativeZeroDoubleBits", type := .long, accessFlags := 26, slot := 6, constantValue := 0 }, { name := "twoToTheDoubleScaleUp", type := .double, accessFlags := 8, slot := 7, constantValue := 0 }, { name := "twoToTheDoubleScaleDown", type := .double, accessFlags := 8, slot := 8, constantValue := 0 }, { name := "$assertionsDisabled", type := .boolean, accessFlags := 4120, slot := 9, constantValue := 0 }]
  methods := #[k15m0, k15m1, k15m2]
  instanceTypes := #[]
  staticTypes := #[.double, .double, .double, .double, .double, .long, .long, .double, .double, .boolean]
  resolved := Array.replicate 460 none
  statics := none }

def pool16 : Array CpInfo := pool [(2, .class_ 4), (1, u "java/lang/Object"), (0, u "<init>"), (0, u "()V"), (7, .class_ 16), (1, u "java/util/Arrays"), (57, .class_ 76), (1, u "java/util/Arrays$NaturalOrder"), (36, .class_ 115), (1, u "java/util/Arrays$LegacyMergeSort"), (1, u "Z"), (21, u "copyOfRange"), (10, .methodref 151 152), (0, .class_ 153), (0, .nameAndType 154 155), (0, u "java/lang/System"), (0, u "arraycopy"), (0, u "(Ljava/lang/Object;ILjava/lang/Object;II)V"), (146, u "copyOf"), (1, .methodref 305 306), (0, .class_ 307), (0, .nameAndType 308 309), (0, u "java/lang/Math"), (0, u "min"), (0, u "(II)I"), (29, .methodref 14 340), (0, .nameAndType 341 342), (0, u "copyOfRangeByte"), (0, u "([BII)[B"), (0, .methodref 14 344), (0, .nameAndType 345 346), (0, u "checkLength"), (0, u "(II)V"), (28, .class_ 376), (0, u "java/util/Arrays$ArrayList"), (68, u "$assertionsDisabled"), (269, u "MIN_ARRAY_SORT_GRAN"), (0, u "I"), (2, u "INSERTIONSORT_THRESHOLD"), (149, u "([BI)[B"), (105, .class_ 976), (0, u "java/util/Arrays$ArrayItr")] 52

def k16m0 : Method := { name := "<init>", desc := "()V", sig := { parameters := [], returnType := none }, accessFlags := 2, code := none }
def k16c1 : Code := { maxStack := 6, maxLocals := 3, code := jdk_65_method_121_code, exceptionTable := #[], attributes := #[] }
def k16m1 : Method := { name := "copyOf", desc := "([BI)[B", sig := { parameters := [(.array .byte), .int], returnType := some (.array .byte) }, accessFlags := 9, code := some k16c1 }
def k16c2 : Code := { maxStack := 4, maxLocals := 2, code := jdk_65_method_131_code, exceptionTable := #[], attributes := #[] }
def k16m2 : Method := { name := "checkLength", desc := "(II)V", sig := { parameters := [.int, .int], returnType := none }, accessFlags := 10, code := some k16c2 }
def k16c3 : Code := { maxStack := 3, maxLocals := 3, code := jdk_65_method_132_code, exceptionTable := #[], attributes := #[] }
def k16m3 : Method := { name := "copyOfRange", desc := "([BII)[B", sig := { parameters := [(.array .byte), .int, .int], returnType := some (.array .byte) }, accessFlags := 9, code := some k16c3 }
def k16c4 : Code := { maxStack := 6, maxLocals := 5, code := jdk_65_method_133_code, exceptionTable := #[], attributes := #[] }
def k16m4 : Method := { name := "copyOfRangeByte", desc := "([BII)[B", sig := { parameters := [(.array .byte), .int, .int], returnType := some (.array .byte) }, accessFlags := 10, code := some k16c4 }
/-- java/util/Arrays -/
def k16 : Class := { plain "java/util/Arrays" (some 0) with
  accessFlags := 49
  interfaces := #[]
  cf := some (fileOf pool16 14 #[.nestMembers #[975, 375, 113, 74]] #[{ accessFlags := 2, nameIndex := 5, descriptorIndex := 6, attributes := #[] }, { accessFlags := 9, nameIndex := 302, descriptorIndex := 869, attributes := #[] }, { accessFlags := 10, nameIndex := 345, descriptorIndex := 346, attributes := #[] }, { accessFlags := 9, nameIndex := 139, descriptorIndex := 342, attributes := #[] }, { accessFlags := 10, nameIndex := 341, descriptorIndex := 342, attributes := #[] }] 49 2 #[] #[{ accessFlags := 26, nameIndex := 715, descriptorIndex := 716, attributes := #[] }, { accessFlags := 26, nameIndex := 719, descriptorIndex := 716, attributes := #[] }, { accessFlags := 4120, nameIndex := 445, descriptorIndex := 117, attributes := #[] }])
  fields := #[{ name := "MIN_ARRAY_SORT_GRAN", type := .int, accessFlags := 26, slot := 0, constantValue := 0 }, { name := "INSERTIONSORT_THRESHOLD", type := .int, accessFlags := 26, slot := 1, constantValue := 0 }, { name := "$assertionsDisabled", type := .boolean, accessFlags := 4120, slot := 2, constantValue := 0 }]
  methods := #[k16m0, k16m1, k16m2, k16m3, k16m4]
  instanceTypes := #[]
  staticTypes := #[.int, .int, .boolean]
  resolved := Array.replicate 1029 none
  statics := none }

def pool17 : Array CpInfo := pool [(4, .class_ 6), (1, u "java/lang/Object"), (0, u "<init>"), (0, u "()V"), (5, .class_ 16), (1, u "java/lang/StringLatin1"), (104, u "$assertionsDisabled"), (0, u "Z"), (98, .class_ 223), (1, u "java/lang/StringLatin1$LinesSpliterator"), (57, u "equals"), (0, u "([B[B)Z"), (107, .class_ 391), (0, u "java/lang/StringLatin1$CharsSpliterator")] 3

def k17m0 : Method := { name := "<init>", desc := "()V", sig := { parameters := [], returnType := none }, accessFlags := 0, code := none }
def k17c1 : Code := { maxStack := 3, maxLocals := 3, code := jdk_43_method_13_code, exceptionTable := #[], attributes := #[] }
def k17m1 : Method := { name := "equals", desc := "([B[B)Z", sig := { parameters := [(.array .byte), (.array .byte)], returnType := some .boolean }, accessFlags := 9, code := some k17c1 }
/-- java/lang/StringLatin1 -/
def k17 : Class := { plain "java/lang/StringLatin1" (some 0) with
  accessFlags := 48
  interfaces := #[]
  cf := some (fileOf pool17 14 #[.nestMembers #[390, 221]] #[{ accessFlags := 0, nameIndex := 7, descriptorIndex := 8, attributes := #[] }, { accessFlags := 9, nameIndex := 281, descriptorIndex := 282, attributes := #[] }] 48 4 #[] #[{ accessFlags := 4120, nameIndex := 121, descriptorIndex := 122, attributes := #[] }])
  fields := #[{ name := "$assertionsDisabled", type := .boolean, accessFlags := 4120, slot := 0, constantValue := 0 }]
  methods := #[k17m0, k17m1]
  instanceTypes := #[]
  staticTypes := #[.boolean]
  resolved := Array.replicate 395 none
  statics := none }

def pool18 : Array CpInfo := pool [(2, .class_ 4), (1, u "java/lang/Object"), (0, u "<init>"), (0, u "()V"), (17, .class_ 26), (1, u "jdk/internal/util/Preconditions"), (28, .class_ 56), (0, u "jdk/internal/util/Preconditions$4"), (57, .class_ 115), (0, u "jdk/internal/util/Preconditions$1"), (7, u "SIOOBE_FORMATTER"), (0, u "Ljava/util/function/BiFunction;"), (0, .class_ 126), (0, u "jdk/internal/util/Preconditions$2"), (3, u "AIOOBE_FORMATTER"), (0, .class_ 132), (0, u "jdk/internal/util/Preconditions$3"), (3, u "IOOBE_FORMATTER")] 57

def k18m0 : Method := { name := "<init>", desc := "()V", sig := { parameters := [], returnType := none }, accessFlags := 1, code := none }
/-- jdk/internal/util/Preconditions -/
def k18 : Class := { plain "jdk/internal/util/Preconditions" (some 0) with
  accessFlags := 33
  interfaces := #[]
  cf := some (fileOf pool18 24 #[.nestMembers #[55, 131, 125, 114]] #[{ accessFlags := 1, nameIndex := 5, descriptorIndex := 6, attributes := #[] }] 33 2 #[] #[{ accessFlags := 25, nameIndex := 123, descriptorIndex := 124, attributes := #[] }, { accessFlags := 25, nameIndex := 130, descriptorIndex := 124, attributes := #[] }, { accessFlags := 25, nameIndex := 136, descriptorIndex := 124, attributes := #[] }])
  fields := #[{ name := "SIOOBE_FORMATTER", type := (.object "java/util/function/BiFunction"), accessFlags := 25, slot := 0, constantValue := 0 }, { name := "AIOOBE_FORMATTER", type := (.object "java/util/function/BiFunction"), accessFlags := 25, slot := 1, constantValue := 0 }, { name := "IOOBE_FORMATTER", type := (.object "java/util/function/BiFunction"), accessFlags := 25, slot := 2, constantValue := 0 }]
  methods := #[k18m0]
  instanceTypes := #[]
  staticTypes := #[(.object "java/util/function/BiFunction"), (.object "java/util/function/BiFunction"), (.object "java/util/function/BiFunction")]
  resolved := Array.replicate 194 none
  statics := some 1 }

def pool19 : Array CpInfo := pool [(1, u "java/lang/Cloneable"), (0, .class_ 1), (0, u "java/lang/Object"), (0, .class_ 3)] 3

/-- java/lang/Cloneable -/
def k19 : Class := { plain "java/lang/Cloneable" (some 0) with
  accessFlags := 1537
  interfaces := #[]
  cf := some (fileOf pool19 2 #[] #[] 1537 4 #[] #[])
  fields := #[]
  methods := #[]
  instanceTypes := #[]
  staticTypes := #[]
  resolved := Array.replicate 8 none
  statics := none }

/-- the primitive byte -/
def k20 : Class := { plain "byte" none with kind := .primitive 'B', accessFlags := 0x411 }
/-- [B -/
def k21 : Class := { plain "[B" (some 0) with kind := .array 20 .byte, interfaces := #[19, 2], accessFlags := 1041 }

/-- the primitive char -/
def k22 : Class := { plain "char" none with kind := .primitive 'C', accessFlags := 0x411 }
/-- [C -/
def k23 : Class := { plain "[C" (some 0) with kind := .array 22 .char, interfaces := #[19, 2], accessFlags := 1041 }

/-- the primitive int -/
def k24 : Class := { plain "int" none with kind := .primitive 'I', accessFlags := 0x411 }
/-- [I -/
def k25 : Class := { plain "[I" (some 0) with kind := .array 24 .int, interfaces := #[19, 2], accessFlags := 1041 }

def heap : Heap := #[{ cls := 7, slots := #[.long 0, .int 1, .null, .int 0, .null, .int 0, .int 0], vm := .statics 7 },
  { cls := 18, slots := #[.null, .null, .null], vm := .statics 18 }]
def classes : Array Class := #[k0, k1, k2, k3, k4, k5, k6, k7, k8, k9, k10, k11, k12, k13, k14, k15, k16, k17, k18, k19, k20, k21, k22, k23, k24, k25]
def interned : List (Array UInt16 × Addr) := []
def slotsUsed : Nat := 10
def theMethod : MethodId := ⟨1, 1⟩
def args0 : Array Value := #[.int 5, .int 5, .int 5]
def aboutOver (below : List Frame) : State where
  vm := { classes := classes, interned := interned.toArray }
  heap := heap
  slotsUsed := slotsUsed
  threads := #[{ frames := .invoking theMethod args0 :: below }]
def below0 : List Frame := [.native { method := ⟨0, 0⟩, args := #[] }]
def about1 : State := aboutOver below0
def p0 : Program := .bare "" "" ""
def e0 : Env := launch0.env 0 0 0
theorem w_frames : about1.frames = Frame.invoking theMethod args0 :: below0 := rfl
set_option maxRecDepth 65536 in
theorem w_args : argsFit about1.vm theMethod args0 = true := by decide +kernel
set_option maxRecDepth 65536 in
theorem w_heap : heapFits about1 = true := by decide +kernel
set_option maxRecDepth 65536 in
theorem w_runnable : about1.curStatus? = some .runnable := by decide +kernel
set_option maxRecDepth 65536 in
theorem w_alone : about1.alone = true := by decide +kernel
set_option maxRecDepth 65536 in
theorem w_named : about1.methodNamed? x = some theMethod := by decide +kernel
set_option maxRecDepth 65536 in
theorem w_hears : about1.hears theMethod below0 = true := by decide +kernel
set_option maxRecDepth 65536 in
theorem w_ripe : about1.ripe theMethod args0 below0 = true := by decide +kernel
theorem w_running : about1.status = .running := rfl
set_option maxRecDepth 65536 in
theorem w_room : about1.hasRoom e0.platform room_1 = true :=
  launch0.hasRoom_least _ room_1 (by decide +kernel) (by decide +kernel) (by decide +kernel) (by decide +kernel) (by decide +kernel) (by decide +kernel)
theorem allAtoms_all (ts : List Jvm.Cond) (a : Array Jvm.Value) (st : Jvm.State) : (allAtoms ts).before a st = ts.all (fun c => c.before a st) := by
  induction ts with
  | nil => rfl
  | cons c t ih =>
    show (Jvm.Cond.and c (allAtoms t)).before a st = _
    rw [Jvm.Cond.before_and, ih, List.all_cons]
def words1 : List Jvm.Cond := Jvm.Cond.code x code maxLocals ret :: tables_1
/-- a 'code' word, met by the world's own term for the bytes: nothing is compared byte by byte -/
theorem code_word {y : MethodName} {bytes : ByteArray} {mx : Nat} {rt : Option FieldType} {a : Array Value} {s : State} {m : MethodId} {meth : Method} {c : Code} (h1 : s.methodNamed? y = some m) (h2 : s.vm.method? m = some meth) (h3 : meth.code = some c) (h4 : c.code = bytes)
    (h5 : (c.maxLocals == mx && c.exceptionTable.isEmpty && decide (c.maxStack ≤ mostOperands) && decide (meth.sig.returnType = rt) && !meth.locks && decide (parseMethodDescriptor y.desc = some meth.sig)) = true) : (Jvm.Cond.code y bytes mx rt).before a s = true := by
  simp only [Bool.and_eq_true, beq_iff_eq, Bool.not_eq_true', decide_eq_true_eq] at h5
  obtain ⟨⟨⟨⟨⟨g1, g2⟩, g3⟩, g4⟩, g5⟩, g6⟩ := h5
  simp [Cond.before, Cond.holds, Cond.value, h1, h2, h3, h4, g1, g2, g3, g4, g5, g6]
def isCode : Jvm.Cond → Bool
  | .code _ _ _ _ => true
  | _ => false
theorem all_split {L : List Jvm.Cond} {P : Jvm.Cond → Bool} (h1 : L.all (fun c => isCode c || P c) = true) (h2 : ∀ c ∈ L.filter isCode, P c = true) : L.all P = true := by
  refine List.all_eq_true.mpr fun c hc => ?_
  have h := List.all_eq_true.mp h1 c hc
  rcases Bool.eq_false_or_eq_true (isCode c) with hi | hi
  · exact h2 c (List.mem_filter.mpr ⟨hc, hi⟩)
  · simpa [hi] using h
set_option maxRecDepth 65536 in
theorem w_c0 : (Jvm.Cond.code x code maxLocals ret).before args0 about1 = true := code_word (m := ⟨1, 1⟩) (meth := k1m1) (c := k1c1) (by decide +kernel) rfl rfl rfl (by decide +kernel)
set_option maxRecDepth 65536 in
theorem w_c1 : (Jvm.Cond.code ({ cls := "com/example/rockhopper/rockhopper/model/ValidatorsToStringPinLaw", name := "b", desc := "(II)C" } : Jvm.MethodName) method_3_code (2 : Nat) (Option.some Jvm.ClassFile.FieldType.char)).before args0 about1 = true := code_word (m := ⟨1, 2⟩) (meth := k1m2) (c := k1c2) (by decide +kernel) rfl rfl rfl (by decide +kernel)
set_option maxRecDepth 65536 in
theorem w_c2 : (Jvm.Cond.code ({ cls := "java/lang/String", name := "<init>", desc := "([C)V" } : Jvm.MethodName) jdk_42_method_3_code (2 : Nat) (Option.none : Option Jvm.ClassFile.FieldType)).before args0 about1 = true := code_word (m := ⟨7, 1⟩) (meth := k7m1) (c := k7c1) (by decide +kernel) rfl rfl rfl (by decide +kernel)
set_option maxRecDepth 65536 in
theorem w_c3 : (Jvm.Cond.code ({ cls := "java/lang/String", name := "<init>", desc := "([CIILjava/lang/Void;)V" } : Jvm.MethodName) jdk_42_method_149_code (6 : Nat) (Option.none : Option Jvm.ClassFile.FieldType)).before args0 about1 = true := code_word (m := ⟨7, 6⟩) (meth := k7m6) (c := k7c6) (by decide +kernel) rfl rfl rfl (by decide +kernel)
set_option maxRecDepth 65536 in
theorem w_c4 : (Jvm.Cond.code ({ cls := "java/lang/Object", name := "<init>", desc := "()V" } : Jvm.MethodName) object_method_1_code (1 : Nat) (Option.none : Option Jvm.ClassFile.FieldType)).before args0 about1 = true := code_word (m := ⟨0, 0⟩) (meth := k0m0) (c := k0c0) (by decide +kernel) rfl rfl rfl (by decide +kernel)
set_option maxRecDepth 65536 in
theorem w_c5 : (Jvm.Cond.code ({ cls := "java/lang/StringUTF16", name := "compress", desc := "([CII)[B" } : Jvm.MethodName) jdk_52_method_16_code (6 : Nat) (Option.some (Jvm.ClassFile.FieldType.array Jvm.ClassFile.FieldType.byte))).before args0 about1 = true := code_word (m := ⟨8, 2⟩) (meth := k8m2) (c := k8c2) (by decide +kernel) rfl rfl rfl (by decide +kernel)
set_option maxRecDepth 65536 in
theorem w_c6 : (Jvm.Cond.code ({ cls := "java/lang/StringUTF16", name := "compress", desc := "([CI[BII)I" } : Jvm.MethodName) jdk_52_method_21_code (7 : Nat) (Option.some Jvm.ClassFile.FieldType.int)).before args0 about1 = true := code_word (m := ⟨8, 3⟩) (meth := k8m3) (c := k8c3) (by decide +kernel) rfl rfl rfl (by decide +kernel)
set_option maxRecDepth 65536 in
theorem w_c7 : (Jvm.Cond.code ({ cls := "java/lang/StringUTF16", name := "coderFromArrayLen", desc := "([BI)B" } : Jvm.MethodName) jdk_52_method_15_code (2 : Nat) (Option.some Jvm.ClassFile.FieldType.byte)).before args0 about1 = true := code_word (m := ⟨8, 1⟩) (meth := k8m1) (c := k8c1) (by decide +kernel) rfl rfl rfl (by decide +kernel)
set_option maxRecDepth 65536 in
theorem w_c8 : (Jvm.Cond.code ({ cls := "com/example/rockhopper/rockhopper/model/Validators", name := "<init>", desc := "(Ljava/lang/String;Ljava/lang/String;)V" } : Jvm.MethodName) prog_9_method_1_code (3 : Nat) (Option.none : Option Jvm.ClassFile.FieldType)).before args0 about1 = true := code_word (m := ⟨9, 0⟩) (meth := k9m0) (c := k9c0) (by decide +kernel) rfl rfl rfl (by decide +kernel)
set_option maxRecDepth 65536 in
theorem w_c9 : (Jvm.Cond.code ({ cls := "com/example/rockhopper/rockhopper/model/Validators", name := "toString", desc := "()Ljava/lang/String;" } : Jvm.MethodName) prog_9_method_6_code (1 : Nat) (Option.some (Jvm.ClassFile.FieldType.object "java/lang/String"))).before args0 about1 = true := code_word (m := ⟨9, 1⟩) (meth := k9m1) (c := k9c1) (by decide +kernel) rfl rfl rfl (by decide +kernel)
set_option maxRecDepth 65536 in
theorem w_c10 : (Jvm.Cond.code ({ cls := "java/lang/StringBuilder", name := "<init>", desc := "()V" } : Jvm.MethodName) jdk_67_method_1_code (1 : Nat) (Option.none : Option Jvm.ClassFile.FieldType)).before args0 about1 = true := code_word (m := ⟨12, 0⟩) (meth := k12m0) (c := k12c0) (by decide +kernel) rfl rfl rfl (by decide +kernel)
set_option maxRecDepth 65536 in
theorem w_c11 : (Jvm.Cond.code ({ cls := "java/lang/AbstractStringBuilder", name := "<init>", desc := "(I)V" } : Jvm.MethodName) jdk_68_method_2_code (2 : Nat) (Option.none : Option Jvm.ClassFile.FieldType)).before args0 about1 = true := code_word (m := ⟨11, 1⟩) (meth := k11m1) (c := k11c1) (by decide +kernel) rfl rfl rfl (by decide +kernel)
set_option maxRecDepth 65536 in
theorem w_c12 : (Jvm.Cond.code ({ cls := "java/lang/StringBuilder", name := "append", desc := "(Ljava/lang/String;)Ljava/lang/StringBuilder;" } : Jvm.MethodName) jdk_67_method_7_code (2 : Nat) (Option.some (Jvm.ClassFile.FieldType.object "java/lang/StringBuilder"))).before args0 about1 = true := code_word (m := ⟨12, 1⟩) (meth := k12m1) (c := k12c1) (by decide +kernel) rfl rfl rfl (by decide +kernel)
set_option maxRecDepth 65536 in
theorem w_c13 : (Jvm.Cond.code ({ cls := "java/lang/AbstractStringBuilder", name := "append", desc := "(Ljava/lang/String;)Ljava/lang/AbstractStringBuilder;" } : Jvm.MethodName) jdk_68_method_22_code (3 : Nat) (Option.some (Jvm.ClassFile.FieldType.object "java/lang/AbstractStringBuilder"))).before args0 about1 = true := code_word (m := ⟨11, 5⟩) (meth := k11m5) (c := k11c5) (by decide +kernel) rfl rfl rfl (by decide +kernel)
set_option maxRecDepth 65536 in
theorem w_c14 : (Jvm.Cond.code ({ cls := "java/lang/String", name := "length", desc := "()I" } : Jvm.MethodName) jdk_42_method_54_code (1 : Nat) (Option.some Jvm.ClassFile.FieldType.int)).before args0 about1 = true := code_word (m := ⟨7, 3⟩) (meth := k7m3) (c := k7c3) (by decide +kernel) rfl rfl rfl (by decide +kernel)
set_option maxRecDepth 65536 in
theorem w_c15 : (Jvm.Cond.code ({ cls := "java/lang/String", name := "coder", desc := "()B" } : Jvm.MethodName) jdk_42_method_152_code (1 : Nat) (Option.some Jvm.ClassFile.FieldType.byte)).before args0 about1 = true := code_word (m := ⟨7, 8⟩) (meth := k7m8) (c := k7c8) (by decide +kernel) rfl rfl rfl (by decide +kernel)
set_option maxRecDepth 65536 in
theorem w_c16 : (Jvm.Cond.code ({ cls := "java/lang/AbstractStringBuilder", name := "ensureCapacityInternal", desc := "(I)V" } : Jvm.MethodName) jdk_68_method_9_code (3 : Nat) (Option.none : Option Jvm.ClassFile.FieldType)).before args0 about1 = true := code_word (m := ⟨11, 3⟩) (meth := k11m3) (c := k11c3) (by decide +kernel) rfl rfl rfl (by decide +kernel)
set_option maxRecDepth 65536 in
theorem w_c17 : (Jvm.Cond.code ({ cls := "java/lang/AbstractStringBuilder", name := "putStringAt", desc := "(ILjava/lang/String;)V" } : Jvm.MethodName) jdk_68_method_73_code (3 : Nat) (Option.none : Option Jvm.ClassFile.FieldType)).before args0 about1 = true := code_word (m := ⟨11, 10⟩) (meth := k11m10) (c := k11c10) (by decide +kernel) rfl rfl rfl (by decide +kernel)
set_option maxRecDepth 65536 in
theorem w_c18 : (Jvm.Cond.code ({ cls := "java/lang/AbstractStringBuilder", name := "inflateIfNeededFor", desc := "(Ljava/lang/String;)V" } : Jvm.MethodName) jdk_68_method_71_code (2 : Nat) (Option.none : Option Jvm.ClassFile.FieldType)).before args0 about1 = true := code_word (m := ⟨11, 9⟩) (meth := k11m9) (c := k11c9) (by decide +kernel) rfl rfl rfl (by decide +kernel)
set_option maxRecDepth 65536 in
theorem w_c19 : (Jvm.Cond.code ({ cls := "java/lang/String", name := "getBytes", desc := "([BIB)V" } : Jvm.MethodName) jdk_42_method_147_code (4 : Nat) (Option.none : Option Jvm.ClassFile.FieldType)).before args0 about1 = true := code_word (m := ⟨7, 5⟩) (meth := k7m5) (c := k7c5) (by decide +kernel) rfl rfl rfl (by decide +kernel)
set_option maxRecDepth 65536 in
theorem w_c20 : (Jvm.Cond.code ({ cls := "java/lang/AbstractStringBuilder", name := "newCapacity", desc := "(I)I" } : Jvm.MethodName) jdk_68_method_10_code (6 : Nat) (Option.some Jvm.ClassFile.FieldType.int)).before args0 about1 = true := code_word (m := ⟨11, 4⟩) (meth := k11m4) (c := k11c4) (by decide +kernel) rfl rfl rfl (by decide +kernel)
set_option maxRecDepth 65536 in
theorem w_c21 : (Jvm.Cond.code ({ cls := "jdk/internal/util/ArraysSupport", name := "newLength", desc := "(III)I" } : Jvm.MethodName) jdk_48_method_27_code (4 : Nat) (Option.some Jvm.ClassFile.FieldType.int)).before args0 about1 = true := code_word (m := ⟨14, 1⟩) (meth := k14m1) (c := k14c1) (by decide +kernel) rfl rfl rfl (by decide +kernel)
set_option maxRecDepth 65536 in
theorem w_c22 : (Jvm.Cond.code ({ cls := "java/lang/Math", name := "max", desc := "(II)I" } : Jvm.MethodName) jdk_29_method_65_code (2 : Nat) (Option.some Jvm.ClassFile.FieldType.int)).before args0 about1 = true := code_word (m := ⟨15, 1⟩) (meth := k15m1) (c := k15c1) (by decide +kernel) rfl rfl rfl (by decide +kernel)
set_option maxRecDepth 65536 in
theorem w_c23 : (Jvm.Cond.code ({ cls := "java/util/Arrays", name := "copyOf", desc := "([BI)[B" } : Jvm.MethodName) jdk_65_method_121_code (3 : Nat) (Option.some (Jvm.ClassFile.FieldType.array Jvm.ClassFile.FieldType.byte))).before args0 about1 = true := code_word (m := ⟨16, 1⟩) (meth := k16m1) (c := k16c1) (by decide +kernel) rfl rfl rfl (by decide +kernel)
set_option maxRecDepth 65536 in
theorem w_c24 : (Jvm.Cond.code ({ cls := "java/lang/Math", name := "min", desc := "(II)I" } : Jvm.MethodName) jdk_29_method_69_code (2 : Nat) (Option.some Jvm.ClassFile.FieldType.int)).before args0 about1 = true := code_word (m := ⟨15, 2⟩) (meth := k15m2) (c := k15c2) (by decide +kernel) rfl rfl rfl (by decide +kernel)
set_option maxRecDepth 65536 in
theorem w_c25 : (Jvm.Cond.code ({ cls := "java/lang/StringBuilder", name := "toString", desc := "()Ljava/lang/String;" } : Jvm.MethodName) jdk_67_method_42_code (1 : Nat) (Option.some (Jvm.ClassFile.FieldType.object "java/lang/String"))).before args0 about1 = true := code_word (m := ⟨12, 2⟩) (meth := k12m2) (c := k12c2) (by decide +kernel) rfl rfl rfl (by decide +kernel)
set_option maxRecDepth 65536 in
theorem w_c26 : (Jvm.Cond.code ({ cls := "java/lang/String", name := "<init>", desc := "(Ljava/lang/StringBuilder;)V" } : Jvm.MethodName) jdk_42_method_53_code (2 : Nat) (Option.none : Option Jvm.ClassFile.FieldType)).before args0 about1 = true := code_word (m := ⟨7, 2⟩) (meth := k7m2) (c := k7c2) (by decide +kernel) rfl rfl rfl (by decide +kernel)
set_option maxRecDepth 65536 in
theorem w_c27 : (Jvm.Cond.code ({ cls := "java/lang/String", name := "<init>", desc := "(Ljava/lang/AbstractStringBuilder;Ljava/lang/Void;)V" } : Jvm.MethodName) jdk_42_method_150_code (5 : Nat) (Option.none : Option Jvm.ClassFile.FieldType)).before args0 about1 = true := code_word (m := ⟨7, 7⟩) (meth := k7m7) (c := k7c7) (by decide +kernel) rfl rfl rfl (by decide +kernel)
set_option maxRecDepth 65536 in
theorem w_c28 : (Jvm.Cond.code ({ cls := "java/lang/AbstractStringBuilder", name := "getValue", desc := "()[B" } : Jvm.MethodName) jdk_68_method_64_code (1 : Nat) (Option.some (Jvm.ClassFile.FieldType.array Jvm.ClassFile.FieldType.byte))).before args0 about1 = true := code_word (m := ⟨11, 7⟩) (meth := k11m7) (c := k11c7) (by decide +kernel) rfl rfl rfl (by decide +kernel)
set_option maxRecDepth 65536 in
theorem w_c29 : (Jvm.Cond.code ({ cls := "java/lang/StringBuilder", name := "length", desc := "()I" } : Jvm.MethodName) jdk_67_method_93_code (1 : Nat) (Option.some Jvm.ClassFile.FieldType.int)).before args0 about1 = true := code_word (m := ⟨12, 3⟩) (meth := k12m3) (c := k12c3) (by decide +kernel) rfl rfl rfl (by decide +kernel)
set_option maxRecDepth 65536 in
theorem w_c30 : (Jvm.Cond.code ({ cls := "java/lang/AbstractStringBuilder", name := "length", desc := "()I" } : Jvm.MethodName) jdk_68_method_6_code (1 : Nat) (Option.some Jvm.ClassFile.FieldType.int)).before args0 about1 = true := code_word (m := ⟨11, 2⟩) (meth := k11m2) (c := k11c2) (by decide +kernel) rfl rfl rfl (by decide +kernel)
set_option maxRecDepth 65536 in
theorem w_c31 : (Jvm.Cond.code ({ cls := "java/lang/AbstractStringBuilder", name := "isLatin1", desc := "()Z" } : Jvm.MethodName) jdk_68_method_68_code (1 : Nat) (Option.some Jvm.ClassFile.FieldType.boolean)).before args0 about1 = true := code_word (m := ⟨11, 8⟩) (meth := k11m8) (c := k11c8) (by decide +kernel) rfl rfl rfl (by decide +kernel)
set_option maxRecDepth 65536 in
theorem w_c32 : (Jvm.Cond.code ({ cls := "java/util/Arrays", name := "copyOfRange", desc := "([BII)[B" } : Jvm.MethodName) jdk_65_method_132_code (3 : Nat) (Option.some (Jvm.ClassFile.FieldType.array Jvm.ClassFile.FieldType.byte))).before args0 about1 = true := code_word (m := ⟨16, 3⟩) (meth := k16m3) (c := k16c3) (by decide +kernel) rfl rfl rfl (by decide +kernel)
set_option maxRecDepth 65536 in
theorem w_c33 : (Jvm.Cond.code ({ cls := "java/util/Arrays", name := "copyOfRangeByte", desc := "([BII)[B" } : Jvm.MethodName) jdk_65_method_133_code (5 : Nat) (Option.some (Jvm.ClassFile.FieldType.array Jvm.ClassFile.FieldType.byte))).before args0 about1 = true := code_word (m := ⟨16, 4⟩) (meth := k16m4) (c := k16c4) (by decide +kernel) rfl rfl rfl (by decide +kernel)
set_option maxRecDepth 65536 in
theorem w_c34 : (Jvm.Cond.code ({ cls := "java/util/Arrays", name := "checkLength", desc := "(II)V" } : Jvm.MethodName) jdk_65_method_131_code (2 : Nat) (Option.none : Option Jvm.ClassFile.FieldType)).before args0 about1 = true := code_word (m := ⟨16, 2⟩) (meth := k16m2) (c := k16c2) (by decide +kernel) rfl rfl rfl (by decide +kernel)
set_option maxRecDepth 65536 in
theorem w_c35 : (Jvm.Cond.code ({ cls := "java/lang/String", name := "equals", desc := "(Ljava/lang/Object;)Z" } : Jvm.MethodName) jdk_42_method_66_code (3 : Nat) (Option.some Jvm.ClassFile.FieldType.boolean)).before args0 about1 = true := code_word (m := ⟨7, 4⟩) (meth := k7m4) (c := k7c4) (by decide +kernel) rfl rfl rfl (by decide +kernel)
set_option maxRecDepth 65536 in
theorem w_c36 : (Jvm.Cond.code ({ cls := "java/lang/StringLatin1", name := "equals", desc := "([B[B)Z" } : Jvm.MethodName) jdk_43_method_13_code (3 : Nat) (Option.some Jvm.ClassFile.FieldType.boolean)).before args0 about1 = true := code_word (m := ⟨17, 1⟩) (meth := k17m1) (c := k17c1) (by decide +kernel) rfl rfl rfl (by decide +kernel)
set_option maxRecDepth 65536 in
theorem w_c37 : (Jvm.Cond.code ({ cls := "java/lang/AbstractStringBuilder", name := "appendNull", desc := "()Ljava/lang/AbstractStringBuilder;" } : Jvm.MethodName) jdk_68_method_26_code (3 : Nat) (Option.some (Jvm.ClassFile.FieldType.object "java/lang/AbstractStringBuilder"))).before args0 about1 = true := code_word (m := ⟨11, 6⟩) (meth := k11m6) (c := k11c6) (by decide +kernel) rfl rfl rfl (by decide +kernel)
def codes1 : List Jvm.Cond := [Jvm.Cond.code x code maxLocals ret, Jvm.Cond.code ({ cls := "com/example/rockhopper/rockhopper/model/ValidatorsToStringPinLaw", name := "b", desc := "(II)C" } : Jvm.MethodName) method_3_code (2 : Nat) (Option.some Jvm.ClassFile.FieldType.char), Jvm.Cond.code ({ cls := "java/lang/String", name := "<init>", desc := "([C)V" } : Jvm.MethodName) jdk_42_method_3_code (2 : Nat) (Option.none : Option Jvm.ClassFile.FieldType), Jvm.Cond.code ({ cls := "java/lang/String", name := "<init>", desc := "([CIILjava/lang/Void;)V" } : Jvm.MethodName) jdk_42_method_149_code (6 : Nat) (Option.none : Option Jvm.ClassFile.FieldType), Jvm.Cond.code ({ cls := "java/lang/Object", name := "<init>", desc := "()V" } : Jvm.MethodName) object_method_1_code (1 : Nat) (Option.none : Option Jvm.ClassFile.FieldType), Jvm.Cond.code ({ cls := "java/lang/StringUTF16", name := "compress", desc := "([CII)[B" } : Jvm.MethodName) jdk_52_method_16_code (6 : Nat) (Option.some (Jvm.ClassFile.FieldType.array Jvm.ClassFile.FieldType.byte)), Jvm.Cond.code ({ cls := "java/lang/StringUTF16", name := "compress", desc := "([CI[BII)I" } : Jvm.MethodName) jdk_52_method_21_code (7 : Nat) (Option.some Jvm.ClassFile.FieldType.int), Jvm.Cond.code ({ cls := "java/lang/StringUTF16", name := "coderFromArrayLen", desc := "([BI)B" } : Jvm.MethodName) jdk_52_method_15_code (2 : Nat) (Option.some Jvm.ClassFile.FieldType.byte), Jvm.Cond.code ({ cls := "com/example/rockhopper/rockhopper/model/Validators", name := "<init>", desc := "(Ljava/lang/String;Ljava/lang/String;)V" } : Jvm.MethodName) prog_9_method_1_code (3 : Nat) (Option.none : Option Jvm.ClassFile.FieldType), Jvm.Cond.code ({ cls := "com/example/rockhopper/rockhopper/model/Validators", name := "toString", desc := "()Ljava/lang/String;" } : Jvm.MethodName) prog_9_method_6_code (1 : Nat) (Option.some (Jvm.ClassFile.FieldType.object "java/lang/String")), Jvm.Cond.code ({ cls := "java/lang/StringBuilder", name := "<init>", desc := "()V" } : Jvm.MethodName) jdk_67_method_1_code (1 : Nat) (Option.none : Option Jvm.ClassFile.FieldType), Jvm.Cond.code ({ cls := "java/lang/AbstractStringBuilder", name := "<init>", desc := "(I)V" } : Jvm.MethodName) jdk_68_method_2_code (2 : Nat) (Option.none : Option Jvm.ClassFile.FieldType), Jvm.Cond.code ({ cls := "java/lang/StringBuilder", name := "append", desc := "(Ljava/lang/String;)Ljava/lang/StringBuilder;" } : Jvm.MethodName) jdk_67_method_7_code (2 : Nat) (Option.some (Jvm.ClassFile.FieldType.object "java/lang/StringBuilder")), Jvm.Cond.code ({ cls := "java/lang/AbstractStringBuilder", name := "append", desc := "(Ljava/lang/String;)Ljava/lang/AbstractStringBuilder;" } : Jvm.MethodName) jdk_68_method_22_code (3 : Nat) (Option.some (Jvm.ClassFile.FieldType.object "java/lang/AbstractStringBuilder")), Jvm.Cond.code ({ cls := "java/lang/String", name := "length", desc := "()I" } : Jvm.MethodName) jdk_42_method_54_code (1 : Nat) (Option.some Jvm.ClassFile.FieldType.int), Jvm.Cond.code ({ cls := "java/lang/String", name := "coder", desc := "()B" } : Jvm.MethodName) jdk_42_method_152_code (1 : Nat) (Option.some Jvm.ClassFile.FieldType.byte), Jvm.Cond.code ({ cls := "java/lang/AbstractStringBuilder", name := "ensureCapacityInternal", desc := "(I)V" } : Jvm.MethodName) jdk_68_method_9_code (3 : Nat) (Option.none : Option Jvm.ClassFile.FieldType), Jvm.Cond.code ({ cls := "java/lang/AbstractStringBuilder", name := "putStringAt", desc := "(ILjava/lang/String;)V" } : Jvm.MethodName) jdk_68_method_73_code (3 : Nat) (Option.none : Option Jvm.ClassFile.FieldType), Jvm.Cond.code ({ cls := "java/lang/AbstractStringBuilder", name := "inflateIfNeededFor", desc := "(Ljava/lang/String;)V" } : Jvm.MethodName) jdk_68_method_71_code (2 : Nat) (Option.none : Option Jvm.ClassFile.FieldType), Jvm.Cond.code ({ cls := "java/lang/String", name := "getBytes", desc := "([BIB)V" } : Jvm.MethodName) jdk_42_method_147_code (4 : Nat) (Option.none : Option Jvm.ClassFile.FieldType), Jvm.Cond.code ({ cls := "java/lang/AbstractStringBuilder", name := "newCapacity", desc := "(I)I" } : Jvm.MethodName) jdk_68_method_10_code (6 : Nat) (Option.some Jvm.ClassFile.FieldType.int), Jvm.Cond.code ({ cls := "jdk/internal/util/ArraysSupport", name := "newLength", desc := "(III)I" } : Jvm.MethodName) jdk_48_method_27_code (4 : Nat) (Option.some Jvm.ClassFile.FieldType.int), Jvm.Cond.code ({ cls := "java/lang/Math", name := "max", desc := "(II)I" } : Jvm.MethodName) jdk_29_method_65_code (2 : Nat) (Option.some Jvm.ClassFile.FieldType.int), Jvm.Cond.code ({ cls := "java/util/Arrays", name := "copyOf", desc := "([BI)[B" } : Jvm.MethodName) jdk_65_method_121_code (3 : Nat) (Option.some (Jvm.ClassFile.FieldType.array Jvm.ClassFile.FieldType.byte)), Jvm.Cond.code ({ cls := "java/lang/Math", name := "min", desc := "(II)I" } : Jvm.MethodName) jdk_29_method_69_code (2 : Nat) (Option.some Jvm.ClassFile.FieldType.int), Jvm.Cond.code ({ cls := "java/lang/StringBuilder", name := "toString", desc := "()Ljava/lang/String;" } : Jvm.MethodName) jdk_67_method_42_code (1 : Nat) (Option.some (Jvm.ClassFile.FieldType.object "java/lang/String")), Jvm.Cond.code ({ cls := "java/lang/String", name := "<init>", desc := "(Ljava/lang/StringBuilder;)V" } : Jvm.MethodName) jdk_42_method_53_code (2 : Nat) (Option.none : Option Jvm.ClassFile.FieldType), Jvm.Cond.code ({ cls := "java/lang/String", name := "<init>", desc := "(Ljava/lang/AbstractStringBuilder;Ljava/lang/Void;)V" } : Jvm.MethodName) jdk_42_method_150_code (5 : Nat) (Option.none : Option Jvm.ClassFile.FieldType), Jvm.Cond.code ({ cls := "java/lang/AbstractStringBuilder", name := "getValue", desc := "()[B" } : Jvm.MethodName) jdk_68_method_64_code (1 : Nat) (Option.some (Jvm.ClassFile.FieldType.array Jvm.ClassFile.FieldType.byte)), Jvm.Cond.code ({ cls := "java/lang/StringBuilder", name := "length", desc := "()I" } : Jvm.MethodName) jdk_67_method_93_code (1 : Nat) (Option.some Jvm.ClassFile.FieldType.int), Jvm.Cond.code ({ cls := "java/lang/AbstractStringBuilder", name := "length", desc := "()I" } : Jvm.MethodName) jdk_68_method_6_code (1 : Nat) (Option.some Jvm.ClassFile.FieldType.int), Jvm.Cond.code ({ cls := "java/lang/AbstractStringBuilder", name := "isLatin1", desc := "()Z" } : Jvm.MethodName) jdk_68_method_68_code (1 : Nat) (Option.some Jvm.ClassFile.FieldType.boolean), Jvm.Cond.code ({ cls := "java/util/Arrays", name := "copyOfRange", desc := "([BII)[B" } : Jvm.MethodName) jdk_65_method_132_code (3 : Nat) (Option.some (Jvm.ClassFile.FieldType.array Jvm.ClassFile.FieldType.byte)), Jvm.Cond.code ({ cls := "java/util/Arrays", name := "copyOfRangeByte", desc := "([BII)[B" } : Jvm.MethodName) jdk_65_method_133_code (5 : Nat) (Option.some (Jvm.ClassFile.FieldType.array Jvm.ClassFile.FieldType.byte)), Jvm.Cond.code ({ cls := "java/util/Arrays", name := "checkLength", desc := "(II)V" } : Jvm.MethodName) jdk_65_method_131_code (2 : Nat) (Option.none : Option Jvm.ClassFile.FieldType), Jvm.Cond.code ({ cls := "java/lang/String", name := "equals", desc := "(Ljava/lang/Object;)Z" } : Jvm.MethodName) jdk_42_method_66_code (3 : Nat) (Option.some Jvm.ClassFile.FieldType.boolean), Jvm.Cond.code ({ cls := "java/lang/StringLatin1", name := "equals", desc := "([B[B)Z" } : Jvm.MethodName) jdk_43_method_13_code (3 : Nat) (Option.some Jvm.ClassFile.FieldType.boolean), Jvm.Cond.code ({ cls := "java/lang/AbstractStringBuilder", name := "appendNull", desc := "()Ljava/lang/AbstractStringBuilder;" } : Jvm.MethodName) jdk_68_method_26_code (3 : Nat) (Option.some (Jvm.ClassFile.FieldType.object "java/lang/AbstractStringBuilder"))]
set_option maxRecDepth 65536 in
theorem codes_eq : words1.filter isCode = codes1 := rfl
theorem w_codes : ∀ c ∈ words1.filter isCode, c.before args0 about1 = true := by
  rw [codes_eq]
  intro c hc
  simp only [codes1, List.mem_cons, List.not_mem_nil, or_false] at hc
  rcases hc with rfl | rfl | rfl | rfl | rfl | rfl | rfl | rfl | rfl | rfl | rfl | rfl | rfl | rfl | rfl | rfl | rfl | rfl | rfl | rfl | rfl | rfl | rfl | rfl | rfl | rfl | rfl | rfl | rfl | rfl | rfl | rfl | rfl | rfl | rfl | rfl | rfl | rfl
  · exact w_c0
  · exact w_c1
  · exact w_c2
  · exact w_c3
  · exact w_c4
  · exact w_c5
  · exact w_c6
  · exact w_c7
  · exact w_c8
  · exact w_c9
  · exact w_c10
  · exact w_c11
  · exact w_c12
  · exact w_c13
  · exact w_c14
  · exact w_c15
  · exact w_c16
  · exact w_c17
  · exact w_c18
  · exact w_c19
  · exact w_c20
  · exact w_c21
  · exact w_c22
  · exact w_c23
  · exact w_c24
  · exact w_c25
  · exact w_c26
  · exact w_c27
  · exact w_c28
  · exact w_c29
  · exact w_c30
  · exact w_c31
  · exact w_c32
  · exact w_c33
  · exact w_c34
  · exact w_c35
  · exact w_c36
  · exact w_c37
set_option maxRecDepth 65536 in
theorem w_t1 : (words1.take 24).all (fun c => isCode c || c.before args0 about1) = true := by decide +kernel
set_option maxRecDepth 65536 in
theorem w_t2 : ((words1.drop 24).take 24).all (fun c => isCode c || c.before args0 about1) = true := by decide +kernel
set_option maxRecDepth 65536 in
theorem w_t3 : (((words1.drop 24).drop 24).take 24).all (fun c => isCode c || c.before args0 about1) = true := by decide +kernel
set_option maxRecDepth 65536 in
theorem w_t4 : ((((words1.drop 24).drop 24).drop 24).take 24).all (fun c => isCode c || c.before args0 about1) = true := by decide +kernel
set_option maxRecDepth 65536 in
theorem w_t5 : (((((words1.drop 24).drop 24).drop 24).drop 24).take 24).all (fun c => isCode c || c.before args0 about1) = true := by decide +kernel
set_option maxRecDepth 65536 in
theorem w_t6 : ((((((words1.drop 24).drop 24).drop 24).drop 24).drop 24).take 24).all (fun c => isCode c || c.before args0 about1) = true := by decide +kernel
set_option maxRecDepth 65536 in
theorem w_t7 : (((((((words1.drop 24).drop 24).drop 24).drop 24).drop 24).drop 24).take 24).all (fun c => isCode c || c.before args0 about1) = true := by decide +kernel
set_option maxRecDepth 65536 in
theorem w_t8 : ((((((((words1.drop 24).drop 24).drop 24).drop 24).drop 24).drop 24).drop 24).take 24).all (fun c => isCode c || c.before args0 about1) = true := by decide +kernel
set_option maxRecDepth 65536 in
theorem w_t9 : ((((((((words1.drop 24).drop 24).drop 24).drop 24).drop 24).drop 24).drop 24).drop 24).all (fun c => isCode c || c.before args0 about1) = true := by decide +kernel
theorem w_tables : (allAtoms (Jvm.Cond.code x code maxLocals ret :: tables_1)).before args0 about1 = true := by
  rw [allAtoms_all]
  show words1.all (fun c => c.before args0 about1) = true
  refine all_split ?_ w_codes
  rw [← List.take_append_drop 24 words1, List.all_append, w_t1, ← List.take_append_drop 24 (words1.drop 24), List.all_append, w_t2, ← List.take_append_drop 24 ((words1.drop 24).drop 24), List.all_append, w_t3, ← List.take_append_drop 24 (((words1.drop 24).drop 24).drop 24), List.all_append, w_t4, ← List.take_append_drop 24 ((((words1.drop 24).drop 24).drop 24).drop 24), List.all_append, w_t5, ← List.take_append_drop 24 (((((words1.drop 24).drop 24).drop 24).drop 24).drop 24), List.all_append, w_t6, ← List.take_append_drop 24 ((((((words1.drop 24).drop 24).drop 24).drop 24).drop 24).drop 24), List.all_append, w_t7, ← List.take_append_drop 24 (((((((words1.drop 24).drop 24).drop 24).drop 24).drop 24).drop 24).drop 24), List.all_append, w_t8, w_t9]
  rfl
set_option maxRecDepth 65536 in
theorem w_rest : rest_1_c.before args0 about1 = true := by decide +kernel
set_option maxRecDepth 65536 in
theorem w_case : (Jvm.Cond.and given_1 narrow_1).before args0 about1 = true := by decide +kernel
set_option maxRecDepth 65536 in
theorem w_consts : constsHeld consts_1 about1 := Jvm.Lit.constsHeldB_iff.mp (by decide +kernel)
theorem w_applies : (headSpec (Jvm.Cond.code x code maxLocals ret :: tables_1) room_1).applies x e0.platform about1 = true :=
  (Spec.applies_iff w_frames).mpr ⟨w_running, w_runnable, w_alone, w_named, w_hears, w_ripe, w_room, w_tables⟩
theorem atStart : AtStart classFile x code maxLocals ret World_1 tables_1 room_1 Calls_1 rest_1 Pre_1 launch0 p0 e0 about1 theMethod args0 below0 :=
  ⟨lists_1, trivial, launch0.admits_env _ _ _, launch0.least_env, fairChoices_fair.cas, fairChoices_fair.clock, w_frames, w_args, w_heap, w_applies, ⟨w_consts, trivial⟩, w_rest, w_case⟩
end start1
theorem witness_1 : WitnessClaimed_1 := ⟨start1.p0, start1.e0, start1.about1, start1.theMethod, start1.args0, start1.below0, start1.atStart⟩
end Jvm.Pilot.@@N@@
