
import JvmDerived
import JvmDerived.Pilot.@@N@@Statement
import JvmDerived.Pilot.@@N@@Code
set_option linter.unusedVariables false
set_option linter.unusedSimpArgs false
namespace Jvm.RoadKit
open Sem ClassFile Op Lib Jvm.Stand Jvm.Free Jvm.LawKit
section OwnGo
variable {p : Program} {l : Launch} {e : Env} {R : Room} {s : State} {m : MethodId} {args : Array Value} {below : List Frame} {meth : Method} {c : Code} {T : State} {locs : List Loc} {cells slots kc ks : Nat} {Z : State} {a0 : Array Value} {h : Heap} {Q : Option Value → Heap → List Loc → Prop} {F0 : State → Outcome → Prop}
/-- what is left of a run from T: it ends, and F0 holds of its end -/
def Go (p : Program) (e : Env) (below : List Frame) (F0 : State → Outcome → Prop) (T : State) : Prop :=
  ∃ (U : State) (o : Outcome), Steps p.tables e below T U ∧ U.status = .running ∧ Ended U below o ∧ F0 U o
def EndN (s : State) (Q : Option Value → Heap → List Loc → Prop) (kc ks : Nat) (U : State) (o : Outcome) : Prop := ∃ v L, o = .returned v ∧ Q v U.heap L ∧ FrameEnd s o U L kc ks
theorem Go.step {T' : State} (g : ∀ t, Steps p.tables e below T' t → Steps p.tables e below T t) (k : Go p e below F0 T') : Go p e below F0 T := by
  obtain ⟨U, o, h1, r⟩ := k
  exact ⟨U, o, g _ h1, r⟩
theorem Go.cast {g g' : JFrame} (q : g = g') (k : Go p e below F0 (T.setTop g')) : Go p e below F0 (T.setTop g) := by rw [q]; exact k
/-- a body's contract: from these arguments and this heap it returns, and Q holds -/
def Ctr (l : Launch) (Z : State) (y : MethodName) (bytes : ByteArray) (maxL : Nat) (ret : Option FieldType) (rm : Room) (as : Array Value) (h : Heap) (Q : Option Value → Heap → List Loc → Prop) : Prop :=
  ∀ ws : List Jvm.Cond, MetFree l y (head1 (Jvm.Cond.code y bytes maxL ret :: ws) rm) (fun a U => a = as ∧ Z.Warmed39 U.vm ∧ U.heap = h) (fun _ _ _ _ _ => True) (fun _ U o U' => ∃ v L, o = .returned v ∧ Q v U'.heap L ∧ FrameEnd U o U' L rm.cells rm.slots)
theorem Ctr.of {y : MethodName} {bytes : ByteArray} {maxL : Nat} {ret : Option FieldType} {rm : Room} {as : Array Value} (hp : plainFor y = true)
    (body : ∀ (p : Program) (e : Env) (s : State) (m : MethodId) (below : List Frame) (meth : Method) (c : Code) (T : State), p.tables.exec = Jvm.exec → Z.Warmed39 s.vm → c.code = bytes → c.maxLocals = maxL → s.vm.findClass y.cls = some m.cls → meth.name = y.name → meth.sig.returnType = ret → meth.locks = false → T.heap = h → s.heap = h → Stand p l e rm s m as below meth c T [] 0 0 →
      Go p e below (EndN s Q rm.cells rm.slots) (T.setTop (entryFrame m as maxL))) : Ctr l Z y bytes maxL ret rm as h Q := by
  intro ws
  refine MetFree.of_bodySF hp hisR ?_
  intro p e s m args below meth c s₁ Bd hml0 hP hK
  obtain ⟨rfl, hZ, hh⟩ := hP
  exact body p e s m below meth c s₁ Bd.exec hZ Bd.bytes hml0 (findClass_of_methodNamed Bd.named) (name_of_methodNamed Bd.named Bd.method).1 Bd.returns Bd.notSynchronized (by rw [← hh, Bd.state]; rfl) hh (Stand.of_body Bd)
theorem Go.ret0 (X : Stand p l e R s m args below meth c T locs cells slots) (hx : p.tables.exec = Jvm.exec) (hlk : meth.locks = false) (hret : meth.sig.returnType = none) {pc : Nat} {Ls : Array Slot} (hd : decode c.code pc = .ok (.return_, 1)) (hc : cells ≤ kc) (hs : slots ≤ ks) (q : Q none T.heap locs) : Go p e below (EndN s Q kc ks) (T.setTop (mkF m pc Ls [])) := by
  obtain ⟨fs, hr, hrun, hended, hW, hsame⟩ := X.leave (v := none) (fun _ => rfl) hlk
  exact ⟨_, _, X.returnOut hx hret hd hr, hrun, hended, _, _, rfl, q, ⟨_, rfl⟩, hW, hsame.mono hc hs⟩
theorem Go.retV (X : Stand p l e R s m args below meth c T locs cells slots) (hx : p.tables.exec = Jvm.exec) (hlk : meth.locks = false) {t : FieldType} (hret : meth.sig.returnType = some t) {pc : Nat} {Ls : Array Slot} {v : Value} {i : Instr} {rest : List Value} (hn : narrow t v = v)
    (hi : (i = .ireturn ∧ (t = .int ∨ t = .boolean ∨ t = .byte ∨ t = .char ∨ t = .short) ∧ ∃ z, v = .int z) ∨ (i = .lreturn ∧ t = .long ∧ ∃ z, v = .long z) ∨ (i = .dreturn ∧ t = .double ∧ ∃ z, v = .double z) ∨ (i = .freturn ∧ t = .float ∧ ∃ z, v = .float z) ∨ (i = .areturn ∧ t.isReference = true ∧ v.isRef = true))
    (hd : decode c.code pc = .ok (i, 1)) (hc : cells ≤ kc) (hs : slots ≤ ks) (q : Q (some v) T.heap locs) : Go p e below (EndN s Q kc ks) (T.setTop (mkF m pc Ls (v :: rest))) := by
  obtain ⟨fs, hr, hrun, hended, hW, hsame⟩ := X.leave (v := some v) (fun h => by rw [hret] at h; cases h) hlk
  exact ⟨_, _, retOut X hx hret hn hi hd hr, hrun, hended, _, _, rfl, q, ⟨_, rfl⟩, hW, hsame.mono hc hs⟩
theorem Go.retI (X : Stand p l e R s m args below meth c T locs cells slots) (hx : p.tables.exec = Jvm.exec) (hlk : meth.locks = false) (hret : meth.sig.returnType = some .int) {pc : Nat} {Ls : Array Slot} {z : Int32} {rest : List Value} (hd : decode c.code pc = .ok (.ireturn, 1)) (hc : cells ≤ kc) (hs : slots ≤ ks) (q : Q (some (.int z)) T.heap locs) : Go p e below (EndN s Q kc ks) (T.setTop (mkF m pc Ls (.int z :: rest))) :=
  Go.retV X hx hlk hret rfl (Or.inl ⟨rfl, Or.inl rfl, _, rfl⟩) hd hc hs q
theorem Go.retR (X : Stand p l e R s m args below meth c T locs cells slots) (hx : p.tables.exec = Jvm.exec) (hlk : meth.locks = false) {t : FieldType} (hret : meth.sig.returnType = some t) (ht : t.isReference = true) {pc : Nat} {Ls : Array Slot} {v : Value} (hv : v.isRef = true) {rest : List Value} (hd : decode c.code pc = .ok (.areturn, 1)) (hc : cells ≤ kc) (hs : slots ≤ ks) (q : Q (some v) T.heap locs) : Go p e below (EndN s Q kc ks) (T.setTop (mkF m pc Ls (v :: rest))) :=
  Go.retV X hx hlk hret (by rcases ref_cases hv with rfl | ⟨z, rfl⟩ <;> cases t <;> simp [FieldType.isReference] at ht <;> rfl) (Or.inr (Or.inr (Or.inr (Or.inr ⟨rfl, ht, hv⟩)))) hd hc hs q
theorem Go.retN (X : Stand p l e R s m args below meth c T locs cells slots) (hx : p.tables.exec = Jvm.exec) (hlk : meth.locks = false) {t : FieldType} (hret : meth.sig.returnType = some t) (ht : t = .boolean ∨ t = .byte ∨ t = .char ∨ t = .short) {pc : Nat} {Ls : Array Slot} {z : Int32} {rest : List Value} (hd : decode c.code pc = .ok (.ireturn, 1)) (hc : cells ≤ kc) (hs : slots ≤ ks) (q : Q (some (.int (nar t z))) T.heap locs) : Go p e below (EndN s Q kc ks) (T.setTop (mkF m pc Ls (.int z :: rest))) := by
  obtain ⟨fs, hr, hrun, hended, hW, hsame⟩ := X.leave (v := some (.int (nar t z))) (fun h => by rw [hret] at h; cases h) hlk
  exact ⟨_, _, Jvm.RoadKit.retN X hx hret ht hd hr, hrun, hended, _, _, rfl, q, ⟨_, rfl⟩, hW, hsame.mono hc hs⟩
theorem Go.iloadN (X : Stand p l e R s m args below meth c T locs cells slots) (hx : p.tables.exec = Jvm.exec) {pc pc' : Nat} {Ls : Array Slot} {st : List Value} {k : Fin 4} {v : Int32} (hp : pc' = pc + 1) (hd : decode c.code pc = .ok (.iload_n k, 1)) (hl : Ls[k.val]? = some (.val (.int v))) (k : Go p e below F0 (T.setTop (mkF m pc' Ls (.int v :: st)))) : Go p e below F0 (T.setTop (mkF m pc Ls st)) := by
  subst hp
  exact Go.step (fun t kt => XS.iloadN X.here hx (g := mkF m pc Ls _) rfl hd hl kt) k
theorem Go.iload (X : Stand p l e R s m args below meth c T locs cells slots) (hx : p.tables.exec = Jvm.exec) {pc pc' : Nat} {Ls : Array Slot} {st : List Value} {k : Nat} {v : Int32} (hp : pc' = pc + 2) (hd : decode c.code pc = .ok (.iload k, 2)) (hl : Ls[k]? = some (.val (.int v))) (k : Go p e below F0 (T.setTop (mkF m pc' Ls (.int v :: st)))) : Go p e below F0 (T.setTop (mkF m pc Ls st)) := by
  subst hp
  exact Go.step (fun t kt => XS.iload X.here hx (g := mkF m pc Ls _) rfl hd hl kt) k
theorem Go.aloadN (X : Stand p l e R s m args below meth c T locs cells slots) (hx : p.tables.exec = Jvm.exec) {pc pc' : Nat} {Ls : Array Slot} {st : List Value} {k : Fin 4} {v : Value} (hp : pc' = pc + 1) (hd : decode c.code pc = .ok (.aload_n k, 1)) (hl : Ls[k.val]? = some (.val v)) (hv : v.isRef = true) (k : Go p e below F0 (T.setTop (mkF m pc' Ls (v :: st)))) : Go p e below F0 (T.setTop (mkF m pc Ls st)) := by
  subst hp
  exact Go.step (fun t kt => XS.aloadN X.here hx (g := mkF m pc Ls _) rfl hd hl hv kt) k
theorem Go.aload (X : Stand p l e R s m args below meth c T locs cells slots) (hx : p.tables.exec = Jvm.exec) {pc pc' : Nat} {Ls : Array Slot} {st : List Value} {k : Nat} {v : Value} (hp : pc' = pc + 2) (hd : decode c.code pc = .ok (.aload k, 2)) (hl : Ls[k]? = some (.val v)) (hv : v.isRef = true) (k : Go p e below F0 (T.setTop (mkF m pc' Ls (v :: st)))) : Go p e below F0 (T.setTop (mkF m pc Ls st)) := by
  subst hp
  exact Go.step (fun t kt => XS.aload X.here hx (g := mkF m pc Ls _) rfl hd hl hv kt) k
theorem Go.iconst (X : Stand p l e R s m args below meth c T locs cells slots) (hx : p.tables.exec = Jvm.exec) {pc pc' : Nat} {Ls : Array Slot} {st : List Value} {i : Int} {v : Int32} (hp : pc' = pc + 1) (hd : decode c.code pc = .ok (.iconst i, 1)) (hv : Int32.ofInt i = v) (k : Go p e below F0 (T.setTop (mkF m pc' Ls (.int v :: st)))) : Go p e below F0 (T.setTop (mkF m pc Ls st)) := by
  subst hp
  exact Go.step (fun t kt => XS.iconst X.here hx (g := mkF m pc Ls _) rfl hd (by rw [hv]; exact kt)) k
theorem Go.bipush (X : Stand p l e R s m args below meth c T locs cells slots) (hx : p.tables.exec = Jvm.exec) {pc pc' : Nat} {Ls : Array Slot} {st : List Value} {i : Int} {v : Int32} (hp : pc' = pc + 2) (hd : decode c.code pc = .ok (.bipush i, 2)) (hv : (Int8.ofInt i).toInt32 = v) (k : Go p e below F0 (T.setTop (mkF m pc' Ls (.int v :: st)))) : Go p e below F0 (T.setTop (mkF m pc Ls st)) := by
  subst hp
  exact Go.step (fun t kt => XS.bipush X.here hx (g := mkF m pc Ls _) rfl hd (by rw [hv]; exact kt)) k
theorem Go.sipush (X : Stand p l e R s m args below meth c T locs cells slots) (hx : p.tables.exec = Jvm.exec) {pc pc' : Nat} {Ls : Array Slot} {st : List Value} {i : Int} {v : Int32} (hp : pc' = pc + 3) (hd : decode c.code pc = .ok (.sipush i, 3)) (hv : (Int16.ofInt i).toInt32 = v) (k : Go p e below F0 (T.setTop (mkF m pc' Ls (.int v :: st)))) : Go p e below F0 (T.setTop (mkF m pc Ls st)) := by
  subst hp
  exact Go.step (fun t kt => XS.sipush X.here hx (g := mkF m pc Ls _) rfl hd (by rw [hv]; exact kt)) k
theorem Go.anull (X : Stand p l e R s m args below meth c T locs cells slots) (hx : p.tables.exec = Jvm.exec) {pc pc' : Nat} {Ls : Array Slot} {st : List Value} (hp : pc' = pc + 1) (hd : decode c.code pc = .ok (.aconst_null, 1))  (k : Go p e below F0 (T.setTop (mkF m pc' Ls (.null :: st)))) : Go p e below F0 (T.setTop (mkF m pc Ls st)) := by
  subst hp
  exact Go.step (fun t kt => XS.aconstNull X.here hx (g := mkF m pc Ls _) rfl hd kt) k
theorem Go.iadd (X : Stand p l e R s m args below meth c T locs cells slots) (hx : p.tables.exec = Jvm.exec) {pc pc' : Nat} {Ls : Array Slot} {x y : Int32} {rest : List Value} (hp : pc' = pc + 1) (hd : decode c.code pc = .ok (.iadd, 1))  (k : Go p e below F0 (T.setTop (mkF m pc' Ls (.int (x + y) :: rest)))) : Go p e below F0 (T.setTop (mkF m pc Ls (.int y :: .int x :: rest))) := by
  subst hp
  exact Go.step (fun t kt => XS.iadd X.here hx (g := mkF m pc Ls _) rfl hd rfl kt) k
theorem Go.isub (X : Stand p l e R s m args below meth c T locs cells slots) (hx : p.tables.exec = Jvm.exec) {pc pc' : Nat} {Ls : Array Slot} {x y : Int32} {rest : List Value} (hp : pc' = pc + 1) (hd : decode c.code pc = .ok (.isub, 1))  (k : Go p e below F0 (T.setTop (mkF m pc' Ls (.int (x - y) :: rest)))) : Go p e below F0 (T.setTop (mkF m pc Ls (.int y :: .int x :: rest))) := by
  subst hp
  exact Go.step (fun t kt => XS.isub X.here hx (g := mkF m pc Ls _) rfl hd rfl kt) k
theorem Go.iand (X : Stand p l e R s m args below meth c T locs cells slots) (hx : p.tables.exec = Jvm.exec) {pc pc' : Nat} {Ls : Array Slot} {x y : Int32} {rest : List Value} (hp : pc' = pc + 1) (hd : decode c.code pc = .ok (.iand, 1))  (k : Go p e below F0 (T.setTop (mkF m pc' Ls (.int (x &&& y) :: rest)))) : Go p e below F0 (T.setTop (mkF m pc Ls (.int y :: .int x :: rest))) := by
  subst hp
  exact Go.step (fun t kt => XS.iand X.here hx (g := mkF m pc Ls _) rfl hd rfl kt) k
theorem Go.ishr (X : Stand p l e R s m args below meth c T locs cells slots) (hx : p.tables.exec = Jvm.exec) {pc pc' : Nat} {Ls : Array Slot} {x y : Int32} {rest : List Value} (hp : pc' = pc + 1) (hd : decode c.code pc = .ok (.ishr, 1))  (k : Go p e below F0 (T.setTop (mkF m pc' Ls (.int (x >>> (y &&& 31)) :: rest)))) : Go p e below F0 (T.setTop (mkF m pc Ls (.int y :: .int x :: rest))) := by
  subst hp
  exact Go.step (fun t kt => XT.ishr X.here hx (g := mkF m pc Ls _) rfl hd rfl kt) k
theorem Go.iushr (X : Stand p l e R s m args below meth c T locs cells slots) (hx : p.tables.exec = Jvm.exec) {pc pc' : Nat} {Ls : Array Slot} {x y : Int32} {rest : List Value} (hp : pc' = pc + 1) (hd : decode c.code pc = .ok (.iushr, 1))  (k : Go p e below F0 (T.setTop (mkF m pc' Ls (.int ((x.toUInt32 >>> (y &&& 31).toUInt32).toInt32) :: rest)))) : Go p e below F0 (T.setTop (mkF m pc Ls (.int y :: .int x :: rest))) := by
  subst hp
  exact Go.step (fun t kt => XT.iushr X.here hx (g := mkF m pc Ls _) rfl hd rfl kt) k
theorem Go.irem (X : Stand p l e R s m args below meth c T locs cells slots) (hx : p.tables.exec = Jvm.exec) {pc pc' : Nat} {Ls : Array Slot} {x y : Int32} {rest : List Value} (hp : pc' = pc + 1) (hd : decode c.code pc = .ok (.irem, 1)) (hy : y ≠ 0) (k : Go p e below F0 (T.setTop (mkF m pc' Ls (.int (x % y) :: rest)))) : Go p e below F0 (T.setTop (mkF m pc Ls (.int y :: .int x :: rest))) := by
  subst hp
  exact Go.step (fun t kt => iremM X hx (g := mkF m pc Ls _) rfl hd rfl hy kt) k
theorem Go.i2b (X : Stand p l e R s m args below meth c T locs cells slots) (hx : p.tables.exec = Jvm.exec) {pc pc' : Nat} {Ls : Array Slot} {x : Int32} {rest : List Value} (hp : pc' = pc + 1) (hd : decode c.code pc = .ok (.i2b, 1))  (k : Go p e below F0 (T.setTop (mkF m pc' Ls (.int (x.toInt8.toInt32) :: rest)))) : Go p e below F0 (T.setTop (mkF m pc Ls (.int x :: rest))) := by
  subst hp
  exact Go.step (fun t kt => XT.i2b X.here hx (g := mkF m pc Ls _) rfl hd rfl kt) k
theorem Go.i2c (X : Stand p l e R s m args below meth c T locs cells slots) (hx : p.tables.exec = Jvm.exec) {pc pc' : Nat} {Ls : Array Slot} {x : Int32} {rest : List Value} (hp : pc' = pc + 1) (hd : decode c.code pc = .ok (.i2c, 1))  (k : Go p e below F0 (T.setTop (mkF m pc' Ls (.int (x.toUInt32.toUInt16.toUInt32.toInt32) :: rest)))) : Go p e below F0 (T.setTop (mkF m pc Ls (.int x :: rest))) := by
  subst hp
  exact Go.step (fun t kt => XT.i2c X.here hx (g := mkF m pc Ls _) rfl hd rfl kt) k
theorem Go.dup (X : Stand p l e R s m args below meth c T locs cells slots) (hx : p.tables.exec = Jvm.exec) {pc pc' : Nat} {Ls : Array Slot} {x : Value} {rest : List Value} (hp : pc' = pc + 1) (hd : decode c.code pc = .ok (.dup, 1)) (hc : x.category = 1) (k : Go p e below F0 (T.setTop (mkF m pc' Ls (x :: x :: rest)))) : Go p e below F0 (T.setTop (mkF m pc Ls (x :: rest))) := by
  subst hp
  exact Go.step (fun t kt => XS.dup X.here hx (g := mkF m pc Ls _) rfl hd rfl hc kt) k
theorem Go.pop (X : Stand p l e R s m args below meth c T locs cells slots) (hx : p.tables.exec = Jvm.exec) {pc pc' : Nat} {Ls : Array Slot} {x : Value} {rest : List Value} (hp : pc' = pc + 1) (hd : decode c.code pc = .ok (.pop, 1)) (hc : x.category = 1) (k : Go p e below F0 (T.setTop (mkF m pc' Ls rest))) : Go p e below F0 (T.setTop (mkF m pc Ls (x :: rest))) := by
  subst hp
  exact Go.step (fun t kt => XT.pop X.here hx (g := mkF m pc Ls _) rfl hd rfl hc kt) k
theorem Go.istoreN (X : Stand p l e R s m args below meth c T locs cells slots) (hx : p.tables.exec = Jvm.exec) {pc pc' : Nat} {Ls : Array Slot} {k : Fin 4} {x : Int32} {rest : List Value} {Ls' : Array Slot} (hp : pc' = pc + 1) (hd : decode c.code pc = .ok (.istore_n k, 1)) (hl : storeLocals Ls k.val (.int x) = some Ls') (k : Go p e below F0 (T.setTop (mkF m pc' Ls' rest))) : Go p e below F0 (T.setTop (mkF m pc Ls (.int x :: rest))) := by
  subst hp
  exact Go.step (fun t kt => XS.istoreN X.here hx (g := mkF m pc Ls _) rfl hd rfl hl kt) k
theorem Go.istore (X : Stand p l e R s m args below meth c T locs cells slots) (hx : p.tables.exec = Jvm.exec) {pc pc' : Nat} {Ls : Array Slot} {k : Nat} {x : Int32} {rest : List Value} {Ls' : Array Slot} (hp : pc' = pc + 2) (hd : decode c.code pc = .ok (.istore k, 2)) (hl : storeLocals Ls k (.int x) = some Ls') (k : Go p e below F0 (T.setTop (mkF m pc' Ls' rest))) : Go p e below F0 (T.setTop (mkF m pc Ls (.int x :: rest))) := by
  subst hp
  exact Go.step (fun t kt => XS.istore X.here hx (g := mkF m pc Ls _) rfl hd rfl hl kt) k
theorem Go.astoreN (X : Stand p l e R s m args below meth c T locs cells slots) (hx : p.tables.exec = Jvm.exec) {pc pc' : Nat} {Ls : Array Slot} {k : Fin 4} {x : Value} {rest : List Value} {Ls' : Array Slot} (hp : pc' = pc + 1) (hd : decode c.code pc = .ok (.astore_n k, 1)) (hv : x.isRef = true) (hl : storeLocals Ls k.val x = some Ls') (k : Go p e below F0 (T.setTop (mkF m pc' Ls' rest))) : Go p e below F0 (T.setTop (mkF m pc Ls (x :: rest))) := by
  subst hp
  exact Go.step (fun t kt => XS.astoreN X.here hx (g := mkF m pc Ls _) rfl hd rfl hv hl kt) k
theorem Go.astore (X : Stand p l e R s m args below meth c T locs cells slots) (hx : p.tables.exec = Jvm.exec) {pc pc' : Nat} {Ls : Array Slot} {k : Nat} {x : Value} {rest : List Value} {Ls' : Array Slot} (hp : pc' = pc + 2) (hd : decode c.code pc = .ok (.astore k, 2)) (hv : x.isRef = true) (hl : storeLocals Ls k x = some Ls') (k : Go p e below F0 (T.setTop (mkF m pc' Ls' rest))) : Go p e below F0 (T.setTop (mkF m pc Ls (x :: rest))) := by
  subst hp
  exact Go.step (fun t kt => XS.astore X.here hx (g := mkF m pc Ls _) rfl hd rfl hv hl kt) k
theorem Go.iinc (X : Stand p l e R s m args below meth c T locs cells slots) (hx : p.tables.exec = Jvm.exec) {pc pc' : Nat} {Ls : Array Slot} {st : List Value} {k : Nat} {cst : Int} {x y : Int32} {Ls' : Array Slot} (hp : pc' = pc + 3) (hd : decode c.code pc = .ok (.iinc k cst, 3)) (hl : Ls[k]? = some (.val (.int x))) (hy : x + Int32.ofInt cst = y) (hl' : storeLocals Ls k (.int y) = some Ls') (k : Go p e below F0 (T.setTop (mkF m pc' Ls' st))) : Go p e below F0 (T.setTop (mkF m pc Ls st)) := by
  subst hp
  exact Go.step (fun t kt => XS.iinc X.here hx (g := mkF m pc Ls _) rfl hd hl (by rw [hy]; exact hl') kt) k
theorem Go.goto (X : Stand p l e R s m args below meth c T locs cells slots) (hx : p.tables.exec = Jvm.exec) {pc pc' : Nat} {Ls : Array Slot} {o : Int} {st : List Value} (hd : decode c.code pc = .ok (.goto o, 3))  (ho : 0 ≤ (pc : Int) + o) (hp : ((pc : Int) + o).toNat = pc') (k : Go p e below F0 (T.setTop (mkF m pc' Ls st))) : Go p e below F0 (T.setTop (mkF m pc Ls st)) :=
  Go.step (fun t kt => XS.goto X.here hx (g := mkF m pc Ls _) rfl rfl hd ho hp kt) k
theorem Go.ifYes (X : Stand p l e R s m args below meth c T locs cells slots) (hx : p.tables.exec = Jvm.exec) {pc pc' : Nat} {Ls : Array Slot} {o : Int} {cd : ClassFile.Cond} {x : Int32} {rest : List Value} (hd : decode c.code pc = .ok (.ifCond cd o, 3)) (hc : if_icmp.holds cd x 0 = true) (ho : 0 ≤ (pc : Int) + o) (hp : ((pc : Int) + o).toNat = pc') (k : Go p e below F0 (T.setTop (mkF m pc' Ls rest))) : Go p e below F0 (T.setTop (mkF m pc Ls (.int x :: rest))) :=
  Go.step (fun t kt => XS.ifYes X.here hx (g := mkF m pc Ls _) rfl rfl hd rfl ((if0 _ _).trans hc) ho hp kt) k
theorem Go.icmpYes (X : Stand p l e R s m args below meth c T locs cells slots) (hx : p.tables.exec = Jvm.exec) {pc pc' : Nat} {Ls : Array Slot} {o : Int} {cd : ClassFile.Cond} {x y : Int32} {rest : List Value} (hd : decode c.code pc = .ok (.if_icmp cd o, 3)) (hc : if_icmp.holds cd x y = true) (ho : 0 ≤ (pc : Int) + o) (hp : ((pc : Int) + o).toNat = pc') (k : Go p e below F0 (T.setTop (mkF m pc' Ls rest))) : Go p e below F0 (T.setTop (mkF m pc Ls (.int y :: .int x :: rest))) :=
  Go.step (fun t kt => XS.icmpYes X.here hx (g := mkF m pc Ls _) rfl rfl hd rfl hc ho hp kt) k
theorem Go.ifNo (X : Stand p l e R s m args below meth c T locs cells slots) (hx : p.tables.exec = Jvm.exec) {pc pc' : Nat} {Ls : Array Slot} {o : Int} {cd : ClassFile.Cond} {x : Int32} {rest : List Value} (hp : pc' = pc + 3) (hd : decode c.code pc = .ok (.ifCond cd o, 3)) (hc : if_icmp.holds cd x 0 = false) (k : Go p e below F0 (T.setTop (mkF m pc' Ls rest))) : Go p e below F0 (T.setTop (mkF m pc Ls (.int x :: rest))) := by
  subst hp
  exact Go.step (fun t kt => XS.ifNo X.here hx (g := mkF m pc Ls _) rfl hd rfl ((if0 _ _).trans hc) kt) k
theorem Go.icmpNo (X : Stand p l e R s m args below meth c T locs cells slots) (hx : p.tables.exec = Jvm.exec) {pc pc' : Nat} {Ls : Array Slot} {o : Int} {cd : ClassFile.Cond} {x y : Int32} {rest : List Value} (hp : pc' = pc + 3) (hd : decode c.code pc = .ok (.if_icmp cd o, 3)) (hc : if_icmp.holds cd x y = false) (k : Go p e below F0 (T.setTop (mkF m pc' Ls rest))) : Go p e below F0 (T.setTop (mkF m pc Ls (.int y :: .int x :: rest))) := by
  subst hp
  exact Go.step (fun t kt => XS.icmpNo X.here hx (g := mkF m pc Ls _) rfl hd rfl hc kt) k
theorem Go.acmp (X : Stand p l e R s m args below meth c T locs cells slots) (hx : p.tables.exec = Jvm.exec) {pc pc' : Nat} {Ls : Array Slot} {cd : ACond} {x y : Value} {rest : List Value} {o : Int} {same : Bool} (hd : decode c.code pc = .ok (.if_acmp cd o, 3)) (h1 : x.isRef = true) (h2 : y.isRef = true) (hq : decide (x = y) = same) (ho : 0 ≤ (pc : Int) + o) (hp : pc' = if acV cd same = true then ((pc : Int) + o).toNat else pc + 3) (k : Go p e below F0 (T.setTop (mkF m pc' Ls rest))) : Go p e below F0 (T.setTop (mkF m pc Ls (y :: x :: rest))) :=
  Go.step (fun t kt => Jvm.RoadKit.acmp (g := mkF m pc Ls _) X hx rfl h1 h2 rfl hd rfl hq ho hp kt) k
theorem Go.getF (X : Stand p l e R s m args below meth c T locs cells slots) (hx : p.tables.exec = Jvm.exec) (hZ : Z.Warmed39 s.vm) {own : String} {index : Nat} (hown : s.vm.findClass own = some m.cls) {R0 O n d host : String} (wl : (Jvm.Cond.fieldLink own index R0 n d).before a0 Z = true ∨ (Jvm.Cond.fieldLinkNest own index R0 n d host).before a0 Z = true) (via : Via Z R0 O n d) (eT : T.heap = h) {a : Addr} {v : Value} (F : Fld Z h a O n d v) {pc pc' : Nat} {Ls : Array Slot} {rest : List Value} (hp : pc' = pc + 3) (hd : decode c.code pc = .ok (.getfield index, 3))
    (k : ∀ T', T'.heap = h → Stand p l e R s m args below meth c T' locs cells slots → Go p e below F0 (T'.setTop (mkF m pc' Ls (v :: rest)))) : Go p e below F0 (T.setTop (mkF m pc Ls (.ref a :: rest))) := by
  subst hp
  obtain ⟨T', X', e', st⟩ := Jvm.RoadKit.getF X hx hZ hown wl via eT F (g := mkF m pc Ls (.ref a :: rest)) rfl rfl hd
  exact Go.step st (k T' e' X')
theorem Go.getS (X : Stand p l e R s m args below meth c T locs cells slots) (hx : p.tables.exec = Jvm.exec) (hZ : Z.Warmed39 s.vm) {own : String} {index : Nat} (hown : s.vm.findClass own = some m.cls) {R0 O n d host : String} (wl : (Jvm.Cond.fieldLink own index R0 n d).before a0 Z = true ∨ (Jvm.Cond.fieldLinkNest own index R0 n d host).before a0 Z = true) (via : Via Z R0 O n d) (eT : T.heap = h) {v : Value} (F : Sta Z h O n d v) {pc pc' : Nat} {Ls : Array Slot} {rest : List Value} (hp : pc' = pc + 3) (hd : decode c.code pc = .ok (.getstatic index, 3))
    (k : ∀ T', T'.heap = h → Stand p l e R s m args below meth c T' locs cells slots → Go p e below F0 (T'.setTop (mkF m pc' Ls (v :: rest)))) : Go p e below F0 (T.setTop (mkF m pc Ls rest)) := by
  subst hp
  obtain ⟨T', X', e', st⟩ := Jvm.RoadKit.getS2 X hx hZ hown wl via eT F (g := mkF m pc Ls rest) rfl hd
  exact Go.step st (k T' e' X')
theorem Go.putF (X : Stand p l e R s m args below meth c T locs cells slots) (hx : p.tables.exec = Jvm.exec) (hZ : Z.Warmed39 s.vm) {own : String} {index : Nat} (hown : s.vm.findClass own = some m.cls) {R0 O n d host C : String} {kk : Nat} {ty : FieldType} (wl : (Jvm.Cond.fieldLink own index R0 n d).before a0 Z = true ∨ (Jvm.Cond.fieldLinkNest own index R0 n d host).before a0 Z = true) (via : Via Z R0 O n d) (eT : T.heap = h) {a : Addr} {v old : Value} (F : Fld Z h a O n d old) (E : Exa Z h a C) (L : (Jvm.Cond.lays C O n d).before a0 Z = true ∨ ((Jvm.Cond.laysFinal C O n d).before a0 Z = true ∧ own = O ∧ meth.name = "<init>")) (wi : (Jvm.Cond.instantiable C kk).before a0 Z = true) (hty : parseFieldDescriptor d = some ty) (hn : narrow ty v = v) (hf : fits ty v = true) {pc pc' : Nat} {Ls : Array Slot} {rest : List Value} (hp : pc' = pc + 3) (hd : decode c.code pc = .ok (.putfield index, 3))
    (k : ∀ T' h', T'.heap = h' → Wr h h' a (slotOf Z O n d) v → Fld Z h' a O n d v → Stand p l e R s m args below meth c T' (locs ++ [⟨a, slotOf Z O n d⟩]) cells slots → Go p e below F0 (T'.setTop (mkF m pc' Ls rest))) : Go p e below F0 (T.setTop (mkF m pc Ls (v :: .ref a :: rest))) := by
  subst hp
  obtain ⟨T', h', X', e', W, st⟩ := Jvm.RoadKit.putF X hx hZ hown wl via eT F E L wi hty hn hf (g := mkF m pc Ls (v :: .ref a :: rest)) rfl rfl hd
  exact Go.step st (k T' h' e' W (F.same W) X')
theorem Go.putFN (X : Stand p l e R s m args below meth c T locs cells slots) (hx : p.tables.exec = Jvm.exec) (hZ : Z.Warmed39 s.vm) {own : String} {index : Nat} (hown : s.vm.findClass own = some m.cls) {R0 O n d C : String} {kk : Nat} {ty : FieldType} (wl : (Jvm.Cond.fieldLink own index R0 n d).before a0 Z = true) (via : Via Z R0 O n d) (eT : T.heap = h) {a : Addr} {v v' old : Value} (F : Fld Z h a O n d old) (E : Exa Z h a C) (L : (Jvm.Cond.lays C O n d).before a0 Z = true ∨ ((Jvm.Cond.laysFinal C O n d).before a0 Z = true ∧ own = O ∧ meth.name = "<init>")) (wi : (Jvm.Cond.instantiable C kk).before a0 Z = true) (hty : parseFieldDescriptor d = some ty) (hn : narrow ty v = v') (hf : fits ty v' = true) {pc pc' : Nat} {Ls : Array Slot} {rest : List Value} (hp : pc' = pc + 3) (hd : decode c.code pc = .ok (.putfield index, 3))
    (k : ∀ T' h', T'.heap = h' → Wr h h' a (slotOf Z O n d) v' → Fld Z h' a O n d v' → Stand p l e R s m args below meth c T' (locs ++ [⟨a, slotOf Z O n d⟩]) cells slots → Go p e below F0 (T'.setTop (mkF m pc' Ls rest))) : Go p e below F0 (T.setTop (mkF m pc Ls (v :: .ref a :: rest))) := by
  subst hp
  obtain ⟨T', h', X', e', W, st⟩ := Jvm.RoadKit.putFN X hx hZ hown wl via eT F E L wi hty hn hf (g := mkF m pc Ls (v :: .ref a :: rest)) rfl rfl hd
  exact Go.step st (k T' h' e' W (F.same W) X')
theorem Go.new (X : Stand p l e R s m args below meth c T locs cells slots) (hx : p.tables.exec = Jvm.exec) (hZ : Z.Warmed39 s.vm) {own : String} {index : Nat} (hown : s.vm.findClass own = some m.cls) {C : String} {n : Nat} (wl : (Jvm.Cond.classLink own index C).before a0 Z = true) (wi : (Jvm.Cond.instantiable C n).before a0 Z = true) (wz : (Jvm.Cond.initialized C).before a0 Z = true) (eT : T.heap = h) (hc : cells + 1 ≤ R.cells) (hl : slots + n ≤ R.slots) {pc pc' : Nat} {Ls : Array Slot} {rest : List Value} (hp : pc' = pc + 3) (hd : decode c.code pc = .ok (.new index, 3))
    (k : ∀ T' h' a, T'.heap = h' → Ext h h' → a = h.size → Exa Z h' a C → (∀ {O nm d : String} {ty : FieldType}, Laid Z a0 C O nm d → parseFieldDescriptor d = some ty → Fld Z h' a O nm d (defaultValue ty)) → Stand p l e R s m args below meth c T' locs (cells + 1) (slots + n) → Go p e below F0 (T'.setTop (mkF m pc' Ls (.ref a :: rest)))) : Go p e below F0 (T.setTop (mkF m pc Ls rest)) := by
  subst hp
  obtain ⟨T', h', X', e', E, A, D, -, st⟩ := newO X hx hZ hown wl wi wz eT (g := mkF m pc Ls rest) rfl hd hc hl
  exact Go.step st (k T' h' h.size e' E rfl A D X')
theorem Go.newarray (X : Stand p l e R s m args below meth c T locs cells slots) (hx : p.tables.exec = Jvm.exec) (hZ : Z.Warmed39 s.vm) {aty : ArrayType} {ty : FieldType} (hty : newarray.typeOf aty = ty) (wa : (Jvm.Cond.arrayClass ty).before a0 Z = true) (eT : T.heap = h) {n : Int32} (hn : ¬ n < 0) {cap : Nat} (hcap : n.toNatClampNeg ≤ cap) (hb : cap * 8 ≤ 536870912) (hc : cells + 1 ≤ R.cells) (hl : slots + cap ≤ R.slots) {ad : String} (had : "[" ++ ty.toString = ad) (N : Nat) {pc pc' : Nat} {Ls : Array Slot} {rest : List Value} (hp : pc' = pc + 2) (hd : decode c.code pc = .ok (.newarray aty, 2))
    (k : ∀ T' h' a kk, T'.heap = h' → Ext h h' → a = h.size → Arv Z h' a kk ty n (List.replicate N (defaultValue ty)) (defaultValue ty) → Exa Z h' a ad → Stand p l e R s m args below meth c T' locs (cells + 1) (slots + cap) → Go p e below F0 (T'.setTop (mkF m pc' Ls (.ref a :: rest)))) : Go p e below F0 (T.setTop (mkF m pc Ls (.int n :: rest))) := by
  subst hp hty
  obtain ⟨T', h', cA, X', e', E, A, Ex, st⟩ := newPE X hx hZ wa eT (g := mkF m pc Ls (.int n :: rest)) rfl hd rfl hn hcap hb hc hl had
  exact Go.step st (k T' h' h.size cA e' E rfl ((Arv.new A hn).pad (pad_rep [] _ N)) Ex X')
theorem Go.castore (X : Stand p l e R s m args below meth c T locs cells slots) (hx : p.tables.exec = Jvm.exec) (hZ : Z.Warmed39 s.vm) (eT : T.heap = h) {a : Addr} {kk : ClassId} {z : Int32} {vs : List Value} {dv : Value} (V : Arv Z h a kk .char z vs dv) {j : Int32} {x : Int32} (x' : Int32) (hn : nar .char x = x') (hj : ¬ j < 0 ∧ j < z) (i : Nat) (hi : j.toNatClampNeg = i) (hl : i < vs.length) {pc pc' : Nat} {Ls : Array Slot} {rest : List Value} (hp : pc' = pc + 1) (hd : decode c.code pc = .ok (.castore, 1))
    (k : ∀ T' h', T'.heap = h' → Wr h h' a j.toNatClampNeg (.int x') → Arv Z h' a kk .char z (vs.set i (.int x')) dv → Stand p l e R s m args below meth c T' (locs ++ [⟨a, j.toNatClampNeg⟩]) cells slots → Go p e below F0 (T'.setTop (mkF m pc' Ls rest))) : Go p e below F0 (T.setTop (mkF m pc Ls (.int x :: .int j :: .ref a :: rest))) := by
  subst hp hn
  obtain ⟨cl, A, q1, S, q3, H, G⟩ := V
  obtain ⟨T', h', X', e', W, st⟩ := stC X hx hZ eT A (j := j) (x := x) (inb_of S hj) (g := mkF m pc Ls (.int x :: .int j :: .ref a :: rest)) rfl rfl hd
  exact Go.step st (k T' h' e' W (Arv.set A q1 S q3 H G (fits_nar_char x) W i hi hl) X')
theorem Go.bastore (X : Stand p l e R s m args below meth c T locs cells slots) (hx : p.tables.exec = Jvm.exec) (hZ : Z.Warmed39 s.vm) (eT : T.heap = h) {a : Addr} {kk : ClassId} {z : Int32} {vs : List Value} {dv : Value} (V : Arv Z h a kk .byte z vs dv) {j : Int32} {x : Int32} (x' : Int32) (hn : nar .byte x = x') (hj : ¬ j < 0 ∧ j < z) (i : Nat) (hi : j.toNatClampNeg = i) (hl : i < vs.length) {pc pc' : Nat} {Ls : Array Slot} {rest : List Value} (hp : pc' = pc + 1) (hd : decode c.code pc = .ok (.bastore, 1))
    (k : ∀ T' h', T'.heap = h' → Wr h h' a j.toNatClampNeg (.int x') → Arv Z h' a kk .byte z (vs.set i (.int x')) dv → Stand p l e R s m args below meth c T' (locs ++ [⟨a, j.toNatClampNeg⟩]) cells slots → Go p e below F0 (T'.setTop (mkF m pc' Ls rest))) : Go p e below F0 (T.setTop (mkF m pc Ls (.int x :: .int j :: .ref a :: rest))) := by
  subst hp hn
  obtain ⟨cl, A, q1, S, q3, H, G⟩ := V
  obtain ⟨T', h', X', e', W, st⟩ := stB X hx hZ eT A (j := j) (x := x) (inb_of S hj) (g := mkF m pc Ls (.int x :: .int j :: .ref a :: rest)) rfl rfl hd
  exact Go.step st (k T' h' e' W (Arv.set A q1 S q3 H G (fits_nar_byte x) W i hi hl) X')
theorem Go.caload (X : Stand p l e R s m args below meth c T locs cells slots) (hx : p.tables.exec = Jvm.exec) (hZ : Z.Warmed39 s.vm) (eT : T.heap = h) {a : Addr} {kk : ClassId} {z : Int32} {vs : List Value} {dv : Value} (V : Arv Z h a kk .char z vs dv) {j : Int32} {v : Value} (hj : ¬ j < 0 ∧ j < z) (hv : vs.getD j.toNatClampNeg dv = v) {pc pc' : Nat} {Ls : Array Slot} {rest : List Value} (hp : pc' = pc + 1) (hd : decode c.code pc = .ok (.caload, 1)) (k : Go p e below F0 (T.setTop (mkF m pc' Ls (v :: rest)))) : Go p e below F0 (T.setTop (mkF m pc Ls (.int j :: .ref a :: rest))) := by
  subst hp
  obtain ⟨cl, A, q1, S, q3, H, G⟩ := V
  exact Go.step (fun t kt => X.caload hx (j := j) (v := v) (by rw [eT]; exact A.1) (State.isArrayOf_alike hZ.alike A.2.1) A.2.2 (inb_of S hj) (H.at (inb_of S hj) hv) (g := mkF m pc Ls (.int j :: .ref a :: rest)) rfl rfl hd t kt) k
theorem Go.baload (X : Stand p l e R s m args below meth c T locs cells slots) (hx : p.tables.exec = Jvm.exec) (hZ : Z.Warmed39 s.vm) (eT : T.heap = h) {a : Addr} {kk : ClassId} {z : Int32} {vs : List Value} {dv : Value} (V : Arv Z h a kk .byte z vs dv) {j : Int32} {v : Value} (hj : ¬ j < 0 ∧ j < z) (hv : vs.getD j.toNatClampNeg dv = v) {pc pc' : Nat} {Ls : Array Slot} {rest : List Value} (hp : pc' = pc + 1) (hd : decode c.code pc = .ok (.baload, 1)) (k : Go p e below F0 (T.setTop (mkF m pc' Ls (v :: rest)))) : Go p e below F0 (T.setTop (mkF m pc Ls (.int j :: .ref a :: rest))) := by
  subst hp
  obtain ⟨cl, A, q1, S, q3, H, G⟩ := V
  exact Go.step (fun t kt => X.baloadBytes hx (j := j) (v := v) (by rw [eT]; exact A.1) (State.isArrayOf_alike hZ.alike A.2.1) A.2.2 (inb_of S hj) (H.at (inb_of S hj) hv) (g := mkF m pc Ls (.int j :: .ref a :: rest)) rfl rfl hd t kt) k
theorem Go.arraylength (X : Stand p l e R s m args below meth c T locs cells slots) (hx : p.tables.exec = Jvm.exec) (hZ : Z.Warmed39 s.vm) (eT : T.heap = h) {a : Addr} {kk : ClassId} {ty : FieldType} {z : Int32} {vs : List Value} {dv : Value} (V : Arv Z h a kk ty z vs dv) {pc pc' : Nat} {Ls : Array Slot} {rest : List Value} (hp : pc' = pc + 1) (hd : decode c.code pc = .ok (.arraylength, 1)) (k : Go p e below F0 (T.setTop (mkF m pc' Ls (.int z :: rest)))) : Go p e below F0 (T.setTop (mkF m pc Ls (.ref a :: rest))) := by
  subst hp
  obtain ⟨cl, A, q1, S, q3, H, G⟩ := V
  refine Go.step (fun t kt => X.arraylength hx (by rw [eT]; exact A.1) (State.isArrayOf_alike hZ.alike A.2.1) (g := mkF m pc Ls (.ref a :: rest)) rfl rfl hd t kt) ?_
  rw [len_of S q3]
  exact k
theorem Go.castY (X : Stand p l e R s m args below meth c T locs cells slots) (hx : p.tables.exec = Jvm.exec) (hZ : Z.Warmed39 s.vm) {own : String} {index : Nat} (hown : s.vm.findClass own = some m.cls) {K : String} (wl : (Jvm.Cond.classLink own index K).before a0 Z = true) (eT : T.heap = h) {a : Addr} (F : Ins Z h a K true) {pc pc' : Nat} {Ls : Array Slot} {rest : List Value} (hp : pc' = pc + 3) (hd : decode c.code pc = .ok (.checkcast index, 3))
    (k : ∀ T', T'.heap = h → Stand p l e R s m args below meth c T' locs cells slots → Go p e below F0 (T'.setTop (mkF m pc' Ls (.ref a :: rest)))) : Go p e below F0 (T.setTop (mkF m pc Ls (.ref a :: rest))) := by
  subst hp
  obtain ⟨T', X', e', st⟩ := Jvm.RoadKit.castY X hx hZ hown wl eT F (g := mkF m pc Ls (.ref a :: rest)) rfl rfl hd
  exact Go.step st (k T' e' X')
theorem Go.instY (X : Stand p l e R s m args below meth c T locs cells slots) (hx : p.tables.exec = Jvm.exec) (hZ : Z.Warmed39 s.vm) {own : String} {index : Nat} (hown : s.vm.findClass own = some m.cls) {K : String} (wl : (Jvm.Cond.classLink own index K).before a0 Z = true) (eT : T.heap = h) {a : Addr} (F : Ins Z h a K true) {pc pc' : Nat} {Ls : Array Slot} {rest : List Value} (hp : pc' = pc + 3) (hd : decode c.code pc = .ok (.instanceof index, 3))
    (k : ∀ T', T'.heap = h → Stand p l e R s m args below meth c T' locs cells slots → Go p e below F0 (T'.setTop (mkF m pc' Ls (.int 1 :: rest)))) : Go p e below F0 (T.setTop (mkF m pc Ls (.ref a :: rest))) := by
  subst hp
  obtain ⟨T', X', e', st⟩ := Jvm.RoadKit.instY X hx hZ hown wl eT F (g := mkF m pc Ls (.ref a :: rest)) rfl rfl hd
  exact Go.step st (k T' e' X')
theorem Go.initO (X : Stand p l e R s m args below meth c T locs cells slots) (hx : p.tables.exec = Jvm.exec) (hZ : Z.Warmed39 s.vm) {own : String} {index : Nat} (hown : s.vm.findClass own = some m.cls) (w1 : (Jvm.Cond.methodLink own index Lib.objectInit).before a0 Z = true) (w2 : (Jvm.Cond.instanceMethod Lib.objectInit).before a0 Z = true) (w3 : (Jvm.Cond.code Lib.objectInit ⟨#[0xb1]⟩ 1 none).before a0 Z = true) (eT : T.heap = h) {a : Addr} (hf : 1 ≤ R.frames) {W : Nat} {pc pc' : Nat} {Ls : Array Slot} {rest : List Value} (hsz : Ls.size = c.maxLocals) (hW : (rest.map fun v => v.category).sum ≤ W) (hl : W + 12 ≤ R.locals) (hp : pc' = pc + 3) (hd : decode c.code pc = .ok (.invokespecial index, 3))
    (k : ∀ T', T'.heap = h → Stand p l e R s m args below meth c T' locs cells slots → Go p e below F0 (T'.setTop (mkF m pc' Ls rest))) : Go p e below F0 (T.setTop (mkF m pc Ls (.ref a :: rest))) := by
  subst hp
  obtain ⟨T', X', e', st⟩ := Jvm.RoadKit.initO X hx hZ hown w1 w2 w3 eT (g := mkF m pc Ls (.ref a :: rest)) rfl hsz rfl hd hf (W := W) (by show 2 * 0 + _ ≤ _; rw [Nat.mul_zero, Nat.zero_add]; exact hW) hl
  exact Go.step st (k T' e' X')
theorem Go.ldcI (X : Stand p l e R s m args below meth c T locs cells slots) (hx : p.tables.exec = Jvm.exec) (hZ : Z.Warmed39 s.vm) {own : String} {index : Nat} (hown : s.vm.findClass own = some m.cls) {v : Int32} (wl : (Jvm.Cond.constant own index v).before a0 Z = true) {pc pc' : Nat} {Ls : Array Slot} {rest : List Value} (hp : pc' = pc + 2) (hd : decode c.code pc = .ok (.ldc index, 2)) (k : Go p e below F0 (T.setTop (mkF m pc' Ls (.int v :: rest)))) : Go p e below F0 (T.setTop (mkF m pc Ls rest)) := by
  subst hp
  exact Go.step (fun t kt => X.ldcInt hx hown (mvT hZ wl) (g := mkF m pc Ls rest) rfl hd t kt) k
theorem Go.callSB (X : Stand p l e R s m args below meth c T locs cells slots) (hx : p.tables.exec = Jvm.exec) (hZ : Z.Warmed39 s.vm) {own : String} {index : Nat} (hown : s.vm.findClass own = some m.cls) {y : MethodName} {bytes : ByteArray} {maxL : Nat} {ret : Option FieldType} (w1 : (Jvm.Cond.methodLink own index y).before a0 Z = true) (w2 : (Jvm.Cond.static y).before a0 Z = true) (w3 : (Jvm.Cond.initialized y.cls).before a0 Z = true) (w4 : (Jvm.Cond.code y bytes maxL ret).before a0 Z = true) (hy : y.cls ≠ "java/lang/invoke/MethodHandle" ∧ y.cls ≠ "java/lang/invoke/VarHandle") {W : Nat} {Pre : Pt → Array Value → Prop} {Post : Pt → Array Value → Option Value → Pt → Prop} (hK : Back l R p e below s args y 3 W Pre Post) (eT : T.heap = h)  {pc pc' : Nat} {Ls : Array Slot} {stk argsL rest : List Value} (hp : pc' = pc + 3) (hsz : Ls.size = c.maxLocals) (hlen : ∀ sig, parseMethodDescriptor y.desc = some sig → argsL.length = sig.parameters.length) (hst : stk = argsL.reverse ++ rest) (hW : (rest.map fun v => v.category).sum ≤ W) (hd : decode c.code pc = .ok (.invokestatic index, 3)) (hpre : ∀ vm₁, s.WarmedH vm₁ → Pre ⟨T.setVm vm₁, locs, cells, slots⟩ argsL.toArray)
    (k : ∀ (v : Option Value) (vm₁ : Vm) (T' : State) (locs' : List Loc) (cells' slots' : Nat), Stand p l e R s m args below meth c T' locs' cells' slots' → Post ⟨T.setVm vm₁, locs, cells, slots⟩ argsL.toArray v ⟨T', locs', cells', slots'⟩ → Go p e below F0 (T'.setTop (mkF m pc' Ls (v.toList ++ rest)))) : Go p e below F0 (T.setTop (mkF m pc Ls stk)) := by
  subst hp
  obtain ⟨v, vm₁, ⟨T', L', c', n'⟩, -, X', hP, st⟩ := Jvm.LawKit.callS X hx hown (mvT hZ w1) (mvT hZ w2) (mvT hZ w3) (mvT hZ w4) hy hK (g := mkF m pc Ls stk) rfl hsz hlen hst (by show 2 * 0 + _ ≤ _; rw [Nat.mul_zero, Nat.zero_add]; exact hW) hd hpre
  exact Go.step st (k v vm₁ T' L' c' n' X' hP)
theorem Go.callS (X : Stand p l e R s m args below meth c T locs cells slots) (hx : p.tables.exec = Jvm.exec) (hZ : Z.Warmed39 s.vm) {own : String} {index : Nat} (hown : s.vm.findClass own = some m.cls) {y : MethodName} {bytes : ByteArray} {maxL : Nat} {ret : Option FieldType} (w1 : (Jvm.Cond.methodLink own index y).before a0 Z = true) (w2 : (Jvm.Cond.static y).before a0 Z = true) (w3 : (Jvm.Cond.initialized y.cls).before a0 Z = true) (w4 : (Jvm.Cond.code y bytes maxL ret).before a0 Z = true) (hy : y.cls ≠ "java/lang/invoke/MethodHandle" ∧ y.cls ≠ "java/lang/invoke/VarHandle") {rm : Room} {Qc : Option Value → Heap → List Loc → Prop}  (wc : (Jvm.Cond.code y bytes maxL ret).before a0 Z = true) (wz : (Jvm.Cond.initialized y.cls).before a0 Z = true) {as : Array Value} (hC : Ctr l Z y bytes maxL ret rm as h Qc) (eT : T.heap = h)  {pc pc' : Nat} {Ls : Array Slot} {stk argsL rest : List Value} (hp : pc' = pc + 3) (hsz : Ls.size = c.maxLocals) (hlen : ∀ sig, parseMethodDescriptor y.desc = some sig → argsL.length = sig.parameters.length) (hst : stk = argsL.reverse ++ rest) (has : argsL.toArray = as) {W : Nat} (hW : (rest.map fun v => v.category).sum ≤ W) (hf : rm.frames + 1 ≤ R.frames) (hl : W + (maxL + 11) + rm.locals ≤ R.locals) (hc : cells + rm.cells ≤ R.cells) (hs : slots + rm.slots ≤ R.slots) (hd : decode c.code pc = .ok (.invokestatic index, 3))
    (k : ∀ (v : Option Value) (T' : State) (L : List Loc), Qc v T'.heap L → Stand p l e R s m args below meth c T' (locs ++ L) (cells + rm.cells) (slots + rm.slots) → Go p e below F0 (T'.setTop (mkF m pc' Ls (v.toList ++ rest)))) : Go p e below F0 (T.setTop (mkF m pc Ls stk)) :=
  Go.callSB X hx hZ hown w1 w2 w3 w4 hy (backOf (W := W) (hC []) hZ wc wz hf hl) eT  hp hsz hlen hst hW hd (fun _ _ => ⟨has, eT, hc, hs⟩) (fun v vm₁ T' locs' cells' slots' X' ⟨L, hq, h1, h2, h3⟩ => by
    try dsimp only at h1 h2 h3
    subst h1 h2 h3
    exact k v T' L hq X')
theorem Go.callVB (X : Stand p l e R s m args below meth c T locs cells slots) (hx : p.tables.exec = Jvm.exec) (hZ : Z.Warmed39 s.vm) {own : String} {index : Nat} (hown : s.vm.findClass own = some m.cls) {x y : MethodName} {C : String} (w1 : (Jvm.Cond.methodLink own index x).before a0 Z = true) (w2 : (Jvm.Cond.declares x).before a0 Z = true) (nf : NotFace s x) (w3 : (Jvm.Cond.selects C x y).before a0 Z = true) (w4 : (Jvm.Cond.instanceMethod y).before a0 Z = true) (hy : x.cls ≠ "java/lang/invoke/MethodHandle" ∧ x.cls ≠ "java/lang/invoke/VarHandle") {W : Nat} {Pre : Pt → Array Value → Prop} {Post : Pt → Array Value → Option Value → Pt → Prop} (hK : Back l R p e below s args y 3 W Pre Post) (eT : T.heap = h) {a : Addr} (F : Exa Z h a C) {pc pc' : Nat} {Ls : Array Slot} {stk argsL rest : List Value} (hp : pc' = pc + 3) (hsz : Ls.size = c.maxLocals) (hlen : ∀ sig, parseMethodDescriptor x.desc = some sig → argsL.length = sig.parameters.length) (hst : stk = argsL.reverse ++ .ref a :: rest) (hW : (rest.map fun v => v.category).sum ≤ W) (hd : decode c.code pc = .ok (.invokevirtual index, 3)) (hpre : ∀ vm₁, s.WarmedH vm₁ → Pre ⟨T.setVm vm₁, locs, cells, slots⟩ (.ref a :: argsL).toArray)
    (k : ∀ (v : Option Value) (vm₁ : Vm) (T' : State) (locs' : List Loc) (cells' slots' : Nat), Stand p l e R s m args below meth c T' locs' cells' slots' → Post ⟨T.setVm vm₁, locs, cells, slots⟩ (.ref a :: argsL).toArray v ⟨T', locs', cells', slots'⟩ → Go p e below F0 (T'.setTop (mkF m pc' Ls (v.toList ++ rest)))) : Go p e below F0 (T.setTop (mkF m pc Ls stk)) := by
  subst hp
  obtain ⟨cB, kB, q1, q2, q3⟩ := isOf hZ eT F
  obtain ⟨v, vm₁, ⟨T', L', c', n'⟩, -, X', hP, st⟩ := X.virtualBack hx (y := x) (z := y) hown (mvT hZ w1) (mvT hZ w2) nf (mvT hZ w3) (mvT hZ w4) hy hK q1 q3 (g := mkF m pc Ls stk) rfl hsz (Steps.refl _) hlen hst (by show 2 * 0 + _ ≤ _; rw [Nat.mul_zero, Nat.zero_add]; exact hW) hd hpre
  exact Go.step (fun t kt => st.trans kt) (k v vm₁ T' L' c' n' X' hP)
theorem Go.callV (X : Stand p l e R s m args below meth c T locs cells slots) (hx : p.tables.exec = Jvm.exec) (hZ : Z.Warmed39 s.vm) {own : String} {index : Nat} (hown : s.vm.findClass own = some m.cls) {x y : MethodName} {C : String} (w1 : (Jvm.Cond.methodLink own index x).before a0 Z = true) (w2 : (Jvm.Cond.declares x).before a0 Z = true) (nf : NotFace s x) (w3 : (Jvm.Cond.selects C x y).before a0 Z = true) (w4 : (Jvm.Cond.instanceMethod y).before a0 Z = true) (hy : x.cls ≠ "java/lang/invoke/MethodHandle" ∧ x.cls ≠ "java/lang/invoke/VarHandle") {bytes : ByteArray} {maxL : Nat} {ret : Option FieldType} {rm : Room} {Qc : Option Value → Heap → List Loc → Prop}  (wc : (Jvm.Cond.code y bytes maxL ret).before a0 Z = true) (wz : (Jvm.Cond.initialized y.cls).before a0 Z = true) {as : Array Value} (hC : Ctr l Z y bytes maxL ret rm as h Qc) (eT : T.heap = h) {a : Addr} (F : Exa Z h a C) {pc pc' : Nat} {Ls : Array Slot} {stk argsL rest : List Value} (hp : pc' = pc + 3) (hsz : Ls.size = c.maxLocals) (hlen : ∀ sig, parseMethodDescriptor x.desc = some sig → argsL.length = sig.parameters.length) (hst : stk = argsL.reverse ++ .ref a :: rest) (has : (.ref a :: argsL).toArray = as) {W : Nat} (hW : (rest.map fun v => v.category).sum ≤ W) (hf : rm.frames + 1 ≤ R.frames) (hl : W + (maxL + 11) + rm.locals ≤ R.locals) (hc : cells + rm.cells ≤ R.cells) (hs : slots + rm.slots ≤ R.slots) (hd : decode c.code pc = .ok (.invokevirtual index, 3))
    (k : ∀ (v : Option Value) (T' : State) (L : List Loc), Qc v T'.heap L → Stand p l e R s m args below meth c T' (locs ++ L) (cells + rm.cells) (slots + rm.slots) → Go p e below F0 (T'.setTop (mkF m pc' Ls (v.toList ++ rest)))) : Go p e below F0 (T.setTop (mkF m pc Ls stk)) :=
  Go.callVB X hx hZ hown w1 w2 nf w3 w4 hy (backOf (W := W) (hC []) hZ wc wz hf hl) eT F hp hsz hlen hst hW hd (fun _ _ => ⟨has, eT, hc, hs⟩) (fun v vm₁ T' locs' cells' slots' X' ⟨L, hq, h1, h2, h3⟩ => by
    try dsimp only at h1 h2 h3
    subst h1 h2 h3
    exact k v T' L hq X')
theorem Go.callNB (X : Stand p l e R s m args below meth c T locs cells slots) (hx : p.tables.exec = Jvm.exec) (hZ : Z.Warmed39 s.vm) {own : String} {index : Nat} (hown : s.vm.findClass own = some m.cls) {y : MethodName} {bytes : ByteArray} {maxL : Nat} (hn : y.name = "<init>") (w1 : (Jvm.Cond.methodLink own index y).before a0 Z = true) (w2 : (Jvm.Cond.instanceMethod y).before a0 Z = true) (w4 : (Jvm.Cond.code y bytes maxL none).before a0 Z = true) (hy : y.cls ≠ "java/lang/invoke/MethodHandle" ∧ y.cls ≠ "java/lang/invoke/VarHandle") {W : Nat} {Pre : Pt → Array Value → Prop} {Post : Pt → Array Value → Option Value → Pt → Prop} (hK : Back l R p e below s args y 3 W Pre Post) (eT : T.heap = h) {a : Addr} {pc pc' : Nat} {Ls : Array Slot} {stk argsL rest : List Value} (hp : pc' = pc + 3) (hsz : Ls.size = c.maxLocals) (hlen : ∀ sig, parseMethodDescriptor y.desc = some sig → argsL.length = sig.parameters.length) (hst : stk = argsL.reverse ++ .ref a :: rest) (hW : (rest.map fun v => v.category).sum ≤ W) (hd : decode c.code pc = .ok (.invokespecial index, 3)) (hpre : ∀ vm₁, s.WarmedH vm₁ → Pre ⟨T.setVm vm₁, locs, cells, slots⟩ (.ref a :: argsL).toArray)
    (k : ∀ (v : Option Value) (vm₁ : Vm) (T' : State) (locs' : List Loc) (cells' slots' : Nat), Stand p l e R s m args below meth c T' locs' cells' slots' → Post ⟨T.setVm vm₁, locs, cells, slots⟩ (.ref a :: argsL).toArray v ⟨T', locs', cells', slots'⟩ → Go p e below F0 (T'.setTop (mkF m pc' Ls (v.toList ++ rest)))) : Go p e below F0 (T.setTop (mkF m pc Ls stk)) := by
  subst hp
  obtain ⟨v, vm₁, ⟨T', L', c', n'⟩, -, X', hP, st⟩ := X.specialBack hx (y := y) hn hown (mvT hZ w1) (mvT hZ w2) (mvT hZ w4) hy hK (g := mkF m pc Ls stk) rfl hsz (Steps.refl _) (a := a) hlen hst (by show 2 * 0 + _ ≤ _; rw [Nat.mul_zero, Nat.zero_add]; exact hW) hd hpre
  exact Go.step (fun t kt => st.trans kt) (k v vm₁ T' L' c' n' X' hP)
theorem Go.callN (X : Stand p l e R s m args below meth c T locs cells slots) (hx : p.tables.exec = Jvm.exec) (hZ : Z.Warmed39 s.vm) {own : String} {index : Nat} (hown : s.vm.findClass own = some m.cls) {y : MethodName} {bytes : ByteArray} {maxL : Nat} (hn : y.name = "<init>") (w1 : (Jvm.Cond.methodLink own index y).before a0 Z = true) (w2 : (Jvm.Cond.instanceMethod y).before a0 Z = true) (w4 : (Jvm.Cond.code y bytes maxL none).before a0 Z = true) (hy : y.cls ≠ "java/lang/invoke/MethodHandle" ∧ y.cls ≠ "java/lang/invoke/VarHandle") {rm : Room} {Qc : Option Value → Heap → List Loc → Prop}  (wc : (Jvm.Cond.code y bytes maxL none).before a0 Z = true) (wz : (Jvm.Cond.initialized y.cls).before a0 Z = true) {as : Array Value} (hC : Ctr l Z y bytes maxL none rm as h Qc) (eT : T.heap = h) {a : Addr} {pc pc' : Nat} {Ls : Array Slot} {stk argsL rest : List Value} (hp : pc' = pc + 3) (hsz : Ls.size = c.maxLocals) (hlen : ∀ sig, parseMethodDescriptor y.desc = some sig → argsL.length = sig.parameters.length) (hst : stk = argsL.reverse ++ .ref a :: rest) (has : (.ref a :: argsL).toArray = as) {W : Nat} (hW : (rest.map fun v => v.category).sum ≤ W) (hf : rm.frames + 1 ≤ R.frames) (hl : W + (maxL + 11) + rm.locals ≤ R.locals) (hc : cells + rm.cells ≤ R.cells) (hs : slots + rm.slots ≤ R.slots) (hd : decode c.code pc = .ok (.invokespecial index, 3))
    (k : ∀ (v : Option Value) (T' : State) (L : List Loc), Qc v T'.heap L → Stand p l e R s m args below meth c T' (locs ++ L) (cells + rm.cells) (slots + rm.slots) → Go p e below F0 (T'.setTop (mkF m pc' Ls (v.toList ++ rest)))) : Go p e below F0 (T.setTop (mkF m pc Ls stk)) :=
  Go.callNB X hx hZ hown hn w1 w2 w4 hy (backOf (W := W) (hC []) hZ wc wz hf hl) eT  hp hsz hlen hst hW hd (fun _ _ => ⟨has, eT, hc, hs⟩) (fun v vm₁ T' locs' cells' slots' X' ⟨L, hq, h1, h2, h3⟩ => by
    try dsimp only at h1 h2 h3
    subst h1 h2 h3
    exact k v T' L hq X')
theorem Go.arraycopy (X : Stand p l e R s m args below meth c T locs cells slots) (hx : p.tables.exec = Jvm.exec) (hZ : Z.Warmed39 s.vm) {own : String} {index : Nat} (hown : s.vm.findClass own = some m.cls) (w1 : (Jvm.Cond.methodLink own index Jvm.Stand.acN).before a0 Z = true) (w2 : (Jvm.Cond.native Jvm.Stand.acN).before a0 Z = true) (w3 : (Jvm.Cond.static Jvm.Stand.acN).before a0 Z = true) (w4 : (Jvm.Cond.initialized "java/lang/System").before a0 Z = true) (eT : T.heap = h) {a b : Addr} {k1 k2 : ClassId} {ty : FieldType} {z z' sp dp nn : Int32} {vs vd us : List Value} {dv dd : Value} (A : Arv Z h a k1 ty z vs dv) (B : Arv Z h b k2 ty z' vd dd) (hty : refKind ty = false) (h1 : ¬ sp < 0) (h2 : ¬ dp < 0) (h3 : ¬ nn < 0) (h4 : sp.toNatClampNeg + nn.toNatClampNeg ≤ z.toNatClampNeg) (h5 : dp.toNatClampNeg + nn.toNatClampNeg ≤ z'.toNatClampNeg) (hus : us = (List.range nn.toNatClampNeg).map fun i => vs.getD (sp.toNatClampNeg + i) dv) (hl : dp.toNatClampNeg + nn.toNatClampNeg ≤ vd.length) {n0 : Nat} (N : Fr n0 locs) (ge : n0 ≤ b) (hf : 1 ≤ R.frames) {W : Nat} {pc pc' : Nat} {Ls : Array Slot} {rest : List Value} (hsz : Ls.size = c.maxLocals) (hW : (rest.map fun v => v.category).sum ≤ W) (hlo : W + (nativeFrameWords "java/lang/System" "arraycopy" 5 + 11) ≤ R.locals) (hp : pc' = pc + 3) (hd : decode c.code pc = .ok (.invokestatic index, 3))
    (k : ∀ T' h' L, T'.heap = h' → Fr n0 L → Keep h h' [b] → Arv Z h' b k2 ty z' (vd.take dp.toNatClampNeg ++ us ++ vd.drop (dp.toNatClampNeg + nn.toNatClampNeg)) dd → Stand p l e R s m args below meth c T' L cells slots → Go p e below F0 (T'.setTop (mkF m pc' Ls rest))) : Go p e below F0 (T.setTop (mkF m pc Ls (.int nn :: .int dp :: .ref b :: .int sp :: .ref a :: rest))) := by
  subst hp
  obtain ⟨T', h', L, X', e', N', K', V', st⟩ := cpA X hx hZ hown w1 w2 w3 w4 eT A B (Or.inl ⟨rfl, hty⟩) h1 h2 h3 h4 h5 hus hl N ge (g := mkF m pc Ls (.int nn :: .int dp :: .ref b :: .int sp :: .ref a :: rest)) rfl hsz rfl hd hf (W := W) (by show 2 * 0 + _ ≤ _; rw [Nat.mul_zero, Nat.zero_add]; exact hW) hlo
  exact Go.step st (k T' h' L e' N' K' V' X')
end OwnGo
end Jvm.RoadKit
namespace Jvm.RoadKit
open Sem ClassFile Op Lib Jvm.Stand Jvm.Free Jvm.LawKit
section OwnWide
variable {p : Program} {l : Launch} {e : Env} {R : Room} {s : State} {m : MethodId} {args : Array Value} {below : List Frame} {meth : Method} {c : Code} {T : State} {locs : List Loc} {cells slots kc ks : Nat} {Z : State} {a0 : Array Value} {h : Heap} {Q : Option Value → Heap → List Loc → Prop} {F0 : State → Outcome → Prop} {EL : List (String × Nat)} {vm0 : Vm} {sf : List Addr} {QW : Option Value → Vm → Heap → List Loc → Prop}
/-- the wide end: constants may have been resolved meanwhile -/
def EndW (Z : State) (EL : List (String × Nat)) (s : State) (QW : Option Value → Vm → Heap → List Loc → Prop) (kc ks : Nat) (U : State) (o : Outcome) : Prop :=
  ∃ v L, o = .returned v ∧ QW v U.vm U.heap L ∧ CHr Z EL s.vm s.heap U.vm U.heap ∧ ReturnedEndW s o U L kc ks
def CtrW (l : Launch) (Z : State) (EL : List (String × Nat)) (y : MethodName) (bytes : ByteArray) (maxL : Nat) (ret : Option FieldType) (rm : Room) (as : Array Value) (h : Heap) (sf : List Addr) (QW : Option Value → Vm → Heap → List Loc → Prop) : Prop :=
  ∀ ws : List Jvm.Cond, MetFree l y (head1 (Jvm.Cond.code y bytes maxL ret :: ws) rm) (fun a U => a = as ∧ Z.Warmed39 U.vm ∧ U.heap = h ∧ CHv Z EL U.vm h ∧ ∀ x ∈ sf, Safe Z EL U.vm h x) (fun _ _ _ _ _ => True) (fun _ U o U' => EndW Z EL U QW rm.cells rm.slots U' o)
theorem since0 (s : State) (n : Nat) : s.Since s.vm n := State.WarmedH.since (State.WarmedH.refl s) n
theorem CtrW.of {y : MethodName} {bytes : ByteArray} {maxL : Nat} {ret : Option FieldType} {rm : Room} {as : Array Value} (hp : plainFor y = true)
    (body : ∀ (p : Program) (e : Env) (s : State) (m : MethodId) (below : List Frame) (meth : Method) (c : Code) (T : State), p.tables.exec = Jvm.exec → Z.Warmed39 s.vm → c.code = bytes → c.maxLocals = maxL → s.vm.findClass y.cls = some m.cls → meth.name = y.name → meth.sig.returnType = ret → meth.locks = false → T.heap = h → s.heap = h → s.Since s.vm h.size → CHr Z EL s.vm s.heap s.vm h → (∀ x ∈ sf, Safe Z EL s.vm h x) → Stand p l e rm (s.setVm s.vm) m as below meth c T [] 0 0 →
      Go p e below (EndW Z EL s QW rm.cells rm.slots) (T.setTop (entryFrame m as maxL))) : CtrW l Z EL y bytes maxL ret rm as h sf QW := by
  intro ws
  refine MetFree.of_bodySF hp hisR ?_
  intro p e s m args below meth c s₁ Bd hml0 hP hK
  obtain ⟨rfl, hZ, hh, hC, hs⟩ := hP
  exact body p e s m below meth c s₁ Bd.exec hZ Bd.bytes hml0 (findClass_of_methodNamed Bd.named) (name_of_methodNamed Bd.named Bd.method).1 Bd.returns Bd.notSynchronized (by rw [← hh, Bd.state]; rfl) hh (since0 s _) (by rw [hh]; exact CHr.refl hC) hs (Stand.of_body Bd)
theorem Go.endW (X : Stand p l e R (s.setVm vm0) m args below meth c T locs cells slots) (hx : p.tables.exec = Jvm.exec) {v : Option Value} (hv : meth.sig.returnType = none → v = none) (hlk : meth.locks = false) (hc : cells ≤ kc) (hs : slots ≤ ks) (hZ : Z.Warmed39 vm0) (hEL : EW Z a0 EL) (eT : T.heap = h) {k0 : Nat} (hS : s.Since vm0 k0) (hk : k0 ≤ h.size) (hC : CHr Z EL s.vm s.heap vm0 h) (q : CHr Z EL vm0 h T.vm h → QW v T.vm h locs) {g : JFrame}
    (st : ∀ fs, (∀ (f : JFrame) (acts : List Action), f.method = m → f.locked = none → f.entered = [] → (doReturn e (T.setTop f) acts v).1 = T.setFrames fs) → Steps p.tables e below (T.setTop g) (T.setFrames fs)) : Go p e below (EndW Z EL s QW kc ks) (T.setTop g) := by
  obtain ⟨fs, hr, hrun, hended, hE⟩ := X.leaveW hS (by rw [eT]; exact hk) (v := v) hv hlk
  have hat := CHv.at X hZ hEL hC.1
  refine ⟨_, _, st fs hr, hrun, hended, v, locs, rfl, ?_, ?_, hE.1, hE.2.1, hE.2.2.1, hE.2.2.2.mono hc hs⟩
  · show QW v T.vm T.heap locs
    rw [eT]; exact q hat
  · show CHr Z EL s.vm s.heap T.vm T.heap
    rw [eT]; exact hC.trans hat
theorem Go.ret0W (X : Stand p l e R (s.setVm vm0) m args below meth c T locs cells slots) (hx : p.tables.exec = Jvm.exec) (hlk : meth.locks = false) (hZ : Z.Warmed39 vm0) (hEL : EW Z a0 EL) (eT : T.heap = h) {k0 : Nat} (hS : s.Since vm0 k0) (hk : k0 ≤ h.size) (hC : CHr Z EL s.vm s.heap vm0 h) (hret : meth.sig.returnType = none) {pc : Nat} {Ls : Array Slot} (hd : decode c.code pc = .ok (.return_, 1)) (hc : cells ≤ kc) (hs : slots ≤ ks) (q : CHr Z EL vm0 h T.vm h → QW none T.vm h locs) : Go p e below (EndW Z EL s QW kc ks) (T.setTop (mkF m pc Ls [])) :=
  Go.endW X hx (fun _ => rfl) hlk hc hs hZ hEL eT hS hk hC q (fun fs hr => X.returnOut hx hret hd hr)
theorem Go.retNW (X : Stand p l e R (s.setVm vm0) m args below meth c T locs cells slots) (hx : p.tables.exec = Jvm.exec) (hlk : meth.locks = false) (hZ : Z.Warmed39 vm0) (hEL : EW Z a0 EL) (eT : T.heap = h) {k0 : Nat} (hS : s.Since vm0 k0) (hk : k0 ≤ h.size) (hC : CHr Z EL s.vm s.heap vm0 h) {t : FieldType} (hret : meth.sig.returnType = some t) (ht : t = .boolean ∨ t = .byte ∨ t = .char ∨ t = .short) {pc : Nat} {Ls : Array Slot} {z : Int32} {rest : List Value} (hd : decode c.code pc = .ok (.ireturn, 1)) (hc : cells ≤ kc) (hs : slots ≤ ks) (q : CHr Z EL vm0 h T.vm h → QW (some (.int (nar t z))) T.vm h locs) : Go p e below (EndW Z EL s QW kc ks) (T.setTop (mkF m pc Ls (.int z :: rest))) :=
  Go.endW X hx (fun h => by rw [hret] at h; cases h) hlk hc hs hZ hEL eT hS hk hC q (fun fs hr => Jvm.RoadKit.retN X hx hret ht hd hr)
theorem CtrW.back {y : MethodName} {bytes : ByteArray} {maxL : Nat} {ret : Option FieldType} {rm : Room} {len W : Nat} {as : Array Value} (hM : CtrW l Z EL y bytes maxL ret rm as h sf QW)
    (hZ : Z.Warmed39 vm0) (wc : (Jvm.Cond.code y bytes maxL ret).before a0 Z = true) (wz : (Jvm.Cond.initialized y.cls).before a0 Z = true) (hf : rm.frames + 1 ≤ R.frames) (hl : W + (maxL + 11) + rm.locals ≤ R.locals) (hEL : EW Z a0 EL) (H : CHv Z EL vm0 h) (hsf : ∀ x ∈ sf, x < h.size ∧ Safe Z EL vm0 h x) :
    BackS l R p e below (s.setVm vm0) args y len W (fun A a => a = as ∧ A.U.heap = h ∧ A.cells + rm.cells ≤ R.cells ∧ A.slots + rm.slots ≤ R.slots)
      (fun A _ v B => ∃ L, QW v B.U.vm B.U.heap L ∧ B.locs = A.locs ++ L ∧ B.cells = A.cells + rm.cells ∧ B.slots = A.slots + rm.slots ∧ CHr Z EL vm0 h B.U.vm B.U.heap) :=
  BackS.of_freeW (bytes := bytes) (maxL := maxL) (ret := ret) (E := fun _ first o t L k n => k = rm.cells ∧ n = rm.slots ∧ (∃ v, o = .returned v ∧ QW v t.vm t.heap L) ∧ CHr Z EL first.vm first.heap t.vm t.heap) (hM []) hf hl
    (fun m meth c A a Y hp => have hU : Z.Warmed39 A.U.vm := wtrans (s := s.setVm vm0) hZ Y.warmed
      ⟨by show (Jvm.Cond.and _ .tt).before a A.U = true; rw [Cond.before_and, mv hU wc]; rfl, mv hU wc, mv hU wz, hp.2.2.1, hp.2.2.2⟩)
    (fun m meth c A a g mk Y hp => have hA := CHv.at Y hZ hEL H
      ⟨hp.1, wtrans (s := s.setVm vm0) hZ Y.warmed, hp.2.1, hA.1, fun x hx => hA.safe (hsf x hx).1 (hsf x hx).2⟩) (fun _ _ _ _ _ _ _ _ _ => trivial)
    (fun _ _ _ _ ⟨v, L, h1, h2, h3, h4⟩ => ⟨L, _, _, h4, rfl, rfl, ⟨v, h1, h2⟩, h3⟩)
    (fun m meth c A a g mk v t L k n Y hp _ _ ⟨e1, e2, ⟨v', e3, e4⟩, e5⟩ => by
      cases e3; subst e1 e2
      refine ⟨L, e4, rfl, rfl, rfl, (CHv.at Y hZ hEL H).trans ?_⟩
      rw [← hp.2.1]; exact e5)
theorem Go.callSW (X : Stand p l e R (s.setVm vm0) m args below meth c T locs cells slots) (hx : p.tables.exec = Jvm.exec) (hZ : Z.Warmed39 vm0) {own : String} {index : Nat} (hown : vm0.findClass own = some m.cls) {y : MethodName} {bytes : ByteArray} {maxL : Nat} {ret : Option FieldType} {rm : Room} (w1 : (Jvm.Cond.methodLink own index y).before a0 Z = true) (w2 : (Jvm.Cond.static y).before a0 Z = true) (w3 : (Jvm.Cond.initialized y.cls).before a0 Z = true) (w4 : (Jvm.Cond.code y bytes maxL ret).before a0 Z = true) (hy : y.cls ≠ "java/lang/invoke/MethodHandle" ∧ y.cls ≠ "java/lang/invoke/VarHandle") (wc : (Jvm.Cond.code y bytes maxL ret).before a0 Z = true) (wz : (Jvm.Cond.initialized y.cls).before a0 Z = true) {as : Array Value} (hM : CtrW l Z EL y bytes maxL ret rm as h sf QW) (hEL : EW Z a0 EL) (H : CHv Z EL vm0 h) (hsf : ∀ x ∈ sf, x < h.size ∧ Safe Z EL vm0 h x) {k0 : Nat} (hS : s.Since vm0 k0) (hk : k0 ≤ h.size) (eT : T.heap = h)  {pc pc' : Nat} {Ls : Array Slot} {stk argsL rest : List Value} (hp : pc' = pc + 3) (hsz : Ls.size = c.maxLocals) (hlen : ∀ sig, parseMethodDescriptor y.desc = some sig → argsL.length = sig.parameters.length) (hst : stk = argsL.reverse ++ rest) (has : argsL.toArray = as) {W : Nat} (hW : (rest.map fun v => v.category).sum ≤ W) (hf : rm.frames + 1 ≤ R.frames) (hl : W + (maxL + 11) + rm.locals ≤ R.locals) (hc : cells + rm.cells ≤ R.cells) (hs : slots + rm.slots ≤ R.slots) (hd : decode c.code pc = .ok (.invokestatic index, 3))
    (k : ∀ (v : Option Value) (T' : State) (L : List Loc) (h' : Heap), T'.heap = h' → QW v T'.vm h' L → CHr Z EL vm0 h T'.vm h' → s.Since T'.vm h'.size → Z.Warmed39 T'.vm → T'.vm.findClass own = some m.cls → Stand p l e R (s.setVm T'.vm) m args below meth c T' (locs ++ L) (cells + rm.cells) (slots + rm.slots) → Go p e below F0 (T'.setTop (mkF m pc' Ls (v.toList ++ rest)))) : Go p e below F0 (T.setTop (mkF m pc Ls stk)) := by
  subst hp
  obtain ⟨v, vm₁, ⟨T', L', c', n'⟩, -, X', h2, hg, ⟨L, hq, h1, h3, h4, h5⟩, st⟩ := callSS X hx hown (mvT (s := s.setVm vm0) hZ w1) (mvT (s := s.setVm vm0) hZ w2) (mvT (s := s.setVm vm0) hZ w3) (mvT (s := s.setVm vm0) hZ w4) hy (hM.back (W := W) hZ wc wz hf hl hEL H hsf) (g := mkF m pc Ls stk) rfl hsz hlen hst (by show 2 * 0 + _ ≤ _; rw [Nat.mul_zero, Nat.zero_add]; exact hW) hd (fun _ _ => ⟨has, eT, hc, hs⟩)
  obtain ⟨X2, hS2, hZ2, hown2⟩ := rebS hS (by rw [eT]; exact hk) X' h2 hg hZ hown
  try dsimp only at h1 h3 h4
  subst h1 h3 h4
  exact Go.step (fun t kt => st.trans kt) (k v T' L T'.heap rfl hq h5 hS2 hZ2 hown2 X2)
theorem Go.callNW (X : Stand p l e R (s.setVm vm0) m args below meth c T locs cells slots) (hx : p.tables.exec = Jvm.exec) (hZ : Z.Warmed39 vm0) {own : String} {index : Nat} (hown : vm0.findClass own = some m.cls) {y : MethodName} {bytes : ByteArray} {maxL : Nat} {rm : Room} (hn : y.name = "<init>") (w1 : (Jvm.Cond.methodLink own index y).before a0 Z = true) (w2 : (Jvm.Cond.instanceMethod y).before a0 Z = true) (w4 : (Jvm.Cond.code y bytes maxL none).before a0 Z = true) (hy : y.cls ≠ "java/lang/invoke/MethodHandle" ∧ y.cls ≠ "java/lang/invoke/VarHandle") (wc : (Jvm.Cond.code y bytes maxL none).before a0 Z = true) (wz : (Jvm.Cond.initialized y.cls).before a0 Z = true) {as : Array Value} (hM : CtrW l Z EL y bytes maxL none rm as h sf QW) (hEL : EW Z a0 EL) (H : CHv Z EL vm0 h) (hsf : ∀ x ∈ sf, x < h.size ∧ Safe Z EL vm0 h x) {k0 : Nat} (hS : s.Since vm0 k0) (hk : k0 ≤ h.size) (eT : T.heap = h) {a : Addr} {pc pc' : Nat} {Ls : Array Slot} {stk argsL rest : List Value} (hp : pc' = pc + 3) (hsz : Ls.size = c.maxLocals) (hlen : ∀ sig, parseMethodDescriptor y.desc = some sig → argsL.length = sig.parameters.length) (hst : stk = argsL.reverse ++ .ref a :: rest) (has : (.ref a :: argsL).toArray = as) {W : Nat} (hW : (rest.map fun v => v.category).sum ≤ W) (hf : rm.frames + 1 ≤ R.frames) (hl : W + (maxL + 11) + rm.locals ≤ R.locals) (hc : cells + rm.cells ≤ R.cells) (hs : slots + rm.slots ≤ R.slots) (hd : decode c.code pc = .ok (.invokespecial index, 3))
    (k : ∀ (v : Option Value) (T' : State) (L : List Loc) (h' : Heap), T'.heap = h' → QW v T'.vm h' L → CHr Z EL vm0 h T'.vm h' → s.Since T'.vm h'.size → Z.Warmed39 T'.vm → T'.vm.findClass own = some m.cls → Stand p l e R (s.setVm T'.vm) m args below meth c T' (locs ++ L) (cells + rm.cells) (slots + rm.slots) → Go p e below F0 (T'.setTop (mkF m pc' Ls (v.toList ++ rest)))) : Go p e below F0 (T.setTop (mkF m pc Ls stk)) := by
  subst hp
  obtain ⟨v, vm₁, ⟨T', L', c', n'⟩, -, X', h2, hg, ⟨L, hq, h1, h3, h4, h5⟩, st⟩ := X.specialBackS hx (y := y) hn hown (mvT (s := s.setVm vm0) hZ w1) (mvT (s := s.setVm vm0) hZ w2) (mvT (s := s.setVm vm0) hZ w4) hy (hM.back (W := W) hZ wc wz hf hl hEL H hsf) (g := mkF m pc Ls stk) rfl hsz (Steps.refl _) (a := a) hlen hst (by show 2 * 0 + _ ≤ _; rw [Nat.mul_zero, Nat.zero_add]; exact hW) hd (fun _ _ => ⟨has, eT, hc, hs⟩)
  obtain ⟨X2, hS2, hZ2, hown2⟩ := rebS hS (by rw [eT]; exact hk) X' h2 hg hZ hown
  try dsimp only at h1 h3 h4
  subst h1 h3 h4
  exact Go.step (fun t kt => st.trans kt) (k v T' L T'.heap rfl hq h5 hS2 hZ2 hown2 X2)
theorem Go.ldcCH (X : Stand p l e R (s.setVm vm0) m args below meth c T locs cells slots) (hx : p.tables.exec = Jvm.exec) (hZ : Z.Warmed39 vm0) {own text : String} {index : Nat} (hown : vm0.findClass own = some m.cls) (wl : (Jvm.Cond.stringLink own index text).before a0 Z = true) (wS : ∀ a ∈ Bundle.stringAtoms, a.before a0 Z = true) (eT : T.heap = h) {k0 : Nat} (hS : s.Since vm0 k0) (hk : k0 ≤ h.size) (hEL : EW Z a0 EL) (hmem : (own, index) ∈ EL) (H : CHv Z EL vm0 h) {vs : List Value} {z : Int32} (ht : (∀ c ∈ text.toList, c.toNat < 256) ∧ text.toList.map (fun c => Value.int (Jvm.Lit.byteI c.toNat.toUInt16)) = vs) (hz : ¬ z < 0) (hl : z.toNatClampNeg = vs.length) {n : Nat} (hn : 4 * text.toList.length ≤ n) (hbig : n ≤ 536870912) (hc : cells + 2 ≤ R.cells) (hl' : slots + (n + 4) ≤ R.slots) {pc pc' : Nat} {Ls : Array Slot} {rest : List Value} (hp : pc' = pc + 2) (hd : decode c.code pc = .ok (.ldc index, 2))
    (k : ∀ (a : Addr) (T' : State) (h' : Heap) (k1 : Nat) (b : Addr) (kk : ClassId), T'.heap = h' → Ext h h' → s.Since T'.vm k1 → k1 ≤ h'.size → Z.Warmed39 T'.vm → T'.vm.findClass own = some m.cls → Exa Z h' a "java/lang/String" → Fld Z h' a "java/lang/String" "coder" "B" (.int 0) → Fld Z h' a "java/lang/String" "value" "[B" (.ref b) → Arv Z h' b kk .byte z vs (.int 0) → CHr Z EL vm0 h T'.vm h' → (∀ x, Safe Z EL T'.vm h' x → x ≠ a ∧ x ≠ b) → Stand p l e R (s.setVm T'.vm) m args below meth c T' locs (cells + 2) (slots + (n + 4)) → Go p e below F0 (T'.setTop (mkF m pc' Ls (.ref a :: rest)))) : Go p e below F0 (T.setTop (mkF m pc Ls rest)) := by
  subst hp
  obtain ⟨a, T', h', k1, b, kk, X', e', E, hS', hk', hZ', hown', F1, F2, F3, F4, -, -, C, -, hne, st⟩ := Jvm.RoadKit.ldcCH X hx hZ hown wl wS eT hS hk hEL hmem H ht hz hl (g := mkF m pc Ls rest) rfl hd hn hbig hc hl'
  exact Go.step st (k a T' h' k1 b kk e' E hS' hk' hZ' hown' F1 F2 F3 F4 C hne X')
end OwnWide
end Jvm.RoadKit
namespace Jvm.Pilot.@@N@@
open Jvm Jvm.ClassFile Sem Op Lib Jvm.Free Jvm.Stand Jvm.LawKit Jvm.RoadKit Bundle Jvm.Pilot.@@N@@.Jvm.D
theorem tw_0 {Z : State} {a0 : Array Value} (hw : ∀ d ∈ tables_1, d.before a0 Z = true) : (Jvm.Cond.constant "com/example/roles_over_datacenter/rolesoverdatacenter/PageRedirectsPinLaw" (7 : Nat) (2147483647 : Int32)).before a0 Z = true := hw _ (List.mem_of_getElem? (i := 0) rfl)
theorem tw_1 {Z : State} {a0 : Array Value} (hw : ∀ d ∈ tables_1, d.before a0 Z = true) : (Jvm.Cond.methodLink "com/example/roles_over_datacenter/rolesoverdatacenter/PageRedirectsPinLaw" (8 : Nat) ({ cls := "com/example/roles_over_datacenter/rolesoverdatacenter/PageRedirectsPinLaw", name := "draw", desc := "(I)C" } : Jvm.MethodName)).before a0 Z = true := hw _ (List.mem_of_getElem? (i := 1) rfl)
theorem tw_2 {Z : State} {a0 : Array Value} (hw : ∀ d ∈ tables_1, d.before a0 Z = true) : (Jvm.Cond.static ({ cls := "com/example/roles_over_datacenter/rolesoverdatacenter/PageRedirectsPinLaw", name := "draw", desc := "(I)C" } : Jvm.MethodName)).before a0 Z = true := hw _ (List.mem_of_getElem? (i := 2) rfl)
theorem tw_3 {Z : State} {a0 : Array Value} (hw : ∀ d ∈ tables_1, d.before a0 Z = true) : (Jvm.Cond.initialized "com/example/roles_over_datacenter/rolesoverdatacenter/PageRedirectsPinLaw").before a0 Z = true := hw _ (List.mem_of_getElem? (i := 3) rfl)
theorem tw_4 {Z : State} {a0 : Array Value} (hw : ∀ d ∈ tables_1, d.before a0 Z = true) : (Jvm.Cond.code ({ cls := "com/example/roles_over_datacenter/rolesoverdatacenter/PageRedirectsPinLaw", name := "draw", desc := "(I)C" } : Jvm.MethodName) method_2_code (2 : Nat) (Option.some Jvm.ClassFile.FieldType.char)).before a0 Z = true := hw _ (List.mem_of_getElem? (i := 4) rfl)
theorem tw_5 {Z : State} {a0 : Array Value} (hw : ∀ d ∈ tables_1, d.before a0 Z = true) : (Jvm.Cond.arrayClass Jvm.ClassFile.FieldType.char).before a0 Z = true := hw _ (List.mem_of_getElem? (i := 5) rfl)
theorem tw_6 {Z : State} {a0 : Array Value} (hw : ∀ d ∈ tables_1, d.before a0 Z = true) : (Jvm.Cond.classLink "com/example/roles_over_datacenter/rolesoverdatacenter/PageRedirectsPinLaw" (14 : Nat) "java/lang/String").before a0 Z = true := hw _ (List.mem_of_getElem? (i := 6) rfl)
theorem tw_7 {Z : State} {a0 : Array Value} (hw : ∀ d ∈ tables_1, d.before a0 Z = true) : (Jvm.Cond.instantiable "java/lang/String" (4 : Nat)).before a0 Z = true := hw _ (List.mem_of_getElem? (i := 7) rfl)
theorem tw_8 {Z : State} {a0 : Array Value} (hw : ∀ d ∈ tables_1, d.before a0 Z = true) : (Jvm.Cond.initialized "java/lang/String").before a0 Z = true := hw _ (List.mem_of_getElem? (i := 8) rfl)
theorem tw_9 {Z : State} {a0 : Array Value} (hw : ∀ d ∈ tables_1, d.before a0 Z = true) : (Jvm.Cond.methodLink "com/example/roles_over_datacenter/rolesoverdatacenter/PageRedirectsPinLaw" (16 : Nat) ({ cls := "java/lang/String", name := "<init>", desc := "([C)V" } : Jvm.MethodName)).before a0 Z = true := hw _ (List.mem_of_getElem? (i := 9) rfl)
theorem tw_10 {Z : State} {a0 : Array Value} (hw : ∀ d ∈ tables_1, d.before a0 Z = true) : (Jvm.Cond.instanceMethod ({ cls := "java/lang/String", name := "<init>", desc := "([C)V" } : Jvm.MethodName)).before a0 Z = true := hw _ (List.mem_of_getElem? (i := 10) rfl)
theorem tw_11 {Z : State} {a0 : Array Value} (hw : ∀ d ∈ tables_1, d.before a0 Z = true) : (Jvm.Cond.code ({ cls := "java/lang/String", name := "<init>", desc := "([C)V" } : Jvm.MethodName) jdk_42_method_3_code (2 : Nat) (Option.none : Option Jvm.ClassFile.FieldType)).before a0 Z = true := hw _ (List.mem_of_getElem? (i := 11) rfl)
theorem tw_12 {Z : State} {a0 : Array Value} (hw : ∀ d ∈ tables_1, d.before a0 Z = true) : (Jvm.Cond.methodLink "java/lang/String" (27 : Nat) ({ cls := "java/lang/String", name := "<init>", desc := "([CIILjava/lang/Void;)V" } : Jvm.MethodName)).before a0 Z = true := hw _ (List.mem_of_getElem? (i := 12) rfl)
theorem tw_13 {Z : State} {a0 : Array Value} (hw : ∀ d ∈ tables_1, d.before a0 Z = true) : (Jvm.Cond.instanceMethod ({ cls := "java/lang/String", name := "<init>", desc := "([CIILjava/lang/Void;)V" } : Jvm.MethodName)).before a0 Z = true := hw _ (List.mem_of_getElem? (i := 13) rfl)
theorem tw_15 {Z : State} {a0 : Array Value} (hw : ∀ d ∈ tables_1, d.before a0 Z = true) : (Jvm.Cond.code ({ cls := "java/lang/String", name := "<init>", desc := "([CIILjava/lang/Void;)V" } : Jvm.MethodName) jdk_42_method_149_code (6 : Nat) (Option.none : Option Jvm.ClassFile.FieldType)).before a0 Z = true := hw _ (List.mem_of_getElem? (i := 15) rfl)
theorem tw_16 {Z : State} {a0 : Array Value} (hw : ∀ d ∈ tables_1, d.before a0 Z = true) : (Jvm.Cond.methodLink "java/lang/String" (1 : Nat) ({ cls := "java/lang/Object", name := "<init>", desc := "()V" } : Jvm.MethodName)).before a0 Z = true := hw _ (List.mem_of_getElem? (i := 16) rfl)
theorem tw_17 {Z : State} {a0 : Array Value} (hw : ∀ d ∈ tables_1, d.before a0 Z = true) : (Jvm.Cond.instanceMethod ({ cls := "java/lang/Object", name := "<init>", desc := "()V" } : Jvm.MethodName)).before a0 Z = true := hw _ (List.mem_of_getElem? (i := 17) rfl)
theorem tw_18 {Z : State} {a0 : Array Value} (hw : ∀ d ∈ tables_1, d.before a0 Z = true) : (Jvm.Cond.code ({ cls := "java/lang/Object", name := "<init>", desc := "()V" } : Jvm.MethodName) object_method_1_code (1 : Nat) (Option.none : Option Jvm.ClassFile.FieldType)).before a0 Z = true := hw _ (List.mem_of_getElem? (i := 18) rfl)
theorem tw_19 {Z : State} {a0 : Array Value} (hw : ∀ d ∈ tables_1, d.before a0 Z = true) : (Jvm.Cond.stringLink "java/lang/String" (7 : Nat) "").before a0 Z = true := hw _ (List.mem_of_getElem? (i := 19) rfl)
theorem tw_20 {Z : State} {a0 : Array Value} (hw : ∀ d ∈ tables_1, d.before a0 Z = true) : (Jvm.Cond.arrayClass Jvm.ClassFile.FieldType.byte).before a0 Z = true := hw _ (List.mem_of_getElem? (i := 20) rfl)
theorem tw_21 {Z : State} {a0 : Array Value} (hw : ∀ d ∈ tables_1, d.before a0 Z = true) : (Jvm.Cond.laysFinal "java/lang/String" "java/lang/String" "value" "[B").before a0 Z = true := hw _ (List.mem_of_getElem? (i := 21) rfl)
theorem tw_22 {Z : State} {a0 : Array Value} (hw : ∀ d ∈ tables_1, d.before a0 Z = true) : (Jvm.Cond.laysFinal "java/lang/String" "java/lang/String" "coder" "B").before a0 Z = true := hw _ (List.mem_of_getElem? (i := 22) rfl)
theorem tw_25 {Z : State} {a0 : Array Value} (hw : ∀ d ∈ tables_1, d.before a0 Z = true) : (Jvm.Cond.fieldLink "java/lang/String" (9 : Nat) "java/lang/String" "value" "[B").before a0 Z = true := hw _ (List.mem_of_getElem? (i := 25) rfl)
theorem tw_26 {Z : State} {a0 : Array Value} (hw : ∀ d ∈ tables_1, d.before a0 Z = true) : (Jvm.Cond.fieldLink "java/lang/String" (15 : Nat) "java/lang/String" "coder" "B").before a0 Z = true := hw _ (List.mem_of_getElem? (i := 26) rfl)
theorem tw_27 {Z : State} {a0 : Array Value} (hw : ∀ d ∈ tables_1, d.before a0 Z = true) : (Jvm.Cond.methodLink "com/example/roles_over_datacenter/rolesoverdatacenter/PageRedirectsPinLaw" (19 : Nat) ({ cls := "com/example/roles_over_datacenter/rolesoverdatacenter/Page", name := "redirects", desc := "(Ljava/lang/String;)Z" } : Jvm.MethodName)).before a0 Z = true := hw _ (List.mem_of_getElem? (i := 27) rfl)
theorem tw_28 {Z : State} {a0 : Array Value} (hw : ∀ d ∈ tables_1, d.before a0 Z = true) : (Jvm.Cond.static ({ cls := "com/example/roles_over_datacenter/rolesoverdatacenter/Page", name := "redirects", desc := "(Ljava/lang/String;)Z" } : Jvm.MethodName)).before a0 Z = true := hw _ (List.mem_of_getElem? (i := 28) rfl)
theorem tw_29 {Z : State} {a0 : Array Value} (hw : ∀ d ∈ tables_1, d.before a0 Z = true) : (Jvm.Cond.initialized "com/example/roles_over_datacenter/rolesoverdatacenter/Page").before a0 Z = true := hw _ (List.mem_of_getElem? (i := 29) rfl)
theorem tw_30 {Z : State} {a0 : Array Value} (hw : ∀ d ∈ tables_1, d.before a0 Z = true) : (Jvm.Cond.code ({ cls := "com/example/roles_over_datacenter/rolesoverdatacenter/Page", name := "redirects", desc := "(Ljava/lang/String;)Z" } : Jvm.MethodName) prog_11_method_4_code (1 : Nat) (Option.some Jvm.ClassFile.FieldType.boolean)).before a0 Z = true := hw _ (List.mem_of_getElem? (i := 30) rfl)
theorem tw_31 {Z : State} {a0 : Array Value} (hw : ∀ d ∈ tables_1, d.before a0 Z = true) : (Jvm.Cond.stringLink "com/example/roles_over_datacenter/rolesoverdatacenter/Page" (60 : Nat) "/").before a0 Z = true := hw _ (List.mem_of_getElem? (i := 31) rfl)
theorem tw_32 {Z : State} {a0 : Array Value} (hw : ∀ d ∈ tables_1, d.before a0 Z = true) : (Jvm.Cond.methodLink "com/example/roles_over_datacenter/rolesoverdatacenter/Page" (62 : Nat) ({ cls := "java/lang/String", name := "equals", desc := "(Ljava/lang/Object;)Z" } : Jvm.MethodName)).before a0 Z = true := hw _ (List.mem_of_getElem? (i := 32) rfl)
theorem tw_33 {Z : State} {a0 : Array Value} (hw : ∀ d ∈ tables_1, d.before a0 Z = true) : (Jvm.Cond.declares ({ cls := "java/lang/String", name := "equals", desc := "(Ljava/lang/Object;)Z" } : Jvm.MethodName)).before a0 Z = true := hw _ (List.mem_of_getElem? (i := 33) rfl)
theorem tw_34 {Z : State} {a0 : Array Value} (hw : ∀ d ∈ tables_1, d.before a0 Z = true) : (Jvm.Cond.instanceMethod ({ cls := "java/lang/String", name := "equals", desc := "(Ljava/lang/Object;)Z" } : Jvm.MethodName)).before a0 Z = true := hw _ (List.mem_of_getElem? (i := 34) rfl)
theorem tw_35 {Z : State} {a0 : Array Value} (hw : ∀ d ∈ tables_1, d.before a0 Z = true) : (Jvm.Cond.selects "java/lang/String" ({ cls := "java/lang/String", name := "equals", desc := "(Ljava/lang/Object;)Z" } : Jvm.MethodName) ({ cls := "java/lang/String", name := "equals", desc := "(Ljava/lang/Object;)Z" } : Jvm.MethodName)).before a0 Z = true := hw _ (List.mem_of_getElem? (i := 35) rfl)
theorem tw_36 {Z : State} {a0 : Array Value} (hw : ∀ d ∈ tables_1, d.before a0 Z = true) : (Jvm.Cond.code ({ cls := "java/lang/String", name := "equals", desc := "(Ljava/lang/Object;)Z" } : Jvm.MethodName) jdk_42_method_66_code (3 : Nat) (Option.some Jvm.ClassFile.FieldType.boolean)).before a0 Z = true := hw _ (List.mem_of_getElem? (i := 36) rfl)
theorem tw_37 {Z : State} {a0 : Array Value} (hw : ∀ d ∈ tables_1, d.before a0 Z = true) : (Jvm.Cond.classLink "java/lang/String" (10 : Nat) "java/lang/String").before a0 Z = true := hw _ (List.mem_of_getElem? (i := 37) rfl)
theorem tw_38 {Z : State} {a0 : Array Value} (hw : ∀ d ∈ tables_1, d.before a0 Z = true) : (Jvm.Cond.fieldLink "java/lang/String" (38 : Nat) "java/lang/String" "COMPACT_STRINGS" "Z").before a0 Z = true := hw _ (List.mem_of_getElem? (i := 38) rfl)
theorem tw_39 {Z : State} {a0 : Array Value} (hw : ∀ d ∈ tables_1, d.before a0 Z = true) : (Jvm.Cond.methodLink "java/lang/String" (541 : Nat) ({ cls := "java/lang/StringLatin1", name := "equals", desc := "([B[B)Z" } : Jvm.MethodName)).before a0 Z = true := hw _ (List.mem_of_getElem? (i := 39) rfl)
theorem tw_40 {Z : State} {a0 : Array Value} (hw : ∀ d ∈ tables_1, d.before a0 Z = true) : (Jvm.Cond.static ({ cls := "java/lang/StringLatin1", name := "equals", desc := "([B[B)Z" } : Jvm.MethodName)).before a0 Z = true := hw _ (List.mem_of_getElem? (i := 40) rfl)
theorem tw_41 {Z : State} {a0 : Array Value} (hw : ∀ d ∈ tables_1, d.before a0 Z = true) : (Jvm.Cond.initialized "java/lang/StringLatin1").before a0 Z = true := hw _ (List.mem_of_getElem? (i := 41) rfl)
theorem tw_42 {Z : State} {a0 : Array Value} (hw : ∀ d ∈ tables_1, d.before a0 Z = true) : (Jvm.Cond.code ({ cls := "java/lang/StringLatin1", name := "equals", desc := "([B[B)Z" } : Jvm.MethodName) jdk_43_method_13_code (3 : Nat) (Option.some Jvm.ClassFile.FieldType.boolean)).before a0 Z = true := hw _ (List.mem_of_getElem? (i := 42) rfl)
theorem tw_43 {Z : State} {a0 : Array Value} (hw : ∀ d ∈ tables_1, d.before a0 Z = true) : (Jvm.Cond.stringLink "com/example/roles_over_datacenter/rolesoverdatacenter/Page" (49 : Nat) "/ui/").before a0 Z = true := hw _ (List.mem_of_getElem? (i := 43) rfl)
theorem tw_44 {Z : State} {a0 : Array Value} (hw : ∀ d ∈ tables_1, d.before a0 Z = true) : (Jvm.Cond.methodLink "com/example/roles_over_datacenter/rolesoverdatacenter/Page" (66 : Nat) ({ cls := "java/lang/String", name := "length", desc := "()I" } : Jvm.MethodName)).before a0 Z = true := hw _ (List.mem_of_getElem? (i := 44) rfl)
theorem tw_45 {Z : State} {a0 : Array Value} (hw : ∀ d ∈ tables_1, d.before a0 Z = true) : (Jvm.Cond.declares ({ cls := "java/lang/String", name := "length", desc := "()I" } : Jvm.MethodName)).before a0 Z = true := hw _ (List.mem_of_getElem? (i := 45) rfl)
theorem tw_46 {Z : State} {a0 : Array Value} (hw : ∀ d ∈ tables_1, d.before a0 Z = true) : (Jvm.Cond.instanceMethod ({ cls := "java/lang/String", name := "length", desc := "()I" } : Jvm.MethodName)).before a0 Z = true := hw _ (List.mem_of_getElem? (i := 46) rfl)
theorem tw_47 {Z : State} {a0 : Array Value} (hw : ∀ d ∈ tables_1, d.before a0 Z = true) : (Jvm.Cond.selects "java/lang/String" ({ cls := "java/lang/String", name := "length", desc := "()I" } : Jvm.MethodName) ({ cls := "java/lang/String", name := "length", desc := "()I" } : Jvm.MethodName)).before a0 Z = true := hw _ (List.mem_of_getElem? (i := 47) rfl)
theorem tw_48 {Z : State} {a0 : Array Value} (hw : ∀ d ∈ tables_1, d.before a0 Z = true) : (Jvm.Cond.code ({ cls := "java/lang/String", name := "length", desc := "()I" } : Jvm.MethodName) jdk_42_method_54_code (1 : Nat) (Option.some Jvm.ClassFile.FieldType.int)).before a0 Z = true := hw _ (List.mem_of_getElem? (i := 48) rfl)
theorem tw_49 {Z : State} {a0 : Array Value} (hw : ∀ d ∈ tables_1, d.before a0 Z = true) : (Jvm.Cond.methodLink "java/lang/String" (335 : Nat) ({ cls := "java/lang/String", name := "coder", desc := "()B" } : Jvm.MethodName)).before a0 Z = true := hw _ (List.mem_of_getElem? (i := 49) rfl)
theorem tw_50 {Z : State} {a0 : Array Value} (hw : ∀ d ∈ tables_1, d.before a0 Z = true) : (Jvm.Cond.declares ({ cls := "java/lang/String", name := "coder", desc := "()B" } : Jvm.MethodName)).before a0 Z = true := hw _ (List.mem_of_getElem? (i := 50) rfl)
theorem tw_51 {Z : State} {a0 : Array Value} (hw : ∀ d ∈ tables_1, d.before a0 Z = true) : (Jvm.Cond.instanceMethod ({ cls := "java/lang/String", name := "coder", desc := "()B" } : Jvm.MethodName)).before a0 Z = true := hw _ (List.mem_of_getElem? (i := 51) rfl)
theorem tw_52 {Z : State} {a0 : Array Value} (hw : ∀ d ∈ tables_1, d.before a0 Z = true) : (Jvm.Cond.selects "java/lang/String" ({ cls := "java/lang/String", name := "coder", desc := "()B" } : Jvm.MethodName) ({ cls := "java/lang/String", name := "coder", desc := "()B" } : Jvm.MethodName)).before a0 Z = true := hw _ (List.mem_of_getElem? (i := 52) rfl)
theorem tw_53 {Z : State} {a0 : Array Value} (hw : ∀ d ∈ tables_1, d.before a0 Z = true) : (Jvm.Cond.code ({ cls := "java/lang/String", name := "coder", desc := "()B" } : Jvm.MethodName) jdk_42_method_152_code (1 : Nat) (Option.some Jvm.ClassFile.FieldType.byte)).before a0 Z = true := hw _ (List.mem_of_getElem? (i := 53) rfl)
theorem tw_54 {Z : State} {a0 : Array Value} (hw : ∀ d ∈ tables_1, d.before a0 Z = true) : (Jvm.Cond.methodLink "com/example/roles_over_datacenter/rolesoverdatacenter/Page" (70 : Nat) ({ cls := "java/lang/String", name := "substring", desc := "(II)Ljava/lang/String;" } : Jvm.MethodName)).before a0 Z = true := hw _ (List.mem_of_getElem? (i := 54) rfl)
theorem tw_55 {Z : State} {a0 : Array Value} (hw : ∀ d ∈ tables_1, d.before a0 Z = true) : (Jvm.Cond.declares ({ cls := "java/lang/String", name := "substring", desc := "(II)Ljava/lang/String;" } : Jvm.MethodName)).before a0 Z = true := hw _ (List.mem_of_getElem? (i := 55) rfl)
theorem tw_56 {Z : State} {a0 : Array Value} (hw : ∀ d ∈ tables_1, d.before a0 Z = true) : (Jvm.Cond.instanceMethod ({ cls := "java/lang/String", name := "substring", desc := "(II)Ljava/lang/String;" } : Jvm.MethodName)).before a0 Z = true := hw _ (List.mem_of_getElem? (i := 56) rfl)
theorem tw_57 {Z : State} {a0 : Array Value} (hw : ∀ d ∈ tables_1, d.before a0 Z = true) : (Jvm.Cond.selects "java/lang/String" ({ cls := "java/lang/String", name := "substring", desc := "(II)Ljava/lang/String;" } : Jvm.MethodName) ({ cls := "java/lang/String", name := "substring", desc := "(II)Ljava/lang/String;" } : Jvm.MethodName)).before a0 Z = true := hw _ (List.mem_of_getElem? (i := 57) rfl)
theorem tw_58 {Z : State} {a0 : Array Value} (hw : ∀ d ∈ tables_1, d.before a0 Z = true) : (Jvm.Cond.code ({ cls := "java/lang/String", name := "substring", desc := "(II)Ljava/lang/String;" } : Jvm.MethodName) jdk_42_method_92_code (5 : Nat) (Option.some (Jvm.ClassFile.FieldType.object "java/lang/String"))).before a0 Z = true := hw _ (List.mem_of_getElem? (i := 58) rfl)
theorem tw_59 {Z : State} {a0 : Array Value} (hw : ∀ d ∈ tables_1, d.before a0 Z = true) : (Jvm.Cond.methodLink "java/lang/String" (505 : Nat) ({ cls := "java/lang/String", name := "length", desc := "()I" } : Jvm.MethodName)).before a0 Z = true := hw _ (List.mem_of_getElem? (i := 59) rfl)
theorem tw_60 {Z : State} {a0 : Array Value} (hw : ∀ d ∈ tables_1, d.before a0 Z = true) : (Jvm.Cond.methodLink "java/lang/String" (521 : Nat) ({ cls := "java/lang/String", name := "checkBoundsBeginEnd", desc := "(III)V" } : Jvm.MethodName)).before a0 Z = true := hw _ (List.mem_of_getElem? (i := 60) rfl)
theorem tw_61 {Z : State} {a0 : Array Value} (hw : ∀ d ∈ tables_1, d.before a0 Z = true) : (Jvm.Cond.static ({ cls := "java/lang/String", name := "checkBoundsBeginEnd", desc := "(III)V" } : Jvm.MethodName)).before a0 Z = true := hw _ (List.mem_of_getElem? (i := 61) rfl)
theorem tw_62 {Z : State} {a0 : Array Value} (hw : ∀ d ∈ tables_1, d.before a0 Z = true) : (Jvm.Cond.code ({ cls := "java/lang/String", name := "checkBoundsBeginEnd", desc := "(III)V" } : Jvm.MethodName) jdk_42_method_158_code (3 : Nat) (Option.none : Option Jvm.ClassFile.FieldType)).before a0 Z = true := hw _ (List.mem_of_getElem? (i := 62) rfl)
theorem tw_63 {Z : State} {a0 : Array Value} (hw : ∀ d ∈ tables_1, d.before a0 Z = true) : (Jvm.Cond.fieldLink "java/lang/String" (1053 : Nat) "jdk/internal/util/Preconditions" "SIOOBE_FORMATTER" "Ljava/util/function/BiFunction;").before a0 Z = true := hw _ (List.mem_of_getElem? (i := 63) rfl)
theorem tw_64 {Z : State} {a0 : Array Value} (hw : ∀ d ∈ tables_1, d.before a0 Z = true) : (Jvm.Cond.initialized "jdk/internal/util/Preconditions").before a0 Z = true := hw _ (List.mem_of_getElem? (i := 64) rfl)
theorem tw_65 {Z : State} {a0 : Array Value} (hw : ∀ d ∈ tables_1, d.before a0 Z = true) : (Jvm.Cond.methodLink "java/lang/String" (1062 : Nat) ({ cls := "jdk/internal/util/Preconditions", name := "checkFromToIndex", desc := "(IIILjava/util/function/BiFunction;)I" } : Jvm.MethodName)).before a0 Z = true := hw _ (List.mem_of_getElem? (i := 65) rfl)
theorem tw_66 {Z : State} {a0 : Array Value} (hw : ∀ d ∈ tables_1, d.before a0 Z = true) : (Jvm.Cond.static ({ cls := "jdk/internal/util/Preconditions", name := "checkFromToIndex", desc := "(IIILjava/util/function/BiFunction;)I" } : Jvm.MethodName)).before a0 Z = true := hw _ (List.mem_of_getElem? (i := 66) rfl)
theorem tw_67 {Z : State} {a0 : Array Value} (hw : ∀ d ∈ tables_1, d.before a0 Z = true) : (Jvm.Cond.code ({ cls := "jdk/internal/util/Preconditions", name := "checkFromToIndex", desc := "(IIILjava/util/function/BiFunction;)I" } : Jvm.MethodName) jdk_41_method_12_code (4 : Nat) (Option.some Jvm.ClassFile.FieldType.int)).before a0 Z = true := hw _ (List.mem_of_getElem? (i := 67) rfl)
theorem tw_68 {Z : State} {a0 : Array Value} (hw : ∀ d ∈ tables_1, d.before a0 Z = true) : (Jvm.Cond.methodLink "java/lang/String" (492 : Nat) ({ cls := "java/lang/String", name := "isLatin1", desc := "()Z" } : Jvm.MethodName)).before a0 Z = true := hw _ (List.mem_of_getElem? (i := 68) rfl)
theorem tw_69 {Z : State} {a0 : Array Value} (hw : ∀ d ∈ tables_1, d.before a0 Z = true) : (Jvm.Cond.declares ({ cls := "java/lang/String", name := "isLatin1", desc := "()Z" } : Jvm.MethodName)).before a0 Z = true := hw _ (List.mem_of_getElem? (i := 69) rfl)
theorem tw_70 {Z : State} {a0 : Array Value} (hw : ∀ d ∈ tables_1, d.before a0 Z = true) : (Jvm.Cond.instanceMethod ({ cls := "java/lang/String", name := "isLatin1", desc := "()Z" } : Jvm.MethodName)).before a0 Z = true := hw _ (List.mem_of_getElem? (i := 70) rfl)
theorem tw_71 {Z : State} {a0 : Array Value} (hw : ∀ d ∈ tables_1, d.before a0 Z = true) : (Jvm.Cond.selects "java/lang/String" ({ cls := "java/lang/String", name := "isLatin1", desc := "()Z" } : Jvm.MethodName) ({ cls := "java/lang/String", name := "isLatin1", desc := "()Z" } : Jvm.MethodName)).before a0 Z = true := hw _ (List.mem_of_getElem? (i := 71) rfl)
theorem tw_72 {Z : State} {a0 : Array Value} (hw : ∀ d ∈ tables_1, d.before a0 Z = true) : (Jvm.Cond.code ({ cls := "java/lang/String", name := "isLatin1", desc := "()Z" } : Jvm.MethodName) jdk_42_method_154_code (1 : Nat) (Option.some Jvm.ClassFile.FieldType.boolean)).before a0 Z = true := hw _ (List.mem_of_getElem? (i := 72) rfl)
theorem tw_73 {Z : State} {a0 : Array Value} (hw : ∀ d ∈ tables_1, d.before a0 Z = true) : (Jvm.Cond.methodLink "java/lang/String" (685 : Nat) ({ cls := "java/lang/StringLatin1", name := "newString", desc := "([BII)Ljava/lang/String;" } : Jvm.MethodName)).before a0 Z = true := hw _ (List.mem_of_getElem? (i := 73) rfl)
theorem tw_74 {Z : State} {a0 : Array Value} (hw : ∀ d ∈ tables_1, d.before a0 Z = true) : (Jvm.Cond.static ({ cls := "java/lang/StringLatin1", name := "newString", desc := "([BII)Ljava/lang/String;" } : Jvm.MethodName)).before a0 Z = true := hw _ (List.mem_of_getElem? (i := 74) rfl)
theorem tw_75 {Z : State} {a0 : Array Value} (hw : ∀ d ∈ tables_1, d.before a0 Z = true) : (Jvm.Cond.code ({ cls := "java/lang/StringLatin1", name := "newString", desc := "([BII)Ljava/lang/String;" } : Jvm.MethodName) jdk_43_method_47_code (3 : Nat) (Option.some (Jvm.ClassFile.FieldType.object "java/lang/String"))).before a0 Z = true := hw _ (List.mem_of_getElem? (i := 75) rfl)
theorem tw_76 {Z : State} {a0 : Array Value} (hw : ∀ d ∈ tables_1, d.before a0 Z = true) : (Jvm.Cond.classLink "java/lang/StringLatin1" (1 : Nat) "java/lang/String").before a0 Z = true := hw _ (List.mem_of_getElem? (i := 76) rfl)
theorem tw_77 {Z : State} {a0 : Array Value} (hw : ∀ d ∈ tables_1, d.before a0 Z = true) : (Jvm.Cond.methodLink "java/lang/StringLatin1" (232 : Nat) ({ cls := "java/util/Arrays", name := "copyOfRange", desc := "([BII)[B" } : Jvm.MethodName)).before a0 Z = true := hw _ (List.mem_of_getElem? (i := 77) rfl)
theorem tw_78 {Z : State} {a0 : Array Value} (hw : ∀ d ∈ tables_1, d.before a0 Z = true) : (Jvm.Cond.static ({ cls := "java/util/Arrays", name := "copyOfRange", desc := "([BII)[B" } : Jvm.MethodName)).before a0 Z = true := hw _ (List.mem_of_getElem? (i := 78) rfl)
theorem tw_79 {Z : State} {a0 : Array Value} (hw : ∀ d ∈ tables_1, d.before a0 Z = true) : (Jvm.Cond.initialized "java/util/Arrays").before a0 Z = true := hw _ (List.mem_of_getElem? (i := 79) rfl)
theorem tw_80 {Z : State} {a0 : Array Value} (hw : ∀ d ∈ tables_1, d.before a0 Z = true) : (Jvm.Cond.code ({ cls := "java/util/Arrays", name := "copyOfRange", desc := "([BII)[B" } : Jvm.MethodName) jdk_65_method_132_code (3 : Nat) (Option.some (Jvm.ClassFile.FieldType.array Jvm.ClassFile.FieldType.byte))).before a0 Z = true := hw _ (List.mem_of_getElem? (i := 80) rfl)
theorem tw_81 {Z : State} {a0 : Array Value} (hw : ∀ d ∈ tables_1, d.before a0 Z = true) : (Jvm.Cond.methodLink "java/util/Arrays" (339 : Nat) ({ cls := "java/util/Arrays", name := "copyOfRangeByte", desc := "([BII)[B" } : Jvm.MethodName)).before a0 Z = true := hw _ (List.mem_of_getElem? (i := 81) rfl)
theorem tw_82 {Z : State} {a0 : Array Value} (hw : ∀ d ∈ tables_1, d.before a0 Z = true) : (Jvm.Cond.static ({ cls := "java/util/Arrays", name := "copyOfRangeByte", desc := "([BII)[B" } : Jvm.MethodName)).before a0 Z = true := hw _ (List.mem_of_getElem? (i := 82) rfl)
theorem tw_83 {Z : State} {a0 : Array Value} (hw : ∀ d ∈ tables_1, d.before a0 Z = true) : (Jvm.Cond.code ({ cls := "java/util/Arrays", name := "copyOfRangeByte", desc := "([BII)[B" } : Jvm.MethodName) jdk_65_method_133_code (5 : Nat) (Option.some (Jvm.ClassFile.FieldType.array Jvm.ClassFile.FieldType.byte))).before a0 Z = true := hw _ (List.mem_of_getElem? (i := 83) rfl)
theorem tw_84 {Z : State} {a0 : Array Value} (hw : ∀ d ∈ tables_1, d.before a0 Z = true) : (Jvm.Cond.methodLink "java/util/Arrays" (343 : Nat) ({ cls := "java/util/Arrays", name := "checkLength", desc := "(II)V" } : Jvm.MethodName)).before a0 Z = true := hw _ (List.mem_of_getElem? (i := 84) rfl)
theorem tw_85 {Z : State} {a0 : Array Value} (hw : ∀ d ∈ tables_1, d.before a0 Z = true) : (Jvm.Cond.static ({ cls := "java/util/Arrays", name := "checkLength", desc := "(II)V" } : Jvm.MethodName)).before a0 Z = true := hw _ (List.mem_of_getElem? (i := 85) rfl)
theorem tw_86 {Z : State} {a0 : Array Value} (hw : ∀ d ∈ tables_1, d.before a0 Z = true) : (Jvm.Cond.code ({ cls := "java/util/Arrays", name := "checkLength", desc := "(II)V" } : Jvm.MethodName) jdk_65_method_131_code (2 : Nat) (Option.none : Option Jvm.ClassFile.FieldType)).before a0 Z = true := hw _ (List.mem_of_getElem? (i := 86) rfl)
theorem tw_87 {Z : State} {a0 : Array Value} (hw : ∀ d ∈ tables_1, d.before a0 Z = true) : (Jvm.Cond.methodLink "java/util/Arrays" (304 : Nat) ({ cls := "java/lang/Math", name := "min", desc := "(II)I" } : Jvm.MethodName)).before a0 Z = true := hw _ (List.mem_of_getElem? (i := 87) rfl)
theorem tw_88 {Z : State} {a0 : Array Value} (hw : ∀ d ∈ tables_1, d.before a0 Z = true) : (Jvm.Cond.static ({ cls := "java/lang/Math", name := "min", desc := "(II)I" } : Jvm.MethodName)).before a0 Z = true := hw _ (List.mem_of_getElem? (i := 88) rfl)
theorem tw_89 {Z : State} {a0 : Array Value} (hw : ∀ d ∈ tables_1, d.before a0 Z = true) : (Jvm.Cond.initialized "java/lang/Math").before a0 Z = true := hw _ (List.mem_of_getElem? (i := 89) rfl)
theorem tw_90 {Z : State} {a0 : Array Value} (hw : ∀ d ∈ tables_1, d.before a0 Z = true) : (Jvm.Cond.code ({ cls := "java/lang/Math", name := "min", desc := "(II)I" } : Jvm.MethodName) jdk_29_method_69_code (2 : Nat) (Option.some Jvm.ClassFile.FieldType.int)).before a0 Z = true := hw _ (List.mem_of_getElem? (i := 90) rfl)
theorem tw_91 {Z : State} {a0 : Array Value} (hw : ∀ d ∈ tables_1, d.before a0 Z = true) : (Jvm.Cond.methodLink "java/util/Arrays" (150 : Nat) ({ cls := "java/lang/System", name := "arraycopy", desc := "(Ljava/lang/Object;ILjava/lang/Object;II)V" } : Jvm.MethodName)).before a0 Z = true := hw _ (List.mem_of_getElem? (i := 91) rfl)
theorem tw_92 {Z : State} {a0 : Array Value} (hw : ∀ d ∈ tables_1, d.before a0 Z = true) : (Jvm.Cond.static ({ cls := "java/lang/System", name := "arraycopy", desc := "(Ljava/lang/Object;ILjava/lang/Object;II)V" } : Jvm.MethodName)).before a0 Z = true := hw _ (List.mem_of_getElem? (i := 92) rfl)
theorem tw_93 {Z : State} {a0 : Array Value} (hw : ∀ d ∈ tables_1, d.before a0 Z = true) : (Jvm.Cond.initialized "java/lang/System").before a0 Z = true := hw _ (List.mem_of_getElem? (i := 93) rfl)
theorem tw_94 {Z : State} {a0 : Array Value} (hw : ∀ d ∈ tables_1, d.before a0 Z = true) : (Jvm.Cond.native ({ cls := "java/lang/System", name := "arraycopy", desc := "(Ljava/lang/Object;ILjava/lang/Object;II)V" } : Jvm.MethodName)).before a0 Z = true := hw _ (List.mem_of_getElem? (i := 94) rfl)
theorem tw_95 {Z : State} {a0 : Array Value} (hw : ∀ d ∈ tables_1, d.before a0 Z = true) : (Jvm.Cond.methodLink "java/lang/StringLatin1" (112 : Nat) ({ cls := "java/lang/String", name := "<init>", desc := "([BB)V" } : Jvm.MethodName)).before a0 Z = true := hw _ (List.mem_of_getElem? (i := 95) rfl)
theorem tw_96 {Z : State} {a0 : Array Value} (hw : ∀ d ∈ tables_1, d.before a0 Z = true) : (Jvm.Cond.instanceMethod ({ cls := "java/lang/String", name := "<init>", desc := "([BB)V" } : Jvm.MethodName)).before a0 Z = true := hw _ (List.mem_of_getElem? (i := 96) rfl)
theorem tw_97 {Z : State} {a0 : Array Value} (hw : ∀ d ∈ tables_1, d.before a0 Z = true) : (Jvm.Cond.code ({ cls := "java/lang/String", name := "<init>", desc := "([BB)V" } : Jvm.MethodName) jdk_42_method_151_code (3 : Nat) (Option.none : Option Jvm.ClassFile.FieldType)).before a0 Z = true := hw _ (List.mem_of_getElem? (i := 97) rfl)
theorem tw_98 {Z : State} {a0 : Array Value} (hw : ∀ d ∈ tables_1, d.before a0 Z = true) : (Jvm.Cond.methodLink "java/lang/String" (177 : Nat) ({ cls := "java/lang/StringUTF16", name := "compress", desc := "([CII)[B" } : Jvm.MethodName)).before a0 Z = true := hw _ (List.mem_of_getElem? (i := 98) rfl)
theorem tw_99 {Z : State} {a0 : Array Value} (hw : ∀ d ∈ tables_1, d.before a0 Z = true) : (Jvm.Cond.static ({ cls := "java/lang/StringUTF16", name := "compress", desc := "([CII)[B" } : Jvm.MethodName)).before a0 Z = true := hw _ (List.mem_of_getElem? (i := 99) rfl)
theorem tw_100 {Z : State} {a0 : Array Value} (hw : ∀ d ∈ tables_1, d.before a0 Z = true) : (Jvm.Cond.initialized "java/lang/StringUTF16").before a0 Z = true := hw _ (List.mem_of_getElem? (i := 100) rfl)
theorem tw_101 {Z : State} {a0 : Array Value} (hw : ∀ d ∈ tables_1, d.before a0 Z = true) : (Jvm.Cond.code ({ cls := "java/lang/StringUTF16", name := "compress", desc := "([CII)[B" } : Jvm.MethodName) jdk_52_method_16_code (6 : Nat) (Option.some (Jvm.ClassFile.FieldType.array Jvm.ClassFile.FieldType.byte))).before a0 Z = true := hw _ (List.mem_of_getElem? (i := 101) rfl)
theorem tw_102 {Z : State} {a0 : Array Value} (hw : ∀ d ∈ tables_1, d.before a0 Z = true) : (Jvm.Cond.methodLink "java/lang/StringUTF16" (115 : Nat) ({ cls := "java/lang/StringUTF16", name := "compress", desc := "([CI[BII)I" } : Jvm.MethodName)).before a0 Z = true := hw _ (List.mem_of_getElem? (i := 102) rfl)
theorem tw_103 {Z : State} {a0 : Array Value} (hw : ∀ d ∈ tables_1, d.before a0 Z = true) : (Jvm.Cond.static ({ cls := "java/lang/StringUTF16", name := "compress", desc := "([CI[BII)I" } : Jvm.MethodName)).before a0 Z = true := hw _ (List.mem_of_getElem? (i := 103) rfl)
theorem tw_104 {Z : State} {a0 : Array Value} (hw : ∀ d ∈ tables_1, d.before a0 Z = true) : (Jvm.Cond.code ({ cls := "java/lang/StringUTF16", name := "compress", desc := "([CI[BII)I" } : Jvm.MethodName) jdk_52_method_21_code (7 : Nat) (Option.some Jvm.ClassFile.FieldType.int)).before a0 Z = true := hw _ (List.mem_of_getElem? (i := 104) rfl)
theorem tw_105 {Z : State} {a0 : Array Value} (hw : ∀ d ∈ tables_1, d.before a0 Z = true) : (Jvm.Cond.methodLink "java/lang/String" (47 : Nat) ({ cls := "java/lang/StringUTF16", name := "coderFromArrayLen", desc := "([BI)B" } : Jvm.MethodName)).before a0 Z = true := hw _ (List.mem_of_getElem? (i := 105) rfl)
theorem tw_106 {Z : State} {a0 : Array Value} (hw : ∀ d ∈ tables_1, d.before a0 Z = true) : (Jvm.Cond.static ({ cls := "java/lang/StringUTF16", name := "coderFromArrayLen", desc := "([BI)B" } : Jvm.MethodName)).before a0 Z = true := hw _ (List.mem_of_getElem? (i := 106) rfl)
theorem tw_107 {Z : State} {a0 : Array Value} (hw : ∀ d ∈ tables_1, d.before a0 Z = true) : (Jvm.Cond.code ({ cls := "java/lang/StringUTF16", name := "coderFromArrayLen", desc := "([BI)B" } : Jvm.MethodName) jdk_52_method_15_code (2 : Nat) (Option.some Jvm.ClassFile.FieldType.byte)).before a0 Z = true := hw _ (List.mem_of_getElem? (i := 107) rfl)
section OwnStart
variable {args : Array Value} {first s : State} {o : Option Outcome} {idx : List Nat} {t : Term}
end OwnStart

section OwnAuto
theorem own_rlit {k : Int32} {n : Int} (h : k.toInt = n) : n ≤ k.toInt ∧ k.toInt ≤ n := by omega
theorem own_rw {x : Int32} {a b c d : Int} (h : a ≤ x.toInt ∧ x.toInt ≤ b) (h1 : c ≤ a) (h2 : b ≤ d) : c ≤ x.toInt ∧ x.toInt ≤ d := by omega
theorem own_rand {x m z : Int32} {k : Int} (h : (x &&& m) = z) (hm : 0 ≤ m.toInt ∧ m.toInt = k) : 0 ≤ z.toInt ∧ z.toInt ≤ k := by subst h; have := c_and x m hm.1; omega
theorem own_ri2b {x z : Int32} (h : (x.toInt8.toInt32) = z) : -128 ≤ z.toInt ∧ z.toInt ≤ 127 := by subst h; have := c_i2b x; omega
theorem own_rrem {x y z : Int32} {d a b B : Int} (h : (x % y) = z) (hy : y.toInt = d) (hd : 0 < d) (hr : a ≤ x.toInt ∧ x.toInt ≤ b) (ha : 0 ≤ a) (hB : d = B + 1) : 0 ≤ z.toInt ∧ z.toInt ≤ B := by
  subst h
  have e := (c_irem x y d hy).1 (by omega)
  rw [e]
  have h1 := Int.emod_nonneg x.toInt (by omega : d ≠ 0)
  have h2 := Int.emod_lt_of_pos x.toInt hd
  omega
theorem own_i2c_id {x : Int32} {a b : Int} (hr : a ≤ x.toInt ∧ x.toInt ≤ b) (ha : 0 ≤ a) (hb : b ≤ 65535) : (x.toUInt32.toUInt16.toUInt32.toInt32) = x := by apply Int32.toInt_inj.mp; have := c_i2c x; omega
theorem own_i2b_id {x : Int32} {a b : Int} (hr : a ≤ x.toInt ∧ x.toInt ≤ b) (ha : -128 ≤ a) (hb : b ≤ 127) : (x.toInt8.toInt32) = x := by apply Int32.toInt_inj.mp; have := c_i2b x; omega
theorem own_nar_byte {x : Int32} {a b : Int} (hr : a ≤ x.toInt ∧ x.toInt ≤ b) (ha : -128 ≤ a) (hb : b ≤ 127) : nar .byte x = x := own_i2b_id hr ha hb
theorem own_nar_char {x : Int32} {a b : Int} (hr : a ≤ x.toInt ∧ x.toInt ≤ b) (ha : 0 ≤ a) (hb : b ≤ 65535) : nar .char x = x := own_i2c_id hr ha hb
theorem own_nlt_r {x y : Int32} {a b c d : Int} (hx : a ≤ x.toInt ∧ x.toInt ≤ b) (hy : c ≤ y.toInt ∧ y.toInt ≤ d) (h : d ≤ a) : ¬ x < y := by rw [Int32.lt_iff_toInt_lt]; omega
theorem own_lat_eq {c d b e : Int32} (hb : c.toInt8.toInt32 = b) (he : d.toInt8.toInt32 = e) (h : c = d) : b = e := by subst hb he h; rfl
theorem own_lat_ne {c d b e : Int32} {l1 h1 l2 h2 : Int} (hb : c.toInt8.toInt32 = b) (he : d.toInt8.toInt32 = e) (rc : l1 ≤ c.toInt ∧ c.toInt ≤ h1) (rd : l2 ≤ d.toInt ∧ d.toInt ≤ h2) (hh : 0 ≤ l1 ∧ h1 ≤ 255 ∧ 0 ≤ l2 ∧ h2 ≤ 255) (h : ¬ c = d) : ¬ b = e := fun q => h (by
  subst hb he
  apply Int32.toInt_inj.mp
  have q' := congrArg Int32.toInt q
  have e1 := c_i2b c; have e2 := c_i2b d
  omega)
end OwnAuto

def EL0 : List (String × Nat) := [("com/example/roles_over_datacenter/rolesoverdatacenter/Page", 49), ("com/example/roles_over_datacenter/rolesoverdatacenter/Page", 60), ("java/lang/String", 7)]
theorem own_EW {Z : State} {a0 : Array Value} (hw : ∀ d ∈ tables_1, d.before a0 Z = true) : EW Z a0 EL0 := (EW.cons (tw_43 hw) (by decide) (EW.cons (tw_31 hw) (by decide) (EW.cons (tw_19 hw) (by decide) EW.nil)))
theorem own_SA {Z : State} {a0 : Array Value} (hw : ∀ d ∈ tables_1, d.before a0 Z = true) : ∀ a ∈ Bundle.stringAtoms, a.before a0 Z = true := fun a ha => hw a ((by decide +kernel : ∀ w ∈ Bundle.stringAtoms, w ∈ tables_1) a ha)
def Glob (Z : State) (gz1 : Int32) (gv5 : Value) : Prop := Sta Z Z.heap "java/lang/String" "COMPACT_STRINGS" "Z" (.int gz1) ∧ Sta Z Z.heap "jdk/internal/util/Preconditions" "SIOOBE_FORMATTER" "Ljava/util/function/BiFunction;" gv5 ∧ ¬ gz1 = (0 : Int32) ∧ gv5.isRef = true
theorem d1_0 : decode method_2_code 0 = .ok (.iload_n 0, 1) := by decide +kernel
theorem d1_1 : decode method_2_code 1 = .ok (.sipush 256, 3) := by decide +kernel
theorem d1_4 : decode method_2_code 4 = .ok (.iand, 1) := by decide +kernel
theorem d1_5 : decode method_2_code 5 = .ok (.ifCond .eq 33, 3) := by decide +kernel
theorem d1_38 : decode method_2_code 38 = .ok (.iload_n 0, 1) := by decide +kernel
theorem d1_39 : decode method_2_code 39 = .ok (.sipush 255, 3) := by decide +kernel
theorem d1_42 : decode method_2_code 42 = .ok (.iand, 1) := by decide +kernel
theorem d1_43 : decode method_2_code 43 = .ok (.i2c, 1) := by decide +kernel
theorem d1_44 : decode method_2_code 44 = .ok (.ireturn, 1) := by decide +kernel
theorem d1_8 : decode method_2_code 8 = .ok (.iload_n 0, 1) := by decide +kernel
theorem d1_9 : decode method_2_code 9 = .ok (.iconst 3, 1) := by decide +kernel
theorem d1_10 : decode method_2_code 10 = .ok (.iand, 1) := by decide +kernel
theorem d1_11 : decode method_2_code 11 = .ok (.istore_n 1, 1) := by decide +kernel
theorem d1_12 : decode method_2_code 12 = .ok (.iload_n 1, 1) := by decide +kernel
theorem d1_13 : decode method_2_code 13 = .ok (.ifCond .ne 6, 3) := by decide +kernel
theorem d1_16 : decode method_2_code 16 = .ok (.bipush 47, 2) := by decide +kernel
theorem d1_18 : decode method_2_code 18 = .ok (.ireturn, 1) := by decide +kernel
theorem d1_19 : decode method_2_code 19 = .ok (.iload_n 1, 1) := by decide +kernel
theorem d1_20 : decode method_2_code 20 = .ok (.iconst 1, 1) := by decide +kernel
theorem d1_21 : decode method_2_code 21 = .ok (.if_icmp .ne 6, 3) := by decide +kernel
theorem d1_24 : decode method_2_code 24 = .ok (.bipush 117, 2) := by decide +kernel
theorem d1_26 : decode method_2_code 26 = .ok (.ireturn, 1) := by decide +kernel
theorem d1_27 : decode method_2_code 27 = .ok (.iload_n 1, 1) := by decide +kernel
theorem d1_28 : decode method_2_code 28 = .ok (.iconst 2, 1) := by decide +kernel
theorem d1_29 : decode method_2_code 29 = .ok (.if_icmp .ne 6, 3) := by decide +kernel
theorem d1_32 : decode method_2_code 32 = .ok (.bipush 105, 2) := by decide +kernel
theorem d1_34 : decode method_2_code 34 = .ok (.ireturn, 1) := by decide +kernel
theorem d1_35 : decode method_2_code 35 = .ok (.bipush 85, 2) := by decide +kernel
theorem d1_37 : decode method_2_code 37 = .ok (.ireturn, 1) := by decide +kernel
theorem ef_1_I (m : MethodId) (x0 : Int32) : entryFrame m #[(.int x0)] 2 = mkF m 0 #[.val (.int x0), .unset] [] := by first | (simp [entryFrame, mkF, argsToLocals, Value.category]; done) | rfl
theorem pn_c0 : plainName "com/example/roles_over_datacenter/rolesoverdatacenter/PageRedirectsPinLaw" = true := by first | (simp [plainName, overriddenIn]; done) | decide +kernel
-- com/example/roles_over_datacenter/rolesoverdatacenter/PageRedirectsPinLaw.draw
set_option maxRecDepth 65536 in
set_option maxHeartbeats 4000000 in
theorem au_1 (l : Launch) (Z : State) (a0 : Array Value) (hw : ∀ d ∈ tables_1, d.before a0 Z = true) (p0 : Int32) (h0 : Heap) (n0 : Nat) (Z0 : n0 ≤ h0.size) :
    Ctr l Z (⟨"com/example/roles_over_datacenter/rolesoverdatacenter/PageRedirectsPinLaw", "draw", "(I)C"⟩ : MethodName) method_2_code 2 (some .char) ({ frames := 0, cells := 0, slots := 0, locals := 0 } : Room) #[(.int p0)] h0 (fun v h L => ∃ cz : Int32, (0 ≤ cz.toInt ∧ cz.toInt ≤ 255) ∧ v = some (.int cz) ∧ Fr n0 L ∧ h = h0) := by
  refine Ctr.of (plainFor_of_name pn_c0) ?_
  intro p e s m below meth c T0 hx hZ hby hml hown hnm hret hlk e0 es X0
  refine Go.cast (ef_1_I m p0) ?_
  generalize hFF : EndN s _ _ _ = FF
  refine Go.iloadN X0 hx (pc' := 1) rfl (hb hby d1_0) rfl ?_
  refine Go.sipush X0 hx (pc' := 4) rfl (hb hby d1_1) (v := (256 : Int32)) (by decide) ?_
  refine Go.iand X0 hx (pc' := 5) rfl (hb hby d1_4) ?_
  generalize hz1 : (p0 &&& (256 : Int32)) = z1
  have r2 : 0 ≤ z1.toInt ∧ z1.toInt ≤ 256 := own_rand hz1 (by decide)
  by_cases hc3 : z1 = (0 : Int32)
  · refine Go.ifYes X0 hx (pc' := 38) (hb hby d1_5) (teq hc3).1 (by decide) (by decide) ?_
    refine Go.iloadN X0 hx (pc' := 39) rfl (hb hby d1_38) rfl ?_
    refine Go.sipush X0 hx (pc' := 42) rfl (hb hby d1_39) (v := (255 : Int32)) (by decide) ?_
    refine Go.iand X0 hx (pc' := 43) rfl (hb hby d1_42) ?_
    generalize hz4 : (p0 &&& (255 : Int32)) = z4
    refine Go.i2c X0 hx (pc' := 44) rfl (hb hby d1_43) ?_
    have r5 : 0 ≤ z4.toInt ∧ z4.toInt ≤ 255 := own_rand hz4 (by decide)
    rw [show (z4.toUInt32.toUInt16.toUInt32.toInt32) = z4 from (own_i2c_id r5 (by decide) (by decide))]
    subst hFF
    refine Go.retN X0 hx hlk (t := .char) hret (by simp) (hb hby d1_44) (by decide) (by decide) ?_
    rw [e0]
    exact ⟨z4, (own_rw r5 (by decide) (by decide)), (congrArg (fun z => some (Value.int z)) (own_nar_char r5 (by decide) (by decide))), (Fr.nil n0), rfl⟩
  · refine Go.ifNo X0 hx (pc' := 8) rfl (hb hby d1_5) (feq hc3).1 ?_
    refine Go.iloadN X0 hx (pc' := 9) rfl (hb hby d1_8) rfl ?_
    refine Go.iconst X0 hx (pc' := 10) rfl (hb hby d1_9) (v := (3 : Int32)) rfl ?_
    refine Go.iand X0 hx (pc' := 11) rfl (hb hby d1_10) ?_
    generalize hz6 : (p0 &&& (3 : Int32)) = z6
    refine Go.istoreN X0 hx (pc' := 12) rfl (hb hby d1_11) (Ls' := #[.val (.int p0), .val (.int z6)]) rfl ?_
    refine Go.iloadN X0 hx (pc' := 13) rfl (hb hby d1_12) rfl ?_
    have r7 : 0 ≤ z6.toInt ∧ z6.toInt ≤ 3 := own_rand hz6 (by decide)
    by_cases hc8 : z6 = (0 : Int32)
    · refine Go.ifNo X0 hx (pc' := 16) rfl (hb hby d1_13) (teq hc8).2 ?_
      refine Go.bipush X0 hx (pc' := 18) rfl (hb hby d1_16) (v := (47 : Int32)) (by decide) ?_
      subst hFF
      refine Go.retN X0 hx hlk (t := .char) hret (by simp) (hb hby d1_18) (by decide) (by decide) ?_
      rw [e0]
      exact ⟨(47 : Int32), (own_rw (own_rlit (n := 47) (by decide)) (by decide) (by decide)), (congrArg (fun z => some (Value.int z)) (by decide : nar .char (47 : Int32) = (47 : Int32))), (Fr.nil n0), rfl⟩
    · refine Go.ifYes X0 hx (pc' := 19) (hb hby d1_13) (feq hc8).2 (by decide) (by decide) ?_
      refine Go.iloadN X0 hx (pc' := 20) rfl (hb hby d1_19) rfl ?_
      refine Go.iconst X0 hx (pc' := 21) rfl (hb hby d1_20) (v := (1 : Int32)) rfl ?_
      by_cases hc9 : z6 = (1 : Int32)
      · refine Go.icmpNo X0 hx (pc' := 24) rfl (hb hby d1_21) (teq hc9).2 ?_
        refine Go.bipush X0 hx (pc' := 26) rfl (hb hby d1_24) (v := (117 : Int32)) (by decide) ?_
        subst hFF
        refine Go.retN X0 hx hlk (t := .char) hret (by simp) (hb hby d1_26) (by decide) (by decide) ?_
        rw [e0]
        exact ⟨(117 : Int32), (own_rw (own_rlit (n := 117) (by decide)) (by decide) (by decide)), (congrArg (fun z => some (Value.int z)) (by decide : nar .char (117 : Int32) = (117 : Int32))), (Fr.nil n0), rfl⟩
      · refine Go.icmpYes X0 hx (pc' := 27) (hb hby d1_21) (feq hc9).2 (by decide) (by decide) ?_
        refine Go.iloadN X0 hx (pc' := 28) rfl (hb hby d1_27) rfl ?_
        refine Go.iconst X0 hx (pc' := 29) rfl (hb hby d1_28) (v := (2 : Int32)) rfl ?_
        by_cases hc10 : z6 = (2 : Int32)
        · refine Go.icmpNo X0 hx (pc' := 32) rfl (hb hby d1_29) (teq hc10).2 ?_
          refine Go.bipush X0 hx (pc' := 34) rfl (hb hby d1_32) (v := (105 : Int32)) (by decide) ?_
          subst hFF
          refine Go.retN X0 hx hlk (t := .char) hret (by simp) (hb hby d1_34) (by decide) (by decide) ?_
          rw [e0]
          exact ⟨(105 : Int32), (own_rw (own_rlit (n := 105) (by decide)) (by decide) (by decide)), (congrArg (fun z => some (Value.int z)) (by decide : nar .char (105 : Int32) = (105 : Int32))), (Fr.nil n0), rfl⟩
        · refine Go.icmpYes X0 hx (pc' := 35) (hb hby d1_29) (feq hc10).2 (by decide) (by decide) ?_
          refine Go.bipush X0 hx (pc' := 37) rfl (hb hby d1_35) (v := (85 : Int32)) (by decide) ?_
          subst hFF
          refine Go.retN X0 hx hlk (t := .char) hret (by simp) (hb hby d1_37) (by decide) (by decide) ?_
          rw [e0]
          exact ⟨(85 : Int32), (own_rw (own_rlit (n := 85) (by decide)) (by decide) (by decide)), (congrArg (fun z => some (Value.int z)) (by decide : nar .char (85 : Int32) = (85 : Int32))), (Fr.nil n0), rfl⟩
theorem pd_0 : parseMethodDescriptor "(I)C" = some ⟨[.int], some .char⟩ := by decide +kernel
theorem own_cs_0_4 {z : Int32} (h : 0 ≤ z.toInt ∧ z.toInt ≤ 4) : z = (0 : Int32) ∨ z = (1 : Int32) ∨ z = (2 : Int32) ∨ z = (3 : Int32) ∨ z = (4 : Int32) := by
  have q : z.toInt = 0 ∨ z.toInt = 1 ∨ z.toInt = 2 ∨ z.toInt = 3 ∨ z.toInt = 4 := by omega
  rcases q with h | h | h | h | h <;> simp [← Int32.toInt_inj, h]
theorem d2_0 : decode jdk_42_method_3_code 0 = .ok (.aload_n 0, 1) := by decide +kernel
theorem d2_1 : decode jdk_42_method_3_code 1 = .ok (.aload_n 1, 1) := by decide +kernel
theorem d2_2 : decode jdk_42_method_3_code 2 = .ok (.iconst 0, 1) := by decide +kernel
theorem d2_3 : decode jdk_42_method_3_code 3 = .ok (.aload_n 1, 1) := by decide +kernel
theorem d2_4 : decode jdk_42_method_3_code 4 = .ok (.arraylength, 1) := by decide +kernel
theorem d2_5 : decode jdk_42_method_3_code 5 = .ok (.aconst_null, 1) := by decide +kernel
theorem d3_0 : decode jdk_42_method_149_code 0 = .ok (.aload_n 0, 1) := by decide +kernel
theorem d3_1 : decode jdk_42_method_149_code 1 = .ok (.invokespecial 1, 3) := by decide +kernel
theorem d3_4 : decode jdk_42_method_149_code 4 = .ok (.iload_n 3, 1) := by decide +kernel
theorem d3_5 : decode jdk_42_method_149_code 5 = .ok (.ifCond .ne 22, 3) := by decide +kernel
theorem d3_8 : decode jdk_42_method_149_code 8 = .ok (.aload_n 0, 1) := by decide +kernel
theorem d3_9 : decode jdk_42_method_149_code 9 = .ok (.ldc 7, 2) := by decide +kernel
theorem d3_11 : decode jdk_42_method_149_code 11 = .ok (.getfield 9, 3) := by decide +kernel
theorem d3_14 : decode jdk_42_method_149_code 14 = .ok (.putfield 9, 3) := by decide +kernel
theorem d3_17 : decode jdk_42_method_149_code 17 = .ok (.aload_n 0, 1) := by decide +kernel
theorem d3_18 : decode jdk_42_method_149_code 18 = .ok (.ldc 7, 2) := by decide +kernel
theorem d3_20 : decode jdk_42_method_149_code 20 = .ok (.getfield 15, 3) := by decide +kernel
theorem d3_23 : decode jdk_42_method_149_code 23 = .ok (.putfield 15, 3) := by decide +kernel
theorem d3_26 : decode jdk_42_method_149_code 26 = .ok (.return_, 1) := by decide +kernel
theorem ef_3_RRIIN (m : MethodId) (x0 : Addr) (x1 : Addr) (x2 : Int32) (x3 : Int32)  : entryFrame m #[(.ref x0), (.ref x1), (.int x2), (.int x3), .null] 6 = mkF m 0 #[.val (.ref x0), .val (.ref x1), .val (.int x2), .val (.int x3), .val .null, .unset] [] := by first | (simp [entryFrame, mkF, argsToLocals, Value.category]; done) | rfl
theorem pn_c1 : plainName "java/lang/String" = true := by first | (simp [plainName, overriddenIn]; done) | decide +kernel
-- java/lang/String.init
set_option maxRecDepth 65536 in
set_option maxHeartbeats 4000000 in
theorem au_4 (l : Launch) (Z : State) (a0 : Array Value) (hw : ∀ d ∈ tables_1, d.before a0 Z = true) (x0 : Addr) (x1 : Addr) (gz1 : Int32) (gv5 : Value) (h0 : Heap) (n0 : Nat) (Z0 : n0 ≤ h0.size) (G : Glob Z gz1 gv5) (P0 : Exa Z h0 x0 "java/lang/String") (P1 : Fld Z h0 x0 "java/lang/String" "coder" "B" (.int 0)) (P2 : Fld Z h0 x0 "java/lang/String" "value" "[B" .null) (g_x0 : n0 ≤ x0) :
    CtrW l Z EL0 (⟨"java/lang/String", "<init>", "([CIILjava/lang/Void;)V"⟩ : MethodName) jdk_42_method_149_code 6 none ({ frames := 1, cells := 4, slots := 8, locals := 12 } : Room) #[(.ref x0), (.ref x1), (.int 0), (.int 0), .null] h0 [x0] (fun v vm h L => ∃ (b2 : Addr) (k2 : ClassId), v = none ∧ Fr n0 L ∧ Keep h0 h [x0] ∧ Exa Z h x0 "java/lang/String" ∧ Fld Z h x0 "java/lang/String" "coder" "B" (.int 0) ∧ Fld Z h x0 "java/lang/String" "value" "[B" (.ref b2) ∧ Arv Z h b2 k2 .byte (0 : Int32) [] (.int (0 : Int32))) := by
  refine CtrW.of (plainFor_of_name pn_c1) ?_
  intro p e s m below meth c T0 hx hZ hby hml hown hnm hret hlk e0 es hS0 C0 hsf X0
  have G' := G
  obtain ⟨-, -, G2, -⟩ := G'
  refine Go.cast (ef_3_RRIIN m x0 x1 (0 : Int32) (0 : Int32)) ?_
  generalize hFF : EndW Z EL0 s _ _ _ = FF
  refine Go.aloadN X0 hx (pc' := 1) rfl (hb hby d3_0) rfl rfl ?_
  refine Go.initO X0 hx hZ hown (tw_16 hw) (tw_17 hw) (tw_18 hw) e0 (by decide) (W := 0) (by rw [hml]; rfl) (Nat.le_of_eq rfl) (by decide) (pc' := 4) rfl (hb hby d3_1) ?_
  intro T1 e1 X1
  refine Go.iloadN X1 hx (pc' := 5) rfl (hb hby d3_4) rfl ?_
  refine Go.ifNo X1 hx (pc' := 8) rfl (hb hby d3_5) (by decide) ?_
  refine Go.aloadN X1 hx (pc' := 9) rfl (hb hby d3_8) rfl rfl ?_
  refine Go.ldcCH X1 hx hZ hown (tw_19 hw) (own_SA hw) e1 hS0 (Nat.le_refl _) (own_EW hw) (List.mem_of_getElem? (i := 2) rfl) C0.1 (vs := []) (z := (0 : Int32)) (by decide) (by decide) rfl (n := 0) (by decide) (by decide) (by decide) (by decide) (pc' := 11) rfl (hb hby d3_9) ?_
  intro a2 T2 h2 j2 b2 k2 e2 E2 S2 i2 Z2 O2 A2 F2 G2 V2 C2 D2 X2
  refine Go.getF X2 hx Z2 O2 (host := "") (Or.inl (tw_25 hw)) Via.refl e2 G2 (pc' := 14) rfl (hb hby d3_11) ?_
  intro T3 e3 X3
  have fk4 : Fld Z h2 x0 "java/lang/String" "value" "[B" .null := (P2.ext E2)
  have fk5 : Exa Z h2 x0 "java/lang/String" := (P0.ext E2)
  refine Go.putF X3 hx Z2 O2 (host := "") (Or.inl (tw_25 hw)) Via.refl e3 fk4 fk5 (Or.inr ⟨(tw_21 hw), rfl, hnm⟩) (tw_7 hw) (ty := (.array .byte)) (by decide) rfl rfl (pc' := 17) rfl (hb hby d3_14) ?_
  intro T6 h6 e6 W6 F6 X6
  have N6 := Fr.snoc X6 (Fr.nil n0) g_x0
  refine Go.aloadN X6 hx (pc' := 18) rfl (hb hby d3_17) rfl rfl ?_
  have C7 : CHr Z EL0 s.vm s.heap T2.vm h2 := (C0.trans C2)
  have fk8 : Safe Z EL0 T2.vm h2 x0 := (C2.safe P0.lt (hsf _ (List.mem_of_getElem? (i := 0) rfl)))
  have C9 : CHr Z EL0 s.vm s.heap T2.vm h6 := (C7.trans (CHr.wr W6 fk8 C7.1))
  have hk10 := (Nat.le_trans i2 (Keep.of_wr W6).1)
  refine Go.ldcCH X6 hx Z2 O2 (tw_19 hw) (own_SA hw) e6 S2 hk10 (own_EW hw) (List.mem_of_getElem? (i := 2) rfl) C9.1 (vs := []) (z := (0 : Int32)) (by decide) (by decide) rfl (n := 0) (by decide) (by decide) (by decide) (by decide) (pc' := 20) rfl (hb hby d3_18) ?_
  intro a11 T11 h11 j11 b11 k11 e11 E11 S11 i11 Z11 O11 A11 F11 G11 V11 C11 D11 X11
  refine Go.getF X11 hx Z11 O11 (host := "") (Or.inl (tw_26 hw)) Via.refl e11 F11 (pc' := 23) rfl (hb hby d3_20) ?_
  intro T12 e12 X12
  have fk13 : Fld Z h11 x0 "java/lang/String" "coder" "B" (.int 0) := (((P1.ext E2).other W6 (Or.inr (slot_ne (Or.inr (tw_22 hw)) (Or.inr (tw_21 hw)) (by decide) (t := .byte) (t' := (.array .byte)) (by decide) (by decide)))).ext E11)
  have fk14 : Exa Z h11 x0 "java/lang/String" := ((fk5.wr W6).ext E11)
  refine Go.putFN X12 hx Z11 O11 (tw_26 hw) Via.refl e12 fk13 fk14 (Or.inr ⟨(tw_22 hw), rfl, hnm⟩) (tw_7 hw) (ty := .byte) (v' := (.int 0)) (by decide) (by decide) (by decide) (pc' := 26) rfl (hb hby d3_23) ?_
  intro T15 h15 e15 W15 F15 X15
  have N15 := Fr.snoc X15 N6 g_x0
  subst hFF
  have C16 : CHr Z EL0 s.vm s.heap T11.vm h11 := (C9.trans C11)
  have fk17 : Safe Z EL0 T2.vm h6 x0 := (Safe.wr W6 fk8 C7.1 fk8)
  have fk18 : Exa Z h6 x0 "java/lang/String" := (fk5.wr W6)
  have fk19 : Safe Z EL0 T11.vm h11 x0 := (C11.safe fk18.lt fk17)
  have C20 : CHr Z EL0 s.vm s.heap T11.vm h15 := (C16.trans (CHr.wr W15 fk19 C16.1))
  have hk21 := (Nat.le_trans i11 (Keep.of_wr W15).1)
  refine Go.ret0W X15 hx hlk Z11 (own_EW hw) e15 S11 hk21 C20 hret (hb hby d3_26) (by decide) (by decide) (fun hat => ?_)
  have fk22 : Exa Z h15 x0 "java/lang/String" := (fk14.wr W15)
  have fk23 : Fld Z h15 x0 "java/lang/String" "value" "[B" (.ref b2) := ((F6.ext E11).other W15 (Or.inr (slot_ne (Or.inr (tw_21 hw)) (Or.inr (tw_22 hw)) (by decide) (t := (.array .byte)) (t' := .byte) (by decide) (by decide))))
  have fk24 := (((V2.other W6 (Ne.symm (D2 x0 fk8).2)).ext E11).other W15 (Ne.symm (D2 x0 fk8).2))
  have Kp25 : Keep h0 h2 [x0] := ((Keep.refl h0 [x0]).ext E2)
  have Kp26 : Keep h0 h6 [x0] := (Kp25.wr W6 (Or.inl (List.mem_of_getElem? (i := 0) rfl)))
  have Kp27 : Keep h0 h11 [x0] := (Kp26.ext E11)
  have Kp28 : Keep h0 h15 [x0] := (Kp27.wr W15 (Or.inl (List.mem_of_getElem? (i := 0) rfl)))
  exact ⟨b2, k2, rfl, N15, Kp28, fk22, F15, fk23, fk24⟩
theorem pd_1 : parseMethodDescriptor "([CIILjava/lang/Void;)V" = some ⟨[(.array .char), .int, .int, (.object "java/lang/Void")], none⟩ := by decide +kernel
theorem d2_6 : decode jdk_42_method_3_code 6 = .ok (.invokespecial 27, 3) := by decide +kernel
theorem d2_9 : decode jdk_42_method_3_code 9 = .ok (.return_, 1) := by decide +kernel
theorem ef_2_RR (m : MethodId) (x0 : Addr) (x1 : Addr) : entryFrame m #[(.ref x0), (.ref x1)] 2 = mkF m 0 #[.val (.ref x0), .val (.ref x1)] [] := by first | (simp [entryFrame, mkF, argsToLocals, Value.category]; done) | rfl
-- java/lang/String.init
set_option maxRecDepth 65536 in
set_option maxHeartbeats 4000000 in
theorem au_5 (l : Launch) (Z : State) (a0 : Array Value) (hw : ∀ d ∈ tables_1, d.before a0 Z = true) (x0 : Addr) (x1 : Addr) (kk0 : ClassId) (gz1 : Int32) (gv5 : Value) (h0 : Heap) (n0 : Nat) (Z0 : n0 ≤ h0.size) (G : Glob Z gz1 gv5) (P0 : Exa Z h0 x0 "java/lang/String") (P1 : Fld Z h0 x0 "java/lang/String" "coder" "B" (.int 0)) (P2 : Fld Z h0 x0 "java/lang/String" "value" "[B" .null) (P3 : Arv Z h0 x1 kk0 .char (0 : Int32) [] (.int 0)) (g_x0 : n0 ≤ x0) :
    CtrW l Z EL0 (⟨"java/lang/String", "<init>", "([C)V"⟩ : MethodName) jdk_42_method_3_code 2 none ({ frames := 2, cells := 4, slots := 8, locals := 29 } : Room) #[(.ref x0), (.ref x1)] h0 [x0] (fun v vm h L => ∃ (b1_0 : Addr) (k1_0 : ClassId), v = none ∧ Fr n0 L ∧ Keep h0 h [x0] ∧ Exa Z h x0 "java/lang/String" ∧ Fld Z h x0 "java/lang/String" "coder" "B" (.int 0) ∧ Fld Z h x0 "java/lang/String" "value" "[B" (.ref b1_0) ∧ Arv Z h b1_0 k1_0 .byte (0 : Int32) [] (.int (0 : Int32))) := by
  refine CtrW.of (plainFor_of_name pn_c1) ?_
  intro p e s m below meth c T0 hx hZ hby hml hown hnm hret hlk e0 es hS0 C0 hsf X0
  refine Go.cast (ef_2_RR m x0 x1) ?_
  generalize hFF : EndW Z EL0 s _ _ _ = FF
  refine Go.aloadN X0 hx (pc' := 1) rfl (hb hby d2_0) rfl rfl ?_
  refine Go.aloadN X0 hx (pc' := 2) rfl (hb hby d2_1) rfl rfl ?_
  refine Go.iconst X0 hx (pc' := 3) rfl (hb hby d2_2) (v := (0 : Int32)) rfl ?_
  refine Go.aloadN X0 hx (pc' := 4) rfl (hb hby d2_3) rfl rfl ?_
  refine Go.arraylength X0 hx hZ e0 P3 (pc' := 5) rfl (hb hby d2_4) ?_
  refine Go.anull X0 hx (pc' := 6) rfl (hb hby d2_5) ?_
  refine Go.callNW X0 hx hZ hown rfl (tw_12 hw) (tw_13 hw) (tw_15 hw) (by decide) (tw_15 hw) (tw_8 hw) (au_4 l Z a0 hw x0 x1 gz1 gv5 h0 n0 Z0 G P0 P1 P2 g_x0) (own_EW hw) C0.1 (allS ⟨P0.lt, (hsf _ (List.mem_of_getElem? (i := 0) rfl))⟩ all0) hS0 (Nat.le_refl _) e0 (a := x0) (argsL := [(.ref x1), (.int 0), (.int 0), .null]) (rest := []) (pc' := 9) rfl (by rw [hml]; rfl) (lenOf pd_1 rfl) rfl rfl (W := 0) (Nat.le_of_eq rfl) (by decide) (by decide) (by decide) (by decide) (hb hby d2_6) ?_
  intro v1 T1 L1 h1 e1 q1 C1 S1 Z1 O1 X1
  obtain ⟨b1_0, k1_0, rfl, N1, K1, F1_0, F1_1, F1_2, F1_3⟩ := q1
  show Go _ _ _ _ (T1.setTop (mkF m 9 #[.val (.ref x0), .val (.ref x1)] []))
  subst hFF
  have C2 : CHr Z EL0 s.vm s.heap T1.vm h1 := (C0.trans C1)
  refine Go.ret0W X1 hx hlk Z1 (own_EW hw) e1 S1 (Nat.le_refl _) C2 hret (hb hby d2_9) (by decide) (by decide) (fun hat => ?_)
  have Kp3 : Keep h0 h1 [x0] := ((Keep.refl h0 [x0]).trans K1 (allS (Or.inl (List.mem_of_getElem? (i := 0) rfl)) all0))
  exact ⟨b1_0, k1_0, rfl, (Fr.app (Fr.nil n0) N1), Kp3, F1_0, F1_1, F1_2, F1_3⟩
theorem pd_2 : parseMethodDescriptor "([C)V" = some ⟨[(.array .char)], none⟩ := by decide +kernel
theorem d5_0 : decode prog_11_method_4_code 0 = .ok (.aload_n 0, 1) := by decide +kernel
theorem d5_1 : decode prog_11_method_4_code 1 = .ok (.ldc 60, 2) := by decide +kernel
theorem d6_0 : decode jdk_42_method_66_code 0 = .ok (.aload_n 0, 1) := by decide +kernel
theorem d6_1 : decode jdk_42_method_66_code 1 = .ok (.aload_n 1, 1) := by decide +kernel
theorem d6_2 : decode jdk_42_method_66_code 2 = .ok (.if_acmp .ne 5, 3) := by decide +kernel
theorem d6_7 : decode jdk_42_method_66_code 7 = .ok (.aload_n 1, 1) := by decide +kernel
theorem d6_8 : decode jdk_42_method_66_code 8 = .ok (.instanceof 10, 3) := by decide +kernel
theorem d6_11 : decode jdk_42_method_66_code 11 = .ok (.ifCond .eq 43, 3) := by decide +kernel
theorem d6_14 : decode jdk_42_method_66_code 14 = .ok (.aload_n 1, 1) := by decide +kernel
theorem d6_15 : decode jdk_42_method_66_code 15 = .ok (.checkcast 10, 3) := by decide +kernel
theorem d6_18 : decode jdk_42_method_66_code 18 = .ok (.astore_n 2, 1) := by decide +kernel
theorem d6_19 : decode jdk_42_method_66_code 19 = .ok (.getstatic 38, 3) := by decide +kernel
theorem d6_22 : decode jdk_42_method_66_code 22 = .ok (.ifCond .eq 14, 3) := by decide +kernel
theorem d6_25 : decode jdk_42_method_66_code 25 = .ok (.aload_n 0, 1) := by decide +kernel
theorem d6_26 : decode jdk_42_method_66_code 26 = .ok (.getfield 15, 3) := by decide +kernel
theorem d6_29 : decode jdk_42_method_66_code 29 = .ok (.aload_n 2, 1) := by decide +kernel
theorem d6_30 : decode jdk_42_method_66_code 30 = .ok (.getfield 15, 3) := by decide +kernel
theorem d6_33 : decode jdk_42_method_66_code 33 = .ok (.if_icmp .ne 21, 3) := by decide +kernel
theorem d6_36 : decode jdk_42_method_66_code 36 = .ok (.aload_n 0, 1) := by decide +kernel
theorem d6_37 : decode jdk_42_method_66_code 37 = .ok (.getfield 9, 3) := by decide +kernel
theorem d6_40 : decode jdk_42_method_66_code 40 = .ok (.aload_n 2, 1) := by decide +kernel
theorem d6_41 : decode jdk_42_method_66_code 41 = .ok (.getfield 9, 3) := by decide +kernel
theorem d7_0 : decode jdk_43_method_13_code 0 = .ok (.aload_n 0, 1) := by decide +kernel
theorem d7_1 : decode jdk_43_method_13_code 1 = .ok (.arraylength, 1) := by decide +kernel
theorem d7_2 : decode jdk_43_method_13_code 2 = .ok (.aload_n 1, 1) := by decide +kernel
theorem d7_3 : decode jdk_43_method_13_code 3 = .ok (.arraylength, 1) := by decide +kernel
theorem d7_4 : decode jdk_43_method_13_code 4 = .ok (.if_icmp .ne 30, 3) := by decide +kernel
theorem d7_34 : decode jdk_43_method_13_code 34 = .ok (.iconst 0, 1) := by decide +kernel
theorem d7_35 : decode jdk_43_method_13_code 35 = .ok (.ireturn, 1) := by decide +kernel
theorem ef_7_RR (m : MethodId) (x0 : Addr) (x1 : Addr) : entryFrame m #[(.ref x0), (.ref x1)] 3 = mkF m 0 #[.val (.ref x0), .val (.ref x1), .unset] [] := by first | (simp [entryFrame, mkF, argsToLocals, Value.category]; done) | rfl
theorem pn_c2 : plainName "java/lang/StringLatin1" = true := by first | (simp [plainName, overriddenIn]; done) | decide +kernel
-- java/lang/StringLatin1.equals
set_option maxRecDepth 65536 in
set_option maxHeartbeats 4000000 in
theorem au_9 (l : Launch) (Z : State) (a0 : Array Value) (hw : ∀ d ∈ tables_1, d.before a0 Z = true) (x0 : Addr) (x1 : Addr) (kk0 : ClassId) (kk1 : ClassId) (h0 : Heap) (n0 : Nat) (Z0 : n0 ≤ h0.size) (P0 : Arv Z h0 x0 kk0 .byte (0 : Int32) [] (.int (0 : Int32))) (P1 : Arv Z h0 x1 kk1 .byte (1 : Int32) [(.int 47)] (.int (0 : Int32))) :
    Ctr l Z (⟨"java/lang/StringLatin1", "equals", "([B[B)Z"⟩ : MethodName) jdk_43_method_13_code 3 (some .boolean) ({ frames := 0, cells := 0, slots := 0, locals := 0 } : Room) #[(.ref x0), (.ref x1)] h0 (fun v h L => v = some (.int 0) ∧ Fr n0 L ∧ h = h0) := by
  refine Ctr.of (plainFor_of_name pn_c2) ?_
  intro p e s m below meth c T0 hx hZ hby hml hown hnm hret hlk e0 es X0
  refine Go.cast (ef_7_RR m x0 x1) ?_
  generalize hFF : EndN s _ _ _ = FF
  refine Go.aloadN X0 hx (pc' := 1) rfl (hb hby d7_0) rfl rfl ?_
  refine Go.arraylength X0 hx hZ e0 P0 (pc' := 2) rfl (hb hby d7_1) ?_
  refine Go.aloadN X0 hx (pc' := 3) rfl (hb hby d7_2) rfl rfl ?_
  refine Go.arraylength X0 hx hZ e0 P1 (pc' := 4) rfl (hb hby d7_3) ?_
  refine Go.icmpYes X0 hx (pc' := 34) (hb hby d7_4) (by decide) (by decide) (by decide) ?_
  refine Go.iconst X0 hx (pc' := 35) rfl (hb hby d7_34) (v := (0 : Int32)) rfl ?_
  subst hFF
  refine Go.retN X0 hx hlk (t := .boolean) hret (by simp) (hb hby d7_35) (by decide) (by decide) ?_
  rw [e0]
  exact ⟨(congrArg (fun z => some (Value.int z)) (by decide : nar .boolean (0 : Int32) = (0 : Int32))), (Fr.nil n0), rfl⟩
theorem pd_3 : parseMethodDescriptor "([B[B)Z" = some ⟨[(.array .byte), (.array .byte)], some .boolean⟩ := by decide +kernel
theorem d6_44 : decode jdk_42_method_66_code 44 = .ok (.invokestatic 541, 3) := by decide +kernel
theorem d6_47 : decode jdk_42_method_66_code 47 = .ok (.ifCond .eq 7, 3) := by decide +kernel
theorem d6_54 : decode jdk_42_method_66_code 54 = .ok (.iconst 0, 1) := by decide +kernel
theorem d6_55 : decode jdk_42_method_66_code 55 = .ok (.ireturn, 1) := by decide +kernel
theorem ef_6_RR (m : MethodId) (x0 : Addr) (x1 : Addr) : entryFrame m #[(.ref x0), (.ref x1)] 3 = mkF m 0 #[.val (.ref x0), .val (.ref x1), .unset] [] := by first | (simp [entryFrame, mkF, argsToLocals, Value.category]; done) | rfl
-- java/lang/String.equals
set_option maxRecDepth 65536 in
set_option maxHeartbeats 4000000 in
theorem au_8 (l : Launch) (Z : State) (a0 : Array Value) (hw : ∀ d ∈ tables_1, d.before a0 Z = true) (x0 : Addr) (x1 : Addr) (x2 : Addr) (x3 : Addr) (kk0 : ClassId) (kk1 : ClassId) (gz1 : Int32) (gv5 : Value) (h0 : Heap) (n0 : Nat) (Z0 : n0 ≤ h0.size) (O0 : Old Z n0 h0) (G : Glob Z gz1 gv5) (P1 : Fld Z h0 x0 "java/lang/String" "coder" "B" (.int 0)) (P2 : Fld Z h0 x0 "java/lang/String" "value" "[B" (.ref x2)) (P3 : Exa Z h0 x1 "java/lang/String") (P4 : Fld Z h0 x1 "java/lang/String" "coder" "B" (.int 0)) (P5 : Fld Z h0 x1 "java/lang/String" "value" "[B" (.ref x3)) (P6 : Arv Z h0 x2 kk0 .byte (0 : Int32) [] (.int (0 : Int32))) (P7 : Arv Z h0 x3 kk1 .byte (1 : Int32) [(.int 47)] (.int (0 : Int32))) (ne_x0_x1 : x0 ≠ x1) :
    Ctr l Z (⟨"java/lang/String", "equals", "(Ljava/lang/Object;)Z"⟩ : MethodName) jdk_42_method_66_code 3 (some .boolean) ({ frames := 1, cells := 0, slots := 0, locals := 14 } : Room) #[(.ref x0), (.ref x1)] h0 (fun v h L => v = some (.int 0) ∧ Fr n0 L ∧ h = h0) := by
  refine Ctr.of (plainFor_of_name pn_c1) ?_
  intro p e s m below meth c T0 hx hZ hby hml hown hnm hret hlk e0 es X0
  have G' := G
  obtain ⟨G0, -, G2, -⟩ := G'
  refine Go.cast (ef_6_RR m x0 x1) ?_
  generalize hFF : EndN s _ _ _ = FF
  refine Go.aloadN X0 hx (pc' := 1) rfl (hb hby d6_0) rfl rfl ?_
  refine Go.aloadN X0 hx (pc' := 2) rfl (hb hby d6_1) rfl rfl ?_
  refine Go.acmp X0 hx (pc' := 7) (same := false) (hb hby d6_2) rfl rfl (decide_eq_false (fun q => ne_x0_x1 (Value.ref.inj q))) (by decide) (by decide) ?_
  refine Go.aloadN X0 hx (pc' := 8) rfl (hb hby d6_7) rfl rfl ?_
  refine Go.instY X0 hx hZ hown (tw_37 hw) e0 (Ins.self P3) (pc' := 11) rfl (hb hby d6_8) ?_
  intro T1 e1 X1
  refine Go.ifNo X1 hx (pc' := 14) rfl (hb hby d6_11) (by decide) ?_
  refine Go.aloadN X1 hx (pc' := 15) rfl (hb hby d6_14) rfl rfl ?_
  refine Go.castY X1 hx hZ hown (tw_37 hw) e1 (Ins.self P3) (pc' := 18) rfl (hb hby d6_15) ?_
  intro T2 e2 X2
  refine Go.astoreN X2 hx (pc' := 19) rfl (hb hby d6_18) (Ls' := #[.val (.ref x0), .val (.ref x1), .val (.ref x1)]) rfl rfl ?_
  have fk3 : Sta Z h0 "java/lang/String" "COMPACT_STRINGS" "Z" (.int gz1) := G0.ext O0.2
  refine Go.getS X2 hx hZ hown (host := "") (Or.inl (tw_38 hw)) Via.refl e2 fk3 (pc' := 22) rfl (hb hby d6_19) ?_
  intro T4 e4 X4
  refine Go.ifNo X4 hx (pc' := 25) rfl (hb hby d6_22) (feq G2).1 ?_
  refine Go.aloadN X4 hx (pc' := 26) rfl (hb hby d6_25) rfl rfl ?_
  refine Go.getF X4 hx hZ hown (host := "") (Or.inl (tw_26 hw)) Via.refl e4 P1 (pc' := 29) rfl (hb hby d6_26) ?_
  intro T5 e5 X5
  refine Go.aloadN X5 hx (pc' := 30) rfl (hb hby d6_29) rfl rfl ?_
  refine Go.getF X5 hx hZ hown (host := "") (Or.inl (tw_26 hw)) Via.refl e5 P4 (pc' := 33) rfl (hb hby d6_30) ?_
  intro T6 e6 X6
  refine Go.icmpNo X6 hx (pc' := 36) rfl (hb hby d6_33) (by decide) ?_
  refine Go.aloadN X6 hx (pc' := 37) rfl (hb hby d6_36) rfl rfl ?_
  refine Go.getF X6 hx hZ hown (host := "") (Or.inl (tw_25 hw)) Via.refl e6 P2 (pc' := 40) rfl (hb hby d6_37) ?_
  intro T7 e7 X7
  refine Go.aloadN X7 hx (pc' := 41) rfl (hb hby d6_40) rfl rfl ?_
  refine Go.getF X7 hx hZ hown (host := "") (Or.inl (tw_25 hw)) Via.refl e7 P5 (pc' := 44) rfl (hb hby d6_41) ?_
  intro T8 e8 X8
  refine Go.callS X8 hx hZ hown (tw_39 hw) (tw_40 hw) (tw_41 hw) (tw_42 hw) (by decide) (tw_42 hw) (tw_41 hw) (au_9 l Z a0 hw x2 x3 kk0 kk1 h0 n0 Z0 P6 P7) e8 (argsL := [(.ref x2), (.ref x3)]) (rest := []) (pc' := 47) rfl (by rw [hml]; rfl) (lenOf pd_3 rfl) rfl rfl (W := 0) (Nat.le_of_eq rfl) (by decide) (by decide) (by decide) (by decide) (hb hby d6_44) ?_
  intro v9 T9 L9 q9 X9
  obtain ⟨rfl, N9, e9⟩ := q9
  show Go _ _ _ _ (T9.setTop (mkF m 47 #[.val (.ref x0), .val (.ref x1), .val (.ref x1)] [(.int 0)]))
  refine Go.ifYes X9 hx (pc' := 54) (hb hby d6_47) (by decide) (by decide) (by decide) ?_
  refine Go.iconst X9 hx (pc' := 55) rfl (hb hby d6_54) (v := (0 : Int32)) rfl ?_
  subst hFF
  refine Go.retN X9 hx hlk (t := .boolean) hret (by simp) (hb hby d6_55) (by decide) (by decide) ?_
  rw [e9]
  exact ⟨(congrArg (fun z => some (Value.int z)) (by decide : nar .boolean (0 : Int32) = (0 : Int32))), (Fr.app (Fr.nil n0) N9), rfl⟩
theorem pd_4 : parseMethodDescriptor "(Ljava/lang/Object;)Z" = some ⟨[(.object "java/lang/Object")], some .boolean⟩ := by decide +kernel
theorem d5_3 : decode prog_11_method_4_code 3 = .ok (.invokevirtual 62, 3) := by decide +kernel
theorem d5_6 : decode prog_11_method_4_code 6 = .ok (.ifCond .ne 23, 3) := by decide +kernel
theorem d5_9 : decode prog_11_method_4_code 9 = .ok (.aload_n 0, 1) := by decide +kernel
theorem d5_10 : decode prog_11_method_4_code 10 = .ok (.ldc 49, 2) := by decide +kernel
theorem d5_12 : decode prog_11_method_4_code 12 = .ok (.iconst 0, 1) := by decide +kernel
theorem d5_13 : decode prog_11_method_4_code 13 = .ok (.ldc 49, 2) := by decide +kernel
theorem d8_0 : decode jdk_42_method_54_code 0 = .ok (.aload_n 0, 1) := by decide +kernel
theorem d8_1 : decode jdk_42_method_54_code 1 = .ok (.getfield 9, 3) := by decide +kernel
theorem d8_4 : decode jdk_42_method_54_code 4 = .ok (.arraylength, 1) := by decide +kernel
theorem d8_5 : decode jdk_42_method_54_code 5 = .ok (.aload_n 0, 1) := by decide +kernel
theorem d9_0 : decode jdk_42_method_152_code 0 = .ok (.getstatic 38, 3) := by decide +kernel
theorem d9_3 : decode jdk_42_method_152_code 3 = .ok (.ifCond .eq 10, 3) := by decide +kernel
theorem d9_6 : decode jdk_42_method_152_code 6 = .ok (.aload_n 0, 1) := by decide +kernel
theorem d9_7 : decode jdk_42_method_152_code 7 = .ok (.getfield 15, 3) := by decide +kernel
theorem d9_10 : decode jdk_42_method_152_code 10 = .ok (.goto 4, 3) := by decide +kernel
theorem d9_14 : decode jdk_42_method_152_code 14 = .ok (.ireturn, 1) := by decide +kernel
theorem ef_9_R (m : MethodId) (x0 : Addr) : entryFrame m #[(.ref x0)] 1 = mkF m 0 #[.val (.ref x0)] [] := by first | (simp [entryFrame, mkF, argsToLocals, Value.category]; done) | rfl
-- java/lang/String.coder
set_option maxRecDepth 65536 in
set_option maxHeartbeats 4000000 in
theorem au_11 (l : Launch) (Z : State) (a0 : Array Value) (hw : ∀ d ∈ tables_1, d.before a0 Z = true) (x0 : Addr) (gz1 : Int32) (gv5 : Value) (h0 : Heap) (n0 : Nat) (Z0 : n0 ≤ h0.size) (O0 : Old Z n0 h0) (G : Glob Z gz1 gv5) (P1 : Fld Z h0 x0 "java/lang/String" "coder" "B" (.int 0)) :
    Ctr l Z (⟨"java/lang/String", "coder", "()B"⟩ : MethodName) jdk_42_method_152_code 1 (some .byte) ({ frames := 0, cells := 0, slots := 0, locals := 0 } : Room) #[(.ref x0)] h0 (fun v h L => v = some (.int 0) ∧ Fr n0 L ∧ h = h0) := by
  refine Ctr.of (plainFor_of_name pn_c1) ?_
  intro p e s m below meth c T0 hx hZ hby hml hown hnm hret hlk e0 es X0
  have G' := G
  obtain ⟨G0, -, G2, -⟩ := G'
  refine Go.cast (ef_9_R m x0) ?_
  generalize hFF : EndN s _ _ _ = FF
  have fk1 : Sta Z h0 "java/lang/String" "COMPACT_STRINGS" "Z" (.int gz1) := G0.ext O0.2
  refine Go.getS X0 hx hZ hown (host := "") (Or.inl (tw_38 hw)) Via.refl e0 fk1 (pc' := 3) rfl (hb hby d9_0) ?_
  intro T2 e2 X2
  refine Go.ifNo X2 hx (pc' := 6) rfl (hb hby d9_3) (feq G2).1 ?_
  refine Go.aloadN X2 hx (pc' := 7) rfl (hb hby d9_6) rfl rfl ?_
  refine Go.getF X2 hx hZ hown (host := "") (Or.inl (tw_26 hw)) Via.refl e2 P1 (pc' := 10) rfl (hb hby d9_7) ?_
  intro T3 e3 X3
  refine Go.goto X3 hx (pc' := 14) (hb hby d9_10) (by decide) (by decide) ?_
  subst hFF
  refine Go.retN X3 hx hlk (t := .byte) hret (by simp) (hb hby d9_14) (by decide) (by decide) ?_
  rw [e3]
  exact ⟨(congrArg (fun z => some (Value.int z)) (by decide : nar .byte (0 : Int32) = (0 : Int32))), (Fr.nil n0), rfl⟩
theorem pd_5 : parseMethodDescriptor "()B" = some ⟨[], some .byte⟩ := by decide +kernel
theorem d8_6 : decode jdk_42_method_54_code 6 = .ok (.invokevirtual 335, 3) := by decide +kernel
theorem d8_9 : decode jdk_42_method_54_code 9 = .ok (.ishr, 1) := by decide +kernel
theorem d8_10 : decode jdk_42_method_54_code 10 = .ok (.ireturn, 1) := by decide +kernel
theorem ef_8_R (m : MethodId) (x0 : Addr) : entryFrame m #[(.ref x0)] 1 = mkF m 0 #[.val (.ref x0)] [] := by first | (simp [entryFrame, mkF, argsToLocals, Value.category]; done) | rfl
-- java/lang/String.length
set_option maxRecDepth 65536 in
set_option maxHeartbeats 4000000 in
theorem au_10 (l : Launch) (Z : State) (a0 : Array Value) (hw : ∀ d ∈ tables_1, d.before a0 Z = true) (x0 : Addr) (x1 : Addr) (kk0 : ClassId) (gz1 : Int32) (gv5 : Value) (h0 : Heap) (n0 : Nat) (Z0 : n0 ≤ h0.size) (O0 : Old Z n0 h0) (G : Glob Z gz1 gv5) (P0 : Exa Z h0 x0 "java/lang/String") (P1 : Fld Z h0 x0 "java/lang/String" "coder" "B" (.int 0)) (P2 : Fld Z h0 x0 "java/lang/String" "value" "[B" (.ref x1)) (P3 : Arv Z h0 x1 kk0 .byte (4 : Int32) [(.int 47), (.int 117), (.int 105), (.int 47)] (.int (0 : Int32))) :
    Ctr l Z (⟨"java/lang/String", "length", "()I"⟩ : MethodName) jdk_42_method_54_code 1 (some .int) ({ frames := 1, cells := 0, slots := 0, locals := 13 } : Room) #[(.ref x0)] h0 (fun v h L => v = some (.int 4) ∧ Fr n0 L ∧ h = h0) := by
  refine Ctr.of (plainFor_of_name pn_c1) ?_
  intro p e s m below meth c T0 hx hZ hby hml hown hnm hret hlk e0 es X0
  refine Go.cast (ef_8_R m x0) ?_
  generalize hFF : EndN s _ _ _ = FF
  refine Go.aloadN X0 hx (pc' := 1) rfl (hb hby d8_0) rfl rfl ?_
  refine Go.getF X0 hx hZ hown (host := "") (Or.inl (tw_25 hw)) Via.refl e0 P2 (pc' := 4) rfl (hb hby d8_1) ?_
  intro T1 e1 X1
  refine Go.arraylength X1 hx hZ e1 P3 (pc' := 5) rfl (hb hby d8_4) ?_
  refine Go.aloadN X1 hx (pc' := 6) rfl (hb hby d8_5) rfl rfl ?_
  refine Go.callV X1 hx hZ hown (tw_49 hw) (tw_50 hw) (notFace_of_selects (args := #[]) (mvT hZ (tw_52 hw))) (tw_52 hw) (tw_51 hw) (by decide) (tw_53 hw) (tw_8 hw) (au_11 l Z a0 hw x0 gz1 gv5 h0 n0 Z0 O0 G P1) e1 P0 (argsL := []) (rest := [(.int 4)]) (pc' := 9) rfl (by rw [hml]; rfl) (lenOf pd_5 rfl) rfl rfl (W := 1) (Nat.le_of_eq rfl) (by decide) (by decide) (by decide) (by decide) (hb hby d8_6) ?_
  intro v2 T2 L2 q2 X2
  obtain ⟨rfl, N2, e2⟩ := q2
  show Go _ _ _ _ (T2.setTop (mkF m 9 #[.val (.ref x0)] [(.int 0), (.int 4)]))
  refine Go.ishr X2 hx (pc' := 10) rfl (hb hby d8_9) ?_
  rw [show ((4 : Int32) >>> ((0 : Int32) &&& 31)) = (4 : Int32) from by decide]
  subst hFF
  refine Go.retI X2 hx hlk hret (hb hby d8_10) (by decide) (by decide) ?_
  rw [e2]
  exact ⟨rfl, (Fr.app (Fr.nil n0) N2), rfl⟩
theorem pd_6 : parseMethodDescriptor "()I" = some ⟨[], some .int⟩ := by decide +kernel
theorem d5_15 : decode prog_11_method_4_code 15 = .ok (.invokevirtual 66, 3) := by decide +kernel
theorem d5_18 : decode prog_11_method_4_code 18 = .ok (.iconst 1, 1) := by decide +kernel
theorem d5_19 : decode prog_11_method_4_code 19 = .ok (.isub, 1) := by decide +kernel
theorem d10_0 : decode jdk_42_method_92_code 0 = .ok (.aload_n 0, 1) := by decide +kernel
theorem d10_1 : decode jdk_42_method_92_code 1 = .ok (.invokevirtual 505, 3) := by decide +kernel
theorem d10_4 : decode jdk_42_method_92_code 4 = .ok (.istore_n 3, 1) := by decide +kernel
theorem d10_5 : decode jdk_42_method_92_code 5 = .ok (.iload_n 1, 1) := by decide +kernel
theorem d10_6 : decode jdk_42_method_92_code 6 = .ok (.iload_n 2, 1) := by decide +kernel
theorem d10_7 : decode jdk_42_method_92_code 7 = .ok (.iload_n 3, 1) := by decide +kernel
theorem d11_0 : decode jdk_42_method_158_code 0 = .ok (.iload_n 0, 1) := by decide +kernel
theorem d11_1 : decode jdk_42_method_158_code 1 = .ok (.iload_n 1, 1) := by decide +kernel
theorem d11_2 : decode jdk_42_method_158_code 2 = .ok (.iload_n 2, 1) := by decide +kernel
theorem d11_3 : decode jdk_42_method_158_code 3 = .ok (.getstatic 1053, 3) := by decide +kernel
theorem d12_0 : decode jdk_41_method_12_code 0 = .ok (.iload_n 0, 1) := by decide +kernel
theorem d12_1 : decode jdk_41_method_12_code 1 = .ok (.ifCond .lt 13, 3) := by decide +kernel
theorem d12_4 : decode jdk_41_method_12_code 4 = .ok (.iload_n 0, 1) := by decide +kernel
theorem d12_5 : decode jdk_41_method_12_code 5 = .ok (.iload_n 1, 1) := by decide +kernel
theorem d12_6 : decode jdk_41_method_12_code 6 = .ok (.if_icmp .gt 8, 3) := by decide +kernel
theorem d12_9 : decode jdk_41_method_12_code 9 = .ok (.iload_n 1, 1) := by decide +kernel
theorem d12_10 : decode jdk_41_method_12_code 10 = .ok (.iload_n 2, 1) := by decide +kernel
theorem d12_11 : decode jdk_41_method_12_code 11 = .ok (.if_icmp .le 11, 3) := by decide +kernel
theorem d12_22 : decode jdk_41_method_12_code 22 = .ok (.iload_n 0, 1) := by decide +kernel
theorem d12_23 : decode jdk_41_method_12_code 23 = .ok (.ireturn, 1) := by decide +kernel
theorem ef_12_IIIV (m : MethodId) (x0 : Int32) (x1 : Int32) (x2 : Int32) (x3 : Value) (hx3 : x3.isRef = true) : entryFrame m #[(.int x0), (.int x1), (.int x2), x3] 4 = mkF m 0 #[.val (.int x0), .val (.int x1), .val (.int x2), .val x3] [] := by rcases ref_cases hx3 with rfl | ⟨y3, rfl⟩ <;> first | (simp [entryFrame, mkF, argsToLocals, Value.category]; done) | rfl
theorem pn_c3 : plainName "jdk/internal/util/Preconditions" = true := by first | (simp [plainName, overriddenIn]; done) | decide +kernel
-- jdk/internal/util/Preconditions.checkFromToIndex
set_option maxRecDepth 65536 in
set_option maxHeartbeats 4000000 in
theorem au_14 (l : Launch) (Z : State) (a0 : Array Value) (hw : ∀ d ∈ tables_1, d.before a0 Z = true) (gz1 : Int32) (gv5 : Value) (h0 : Heap) (n0 : Nat) (Z0 : n0 ≤ h0.size) (G : Glob Z gz1 gv5) :
    Ctr l Z (⟨"jdk/internal/util/Preconditions", "checkFromToIndex", "(IIILjava/util/function/BiFunction;)I"⟩ : MethodName) jdk_41_method_12_code 4 (some .int) ({ frames := 0, cells := 0, slots := 0, locals := 0 } : Room) #[(.int 0), (.int 3), (.int 4), gv5] h0 (fun v h L => v = some (.int 0) ∧ Fr n0 L ∧ h = h0) := by
  refine Ctr.of (plainFor_of_name pn_c3) ?_
  intro p e s m below meth c T0 hx hZ hby hml hown hnm hret hlk e0 es X0
  have G' := G
  obtain ⟨-, -, -, G3⟩ := G'
  refine Go.cast (ef_12_IIIV m (0 : Int32) (3 : Int32) (4 : Int32) gv5 G3) ?_
  generalize hFF : EndN s _ _ _ = FF
  refine Go.iloadN X0 hx (pc' := 1) rfl (hb hby d12_0) rfl ?_
  refine Go.ifNo X0 hx (pc' := 4) rfl (hb hby d12_1) (by decide) ?_
  refine Go.iloadN X0 hx (pc' := 5) rfl (hb hby d12_4) rfl ?_
  refine Go.iloadN X0 hx (pc' := 6) rfl (hb hby d12_5) rfl ?_
  refine Go.icmpNo X0 hx (pc' := 9) rfl (hb hby d12_6) (by decide) ?_
  refine Go.iloadN X0 hx (pc' := 10) rfl (hb hby d12_9) rfl ?_
  refine Go.iloadN X0 hx (pc' := 11) rfl (hb hby d12_10) rfl ?_
  refine Go.icmpYes X0 hx (pc' := 22) (hb hby d12_11) (by decide) (by decide) (by decide) ?_
  refine Go.iloadN X0 hx (pc' := 23) rfl (hb hby d12_22) rfl ?_
  subst hFF
  refine Go.retI X0 hx hlk hret (hb hby d12_23) (by decide) (by decide) ?_
  rw [e0]
  exact ⟨rfl, (Fr.nil n0), rfl⟩
theorem pd_7 : parseMethodDescriptor "(IIILjava/util/function/BiFunction;)I" = some ⟨[.int, .int, .int, (.object "java/util/function/BiFunction")], some .int⟩ := by decide +kernel
theorem d11_6 : decode jdk_42_method_158_code 6 = .ok (.invokestatic 1062, 3) := by decide +kernel
theorem d11_9 : decode jdk_42_method_158_code 9 = .ok (.pop, 1) := by decide +kernel
theorem d11_10 : decode jdk_42_method_158_code 10 = .ok (.return_, 1) := by decide +kernel
theorem ef_11_III (m : MethodId) (x0 : Int32) (x1 : Int32) (x2 : Int32) : entryFrame m #[(.int x0), (.int x1), (.int x2)] 3 = mkF m 0 #[.val (.int x0), .val (.int x1), .val (.int x2)] [] := by first | (simp [entryFrame, mkF, argsToLocals, Value.category]; done) | rfl
-- java/lang/String.checkBoundsBeginEnd
set_option maxRecDepth 65536 in
set_option maxHeartbeats 4000000 in
theorem au_13 (l : Launch) (Z : State) (a0 : Array Value) (hw : ∀ d ∈ tables_1, d.before a0 Z = true) (gz1 : Int32) (gv5 : Value) (h0 : Heap) (n0 : Nat) (Z0 : n0 ≤ h0.size) (O0 : Old Z n0 h0) (G : Glob Z gz1 gv5) :
    Ctr l Z (⟨"java/lang/String", "checkBoundsBeginEnd", "(III)V"⟩ : MethodName) jdk_42_method_158_code 3 none ({ frames := 1, cells := 0, slots := 0, locals := 15 } : Room) #[(.int 0), (.int 3), (.int 4)] h0 (fun v h L => v = none ∧ Fr n0 L ∧ h = h0) := by
  refine Ctr.of (plainFor_of_name pn_c1) ?_
  intro p e s m below meth c T0 hx hZ hby hml hown hnm hret hlk e0 es X0
  have G' := G
  obtain ⟨-, G1, -, -⟩ := G'
  refine Go.cast (ef_11_III m (0 : Int32) (3 : Int32) (4 : Int32)) ?_
  generalize hFF : EndN s _ _ _ = FF
  refine Go.iloadN X0 hx (pc' := 1) rfl (hb hby d11_0) rfl ?_
  refine Go.iloadN X0 hx (pc' := 2) rfl (hb hby d11_1) rfl ?_
  refine Go.iloadN X0 hx (pc' := 3) rfl (hb hby d11_2) rfl ?_
  have fk1 : Sta Z h0 "jdk/internal/util/Preconditions" "SIOOBE_FORMATTER" "Ljava/util/function/BiFunction;" gv5 := G1.ext O0.2
  refine Go.getS X0 hx hZ hown (host := "") (Or.inl (tw_63 hw)) Via.refl e0 fk1 (pc' := 6) rfl (hb hby d11_3) ?_
  intro T2 e2 X2
  refine Go.callS X2 hx hZ hown (tw_65 hw) (tw_66 hw) (tw_64 hw) (tw_67 hw) (by decide) (tw_67 hw) (tw_64 hw) (au_14 l Z a0 hw gz1 gv5 h0 n0 Z0 G) e2 (argsL := [(.int 0), (.int 3), (.int 4), gv5]) (rest := []) (pc' := 9) rfl (by rw [hml]; rfl) (lenOf pd_7 rfl) rfl rfl (W := 0) (Nat.le_of_eq rfl) (by decide) (by decide) (by decide) (by decide) (hb hby d11_6) ?_
  intro v3 T3 L3 q3 X3
  obtain ⟨rfl, N3, e3⟩ := q3
  show Go _ _ _ _ (T3.setTop (mkF m 9 #[.val (.int 0), .val (.int 3), .val (.int 4)] [(.int 0)]))
  refine Go.pop X3 hx (pc' := 10) rfl (hb hby d11_9) rfl ?_
  subst hFF
  refine Go.ret0 X3 hx hlk hret (hb hby d11_10) (by decide) (by decide) ?_
  rw [e3]
  exact ⟨rfl, (Fr.app (Fr.nil n0) N3), rfl⟩
theorem pd_8 : parseMethodDescriptor "(III)V" = some ⟨[.int, .int, .int], none⟩ := by decide +kernel
theorem d10_8 : decode jdk_42_method_92_code 8 = .ok (.invokestatic 521, 3) := by decide +kernel
theorem d10_11 : decode jdk_42_method_92_code 11 = .ok (.iload_n 1, 1) := by decide +kernel
theorem d10_12 : decode jdk_42_method_92_code 12 = .ok (.ifCond .ne 10, 3) := by decide +kernel
theorem d10_15 : decode jdk_42_method_92_code 15 = .ok (.iload_n 2, 1) := by decide +kernel
theorem d10_16 : decode jdk_42_method_92_code 16 = .ok (.iload_n 3, 1) := by decide +kernel
theorem d10_17 : decode jdk_42_method_92_code 17 = .ok (.if_icmp .ne 5, 3) := by decide +kernel
theorem d10_22 : decode jdk_42_method_92_code 22 = .ok (.iload_n 2, 1) := by decide +kernel
theorem d10_23 : decode jdk_42_method_92_code 23 = .ok (.iload_n 1, 1) := by decide +kernel
theorem d10_24 : decode jdk_42_method_92_code 24 = .ok (.isub, 1) := by decide +kernel
theorem d10_25 : decode jdk_42_method_92_code 25 = .ok (.istore 4, 2) := by decide +kernel
theorem d10_27 : decode jdk_42_method_92_code 27 = .ok (.aload_n 0, 1) := by decide +kernel
theorem d13_0 : decode jdk_42_method_154_code 0 = .ok (.getstatic 38, 3) := by decide +kernel
theorem d13_3 : decode jdk_42_method_154_code 3 = .ok (.ifCond .eq 14, 3) := by decide +kernel
theorem d13_6 : decode jdk_42_method_154_code 6 = .ok (.aload_n 0, 1) := by decide +kernel
theorem d13_7 : decode jdk_42_method_154_code 7 = .ok (.getfield 15, 3) := by decide +kernel
theorem d13_10 : decode jdk_42_method_154_code 10 = .ok (.ifCond .ne 7, 3) := by decide +kernel
theorem d13_13 : decode jdk_42_method_154_code 13 = .ok (.iconst 1, 1) := by decide +kernel
theorem d13_14 : decode jdk_42_method_154_code 14 = .ok (.goto 4, 3) := by decide +kernel
theorem d13_18 : decode jdk_42_method_154_code 18 = .ok (.ireturn, 1) := by decide +kernel
theorem ef_13_R (m : MethodId) (x0 : Addr) : entryFrame m #[(.ref x0)] 1 = mkF m 0 #[.val (.ref x0)] [] := by first | (simp [entryFrame, mkF, argsToLocals, Value.category]; done) | rfl
-- java/lang/String.isLatin1
set_option maxRecDepth 65536 in
set_option maxHeartbeats 4000000 in
theorem au_15 (l : Launch) (Z : State) (a0 : Array Value) (hw : ∀ d ∈ tables_1, d.before a0 Z = true) (x0 : Addr) (gz1 : Int32) (gv5 : Value) (h0 : Heap) (n0 : Nat) (Z0 : n0 ≤ h0.size) (O0 : Old Z n0 h0) (G : Glob Z gz1 gv5) (P1 : Fld Z h0 x0 "java/lang/String" "coder" "B" (.int 0)) :
    Ctr l Z (⟨"java/lang/String", "isLatin1", "()Z"⟩ : MethodName) jdk_42_method_154_code 1 (some .boolean) ({ frames := 0, cells := 0, slots := 0, locals := 0 } : Room) #[(.ref x0)] h0 (fun v h L => v = some (.int 1) ∧ Fr n0 L ∧ h = h0) := by
  refine Ctr.of (plainFor_of_name pn_c1) ?_
  intro p e s m below meth c T0 hx hZ hby hml hown hnm hret hlk e0 es X0
  have G' := G
  obtain ⟨G0, -, G2, -⟩ := G'
  refine Go.cast (ef_13_R m x0) ?_
  generalize hFF : EndN s _ _ _ = FF
  have fk1 : Sta Z h0 "java/lang/String" "COMPACT_STRINGS" "Z" (.int gz1) := G0.ext O0.2
  refine Go.getS X0 hx hZ hown (host := "") (Or.inl (tw_38 hw)) Via.refl e0 fk1 (pc' := 3) rfl (hb hby d13_0) ?_
  intro T2 e2 X2
  refine Go.ifNo X2 hx (pc' := 6) rfl (hb hby d13_3) (feq G2).1 ?_
  refine Go.aloadN X2 hx (pc' := 7) rfl (hb hby d13_6) rfl rfl ?_
  refine Go.getF X2 hx hZ hown (host := "") (Or.inl (tw_26 hw)) Via.refl e2 P1 (pc' := 10) rfl (hb hby d13_7) ?_
  intro T3 e3 X3
  refine Go.ifNo X3 hx (pc' := 13) rfl (hb hby d13_10) (by decide) ?_
  refine Go.iconst X3 hx (pc' := 14) rfl (hb hby d13_13) (v := (1 : Int32)) rfl ?_
  refine Go.goto X3 hx (pc' := 18) (hb hby d13_14) (by decide) (by decide) ?_
  subst hFF
  refine Go.retN X3 hx hlk (t := .boolean) hret (by simp) (hb hby d13_18) (by decide) (by decide) ?_
  rw [e3]
  exact ⟨(congrArg (fun z => some (Value.int z)) (by decide : nar .boolean (1 : Int32) = (1 : Int32))), (Fr.nil n0), rfl⟩
theorem pd_9 : parseMethodDescriptor "()Z" = some ⟨[], some .boolean⟩ := by decide +kernel
theorem d10_28 : decode jdk_42_method_92_code 28 = .ok (.invokevirtual 492, 3) := by decide +kernel
theorem d10_31 : decode jdk_42_method_92_code 31 = .ok (.ifCond .eq 16, 3) := by decide +kernel
theorem d10_34 : decode jdk_42_method_92_code 34 = .ok (.aload_n 0, 1) := by decide +kernel
theorem d10_35 : decode jdk_42_method_92_code 35 = .ok (.getfield 9, 3) := by decide +kernel
theorem d10_38 : decode jdk_42_method_92_code 38 = .ok (.iload_n 1, 1) := by decide +kernel
theorem d10_39 : decode jdk_42_method_92_code 39 = .ok (.iload 4, 2) := by decide +kernel
theorem d14_0 : decode jdk_43_method_47_code 0 = .ok (.iload_n 2, 1) := by decide +kernel
theorem d14_1 : decode jdk_43_method_47_code 1 = .ok (.ifCond .ne 6, 3) := by decide +kernel
theorem d14_7 : decode jdk_43_method_47_code 7 = .ok (.new 1, 3) := by decide +kernel
theorem d14_10 : decode jdk_43_method_47_code 10 = .ok (.dup, 1) := by decide +kernel
theorem d14_11 : decode jdk_43_method_47_code 11 = .ok (.aload_n 0, 1) := by decide +kernel
theorem d14_12 : decode jdk_43_method_47_code 12 = .ok (.iload_n 1, 1) := by decide +kernel
theorem d14_13 : decode jdk_43_method_47_code 13 = .ok (.iload_n 1, 1) := by decide +kernel
theorem d14_14 : decode jdk_43_method_47_code 14 = .ok (.iload_n 2, 1) := by decide +kernel
theorem d14_15 : decode jdk_43_method_47_code 15 = .ok (.iadd, 1) := by decide +kernel
theorem d15_0 : decode jdk_65_method_132_code 0 = .ok (.iload_n 1, 1) := by decide +kernel
theorem d15_1 : decode jdk_65_method_132_code 1 = .ok (.ifCond .ne 9, 3) := by decide +kernel
theorem d15_4 : decode jdk_65_method_132_code 4 = .ok (.iload_n 2, 1) := by decide +kernel
theorem d15_5 : decode jdk_65_method_132_code 5 = .ok (.aload_n 0, 1) := by decide +kernel
theorem d15_6 : decode jdk_65_method_132_code 6 = .ok (.arraylength, 1) := by decide +kernel
theorem d15_7 : decode jdk_65_method_132_code 7 = .ok (.if_icmp .eq 10, 3) := by decide +kernel
theorem d15_10 : decode jdk_65_method_132_code 10 = .ok (.aload_n 0, 1) := by decide +kernel
theorem d15_11 : decode jdk_65_method_132_code 11 = .ok (.iload_n 1, 1) := by decide +kernel
theorem d15_12 : decode jdk_65_method_132_code 12 = .ok (.iload_n 2, 1) := by decide +kernel
theorem d16_0 : decode jdk_65_method_133_code 0 = .ok (.iload_n 1, 1) := by decide +kernel
theorem d16_1 : decode jdk_65_method_133_code 1 = .ok (.iload_n 2, 1) := by decide +kernel
theorem d17_0 : decode jdk_65_method_131_code 0 = .ok (.iload_n 1, 1) := by decide +kernel
theorem d17_1 : decode jdk_65_method_131_code 1 = .ok (.iload_n 0, 1) := by decide +kernel
theorem d17_2 : decode jdk_65_method_131_code 2 = .ok (.if_icmp .ge 35, 3) := by decide +kernel
theorem d17_37 : decode jdk_65_method_131_code 37 = .ok (.return_, 1) := by decide +kernel
theorem ef_17_II (m : MethodId) (x0 : Int32) (x1 : Int32) : entryFrame m #[(.int x0), (.int x1)] 2 = mkF m 0 #[.val (.int x0), .val (.int x1)] [] := by first | (simp [entryFrame, mkF, argsToLocals, Value.category]; done) | rfl
theorem pn_c4 : plainName "java/util/Arrays" = true := by first | (simp [plainName, overriddenIn]; done) | decide +kernel
-- java/util/Arrays.checkLength
set_option maxRecDepth 65536 in
set_option maxHeartbeats 4000000 in
theorem au_19 (l : Launch) (Z : State) (a0 : Array Value) (hw : ∀ d ∈ tables_1, d.before a0 Z = true)  (h0 : Heap) (n0 : Nat) (Z0 : n0 ≤ h0.size) :
    Ctr l Z (⟨"java/util/Arrays", "checkLength", "(II)V"⟩ : MethodName) jdk_65_method_131_code 2 none ({ frames := 0, cells := 0, slots := 0, locals := 0 } : Room) #[(.int 0), (.int 3)] h0 (fun v h L => v = none ∧ Fr n0 L ∧ h = h0) := by
  refine Ctr.of (plainFor_of_name pn_c4) ?_
  intro p e s m below meth c T0 hx hZ hby hml hown hnm hret hlk e0 es X0
  refine Go.cast (ef_17_II m (0 : Int32) (3 : Int32)) ?_
  generalize hFF : EndN s _ _ _ = FF
  refine Go.iloadN X0 hx (pc' := 1) rfl (hb hby d17_0) rfl ?_
  refine Go.iloadN X0 hx (pc' := 2) rfl (hb hby d17_1) rfl ?_
  refine Go.icmpYes X0 hx (pc' := 37) (hb hby d17_2) (by decide) (by decide) (by decide) ?_
  subst hFF
  refine Go.ret0 X0 hx hlk hret (hb hby d17_37) (by decide) (by decide) ?_
  rw [e0]
  exact ⟨rfl, (Fr.nil n0), rfl⟩
theorem pd_10 : parseMethodDescriptor "(II)V" = some ⟨[.int, .int], none⟩ := by decide +kernel
theorem d16_2 : decode jdk_65_method_133_code 2 = .ok (.invokestatic 343, 3) := by decide +kernel
theorem d16_5 : decode jdk_65_method_133_code 5 = .ok (.iload_n 2, 1) := by decide +kernel
theorem d16_6 : decode jdk_65_method_133_code 6 = .ok (.iload_n 1, 1) := by decide +kernel
theorem d16_7 : decode jdk_65_method_133_code 7 = .ok (.isub, 1) := by decide +kernel
theorem d16_8 : decode jdk_65_method_133_code 8 = .ok (.istore_n 3, 1) := by decide +kernel
theorem d16_9 : decode jdk_65_method_133_code 9 = .ok (.iload_n 3, 1) := by decide +kernel
theorem d16_10 : decode jdk_65_method_133_code 10 = .ok (.newarray .byte, 2) := by decide +kernel
theorem d16_12 : decode jdk_65_method_133_code 12 = .ok (.astore 4, 2) := by decide +kernel
theorem d16_14 : decode jdk_65_method_133_code 14 = .ok (.aload_n 0, 1) := by decide +kernel
theorem d16_15 : decode jdk_65_method_133_code 15 = .ok (.iload_n 1, 1) := by decide +kernel
theorem d16_16 : decode jdk_65_method_133_code 16 = .ok (.aload 4, 2) := by decide +kernel
theorem d16_18 : decode jdk_65_method_133_code 18 = .ok (.iconst 0, 1) := by decide +kernel
theorem d16_19 : decode jdk_65_method_133_code 19 = .ok (.aload_n 0, 1) := by decide +kernel
theorem d16_20 : decode jdk_65_method_133_code 20 = .ok (.arraylength, 1) := by decide +kernel
theorem d16_21 : decode jdk_65_method_133_code 21 = .ok (.iload_n 1, 1) := by decide +kernel
theorem d16_22 : decode jdk_65_method_133_code 22 = .ok (.isub, 1) := by decide +kernel
theorem d16_23 : decode jdk_65_method_133_code 23 = .ok (.iload_n 3, 1) := by decide +kernel
theorem d18_0 : decode jdk_29_method_69_code 0 = .ok (.iload_n 0, 1) := by decide +kernel
theorem d18_1 : decode jdk_29_method_69_code 1 = .ok (.iload_n 1, 1) := by decide +kernel
theorem d18_2 : decode jdk_29_method_69_code 2 = .ok (.if_icmp .gt 7, 3) := by decide +kernel
theorem d18_9 : decode jdk_29_method_69_code 9 = .ok (.iload_n 1, 1) := by decide +kernel
theorem d18_10 : decode jdk_29_method_69_code 10 = .ok (.ireturn, 1) := by decide +kernel
theorem ef_18_II (m : MethodId) (x0 : Int32) (x1 : Int32) : entryFrame m #[(.int x0), (.int x1)] 2 = mkF m 0 #[.val (.int x0), .val (.int x1)] [] := by first | (simp [entryFrame, mkF, argsToLocals, Value.category]; done) | rfl
-- java/lang/Math.min
set_option maxRecDepth 65536 in
set_option maxHeartbeats 4000000 in
theorem au_20 (l : Launch) (Z : State) (a0 : Array Value) (hw : ∀ d ∈ tables_1, d.before a0 Z = true)  (h0 : Heap) (n0 : Nat) (Z0 : n0 ≤ h0.size) :
    Ctr l Z (⟨"java/lang/Math", "min", "(II)I"⟩ : MethodName) jdk_29_method_69_code 2 (some .int) ({ frames := 0, cells := 0, slots := 0, locals := 0 } : Room) #[(.int 4), (.int 3)] h0 (fun v h L => v = some (.int 3) ∧ Fr n0 L ∧ h = h0) := by
  refine Ctr.of (Jvm.Free.JP.mathPlain rfl (by decide +kernel)) ?_
  intro p e s m below meth c T0 hx hZ hby hml hown hnm hret hlk e0 es X0
  refine Go.cast (ef_18_II m (4 : Int32) (3 : Int32)) ?_
  generalize hFF : EndN s _ _ _ = FF
  refine Go.iloadN X0 hx (pc' := 1) rfl (hb hby d18_0) rfl ?_
  refine Go.iloadN X0 hx (pc' := 2) rfl (hb hby d18_1) rfl ?_
  refine Go.icmpYes X0 hx (pc' := 9) (hb hby d18_2) (by decide) (by decide) (by decide) ?_
  refine Go.iloadN X0 hx (pc' := 10) rfl (hb hby d18_9) rfl ?_
  subst hFF
  refine Go.retI X0 hx hlk hret (hb hby d18_10) (by decide) (by decide) ?_
  rw [e0]
  exact ⟨rfl, (Fr.nil n0), rfl⟩
theorem pd_11 : parseMethodDescriptor "(II)I" = some ⟨[.int, .int], some .int⟩ := by decide +kernel
theorem d16_24 : decode jdk_65_method_133_code 24 = .ok (.invokestatic 304, 3) := by decide +kernel
theorem d16_27 : decode jdk_65_method_133_code 27 = .ok (.invokestatic 150, 3) := by decide +kernel
theorem d16_30 : decode jdk_65_method_133_code 30 = .ok (.aload 4, 2) := by decide +kernel
theorem d16_32 : decode jdk_65_method_133_code 32 = .ok (.areturn, 1) := by decide +kernel
theorem ef_16_RII (m : MethodId) (x0 : Addr) (x1 : Int32) (x2 : Int32) : entryFrame m #[(.ref x0), (.int x1), (.int x2)] 5 = mkF m 0 #[.val (.ref x0), .val (.int x1), .val (.int x2), .unset, .unset] [] := by first | (simp [entryFrame, mkF, argsToLocals, Value.category]; done) | rfl
-- java/util/Arrays.copyOfRangeByte
set_option maxRecDepth 65536 in
set_option maxHeartbeats 4000000 in
theorem au_18 (l : Launch) (Z : State) (a0 : Array Value) (hw : ∀ d ∈ tables_1, d.before a0 Z = true) (x0 : Addr) (kk0 : ClassId) (h0 : Heap) (n0 : Nat) (Z0 : n0 ≤ h0.size) (P0 : Arv Z h0 x0 kk0 .byte (4 : Int32) [(.int 47), (.int 117), (.int 105), (.int 47)] (.int (0 : Int32))) :
    Ctr l Z (⟨"java/util/Arrays", "copyOfRangeByte", "([BII)[B"⟩ : MethodName) jdk_65_method_133_code 5 (some (.array .byte)) ({ frames := 1, cells := 1, slots := 3, locals := 18 } : Room) #[(.ref x0), (.int 0), (.int 3)] h0 (fun v h L => ∃ (b2 : Addr) (k2 : ClassId), v = some (.ref b2) ∧ Fr n0 L ∧ Keep h0 h [] ∧ h0.size ≤ b2 ∧ Arv Z h b2 k2 .byte (3 : Int32) [(.int 47), (.int 117), (.int 105)] (.int 0) ∧ Exa Z h b2 "[B") := by
  refine Ctr.of (plainFor_of_name pn_c4) ?_
  intro p e s m below meth c T0 hx hZ hby hml hown hnm hret hlk e0 es X0
  refine Go.cast (ef_16_RII m x0 (0 : Int32) (3 : Int32)) ?_
  generalize hFF : EndN s _ _ _ = FF
  refine Go.iloadN X0 hx (pc' := 1) rfl (hb hby d16_0) rfl ?_
  refine Go.iloadN X0 hx (pc' := 2) rfl (hb hby d16_1) rfl ?_
  refine Go.callS X0 hx hZ hown (tw_84 hw) (tw_85 hw) (tw_79 hw) (tw_86 hw) (by decide) (tw_86 hw) (tw_79 hw) (au_19 l Z a0 hw h0 n0 Z0) e0 (argsL := [(.int 0), (.int 3)]) (rest := []) (pc' := 5) rfl (by rw [hml]; rfl) (lenOf pd_10 rfl) rfl rfl (W := 0) (Nat.le_of_eq rfl) (by decide) (by decide) (by decide) (by decide) (hb hby d16_2) ?_
  intro v1 T1 L1 q1 X1
  obtain ⟨rfl, N1, e1⟩ := q1
  show Go _ _ _ _ (T1.setTop (mkF m 5 #[.val (.ref x0), .val (.int 0), .val (.int 3), .unset, .unset] []))
  refine Go.iloadN X1 hx (pc' := 6) rfl (hb hby d16_5) rfl ?_
  refine Go.iloadN X1 hx (pc' := 7) rfl (hb hby d16_6) rfl ?_
  refine Go.isub X1 hx (pc' := 8) rfl (hb hby d16_7) ?_
  rw [show ((3 : Int32) - (0 : Int32)) = (3 : Int32) from by decide]
  refine Go.istoreN X1 hx (pc' := 9) rfl (hb hby d16_8) (Ls' := #[.val (.ref x0), .val (.int 0), .val (.int 3), .val (.int 3), .unset]) rfl ?_
  refine Go.iloadN X1 hx (pc' := 10) rfl (hb hby d16_9) rfl ?_
  refine Go.newarray X1 hx hZ (ty := .byte) rfl (tw_20 hw) e1 (by decide) (cap := 3) (by decide) (by decide) (by decide) (by decide) (ad := "[B") (by decide) 3 (pc' := 12) rfl (hb hby d16_10) ?_
  intro T2 h2 b2 k2 e2 E2 g2 V2 A2 X2
  have V2' : Arv Z h2 b2 k2 .byte (3 : Int32) [(.int 0), (.int 0), (.int 0)] (.int 0) := V2
  refine Go.astore X2 hx (pc' := 14) rfl (hb hby d16_12) (Ls' := #[.val (.ref x0), .val (.int 0), .val (.int 3), .val (.int 3), .val (.ref b2)]) rfl rfl ?_
  refine Go.aloadN X2 hx (pc' := 15) rfl (hb hby d16_14) rfl rfl ?_
  refine Go.iloadN X2 hx (pc' := 16) rfl (hb hby d16_15) rfl ?_
  refine Go.aload X2 hx (pc' := 18) rfl (hb hby d16_16) rfl rfl ?_
  refine Go.iconst X2 hx (pc' := 19) rfl (hb hby d16_18) (v := (0 : Int32)) rfl ?_
  refine Go.aloadN X2 hx (pc' := 20) rfl (hb hby d16_19) rfl rfl ?_
  have fk3 := (P0.ext E2)
  refine Go.arraylength X2 hx hZ e2 fk3 (pc' := 21) rfl (hb hby d16_20) ?_
  refine Go.iloadN X2 hx (pc' := 22) rfl (hb hby d16_21) rfl ?_
  refine Go.isub X2 hx (pc' := 23) rfl (hb hby d16_22) ?_
  rw [show ((4 : Int32) - (0 : Int32)) = (4 : Int32) from by decide]
  refine Go.iloadN X2 hx (pc' := 24) rfl (hb hby d16_23) rfl ?_
  have Kp5 : Keep h0 h2 [] := ((Keep.refl h0 []).ext E2)
  have Zn4 : n0 ≤ h2.size := Nat.le_trans Z0 Kp5.1
  refine Go.callS X2 hx hZ hown (tw_87 hw) (tw_88 hw) (tw_89 hw) (tw_90 hw) (by decide) (tw_90 hw) (tw_89 hw) (au_20 l Z a0 hw h2 n0 Zn4) e2 (argsL := [(.int 4), (.int 3)]) (rest := [(.int 0), (.ref b2), (.int 0), (.ref x0)]) (pc' := 27) rfl (by rw [hml]; rfl) (lenOf pd_11 rfl) rfl rfl (W := 4) (Nat.le_of_eq rfl) (by decide) (by decide) (by decide) (by decide) (hb hby d16_24) ?_
  intro v6 T6 L6 q6 X6
  obtain ⟨rfl, N6, e6⟩ := q6
  show Go _ _ _ _ (T6.setTop (mkF m 27 #[.val (.ref x0), .val (.int 0), .val (.int 3), .val (.int 3), .val (.ref b2)] [(.int 3), (.int 0), (.ref b2), (.int 0), (.ref x0)]))
  have sz8 : h0.size ≤ b2 := Nat.le_trans (Keep.refl h0 []).1 (Nat.le_of_eq g2.symm)
  have ge7 : n0 ≤ b2 := Nat.le_trans Z0 sz8
  refine Go.arraycopy X6 hx hZ hown (tw_91 hw) (tw_94 hw) (tw_92 hw) (tw_93 hw) e6 fk3 V2' rfl (sp := (0 : Int32)) (dp := (0 : Int32)) (nn := (3 : Int32)) (us := [(.int 47), (.int 117), (.int 105)]) (by decide) (by decide) (by decide) (by decide) (by decide) rfl (Nat.le_of_ble_eq_true rfl) (Fr.app (Fr.app (Fr.nil n0) N1) N6) ge7 (by decide) (W := 0) (by rw [hml]; rfl) (Nat.le_of_eq rfl) (by decide) (pc' := 30) rfl (hb hby d16_27) ?_
  intro T9 h9 L9 e9 N9 K9 V9 X9
  have V9' : Arv Z h9 b2 k2 .byte (3 : Int32) [(.int 47), (.int 117), (.int 105)] (.int 0) := V9
  refine Go.aload X9 hx (pc' := 32) rfl (hb hby d16_30) rfl rfl ?_
  subst hFF
  refine Go.retR X9 hx hlk (t := (.array .byte)) hret rfl rfl (hb hby d16_32) (by decide) (by decide) ?_
  rw [e9]
  have fk10 : Exa Z h9 b2 "[B" := (A2.keep K9)
  have Kp11 : Keep h0 h9 [] := (Kp5.trans K9 (allS (Or.inr sz8) all0))
  exact ⟨b2, k2, rfl, N9, Kp11, sz8, V9', fk10⟩
theorem pd_12 : parseMethodDescriptor "([BII)[B" = some ⟨[(.array .byte), .int, .int], some (.array .byte)⟩ := by decide +kernel
theorem d15_13 : decode jdk_65_method_132_code 13 = .ok (.invokestatic 339, 3) := by decide +kernel
theorem d15_16 : decode jdk_65_method_132_code 16 = .ok (.areturn, 1) := by decide +kernel
theorem ef_15_RII (m : MethodId) (x0 : Addr) (x1 : Int32) (x2 : Int32) : entryFrame m #[(.ref x0), (.int x1), (.int x2)] 3 = mkF m 0 #[.val (.ref x0), .val (.int x1), .val (.int x2)] [] := by first | (simp [entryFrame, mkF, argsToLocals, Value.category]; done) | rfl
-- java/util/Arrays.copyOfRange
set_option maxRecDepth 65536 in
set_option maxHeartbeats 4000000 in
theorem au_17 (l : Launch) (Z : State) (a0 : Array Value) (hw : ∀ d ∈ tables_1, d.before a0 Z = true) (x0 : Addr) (kk0 : ClassId) (h0 : Heap) (n0 : Nat) (Z0 : n0 ≤ h0.size) (P0 : Arv Z h0 x0 kk0 .byte (4 : Int32) [(.int 47), (.int 117), (.int 105), (.int 47)] (.int (0 : Int32))) :
    Ctr l Z (⟨"java/util/Arrays", "copyOfRange", "([BII)[B"⟩ : MethodName) jdk_65_method_132_code 3 (some (.array .byte)) ({ frames := 2, cells := 1, slots := 3, locals := 34 } : Room) #[(.ref x0), (.int 0), (.int 3)] h0 (fun v h L => ∃ (b1_0 : Addr) (k1_0 : ClassId), v = some (.ref b1_0) ∧ Fr n0 L ∧ Keep h0 h [] ∧ h0.size ≤ b1_0 ∧ Arv Z h b1_0 k1_0 .byte (3 : Int32) [(.int 47), (.int 117), (.int 105)] (.int 0) ∧ Exa Z h b1_0 "[B") := by
  refine Ctr.of (plainFor_of_name pn_c4) ?_
  intro p e s m below meth c T0 hx hZ hby hml hown hnm hret hlk e0 es X0
  refine Go.cast (ef_15_RII m x0 (0 : Int32) (3 : Int32)) ?_
  generalize hFF : EndN s _ _ _ = FF
  refine Go.iloadN X0 hx (pc' := 1) rfl (hb hby d15_0) rfl ?_
  refine Go.ifNo X0 hx (pc' := 4) rfl (hb hby d15_1) (by decide) ?_
  refine Go.iloadN X0 hx (pc' := 5) rfl (hb hby d15_4) rfl ?_
  refine Go.aloadN X0 hx (pc' := 6) rfl (hb hby d15_5) rfl rfl ?_
  refine Go.arraylength X0 hx hZ e0 P0 (pc' := 7) rfl (hb hby d15_6) ?_
  refine Go.icmpNo X0 hx (pc' := 10) rfl (hb hby d15_7) (by decide) ?_
  refine Go.aloadN X0 hx (pc' := 11) rfl (hb hby d15_10) rfl rfl ?_
  refine Go.iloadN X0 hx (pc' := 12) rfl (hb hby d15_11) rfl ?_
  refine Go.iloadN X0 hx (pc' := 13) rfl (hb hby d15_12) rfl ?_
  refine Go.callS X0 hx hZ hown (tw_81 hw) (tw_82 hw) (tw_79 hw) (tw_83 hw) (by decide) (tw_83 hw) (tw_79 hw) (au_18 l Z a0 hw x0 kk0 h0 n0 Z0 P0) e0 (argsL := [(.ref x0), (.int 0), (.int 3)]) (rest := []) (pc' := 16) rfl (by rw [hml]; rfl) (lenOf pd_12 rfl) rfl rfl (W := 0) (Nat.le_of_eq rfl) (by decide) (by decide) (by decide) (by decide) (hb hby d15_13) ?_
  intro v1 T1 L1 q1 X1
  obtain ⟨h1, e1⟩ : ∃ z, T1.heap = z := ⟨_, rfl⟩
  rw [e1] at q1
  obtain ⟨b1_0, k1_0, rfl, N1, K1, s1_0, F1_0, F1_1⟩ := q1
  show Go _ _ _ _ (T1.setTop (mkF m 16 #[.val (.ref x0), .val (.int 0), .val (.int 3)] [(.ref b1_0)]))
  subst hFF
  refine Go.retR X1 hx hlk (t := (.array .byte)) hret rfl rfl (hb hby d15_16) (by decide) (by decide) ?_
  rw [e1]
  have Kp2 : Keep h0 h1 [] := ((Keep.refl h0 []).trans K1 all0)
  have sz3 : h0.size ≤ b1_0 := Nat.le_trans (Keep.refl h0 []).1 s1_0
  exact ⟨b1_0, k1_0, rfl, (Fr.app (Fr.nil n0) N1), Kp2, sz3, F1_0, F1_1⟩
theorem d14_16 : decode jdk_43_method_47_code 16 = .ok (.invokestatic 232, 3) := by decide +kernel
theorem d14_19 : decode jdk_43_method_47_code 19 = .ok (.iconst 0, 1) := by decide +kernel
theorem d19_0 : decode jdk_42_method_151_code 0 = .ok (.aload_n 0, 1) := by decide +kernel
theorem d19_1 : decode jdk_42_method_151_code 1 = .ok (.invokespecial 1, 3) := by decide +kernel
theorem d19_4 : decode jdk_42_method_151_code 4 = .ok (.aload_n 0, 1) := by decide +kernel
theorem d19_5 : decode jdk_42_method_151_code 5 = .ok (.aload_n 1, 1) := by decide +kernel
theorem d19_6 : decode jdk_42_method_151_code 6 = .ok (.putfield 9, 3) := by decide +kernel
theorem d19_9 : decode jdk_42_method_151_code 9 = .ok (.aload_n 0, 1) := by decide +kernel
theorem d19_10 : decode jdk_42_method_151_code 10 = .ok (.iload_n 2, 1) := by decide +kernel
theorem d19_11 : decode jdk_42_method_151_code 11 = .ok (.putfield 15, 3) := by decide +kernel
theorem d19_14 : decode jdk_42_method_151_code 14 = .ok (.return_, 1) := by decide +kernel
theorem ef_19_RRI (m : MethodId) (x0 : Addr) (x1 : Addr) (x2 : Int32) : entryFrame m #[(.ref x0), (.ref x1), (.int x2)] 3 = mkF m 0 #[.val (.ref x0), .val (.ref x1), .val (.int x2)] [] := by first | (simp [entryFrame, mkF, argsToLocals, Value.category]; done) | rfl
-- java/lang/String.init
set_option maxRecDepth 65536 in
set_option maxHeartbeats 4000000 in
theorem au_21 (l : Launch) (Z : State) (a0 : Array Value) (hw : ∀ d ∈ tables_1, d.before a0 Z = true) (x0 : Addr) (x1 : Addr) (h0 : Heap) (n0 : Nat) (Z0 : n0 ≤ h0.size) (P0 : Exa Z h0 x0 "java/lang/String") (P1 : Fld Z h0 x0 "java/lang/String" "coder" "B" (.int 0)) (P2 : Fld Z h0 x0 "java/lang/String" "value" "[B" .null) (g_x0 : n0 ≤ x0) :
    Ctr l Z (⟨"java/lang/String", "<init>", "([BB)V"⟩ : MethodName) jdk_42_method_151_code 3 none ({ frames := 1, cells := 0, slots := 0, locals := 12 } : Room) #[(.ref x0), (.ref x1), (.int 0)] h0 (fun v h L => v = none ∧ Fr n0 L ∧ Keep h0 h [x0] ∧ Exa Z h x0 "java/lang/String" ∧ Fld Z h x0 "java/lang/String" "coder" "B" (.int 0) ∧ Fld Z h x0 "java/lang/String" "value" "[B" (.ref x1)) := by
  refine Ctr.of (plainFor_of_name pn_c1) ?_
  intro p e s m below meth c T0 hx hZ hby hml hown hnm hret hlk e0 es X0
  refine Go.cast (ef_19_RRI m x0 x1 (0 : Int32)) ?_
  generalize hFF : EndN s _ _ _ = FF
  refine Go.aloadN X0 hx (pc' := 1) rfl (hb hby d19_0) rfl rfl ?_
  refine Go.initO X0 hx hZ hown (tw_16 hw) (tw_17 hw) (tw_18 hw) e0 (by decide) (W := 0) (by rw [hml]; rfl) (Nat.le_of_eq rfl) (by decide) (pc' := 4) rfl (hb hby d19_1) ?_
  intro T1 e1 X1
  refine Go.aloadN X1 hx (pc' := 5) rfl (hb hby d19_4) rfl rfl ?_
  refine Go.aloadN X1 hx (pc' := 6) rfl (hb hby d19_5) rfl rfl ?_
  refine Go.putF X1 hx hZ hown (host := "") (Or.inl (tw_25 hw)) Via.refl e1 P2 P0 (Or.inr ⟨(tw_21 hw), rfl, hnm⟩) (tw_7 hw) (ty := (.array .byte)) (by decide) rfl rfl (pc' := 9) rfl (hb hby d19_6) ?_
  intro T2 h2 e2 W2 F2 X2
  have N2 := Fr.snoc X2 (Fr.nil n0) g_x0
  refine Go.aloadN X2 hx (pc' := 10) rfl (hb hby d19_9) rfl rfl ?_
  refine Go.iloadN X2 hx (pc' := 11) rfl (hb hby d19_10) rfl ?_
  have fk3 : Fld Z h2 x0 "java/lang/String" "coder" "B" (.int 0) := (P1.other W2 (Or.inr (slot_ne (Or.inr (tw_22 hw)) (Or.inr (tw_21 hw)) (by decide) (t := .byte) (t' := (.array .byte)) (by decide) (by decide))))
  have fk4 : Exa Z h2 x0 "java/lang/String" := (P0.wr W2)
  refine Go.putFN X2 hx hZ hown (tw_26 hw) Via.refl e2 fk3 fk4 (Or.inr ⟨(tw_22 hw), rfl, hnm⟩) (tw_7 hw) (ty := .byte) (v' := (.int 0)) (by decide) (by decide) (by decide) (pc' := 14) rfl (hb hby d19_11) ?_
  intro T5 h5 e5 W5 F5 X5
  have N5 := Fr.snoc X5 N2 g_x0
  subst hFF
  refine Go.ret0 X5 hx hlk hret (hb hby d19_14) (by decide) (by decide) ?_
  rw [e5]
  have fk6 : Exa Z h5 x0 "java/lang/String" := (fk4.wr W5)
  have fk7 : Fld Z h5 x0 "java/lang/String" "value" "[B" (.ref x1) := (F2.other W5 (Or.inr (slot_ne (Or.inr (tw_21 hw)) (Or.inr (tw_22 hw)) (by decide) (t := (.array .byte)) (t' := .byte) (by decide) (by decide))))
  have Kp8 : Keep h0 h2 [x0] := ((Keep.refl h0 [x0]).wr W2 (Or.inl (List.mem_of_getElem? (i := 0) rfl)))
  have Kp9 : Keep h0 h5 [x0] := (Kp8.wr W5 (Or.inl (List.mem_of_getElem? (i := 0) rfl)))
  exact ⟨rfl, N5, Kp9, fk6, F5, fk7⟩
theorem pd_13 : parseMethodDescriptor "([BB)V" = some ⟨[(.array .byte), .byte], none⟩ := by decide +kernel
theorem d14_20 : decode jdk_43_method_47_code 20 = .ok (.invokespecial 112, 3) := by decide +kernel
theorem d14_23 : decode jdk_43_method_47_code 23 = .ok (.areturn, 1) := by decide +kernel
theorem ef_14_RII (m : MethodId) (x0 : Addr) (x1 : Int32) (x2 : Int32) : entryFrame m #[(.ref x0), (.int x1), (.int x2)] 3 = mkF m 0 #[.val (.ref x0), .val (.int x1), .val (.int x2)] [] := by first | (simp [entryFrame, mkF, argsToLocals, Value.category]; done) | rfl
-- java/lang/StringLatin1.newString
set_option maxRecDepth 65536 in
set_option maxHeartbeats 4000000 in
theorem au_16 (l : Launch) (Z : State) (a0 : Array Value) (hw : ∀ d ∈ tables_1, d.before a0 Z = true) (x0 : Addr) (kk0 : ClassId) (h0 : Heap) (n0 : Nat) (Z0 : n0 ≤ h0.size) (P0 : Arv Z h0 x0 kk0 .byte (4 : Int32) [(.int 47), (.int 117), (.int 105), (.int 47)] (.int (0 : Int32))) :
    Ctr l Z (⟨"java/lang/StringLatin1", "newString", "([BII)Ljava/lang/String;"⟩ : MethodName) jdk_43_method_47_code 3 (some (.object "java/lang/String")) ({ frames := 3, cells := 2, slots := 7, locals := 50 } : Room) #[(.ref x0), (.int 0), (.int 3)] h0 (fun v h L => ∃ (b1 : Addr) (b5_0 : Addr) (k5_0 : ClassId), v = some (.ref b1) ∧ Fr n0 L ∧ Keep h0 h [] ∧ h0.size ≤ b1 ∧ h0.size ≤ b5_0 ∧ b5_0 ≠ b1 ∧ Exa Z h b1 "java/lang/String" ∧ Fld Z h b1 "java/lang/String" "coder" "B" (.int 0) ∧ Fld Z h b1 "java/lang/String" "value" "[B" (.ref b5_0) ∧ Arv Z h b5_0 k5_0 .byte (3 : Int32) [(.int 47), (.int 117), (.int 105)] (.int 0) ∧ Exa Z h b5_0 "[B") := by
  refine Ctr.of (plainFor_of_name pn_c2) ?_
  intro p e s m below meth c T0 hx hZ hby hml hown hnm hret hlk e0 es X0
  refine Go.cast (ef_14_RII m x0 (0 : Int32) (3 : Int32)) ?_
  generalize hFF : EndN s _ _ _ = FF
  refine Go.iloadN X0 hx (pc' := 1) rfl (hb hby d14_0) rfl ?_
  refine Go.ifYes X0 hx (pc' := 7) (hb hby d14_1) (by decide) (by decide) (by decide) ?_
  refine Go.new X0 hx hZ hown (tw_76 hw) (tw_7 hw) (tw_8 hw) e0 (by decide) (by decide) (pc' := 10) rfl (hb hby d14_7) ?_
  intro T1 h1 b1 e1 E1 g1 A1 D1 X1
  have b1_value : Fld Z h1 b1 "java/lang/String" "value" "[B" .null := D1 (Or.inr (tw_21 hw)) (ty := (.array .byte)) (by decide)
  have b1_coder : Fld Z h1 b1 "java/lang/String" "coder" "B" (.int 0) := D1 (Or.inr (tw_22 hw)) (ty := .byte) (by decide)
  refine Go.dup X1 hx (pc' := 11) rfl (hb hby d14_10) rfl ?_
  refine Go.aloadN X1 hx (pc' := 12) rfl (hb hby d14_11) rfl rfl ?_
  refine Go.iloadN X1 hx (pc' := 13) rfl (hb hby d14_12) rfl ?_
  refine Go.iloadN X1 hx (pc' := 14) rfl (hb hby d14_13) rfl ?_
  refine Go.iloadN X1 hx (pc' := 15) rfl (hb hby d14_14) rfl ?_
  refine Go.iadd X1 hx (pc' := 16) rfl (hb hby d14_15) ?_
  rw [show ((0 : Int32) + (3 : Int32)) = (3 : Int32) from by decide]
  have Kp3 : Keep h0 h1 [] := ((Keep.refl h0 []).ext E1)
  have Zn2 : n0 ≤ h1.size := Nat.le_trans Z0 Kp3.1
  have fk4 := (P0.ext E1)
  refine Go.callS X1 hx hZ hown (tw_77 hw) (tw_78 hw) (tw_79 hw) (tw_80 hw) (by decide) (tw_80 hw) (tw_79 hw) (au_17 l Z a0 hw x0 kk0 h1 n0 Zn2 fk4) e1 (argsL := [(.ref x0), (.int 0), (.int 3)]) (rest := [(.ref b1), (.ref b1)]) (pc' := 19) rfl (by rw [hml]; rfl) (lenOf pd_12 rfl) rfl rfl (W := 2) (Nat.le_of_eq rfl) (by decide) (by decide) (by decide) (by decide) (hb hby d14_16) ?_
  intro v5 T5 L5 q5 X5
  obtain ⟨h5, e5⟩ : ∃ z, T5.heap = z := ⟨_, rfl⟩
  rw [e5] at q5
  obtain ⟨b5_0, k5_0, rfl, N5, K5, s5_0, F5_0, F5_1⟩ := q5
  show Go _ _ _ _ (T5.setTop (mkF m 19 #[.val (.ref x0), .val (.int 0), .val (.int 3)] [(.ref b5_0), (.ref b1), (.ref b1)]))
  refine Go.iconst X5 hx (pc' := 20) rfl (hb hby d14_19) (v := (0 : Int32)) rfl ?_
  have Kp7 : Keep h0 h5 [] := (Kp3.trans K5 all0)
  have Zn6 : n0 ≤ h5.size := Nat.le_trans Z0 Kp7.1
  have fk8 : Exa Z h5 b1 "java/lang/String" := (A1.keep K5)
  have fk9 : Fld Z h5 b1 "java/lang/String" "coder" "B" (.int 0) := (b1_coder.keep K5 nin0)
  have fk10 : Fld Z h5 b1 "java/lang/String" "value" "[B" .null := (b1_value.keep K5 nin0)
  have sz12 : h0.size ≤ b1 := Nat.le_trans (Keep.refl h0 []).1 (Nat.le_of_eq g1.symm)
  have ge11 : n0 ≤ b1 := Nat.le_trans Z0 sz12
  refine Go.callN X5 hx hZ hown rfl (tw_95 hw) (tw_96 hw) (tw_97 hw) (by decide) (tw_97 hw) (tw_8 hw) (au_21 l Z a0 hw b1 b5_0 h5 n0 Zn6 fk8 fk9 fk10 ge11) e5 (a := b1) (argsL := [(.ref b5_0), (.int 0)]) (rest := [(.ref b1)]) (pc' := 23) rfl (by rw [hml]; rfl) (lenOf pd_13 rfl) rfl rfl (W := 1) (Nat.le_of_eq rfl) (by decide) (by decide) (by decide) (by decide) (hb hby d14_20) ?_
  intro v13 T13 L13 q13 X13
  obtain ⟨h13, e13⟩ : ∃ z, T13.heap = z := ⟨_, rfl⟩
  rw [e13] at q13
  obtain ⟨rfl, N13, K13, F13_0, F13_1, F13_2⟩ := q13
  show Go _ _ _ _ (T13.setTop (mkF m 23 #[.val (.ref x0), .val (.int 0), .val (.int 3)] [(.ref b1)]))
  subst hFF
  refine Go.retR X13 hx hlk (t := (.object "java/lang/String")) hret rfl rfl (hb hby d14_23) (by decide) (by decide) ?_
  rw [e13]
  have ne14 : b1 ≠ b5_0 := Nat.ne_of_lt (Nat.lt_of_lt_of_le A1.lt s5_0)
  have fk15 := (F5_0.keep K13 (ninS (Ne.symm ne14) nin0))
  have fk16 : Exa Z h13 b5_0 "[B" := (F5_1.keep K13)
  have Kp17 : Keep h0 h13 [] := (Kp7.trans K13 (allS (Or.inr sz12) all0))
  have sz18 : h0.size ≤ b5_0 := Nat.le_trans Kp3.1 s5_0
  exact ⟨b1, b5_0, k5_0, rfl, (Fr.app (Fr.app (Fr.nil n0) N5) N13), Kp17, sz12, sz18, (Ne.symm ne14), F13_0, F13_1, F13_2, fk15, fk16⟩
theorem pd_14 : parseMethodDescriptor "([BII)Ljava/lang/String;" = some ⟨[(.array .byte), .int, .int], some (.object "java/lang/String")⟩ := by decide +kernel
theorem d10_41 : decode jdk_42_method_92_code 41 = .ok (.invokestatic 685, 3) := by decide +kernel
theorem d10_44 : decode jdk_42_method_92_code 44 = .ok (.goto 13, 3) := by decide +kernel
theorem d10_57 : decode jdk_42_method_92_code 57 = .ok (.areturn, 1) := by decide +kernel
theorem ef_10_RII (m : MethodId) (x0 : Addr) (x1 : Int32) (x2 : Int32) : entryFrame m #[(.ref x0), (.int x1), (.int x2)] 5 = mkF m 0 #[.val (.ref x0), .val (.int x1), .val (.int x2), .unset, .unset] [] := by first | (simp [entryFrame, mkF, argsToLocals, Value.category]; done) | rfl
-- java/lang/String.substring
set_option maxRecDepth 65536 in
set_option maxHeartbeats 4000000 in
theorem au_12 (l : Launch) (Z : State) (a0 : Array Value) (hw : ∀ d ∈ tables_1, d.before a0 Z = true) (x0 : Addr) (x1 : Addr) (kk0 : ClassId) (gz1 : Int32) (gv5 : Value) (h0 : Heap) (n0 : Nat) (Z0 : n0 ≤ h0.size) (O0 : Old Z n0 h0) (G : Glob Z gz1 gv5) (P0 : Exa Z h0 x0 "java/lang/String") (P1 : Fld Z h0 x0 "java/lang/String" "coder" "B" (.int 0)) (P2 : Fld Z h0 x0 "java/lang/String" "value" "[B" (.ref x1)) (P3 : Arv Z h0 x1 kk0 .byte (4 : Int32) [(.int 47), (.int 117), (.int 105), (.int 47)] (.int (0 : Int32))) :
    Ctr l Z (⟨"java/lang/String", "substring", "(II)Ljava/lang/String;"⟩ : MethodName) jdk_42_method_92_code 5 (some (.object "java/lang/String")) ({ frames := 4, cells := 2, slots := 7, locals := 64 } : Room) #[(.ref x0), (.int 0), (.int 3)] h0 (fun v h L => ∃ (b5_0 : Addr) (b5_1 : Addr) (k5_0 : ClassId), v = some (.ref b5_0) ∧ Fr n0 L ∧ Keep h0 h [] ∧ h0.size ≤ b5_0 ∧ h0.size ≤ b5_1 ∧ b5_1 ≠ b5_0 ∧ Exa Z h b5_0 "java/lang/String" ∧ Fld Z h b5_0 "java/lang/String" "coder" "B" (.int 0) ∧ Fld Z h b5_0 "java/lang/String" "value" "[B" (.ref b5_1) ∧ Arv Z h b5_1 k5_0 .byte (3 : Int32) [(.int 47), (.int 117), (.int 105)] (.int 0) ∧ Exa Z h b5_1 "[B") := by
  refine Ctr.of (plainFor_of_name pn_c1) ?_
  intro p e s m below meth c T0 hx hZ hby hml hown hnm hret hlk e0 es X0
  refine Go.cast (ef_10_RII m x0 (0 : Int32) (3 : Int32)) ?_
  generalize hFF : EndN s _ _ _ = FF
  refine Go.aloadN X0 hx (pc' := 1) rfl (hb hby d10_0) rfl rfl ?_
  refine Go.callV X0 hx hZ hown (tw_59 hw) (tw_45 hw) (notFace_of_selects (args := #[]) (mvT hZ (tw_47 hw))) (tw_47 hw) (tw_46 hw) (by decide) (tw_48 hw) (tw_8 hw) (au_10 l Z a0 hw x0 x1 kk0 gz1 gv5 h0 n0 Z0 O0 G P0 P1 P2 P3) e0 P0 (argsL := []) (rest := []) (pc' := 4) rfl (by rw [hml]; rfl) (lenOf pd_6 rfl) rfl rfl (W := 0) (Nat.le_of_eq rfl) (by decide) (by decide) (by decide) (by decide) (hb hby d10_1) ?_
  intro v1 T1 L1 q1 X1
  obtain ⟨rfl, N1, e1⟩ := q1
  show Go _ _ _ _ (T1.setTop (mkF m 4 #[.val (.ref x0), .val (.int 0), .val (.int 3), .unset, .unset] [(.int 4)]))
  refine Go.istoreN X1 hx (pc' := 5) rfl (hb hby d10_4) (Ls' := #[.val (.ref x0), .val (.int 0), .val (.int 3), .val (.int 4), .unset]) rfl ?_
  refine Go.iloadN X1 hx (pc' := 6) rfl (hb hby d10_5) rfl ?_
  refine Go.iloadN X1 hx (pc' := 7) rfl (hb hby d10_6) rfl ?_
  refine Go.iloadN X1 hx (pc' := 8) rfl (hb hby d10_7) rfl ?_
  refine Go.callS X1 hx hZ hown (tw_60 hw) (tw_61 hw) (tw_8 hw) (tw_62 hw) (by decide) (tw_62 hw) (tw_8 hw) (au_13 l Z a0 hw gz1 gv5 h0 n0 Z0 O0 G) e1 (argsL := [(.int 0), (.int 3), (.int 4)]) (rest := []) (pc' := 11) rfl (by rw [hml]; rfl) (lenOf pd_8 rfl) rfl rfl (W := 0) (Nat.le_of_eq rfl) (by decide) (by decide) (by decide) (by decide) (hb hby d10_8) ?_
  intro v2 T2 L2 q2 X2
  obtain ⟨rfl, N2, e2⟩ := q2
  show Go _ _ _ _ (T2.setTop (mkF m 11 #[.val (.ref x0), .val (.int 0), .val (.int 3), .val (.int 4), .unset] []))
  refine Go.iloadN X2 hx (pc' := 12) rfl (hb hby d10_11) rfl ?_
  refine Go.ifNo X2 hx (pc' := 15) rfl (hb hby d10_12) (by decide) ?_
  refine Go.iloadN X2 hx (pc' := 16) rfl (hb hby d10_15) rfl ?_
  refine Go.iloadN X2 hx (pc' := 17) rfl (hb hby d10_16) rfl ?_
  refine Go.icmpYes X2 hx (pc' := 22) (hb hby d10_17) (by decide) (by decide) (by decide) ?_
  refine Go.iloadN X2 hx (pc' := 23) rfl (hb hby d10_22) rfl ?_
  refine Go.iloadN X2 hx (pc' := 24) rfl (hb hby d10_23) rfl ?_
  refine Go.isub X2 hx (pc' := 25) rfl (hb hby d10_24) ?_
  rw [show ((3 : Int32) - (0 : Int32)) = (3 : Int32) from by decide]
  refine Go.istore X2 hx (pc' := 27) rfl (hb hby d10_25) (Ls' := #[.val (.ref x0), .val (.int 0), .val (.int 3), .val (.int 4), .val (.int 3)]) rfl ?_
  refine Go.aloadN X2 hx (pc' := 28) rfl (hb hby d10_27) rfl rfl ?_
  refine Go.callV X2 hx hZ hown (tw_68 hw) (tw_69 hw) (notFace_of_selects (args := #[]) (mvT hZ (tw_71 hw))) (tw_71 hw) (tw_70 hw) (by decide) (tw_72 hw) (tw_8 hw) (au_15 l Z a0 hw x0 gz1 gv5 h0 n0 Z0 O0 G P1) e2 P0 (argsL := []) (rest := []) (pc' := 31) rfl (by rw [hml]; rfl) (lenOf pd_9 rfl) rfl rfl (W := 0) (Nat.le_of_eq rfl) (by decide) (by decide) (by decide) (by decide) (hb hby d10_28) ?_
  intro v3 T3 L3 q3 X3
  obtain ⟨rfl, N3, e3⟩ := q3
  show Go _ _ _ _ (T3.setTop (mkF m 31 #[.val (.ref x0), .val (.int 0), .val (.int 3), .val (.int 4), .val (.int 3)] [(.int 1)]))
  refine Go.ifNo X3 hx (pc' := 34) rfl (hb hby d10_31) (by decide) ?_
  refine Go.aloadN X3 hx (pc' := 35) rfl (hb hby d10_34) rfl rfl ?_
  refine Go.getF X3 hx hZ hown (host := "") (Or.inl (tw_25 hw)) Via.refl e3 P2 (pc' := 38) rfl (hb hby d10_35) ?_
  intro T4 e4 X4
  refine Go.iloadN X4 hx (pc' := 39) rfl (hb hby d10_38) rfl ?_
  refine Go.iload X4 hx (pc' := 41) rfl (hb hby d10_39) rfl ?_
  refine Go.callS X4 hx hZ hown (tw_73 hw) (tw_74 hw) (tw_41 hw) (tw_75 hw) (by decide) (tw_75 hw) (tw_41 hw) (au_16 l Z a0 hw x1 kk0 h0 n0 Z0 P3) e4 (argsL := [(.ref x1), (.int 0), (.int 3)]) (rest := []) (pc' := 44) rfl (by rw [hml]; rfl) (lenOf pd_14 rfl) rfl rfl (W := 0) (Nat.le_of_eq rfl) (by decide) (by decide) (by decide) (by decide) (hb hby d10_41) ?_
  intro v5 T5 L5 q5 X5
  obtain ⟨h5, e5⟩ : ∃ z, T5.heap = z := ⟨_, rfl⟩
  rw [e5] at q5
  obtain ⟨b5_0, b5_1, k5_0, rfl, N5, K5, s5_0, s5_1, n5_0, F5_0, F5_1, F5_2, F5_3, F5_4⟩ := q5
  show Go _ _ _ _ (T5.setTop (mkF m 44 #[.val (.ref x0), .val (.int 0), .val (.int 3), .val (.int 4), .val (.int 3)] [(.ref b5_0)]))
  refine Go.goto X5 hx (pc' := 57) (hb hby d10_44) (by decide) (by decide) ?_
  subst hFF
  refine Go.retR X5 hx hlk (t := (.object "java/lang/String")) hret rfl rfl (hb hby d10_57) (by decide) (by decide) ?_
  rw [e5]
  have Kp6 : Keep h0 h5 [] := ((Keep.refl h0 []).trans K5 all0)
  have sz7 : h0.size ≤ b5_0 := Nat.le_trans (Keep.refl h0 []).1 s5_0
  have sz8 : h0.size ≤ b5_1 := Nat.le_trans (Keep.refl h0 []).1 s5_1
  exact ⟨b5_0, b5_1, k5_0, rfl, (Fr.app (Fr.app (Fr.app (Fr.app (Fr.nil n0) N1) N2) N3) N5), Kp6, sz7, sz8, n5_0, F5_0, F5_1, F5_2, F5_3, F5_4⟩
theorem pd_15 : parseMethodDescriptor "(II)Ljava/lang/String;" = some ⟨[.int, .int], some (.object "java/lang/String")⟩ := by decide +kernel
theorem d5_20 : decode prog_11_method_4_code 20 = .ok (.invokevirtual 70, 3) := by decide +kernel
-- java/lang/StringLatin1.equals
set_option maxRecDepth 65536 in
set_option maxHeartbeats 4000000 in
theorem au_23 (l : Launch) (Z : State) (a0 : Array Value) (hw : ∀ d ∈ tables_1, d.before a0 Z = true) (x0 : Addr) (x1 : Addr) (kk0 : ClassId) (kk1 : ClassId) (h0 : Heap) (n0 : Nat) (Z0 : n0 ≤ h0.size) (P0 : Arv Z h0 x0 kk0 .byte (0 : Int32) [] (.int (0 : Int32))) (P1 : Arv Z h0 x1 kk1 .byte (3 : Int32) [(.int 47), (.int 117), (.int 105)] (.int 0)) :
    Ctr l Z (⟨"java/lang/StringLatin1", "equals", "([B[B)Z"⟩ : MethodName) jdk_43_method_13_code 3 (some .boolean) ({ frames := 0, cells := 0, slots := 0, locals := 0 } : Room) #[(.ref x0), (.ref x1)] h0 (fun v h L => v = some (.int 0) ∧ Fr n0 L ∧ h = h0) := by
  refine Ctr.of (plainFor_of_name pn_c2) ?_
  intro p e s m below meth c T0 hx hZ hby hml hown hnm hret hlk e0 es X0
  refine Go.cast (ef_7_RR m x0 x1) ?_
  generalize hFF : EndN s _ _ _ = FF
  refine Go.aloadN X0 hx (pc' := 1) rfl (hb hby d7_0) rfl rfl ?_
  refine Go.arraylength X0 hx hZ e0 P0 (pc' := 2) rfl (hb hby d7_1) ?_
  refine Go.aloadN X0 hx (pc' := 3) rfl (hb hby d7_2) rfl rfl ?_
  refine Go.arraylength X0 hx hZ e0 P1 (pc' := 4) rfl (hb hby d7_3) ?_
  refine Go.icmpYes X0 hx (pc' := 34) (hb hby d7_4) (by decide) (by decide) (by decide) ?_
  refine Go.iconst X0 hx (pc' := 35) rfl (hb hby d7_34) (v := (0 : Int32)) rfl ?_
  subst hFF
  refine Go.retN X0 hx hlk (t := .boolean) hret (by simp) (hb hby d7_35) (by decide) (by decide) ?_
  rw [e0]
  exact ⟨(congrArg (fun z => some (Value.int z)) (by decide : nar .boolean (0 : Int32) = (0 : Int32))), (Fr.nil n0), rfl⟩
-- java/lang/String.equals
set_option maxRecDepth 65536 in
set_option maxHeartbeats 4000000 in
theorem au_22 (l : Launch) (Z : State) (a0 : Array Value) (hw : ∀ d ∈ tables_1, d.before a0 Z = true) (x0 : Addr) (x1 : Addr) (x2 : Addr) (x3 : Addr) (kk0 : ClassId) (kk1 : ClassId) (gz1 : Int32) (gv5 : Value) (h0 : Heap) (n0 : Nat) (Z0 : n0 ≤ h0.size) (O0 : Old Z n0 h0) (G : Glob Z gz1 gv5) (P1 : Fld Z h0 x0 "java/lang/String" "coder" "B" (.int 0)) (P2 : Fld Z h0 x0 "java/lang/String" "value" "[B" (.ref x2)) (P3 : Exa Z h0 x1 "java/lang/String") (P4 : Fld Z h0 x1 "java/lang/String" "coder" "B" (.int 0)) (P5 : Fld Z h0 x1 "java/lang/String" "value" "[B" (.ref x3)) (P6 : Arv Z h0 x2 kk0 .byte (0 : Int32) [] (.int (0 : Int32))) (P7 : Arv Z h0 x3 kk1 .byte (3 : Int32) [(.int 47), (.int 117), (.int 105)] (.int 0)) (ne_x0_x1 : x0 ≠ x1) :
    Ctr l Z (⟨"java/lang/String", "equals", "(Ljava/lang/Object;)Z"⟩ : MethodName) jdk_42_method_66_code 3 (some .boolean) ({ frames := 1, cells := 0, slots := 0, locals := 14 } : Room) #[(.ref x0), (.ref x1)] h0 (fun v h L => v = some (.int 0) ∧ Fr n0 L ∧ h = h0) := by
  refine Ctr.of (plainFor_of_name pn_c1) ?_
  intro p e s m below meth c T0 hx hZ hby hml hown hnm hret hlk e0 es X0
  have G' := G
  obtain ⟨G0, -, G2, -⟩ := G'
  refine Go.cast (ef_6_RR m x0 x1) ?_
  generalize hFF : EndN s _ _ _ = FF
  refine Go.aloadN X0 hx (pc' := 1) rfl (hb hby d6_0) rfl rfl ?_
  refine Go.aloadN X0 hx (pc' := 2) rfl (hb hby d6_1) rfl rfl ?_
  refine Go.acmp X0 hx (pc' := 7) (same := false) (hb hby d6_2) rfl rfl (decide_eq_false (fun q => ne_x0_x1 (Value.ref.inj q))) (by decide) (by decide) ?_
  refine Go.aloadN X0 hx (pc' := 8) rfl (hb hby d6_7) rfl rfl ?_
  refine Go.instY X0 hx hZ hown (tw_37 hw) e0 (Ins.self P3) (pc' := 11) rfl (hb hby d6_8) ?_
  intro T1 e1 X1
  refine Go.ifNo X1 hx (pc' := 14) rfl (hb hby d6_11) (by decide) ?_
  refine Go.aloadN X1 hx (pc' := 15) rfl (hb hby d6_14) rfl rfl ?_
  refine Go.castY X1 hx hZ hown (tw_37 hw) e1 (Ins.self P3) (pc' := 18) rfl (hb hby d6_15) ?_
  intro T2 e2 X2
  refine Go.astoreN X2 hx (pc' := 19) rfl (hb hby d6_18) (Ls' := #[.val (.ref x0), .val (.ref x1), .val (.ref x1)]) rfl rfl ?_
  have fk3 : Sta Z h0 "java/lang/String" "COMPACT_STRINGS" "Z" (.int gz1) := G0.ext O0.2
  refine Go.getS X2 hx hZ hown (host := "") (Or.inl (tw_38 hw)) Via.refl e2 fk3 (pc' := 22) rfl (hb hby d6_19) ?_
  intro T4 e4 X4
  refine Go.ifNo X4 hx (pc' := 25) rfl (hb hby d6_22) (feq G2).1 ?_
  refine Go.aloadN X4 hx (pc' := 26) rfl (hb hby d6_25) rfl rfl ?_
  refine Go.getF X4 hx hZ hown (host := "") (Or.inl (tw_26 hw)) Via.refl e4 P1 (pc' := 29) rfl (hb hby d6_26) ?_
  intro T5 e5 X5
  refine Go.aloadN X5 hx (pc' := 30) rfl (hb hby d6_29) rfl rfl ?_
  refine Go.getF X5 hx hZ hown (host := "") (Or.inl (tw_26 hw)) Via.refl e5 P4 (pc' := 33) rfl (hb hby d6_30) ?_
  intro T6 e6 X6
  refine Go.icmpNo X6 hx (pc' := 36) rfl (hb hby d6_33) (by decide) ?_
  refine Go.aloadN X6 hx (pc' := 37) rfl (hb hby d6_36) rfl rfl ?_
  refine Go.getF X6 hx hZ hown (host := "") (Or.inl (tw_25 hw)) Via.refl e6 P2 (pc' := 40) rfl (hb hby d6_37) ?_
  intro T7 e7 X7
  refine Go.aloadN X7 hx (pc' := 41) rfl (hb hby d6_40) rfl rfl ?_
  refine Go.getF X7 hx hZ hown (host := "") (Or.inl (tw_25 hw)) Via.refl e7 P5 (pc' := 44) rfl (hb hby d6_41) ?_
  intro T8 e8 X8
  refine Go.callS X8 hx hZ hown (tw_39 hw) (tw_40 hw) (tw_41 hw) (tw_42 hw) (by decide) (tw_42 hw) (tw_41 hw) (au_23 l Z a0 hw x2 x3 kk0 kk1 h0 n0 Z0 P6 P7) e8 (argsL := [(.ref x2), (.ref x3)]) (rest := []) (pc' := 47) rfl (by rw [hml]; rfl) (lenOf pd_3 rfl) rfl rfl (W := 0) (Nat.le_of_eq rfl) (by decide) (by decide) (by decide) (by decide) (hb hby d6_44) ?_
  intro v9 T9 L9 q9 X9
  obtain ⟨rfl, N9, e9⟩ := q9
  show Go _ _ _ _ (T9.setTop (mkF m 47 #[.val (.ref x0), .val (.ref x1), .val (.ref x1)] [(.int 0)]))
  refine Go.ifYes X9 hx (pc' := 54) (hb hby d6_47) (by decide) (by decide) (by decide) ?_
  refine Go.iconst X9 hx (pc' := 55) rfl (hb hby d6_54) (v := (0 : Int32)) rfl ?_
  subst hFF
  refine Go.retN X9 hx hlk (t := .boolean) hret (by simp) (hb hby d6_55) (by decide) (by decide) ?_
  rw [e9]
  exact ⟨(congrArg (fun z => some (Value.int z)) (by decide : nar .boolean (0 : Int32) = (0 : Int32))), (Fr.app (Fr.nil n0) N9), rfl⟩
theorem d5_23 : decode prog_11_method_4_code 23 = .ok (.invokevirtual 62, 3) := by decide +kernel
theorem d5_26 : decode prog_11_method_4_code 26 = .ok (.ifCond .eq 7, 3) := by decide +kernel
theorem d5_33 : decode prog_11_method_4_code 33 = .ok (.iconst 0, 1) := by decide +kernel
theorem d5_34 : decode prog_11_method_4_code 34 = .ok (.ireturn, 1) := by decide +kernel
theorem ef_5_R (m : MethodId) (x0 : Addr) : entryFrame m #[(.ref x0)] 1 = mkF m 0 #[.val (.ref x0)] [] := by first | (simp [entryFrame, mkF, argsToLocals, Value.category]; done) | rfl
theorem pn_c5 : plainName "com/example/roles_over_datacenter/rolesoverdatacenter/Page" = true := by first | (simp [plainName, overriddenIn]; done) | decide +kernel
-- com/example/roles_over_datacenter/rolesoverdatacenter/Page.redirects
set_option maxRecDepth 65536 in
set_option maxHeartbeats 4000000 in
theorem au_7 (l : Launch) (Z : State) (a0 : Array Value) (hw : ∀ d ∈ tables_1, d.before a0 Z = true) (x0 : Addr) (x1 : Addr) (kk0 : ClassId) (gz1 : Int32) (gv5 : Value) (h0 : Heap) (n0 : Nat) (Z0 : n0 ≤ h0.size) (O0 : Old Z n0 h0) (G : Glob Z gz1 gv5) (P0 : Exa Z h0 x0 "java/lang/String") (P1 : Fld Z h0 x0 "java/lang/String" "coder" "B" (.int 0)) (P2 : Fld Z h0 x0 "java/lang/String" "value" "[B" (.ref x1)) (P3 : Arv Z h0 x1 kk0 .byte (0 : Int32) [] (.int (0 : Int32))) :
    CtrW l Z EL0 (⟨"com/example/roles_over_datacenter/rolesoverdatacenter/Page", "redirects", "(Ljava/lang/String;)Z"⟩ : MethodName) prog_11_method_4_code 1 (some .boolean) ({ frames := 5, cells := 8, slots := 55, locals := 81 } : Room) #[(.ref x0)] h0 [x0] (fun v vm h L => v = some (.int 0) ∧ Fr n0 L ∧ Keep h0 h []) := by
  refine CtrW.of (plainFor_of_name pn_c5) ?_
  intro p e s m below meth c T0 hx hZ hby hml hown hnm hret hlk e0 es hS0 C0 hsf X0
  have G' := G
  obtain ⟨-, G1, -, -⟩ := G'
  refine Go.cast (ef_5_R m x0) ?_
  generalize hFF : EndW Z EL0 s _ _ _ = FF
  refine Go.aloadN X0 hx (pc' := 1) rfl (hb hby d5_0) rfl rfl ?_
  refine Go.ldcCH X0 hx hZ hown (tw_31 hw) (own_SA hw) e0 hS0 (Nat.le_refl _) (own_EW hw) (List.mem_of_getElem? (i := 1) rfl) C0.1 (vs := [(.int (47 : Int32))]) (z := (1 : Int32)) (by decide) (by decide) rfl (n := 4) (by decide) (by decide) (by decide) (by decide) (pc' := 3) rfl (hb hby d5_1) ?_
  intro a1 T1 h1 j1 b1 k1 e1 E1 S1 i1 Z1 O1 A1 F1 G1 V1 C1 D1 X1
  have Kp3 : Keep h0 h1 [] := ((Keep.refl h0 []).ext E1)
  have Zn2 : n0 ≤ h1.size := Nat.le_trans Z0 Kp3.1
  have O4 := (O0.ext E1)
  have fk5 : Fld Z h1 x0 "java/lang/String" "coder" "B" (.int 0) := (P1.ext E1)
  have fk6 : Fld Z h1 x0 "java/lang/String" "value" "[B" (.ref x1) := (P2.ext E1)
  have fk7 := (P3.ext E1)
  have fk8 : Safe Z EL0 T1.vm h1 x0 := (C1.safe P0.lt (hsf _ (List.mem_of_getElem? (i := 0) rfl)))
  have fk9 : Exa Z h1 x0 "java/lang/String" := (P0.ext E1)
  refine Go.callV X1 hx Z1 O1 (tw_32 hw) (tw_33 hw) (notFace_of_selects (args := #[]) (mvT Z1 (tw_35 hw))) (tw_35 hw) (tw_34 hw) (by decide) (tw_36 hw) (tw_8 hw) (au_8 l Z a0 hw x0 a1 x1 b1 kk0 k1 gz1 gv5 h1 n0 Zn2 O4 G fk5 fk6 A1 F1 G1 fk7 V1 (D1 x0 fk8).1) e1 fk9 (argsL := [(.ref a1)]) (rest := []) (pc' := 6) rfl (by rw [hml]; rfl) (lenOf pd_4 rfl) rfl rfl (W := 0) (Nat.le_of_eq rfl) (by decide) (by decide) (by decide) (by decide) (hb hby d5_3) ?_
  intro v10 T10 L10 q10 X10
  obtain ⟨rfl, N10, e10⟩ := q10
  show Go _ _ _ _ (T10.setTop (mkF m 6 #[.val (.ref x0)] [(.int 0)]))
  refine Go.ifNo X10 hx (pc' := 9) rfl (hb hby d5_6) (by decide) ?_
  refine Go.aloadN X10 hx (pc' := 10) rfl (hb hby d5_9) rfl rfl ?_
  have C11 : CHr Z EL0 s.vm s.heap T1.vm h1 := (C0.trans C1)
  refine Go.ldcCH X10 hx Z1 O1 (tw_43 hw) (own_SA hw) e10 S1 i1 (own_EW hw) (List.mem_of_getElem? (i := 0) rfl) C11.1 (vs := [(.int (47 : Int32)), (.int (117 : Int32)), (.int (105 : Int32)), (.int (47 : Int32))]) (z := (4 : Int32)) (by decide) (by decide) rfl (n := 16) (by decide) (by decide) (by decide) (by decide) (pc' := 12) rfl (hb hby d5_10) ?_
  intro a12 T12 h12 j12 b12 k12 e12 E12 S12 i12 Z12 O12 A12 F12 G12 V12 C12 D12 X12
  refine Go.iconst X12 hx (pc' := 13) rfl (hb hby d5_12) (v := (0 : Int32)) rfl ?_
  have C13 : CHr Z EL0 s.vm s.heap T12.vm h12 := (C11.trans C12)
  refine Go.ldcCH X12 hx Z12 O12 (tw_43 hw) (own_SA hw) e12 S12 i12 (own_EW hw) (List.mem_of_getElem? (i := 0) rfl) C13.1 (vs := [(.int (47 : Int32)), (.int (117 : Int32)), (.int (105 : Int32)), (.int (47 : Int32))]) (z := (4 : Int32)) (by decide) (by decide) rfl (n := 16) (by decide) (by decide) (by decide) (by decide) (pc' := 15) rfl (hb hby d5_13) ?_
  intro a14 T14 h14 j14 b14 k14 e14 E14 S14 i14 Z14 O14 A14 F14 G14 V14 C14 D14 X14
  have Kp16 : Keep h0 h12 [] := (Kp3.ext E12)
  have Kp17 : Keep h0 h14 [] := (Kp16.ext E14)
  have Zn15 : n0 ≤ h14.size := Nat.le_trans Z0 Kp17.1
  have O18 := (O4.ext E12)
  have O19 := (O18.ext E14)
  refine Go.callV X14 hx Z14 O14 (tw_44 hw) (tw_45 hw) (notFace_of_selects (args := #[]) (mvT Z14 (tw_47 hw))) (tw_47 hw) (tw_46 hw) (by decide) (tw_48 hw) (tw_8 hw) (au_10 l Z a0 hw a14 b14 k14 gz1 gv5 h14 n0 Zn15 O19 G A14 F14 G14 V14) e14 A14 (argsL := []) (rest := [(.int 0), (.ref a12), (.ref x0)]) (pc' := 18) rfl (by rw [hml]; rfl) (lenOf pd_6 rfl) rfl rfl (W := 3) (Nat.le_of_eq rfl) (by decide) (by decide) (by decide) (by decide) (hb hby d5_15) ?_
  intro v20 T20 L20 q20 X20
  obtain ⟨rfl, N20, e20⟩ := q20
  show Go _ _ _ _ (T20.setTop (mkF m 18 #[.val (.ref x0)] [(.int 4), (.int 0), (.ref a12), (.ref x0)]))
  refine Go.iconst X20 hx (pc' := 19) rfl (hb hby d5_18) (v := (1 : Int32)) rfl ?_
  refine Go.isub X20 hx (pc' := 20) rfl (hb hby d5_19) ?_
  rw [show ((4 : Int32) - (1 : Int32)) = (3 : Int32) from by decide]
  have fk21 : Exa Z h14 a12 "java/lang/String" := (A12.ext E14)
  have fk22 : Fld Z h14 a12 "java/lang/String" "coder" "B" (.int 0) := (F12.ext E14)
  have fk23 : Fld Z h14 a12 "java/lang/String" "value" "[B" (.ref b12) := (G12.ext E14)
  have fk24 := (V12.ext E14)
  refine Go.callV X20 hx Z14 O14 (tw_54 hw) (tw_55 hw) (notFace_of_selects (args := #[]) (mvT Z14 (tw_57 hw))) (tw_57 hw) (tw_56 hw) (by decide) (tw_58 hw) (tw_8 hw) (au_12 l Z a0 hw a12 b12 k12 gz1 gv5 h14 n0 Zn15 O19 G fk21 fk22 fk23 fk24) e20 fk21 (argsL := [(.int 0), (.int 3)]) (rest := [(.ref x0)]) (pc' := 23) rfl (by rw [hml]; rfl) (lenOf pd_15 rfl) rfl rfl (W := 1) (Nat.le_of_eq rfl) (by decide) (by decide) (by decide) (by decide) (hb hby d5_20) ?_
  intro v25 T25 L25 q25 X25
  obtain ⟨h25, e25⟩ : ∃ z, T25.heap = z := ⟨_, rfl⟩
  rw [e25] at q25
  obtain ⟨b25_0, b25_1, k25_0, rfl, N25, K25, s25_0, s25_1, n25_0, F25_0, F25_1, F25_2, F25_3, F25_4⟩ := q25
  show Go _ _ _ _ (T25.setTop (mkF m 23 #[.val (.ref x0)] [(.ref b25_0), (.ref x0)]))
  have Kp27 : Keep h0 h25 [] := (Kp17.trans K25 all0)
  have Zn26 : n0 ≤ h25.size := Nat.le_trans Z0 Kp27.1
  have O28 := (O19.keep K25 all0)
  have fk29 : Fld Z h25 x0 "java/lang/String" "coder" "B" (.int 0) := (((fk5.ext E12).ext E14).keep K25 nin0)
  have fk30 : Fld Z h25 x0 "java/lang/String" "value" "[B" (.ref x1) := (((fk6.ext E12).ext E14).keep K25 nin0)
  have fk31 := (((fk7.ext E12).ext E14).keep K25 nin0)
  have fk33 : Exa Z h14 x0 "java/lang/String" := ((fk9.ext E12).ext E14)
  have ne32 : x0 ≠ b25_0 := Nat.ne_of_lt (Nat.lt_of_lt_of_le fk33.lt s25_0)
  have fk34 : Exa Z h25 x0 "java/lang/String" := (fk33.keep K25)
  refine Go.callV X25 hx Z14 O14 (tw_32 hw) (tw_33 hw) (notFace_of_selects (args := #[]) (mvT Z14 (tw_35 hw))) (tw_35 hw) (tw_34 hw) (by decide) (tw_36 hw) (tw_8 hw) (au_22 l Z a0 hw x0 b25_0 x1 b25_1 kk0 k25_0 gz1 gv5 h25 n0 Zn26 O28 G fk29 fk30 F25_0 F25_1 F25_2 fk31 F25_3 ne32) e25 fk34 (argsL := [(.ref b25_0)]) (rest := []) (pc' := 26) rfl (by rw [hml]; rfl) (lenOf pd_4 rfl) rfl rfl (W := 0) (Nat.le_of_eq rfl) (by decide) (by decide) (by decide) (by decide) (hb hby d5_23) ?_
  intro v35 T35 L35 q35 X35
  obtain ⟨rfl, N35, e35⟩ := q35
  show Go _ _ _ _ (T35.setTop (mkF m 26 #[.val (.ref x0)] [(.int 0)]))
  refine Go.ifYes X35 hx (pc' := 33) (hb hby d5_26) (by decide) (by decide) (by decide) ?_
  refine Go.iconst X35 hx (pc' := 34) rfl (hb hby d5_33) (v := (0 : Int32)) rfl ?_
  subst hFF
  have C36 : CHr Z EL0 s.vm s.heap T14.vm h14 := (C13.trans C14)
  have C37 : CHr Z EL0 s.vm s.heap T14.vm h25 := (C36.trans (CHr.keep K25 sf0 C36.1))
  have hk38 := (Nat.le_trans i14 K25.1)
  refine Go.retNW X35 hx hlk Z14 (own_EW hw) e35 S14 hk38 C37 (t := .boolean) hret (by simp) (hb hby d5_34) (by decide) (by decide) (fun hat => ?_)
  exact ⟨(congrArg (fun z => some (Value.int z)) (by decide : nar .boolean (0 : Int32) = (0 : Int32))), (Fr.app (Fr.app (Fr.app (Fr.app (Fr.nil n0) N10) N20) N25) N35), Kp27⟩
theorem pd_16 : parseMethodDescriptor "(Ljava/lang/String;)Z" = some ⟨[(.object "java/lang/String")], some .boolean⟩ := by decide +kernel
theorem d3_27 : decode jdk_42_method_149_code 27 = .ok (.getstatic 38, 3) := by decide +kernel
theorem d3_30 : decode jdk_42_method_149_code 30 = .ok (.ifCond .eq 28, 3) := by decide +kernel
theorem d3_33 : decode jdk_42_method_149_code 33 = .ok (.aload_n 1, 1) := by decide +kernel
theorem d3_34 : decode jdk_42_method_149_code 34 = .ok (.iload_n 2, 1) := by decide +kernel
theorem d3_35 : decode jdk_42_method_149_code 35 = .ok (.iload_n 3, 1) := by decide +kernel
theorem d20_0 : decode jdk_52_method_16_code 0 = .ok (.iload_n 2, 1) := by decide +kernel
theorem d20_1 : decode jdk_52_method_16_code 1 = .ok (.newarray .byte, 2) := by decide +kernel
theorem d20_3 : decode jdk_52_method_16_code 3 = .ok (.astore_n 3, 1) := by decide +kernel
theorem d20_4 : decode jdk_52_method_16_code 4 = .ok (.aload_n 0, 1) := by decide +kernel
theorem d20_5 : decode jdk_52_method_16_code 5 = .ok (.iload_n 1, 1) := by decide +kernel
theorem d20_6 : decode jdk_52_method_16_code 6 = .ok (.aload_n 3, 1) := by decide +kernel
theorem d20_7 : decode jdk_52_method_16_code 7 = .ok (.iconst 0, 1) := by decide +kernel
theorem d20_8 : decode jdk_52_method_16_code 8 = .ok (.iload_n 2, 1) := by decide +kernel
theorem d21_0 : decode jdk_52_method_21_code 0 = .ok (.iconst 0, 1) := by decide +kernel
theorem d21_1 : decode jdk_52_method_21_code 1 = .ok (.istore 5, 2) := by decide +kernel
theorem d21_3 : decode jdk_52_method_21_code 3 = .ok (.iload 5, 2) := by decide +kernel
theorem d21_5 : decode jdk_52_method_21_code 5 = .ok (.iload 4, 2) := by decide +kernel
theorem d21_7 : decode jdk_52_method_21_code 7 = .ok (.if_icmp .ge 37, 3) := by decide +kernel
theorem d21_10 : decode jdk_52_method_21_code 10 = .ok (.aload_n 0, 1) := by decide +kernel
theorem d21_11 : decode jdk_52_method_21_code 11 = .ok (.iload_n 1, 1) := by decide +kernel
theorem d21_12 : decode jdk_52_method_21_code 12 = .ok (.caload, 1) := by decide +kernel
theorem d21_13 : decode jdk_52_method_21_code 13 = .ok (.istore 6, 2) := by decide +kernel
theorem d21_15 : decode jdk_52_method_21_code 15 = .ok (.iload 6, 2) := by decide +kernel
theorem d21_17 : decode jdk_52_method_21_code 17 = .ok (.sipush 255, 3) := by decide +kernel
theorem d21_20 : decode jdk_52_method_21_code 20 = .ok (.if_icmp .le 6, 3) := by decide +kernel
theorem d21_26 : decode jdk_52_method_21_code 26 = .ok (.aload_n 2, 1) := by decide +kernel
theorem d21_27 : decode jdk_52_method_21_code 27 = .ok (.iload_n 3, 1) := by decide +kernel
theorem d21_28 : decode jdk_52_method_21_code 28 = .ok (.iload 6, 2) := by decide +kernel
theorem d21_30 : decode jdk_52_method_21_code 30 = .ok (.i2b, 1) := by decide +kernel
theorem d21_31 : decode jdk_52_method_21_code 31 = .ok (.bastore, 1) := by decide +kernel
theorem d21_32 : decode jdk_52_method_21_code 32 = .ok (.iinc 1 1, 3) := by decide +kernel
theorem d21_35 : decode jdk_52_method_21_code 35 = .ok (.iinc 3 1, 3) := by decide +kernel
theorem d21_38 : decode jdk_52_method_21_code 38 = .ok (.iinc 5 1, 3) := by decide +kernel
theorem d21_41 : decode jdk_52_method_21_code 41 = .ok (.goto (-38), 3) := by decide +kernel
theorem d21_44 : decode jdk_52_method_21_code 44 = .ok (.iload 4, 2) := by decide +kernel
theorem d21_46 : decode jdk_52_method_21_code 46 = .ok (.ireturn, 1) := by decide +kernel
theorem ef_21_RIRII (m : MethodId) (x0 : Addr) (x1 : Int32) (x2 : Addr) (x3 : Int32) (x4 : Int32) : entryFrame m #[(.ref x0), (.int x1), (.ref x2), (.int x3), (.int x4)] 7 = mkF m 0 #[.val (.ref x0), .val (.int x1), .val (.ref x2), .val (.int x3), .val (.int x4), .unset, .unset] [] := by first | (simp [entryFrame, mkF, argsToLocals, Value.category]; done) | rfl
theorem pn_c6 : plainName "java/lang/StringUTF16" = true := by first | (simp [plainName, overriddenIn]; done) | decide +kernel
-- java/lang/StringUTF16.compress
set_option maxRecDepth 65536 in
set_option maxHeartbeats 4000000 in
theorem au_27 (l : Launch) (Z : State) (a0 : Array Value) (hw : ∀ d ∈ tables_1, d.before a0 Z = true) (x0 : Addr) (x1 : Addr) (kk0 : ClassId) (p0 : Int32) (kk1 : ClassId) (h0 : Heap) (n0 : Nat) (Z0 : n0 ≤ h0.size) (P0 : Arv Z h0 x0 kk0 .char (1 : Int32) [(.int p0)] (.int 0)) (P2 : Arv Z h0 x1 kk1 .byte (1 : Int32) [(.int 0)] (.int 0)) (P3 : Exa Z h0 x1 "[B") (R_p0 : 0 ≤ p0.toInt ∧ p0.toInt ≤ 255) (g_x1 : n0 ≤ x1) :
    Ctr l Z (⟨"java/lang/StringUTF16", "compress", "([CI[BII)I"⟩ : MethodName) jdk_52_method_21_code 7 (some .int) ({ frames := 0, cells := 0, slots := 0, locals := 0 } : Room) #[(.ref x0), (.int 0), (.ref x1), (.int 0), (.int 1)] h0 (fun v h L => ∃ (z1 : Int32), (p0.toInt8.toInt32) = z1 ∧ v = some (.int 1) ∧ Fr n0 L ∧ Keep h0 h [x1] ∧ Arv Z h x1 kk1 .byte (1 : Int32) [(.int z1)] (.int 0) ∧ Exa Z h x1 "[B") := by
  refine Ctr.of (plainFor_of_name pn_c6) ?_
  intro p e s m below meth c T0 hx hZ hby hml hown hnm hret hlk e0 es X0
  refine Go.cast (ef_21_RIRII m x0 (0 : Int32) x1 (0 : Int32) (1 : Int32)) ?_
  generalize hFF : EndN s _ _ _ = FF
  refine Go.iconst X0 hx (pc' := 1) rfl (hb hby d21_0) (v := (0 : Int32)) rfl ?_
  refine Go.istore X0 hx (pc' := 3) rfl (hb hby d21_1) (Ls' := #[.val (.ref x0), .val (.int 0), .val (.ref x1), .val (.int 0), .val (.int 1), .val (.int 0), .unset]) rfl ?_
  refine Go.iload X0 hx (pc' := 5) rfl (hb hby d21_3) rfl ?_
  refine Go.iload X0 hx (pc' := 7) rfl (hb hby d21_5) rfl ?_
  refine Go.icmpNo X0 hx (pc' := 10) rfl (hb hby d21_7) (by decide) ?_
  refine Go.aloadN X0 hx (pc' := 11) rfl (hb hby d21_10) rfl rfl ?_
  refine Go.iloadN X0 hx (pc' := 12) rfl (hb hby d21_11) rfl ?_
  refine Go.caload X0 hx hZ e0 P0 (v := (.int p0)) ⟨by decide, by decide⟩ rfl (pc' := 13) rfl (hb hby d21_12) ?_
  refine Go.istore X0 hx (pc' := 15) rfl (hb hby d21_13) (Ls' := #[.val (.ref x0), .val (.int 0), .val (.ref x1), .val (.int 0), .val (.int 1), .val (.int 0), .val (.int p0)]) rfl ?_
  refine Go.iload X0 hx (pc' := 17) rfl (hb hby d21_15) rfl ?_
  refine Go.sipush X0 hx (pc' := 20) rfl (hb hby d21_17) (v := (255 : Int32)) (by decide) ?_
  refine Go.icmpYes X0 hx (pc' := 26) (hb hby d21_20) (flt (own_nlt_r (own_rlit (n := 255) (by decide)) R_p0 (by decide))).2.2.2 (by decide) (by decide) ?_
  refine Go.aloadN X0 hx (pc' := 27) rfl (hb hby d21_26) rfl rfl ?_
  refine Go.iloadN X0 hx (pc' := 28) rfl (hb hby d21_27) rfl ?_
  refine Go.iload X0 hx (pc' := 30) rfl (hb hby d21_28) rfl ?_
  refine Go.i2b X0 hx (pc' := 31) rfl (hb hby d21_30) ?_
  generalize hz1 : (p0.toInt8.toInt32) = z1
  have r2 : -128 ≤ z1.toInt ∧ z1.toInt ≤ 127 := own_ri2b hz1
  refine Go.bastore X0 hx hZ e0 P2 z1 (own_nar_byte r2 (by decide) (by decide)) ⟨by decide, by decide⟩ 0 rfl (Nat.le_of_ble_eq_true rfl) (pc' := 32) rfl (hb hby d21_31) ?_
  intro T3 h3 e3 W3 V3 X3
  have N3 := Fr.snoc X3 (Fr.nil n0) g_x1
  refine Go.iinc X3 hx (pc' := 35) rfl (hb hby d21_32) rfl (y := (1 : Int32)) (by decide) (Ls' := #[.val (.ref x0), .val (.int 1), .val (.ref x1), .val (.int 0), .val (.int 1), .val (.int 0), .val (.int p0)]) rfl ?_
  refine Go.iinc X3 hx (pc' := 38) rfl (hb hby d21_35) rfl (y := (1 : Int32)) (by decide) (Ls' := #[.val (.ref x0), .val (.int 1), .val (.ref x1), .val (.int 1), .val (.int 1), .val (.int 0), .val (.int p0)]) rfl ?_
  refine Go.iinc X3 hx (pc' := 41) rfl (hb hby d21_38) rfl (y := (1 : Int32)) (by decide) (Ls' := #[.val (.ref x0), .val (.int 1), .val (.ref x1), .val (.int 1), .val (.int 1), .val (.int 1), .val (.int p0)]) rfl ?_
  refine Go.goto X3 hx (pc' := 3) (hb hby d21_41) (by decide) (by decide) ?_
  refine Go.iload X3 hx (pc' := 5) rfl (hb hby d21_3) rfl ?_
  refine Go.iload X3 hx (pc' := 7) rfl (hb hby d21_5) rfl ?_
  refine Go.icmpYes X3 hx (pc' := 44) (hb hby d21_7) (by decide) (by decide) (by decide) ?_
  refine Go.iload X3 hx (pc' := 46) rfl (hb hby d21_44) rfl ?_
  subst hFF
  refine Go.retI X3 hx hlk hret (hb hby d21_46) (by decide) (by decide) ?_
  rw [e3]
  have V4 : Arv Z h3 x1 kk1 .byte (1 : Int32) [(.int z1)] (.int 0) := V3
  have fk5 : Exa Z h3 x1 "[B" := (P3.wr W3)
  have Kp6 : Keep h0 h3 [x1] := ((Keep.refl h0 [x1]).wr W3 (Or.inl (List.mem_of_getElem? (i := 0) rfl)))
  exact ⟨z1, hz1, rfl, N3, Kp6, V4, fk5⟩
theorem pd_17 : parseMethodDescriptor "([CI[BII)I" = some ⟨[(.array .char), .int, (.array .byte), .int, .int], some .int⟩ := by decide +kernel
theorem d20_9 : decode jdk_52_method_16_code 9 = .ok (.invokestatic 115, 3) := by decide +kernel
theorem d20_12 : decode jdk_52_method_16_code 12 = .ok (.istore 4, 2) := by decide +kernel
theorem d20_14 : decode jdk_52_method_16_code 14 = .ok (.iload 4, 2) := by decide +kernel
theorem d20_16 : decode jdk_52_method_16_code 16 = .ok (.iload_n 2, 1) := by decide +kernel
theorem d20_17 : decode jdk_52_method_16_code 17 = .ok (.if_icmp .eq 40, 3) := by decide +kernel
theorem d20_57 : decode jdk_52_method_16_code 57 = .ok (.aload_n 3, 1) := by decide +kernel
theorem d20_58 : decode jdk_52_method_16_code 58 = .ok (.areturn, 1) := by decide +kernel
theorem ef_20_RII (m : MethodId) (x0 : Addr) (x1 : Int32) (x2 : Int32) : entryFrame m #[(.ref x0), (.int x1), (.int x2)] 6 = mkF m 0 #[.val (.ref x0), .val (.int x1), .val (.int x2), .unset, .unset, .unset] [] := by first | (simp [entryFrame, mkF, argsToLocals, Value.category]; done) | rfl
-- java/lang/StringUTF16.compress
set_option maxRecDepth 65536 in
set_option maxHeartbeats 4000000 in
theorem au_26 (l : Launch) (Z : State) (a0 : Array Value) (hw : ∀ d ∈ tables_1, d.before a0 Z = true) (x0 : Addr) (kk0 : ClassId) (p0 : Int32) (h0 : Heap) (n0 : Nat) (Z0 : n0 ≤ h0.size) (P0 : Arv Z h0 x0 kk0 .char (1 : Int32) [(.int p0)] (.int 0)) (R_p0 : 0 ≤ p0.toInt ∧ p0.toInt ≤ 255) :
    Ctr l Z (⟨"java/lang/StringUTF16", "compress", "([CII)[B"⟩ : MethodName) jdk_52_method_16_code 6 (some (.array .byte)) ({ frames := 1, cells := 1, slots := 1, locals := 18 } : Room) #[(.ref x0), (.int 0), (.int 1)] h0 (fun v h L => ∃ (z7_0 : Int32) (b1 : Addr) (k1 : ClassId), (p0.toInt8.toInt32) = z7_0 ∧ v = some (.ref b1) ∧ Fr n0 L ∧ Keep h0 h [] ∧ h0.size ≤ b1 ∧ Arv Z h b1 k1 .byte (1 : Int32) [(.int z7_0)] (.int 0) ∧ Exa Z h b1 "[B") := by
  refine Ctr.of (plainFor_of_name pn_c6) ?_
  intro p e s m below meth c T0 hx hZ hby hml hown hnm hret hlk e0 es X0
  refine Go.cast (ef_20_RII m x0 (0 : Int32) (1 : Int32)) ?_
  generalize hFF : EndN s _ _ _ = FF
  refine Go.iloadN X0 hx (pc' := 1) rfl (hb hby d20_0) rfl ?_
  refine Go.newarray X0 hx hZ (ty := .byte) rfl (tw_20 hw) e0 (by decide) (cap := 1) (by decide) (by decide) (by decide) (by decide) (ad := "[B") (by decide) 1 (pc' := 3) rfl (hb hby d20_1) ?_
  intro T1 h1 b1 k1 e1 E1 g1 V1 A1 X1
  have V1' : Arv Z h1 b1 k1 .byte (1 : Int32) [(.int 0)] (.int 0) := V1
  refine Go.astoreN X1 hx (pc' := 4) rfl (hb hby d20_3) (Ls' := #[.val (.ref x0), .val (.int 0), .val (.int 1), .val (.ref b1), .unset, .unset]) rfl rfl ?_
  refine Go.aloadN X1 hx (pc' := 5) rfl (hb hby d20_4) rfl rfl ?_
  refine Go.iloadN X1 hx (pc' := 6) rfl (hb hby d20_5) rfl ?_
  refine Go.aloadN X1 hx (pc' := 7) rfl (hb hby d20_6) rfl rfl ?_
  refine Go.iconst X1 hx (pc' := 8) rfl (hb hby d20_7) (v := (0 : Int32)) rfl ?_
  refine Go.iloadN X1 hx (pc' := 9) rfl (hb hby d20_8) rfl ?_
  have Kp3 : Keep h0 h1 [] := ((Keep.refl h0 []).ext E1)
  have Zn2 : n0 ≤ h1.size := Nat.le_trans Z0 Kp3.1
  have fk4 := (P0.ext E1)
  have sz6 : h0.size ≤ b1 := Nat.le_trans (Keep.refl h0 []).1 (Nat.le_of_eq g1.symm)
  have ge5 : n0 ≤ b1 := Nat.le_trans Z0 sz6
  refine Go.callS X1 hx hZ hown (tw_102 hw) (tw_103 hw) (tw_100 hw) (tw_104 hw) (by decide) (tw_104 hw) (tw_100 hw) (au_27 l Z a0 hw x0 b1 kk0 p0 k1 h1 n0 Zn2 fk4 V1' A1 R_p0 ge5) e1 (argsL := [(.ref x0), (.int 0), (.ref b1), (.int 0), (.int 1)]) (rest := []) (pc' := 12) rfl (by rw [hml]; rfl) (lenOf pd_17 rfl) rfl rfl (W := 0) (Nat.le_of_eq rfl) (by decide) (by decide) (by decide) (by decide) (hb hby d20_9) ?_
  intro v7 T7 L7 q7 X7
  obtain ⟨h7, e7⟩ : ∃ z, T7.heap = z := ⟨_, rfl⟩
  rw [e7] at q7
  obtain ⟨z7_0, d7_0, rfl, N7, K7, F7_0, F7_1⟩ := q7
  show Go _ _ _ _ (T7.setTop (mkF m 12 #[.val (.ref x0), .val (.int 0), .val (.int 1), .val (.ref b1), .unset, .unset] [(.int 1)]))
  refine Go.istore X7 hx (pc' := 14) rfl (hb hby d20_12) (Ls' := #[.val (.ref x0), .val (.int 0), .val (.int 1), .val (.ref b1), .val (.int 1), .unset]) rfl ?_
  refine Go.iload X7 hx (pc' := 16) rfl (hb hby d20_14) rfl ?_
  refine Go.iloadN X7 hx (pc' := 17) rfl (hb hby d20_16) rfl ?_
  refine Go.icmpYes X7 hx (pc' := 57) (hb hby d20_17) (by decide) (by decide) (by decide) ?_
  refine Go.aloadN X7 hx (pc' := 58) rfl (hb hby d20_57) rfl rfl ?_
  subst hFF
  refine Go.retR X7 hx hlk (t := (.array .byte)) hret rfl rfl (hb hby d20_58) (by decide) (by decide) ?_
  rw [e7]
  have Kp8 : Keep h0 h7 [] := (Kp3.trans K7 (allS (Or.inr sz6) all0))
  exact ⟨z7_0, b1, k1, d7_0, rfl, (Fr.app (Fr.nil n0) N7), Kp8, sz6, F7_0, F7_1⟩
theorem pd_18 : parseMethodDescriptor "([CII)[B" = some ⟨[(.array .char), .int, .int], some (.array .byte)⟩ := by decide +kernel
theorem d3_36 : decode jdk_42_method_149_code 36 = .ok (.invokestatic 177, 3) := by decide +kernel
theorem d3_39 : decode jdk_42_method_149_code 39 = .ok (.astore 5, 2) := by decide +kernel
theorem d3_41 : decode jdk_42_method_149_code 41 = .ok (.aload_n 0, 1) := by decide +kernel
theorem d3_42 : decode jdk_42_method_149_code 42 = .ok (.aload 5, 2) := by decide +kernel
theorem d3_44 : decode jdk_42_method_149_code 44 = .ok (.iload_n 3, 1) := by decide +kernel
theorem d22_0 : decode jdk_52_method_15_code 0 = .ok (.iload_n 1, 1) := by decide +kernel
theorem d22_1 : decode jdk_52_method_15_code 1 = .ok (.aload_n 0, 1) := by decide +kernel
theorem d22_2 : decode jdk_52_method_15_code 2 = .ok (.arraylength, 1) := by decide +kernel
theorem d22_3 : decode jdk_52_method_15_code 3 = .ok (.isub, 1) := by decide +kernel
theorem d22_4 : decode jdk_52_method_15_code 4 = .ok (.bipush 31, 2) := by decide +kernel
theorem d22_6 : decode jdk_52_method_15_code 6 = .ok (.iushr, 1) := by decide +kernel
theorem d22_7 : decode jdk_52_method_15_code 7 = .ok (.i2b, 1) := by decide +kernel
theorem d22_8 : decode jdk_52_method_15_code 8 = .ok (.ireturn, 1) := by decide +kernel
theorem ef_22_RI (m : MethodId) (x0 : Addr) (x1 : Int32) : entryFrame m #[(.ref x0), (.int x1)] 2 = mkF m 0 #[.val (.ref x0), .val (.int x1)] [] := by first | (simp [entryFrame, mkF, argsToLocals, Value.category]; done) | rfl
-- java/lang/StringUTF16.coderFromArrayLen
set_option maxRecDepth 65536 in
set_option maxHeartbeats 4000000 in
theorem au_28 (l : Launch) (Z : State) (a0 : Array Value) (hw : ∀ d ∈ tables_1, d.before a0 Z = true) (x0 : Addr) (kk0 : ClassId) (p0 : Int32) (h0 : Heap) (n0 : Nat) (Z0 : n0 ≤ h0.size) (P0 : Arv Z h0 x0 kk0 .byte (1 : Int32) [(.int p0)] (.int 0)) :
    Ctr l Z (⟨"java/lang/StringUTF16", "coderFromArrayLen", "([BI)B"⟩ : MethodName) jdk_52_method_15_code 2 (some .byte) ({ frames := 0, cells := 0, slots := 0, locals := 0 } : Room) #[(.ref x0), (.int 1)] h0 (fun v h L => v = some (.int 0) ∧ Fr n0 L ∧ h = h0) := by
  refine Ctr.of (plainFor_of_name pn_c6) ?_
  intro p e s m below meth c T0 hx hZ hby hml hown hnm hret hlk e0 es X0
  refine Go.cast (ef_22_RI m x0 (1 : Int32)) ?_
  generalize hFF : EndN s _ _ _ = FF
  refine Go.iloadN X0 hx (pc' := 1) rfl (hb hby d22_0) rfl ?_
  refine Go.aloadN X0 hx (pc' := 2) rfl (hb hby d22_1) rfl rfl ?_
  refine Go.arraylength X0 hx hZ e0 P0 (pc' := 3) rfl (hb hby d22_2) ?_
  refine Go.isub X0 hx (pc' := 4) rfl (hb hby d22_3) ?_
  rw [show ((1 : Int32) - (1 : Int32)) = (0 : Int32) from by decide]
  refine Go.bipush X0 hx (pc' := 6) rfl (hb hby d22_4) (v := (31 : Int32)) (by decide) ?_
  refine Go.iushr X0 hx (pc' := 7) rfl (hb hby d22_6) ?_
  rw [show (((0 : Int32).toUInt32 >>> ((31 : Int32) &&& 31).toUInt32).toInt32) = (0 : Int32) from by decide]
  refine Go.i2b X0 hx (pc' := 8) rfl (hb hby d22_7) ?_
  rw [show ((0 : Int32).toInt8.toInt32) = (0 : Int32) from by decide]
  subst hFF
  refine Go.retN X0 hx hlk (t := .byte) hret (by simp) (hb hby d22_8) (by decide) (by decide) ?_
  rw [e0]
  exact ⟨(congrArg (fun z => some (Value.int z)) (by decide : nar .byte (0 : Int32) = (0 : Int32))), (Fr.nil n0), rfl⟩
theorem pd_19 : parseMethodDescriptor "([BI)B" = some ⟨[(.array .byte), .int], some .byte⟩ := by decide +kernel
theorem d3_45 : decode jdk_42_method_149_code 45 = .ok (.invokestatic 47, 3) := by decide +kernel
theorem d3_48 : decode jdk_42_method_149_code 48 = .ok (.putfield 15, 3) := by decide +kernel
theorem d3_51 : decode jdk_42_method_149_code 51 = .ok (.aload_n 0, 1) := by decide +kernel
theorem d3_52 : decode jdk_42_method_149_code 52 = .ok (.aload 5, 2) := by decide +kernel
theorem d3_54 : decode jdk_42_method_149_code 54 = .ok (.putfield 9, 3) := by decide +kernel
theorem d3_57 : decode jdk_42_method_149_code 57 = .ok (.return_, 1) := by decide +kernel
-- java/lang/String.init
set_option maxRecDepth 65536 in
set_option maxHeartbeats 4000000 in
theorem au_25 (l : Launch) (Z : State) (a0 : Array Value) (hw : ∀ d ∈ tables_1, d.before a0 Z = true) (x0 : Addr) (x1 : Addr) (kk0 : ClassId) (p0 : Int32) (gz1 : Int32) (gv5 : Value) (h0 : Heap) (n0 : Nat) (Z0 : n0 ≤ h0.size) (O0 : Old Z n0 h0) (G : Glob Z gz1 gv5) (P0 : Exa Z h0 x0 "java/lang/String") (P1 : Fld Z h0 x0 "java/lang/String" "coder" "B" (.int 0)) (P2 : Fld Z h0 x0 "java/lang/String" "value" "[B" .null) (P3 : Arv Z h0 x1 kk0 .char (1 : Int32) [(.int p0)] (.int 0)) (R_p0 : 0 ≤ p0.toInt ∧ p0.toInt ≤ 255) (g_x0 : n0 ≤ x0) :
    Ctr l Z (⟨"java/lang/String", "<init>", "([CIILjava/lang/Void;)V"⟩ : MethodName) jdk_42_method_149_code 6 none ({ frames := 2, cells := 1, slots := 1, locals := 35 } : Room) #[(.ref x0), (.ref x1), (.int 0), (.int 1), .null] h0 (fun v h L => ∃ (z4_0 : Int32) (b4_0 : Addr) (k4_0 : ClassId), (p0.toInt8.toInt32) = z4_0 ∧ v = none ∧ Fr n0 L ∧ Keep h0 h [x0] ∧ h0.size ≤ b4_0 ∧ Exa Z h x0 "java/lang/String" ∧ Fld Z h x0 "java/lang/String" "coder" "B" (.int 0) ∧ Fld Z h x0 "java/lang/String" "value" "[B" (.ref b4_0) ∧ Arv Z h b4_0 k4_0 .byte (1 : Int32) [(.int z4_0)] (.int 0) ∧ Exa Z h b4_0 "[B") := by
  refine Ctr.of (plainFor_of_name pn_c1) ?_
  intro p e s m below meth c T0 hx hZ hby hml hown hnm hret hlk e0 es X0
  have G' := G
  obtain ⟨G0, -, G2, -⟩ := G'
  refine Go.cast (ef_3_RRIIN m x0 x1 (0 : Int32) (1 : Int32)) ?_
  generalize hFF : EndN s _ _ _ = FF
  refine Go.aloadN X0 hx (pc' := 1) rfl (hb hby d3_0) rfl rfl ?_
  refine Go.initO X0 hx hZ hown (tw_16 hw) (tw_17 hw) (tw_18 hw) e0 (by decide) (W := 0) (by rw [hml]; rfl) (Nat.le_of_eq rfl) (by decide) (pc' := 4) rfl (hb hby d3_1) ?_
  intro T1 e1 X1
  refine Go.iloadN X1 hx (pc' := 5) rfl (hb hby d3_4) rfl ?_
  refine Go.ifYes X1 hx (pc' := 27) (hb hby d3_5) (by decide) (by decide) (by decide) ?_
  have fk2 : Sta Z h0 "java/lang/String" "COMPACT_STRINGS" "Z" (.int gz1) := G0.ext O0.2
  refine Go.getS X1 hx hZ hown (host := "") (Or.inl (tw_38 hw)) Via.refl e1 fk2 (pc' := 30) rfl (hb hby d3_27) ?_
  intro T3 e3 X3
  refine Go.ifNo X3 hx (pc' := 33) rfl (hb hby d3_30) (feq G2).1 ?_
  refine Go.aloadN X3 hx (pc' := 34) rfl (hb hby d3_33) rfl rfl ?_
  refine Go.iloadN X3 hx (pc' := 35) rfl (hb hby d3_34) rfl ?_
  refine Go.iloadN X3 hx (pc' := 36) rfl (hb hby d3_35) rfl ?_
  refine Go.callS X3 hx hZ hown (tw_98 hw) (tw_99 hw) (tw_100 hw) (tw_101 hw) (by decide) (tw_101 hw) (tw_100 hw) (au_26 l Z a0 hw x1 kk0 p0 h0 n0 Z0 P3 R_p0) e3 (argsL := [(.ref x1), (.int 0), (.int 1)]) (rest := []) (pc' := 39) rfl (by rw [hml]; rfl) (lenOf pd_18 rfl) rfl rfl (W := 0) (Nat.le_of_eq rfl) (by decide) (by decide) (by decide) (by decide) (hb hby d3_36) ?_
  intro v4 T4 L4 q4 X4
  obtain ⟨h4, e4⟩ : ∃ z, T4.heap = z := ⟨_, rfl⟩
  rw [e4] at q4
  obtain ⟨z4_0, b4_0, k4_0, d4_0, rfl, N4, K4, s4_0, F4_0, F4_1⟩ := q4
  show Go _ _ _ _ (T4.setTop (mkF m 39 #[.val (.ref x0), .val (.ref x1), .val (.int 0), .val (.int 1), .val .null, .unset] [(.ref b4_0)]))
  refine Go.astore X4 hx (pc' := 41) rfl (hb hby d3_39) (Ls' := #[.val (.ref x0), .val (.ref x1), .val (.int 0), .val (.int 1), .val .null, .val (.ref b4_0)]) rfl rfl ?_
  refine Go.aloadN X4 hx (pc' := 42) rfl (hb hby d3_41) rfl rfl ?_
  refine Go.aload X4 hx (pc' := 44) rfl (hb hby d3_42) rfl rfl ?_
  refine Go.iloadN X4 hx (pc' := 45) rfl (hb hby d3_44) rfl ?_
  have r5 : -128 ≤ z4_0.toInt ∧ z4_0.toInt ≤ 127 := own_ri2b d4_0
  have Kp7 : Keep h0 h4 [x0] := ((Keep.refl h0 [x0]).trans K4 all0)
  have Zn6 : n0 ≤ h4.size := Nat.le_trans Z0 Kp7.1
  refine Go.callS X4 hx hZ hown (tw_105 hw) (tw_106 hw) (tw_100 hw) (tw_107 hw) (by decide) (tw_107 hw) (tw_100 hw) (au_28 l Z a0 hw b4_0 k4_0 z4_0 h4 n0 Zn6 F4_0) e4 (argsL := [(.ref b4_0), (.int 1)]) (rest := [(.ref x0)]) (pc' := 48) rfl (by rw [hml]; rfl) (lenOf pd_19 rfl) rfl rfl (W := 1) (Nat.le_of_eq rfl) (by decide) (by decide) (by decide) (by decide) (hb hby d3_45) ?_
  intro v8 T8 L8 q8 X8
  obtain ⟨rfl, N8, e8⟩ := q8
  show Go _ _ _ _ (T8.setTop (mkF m 48 #[.val (.ref x0), .val (.ref x1), .val (.int 0), .val (.int 1), .val .null, .val (.ref b4_0)] [(.int 0), (.ref x0)]))
  have fk9 : Fld Z h4 x0 "java/lang/String" "coder" "B" (.int 0) := (P1.keep K4 nin0)
  have fk10 : Exa Z h4 x0 "java/lang/String" := (P0.keep K4)
  refine Go.putFN X8 hx hZ hown (tw_26 hw) Via.refl e8 fk9 fk10 (Or.inr ⟨(tw_22 hw), rfl, hnm⟩) (tw_7 hw) (ty := .byte) (v' := (.int 0)) (by decide) (by decide) (by decide) (pc' := 51) rfl (hb hby d3_48) ?_
  intro T11 h11 e11 W11 F11 X11
  have N11 := Fr.snoc X11 (Fr.app (Fr.app (Fr.nil n0) N4) N8) g_x0
  refine Go.aloadN X11 hx (pc' := 52) rfl (hb hby d3_51) rfl rfl ?_
  refine Go.aload X11 hx (pc' := 54) rfl (hb hby d3_52) rfl rfl ?_
  have fk12 : Fld Z h11 x0 "java/lang/String" "value" "[B" .null := ((P2.keep K4 nin0).other W11 (Or.inr (slot_ne (Or.inr (tw_21 hw)) (Or.inr (tw_22 hw)) (by decide) (t := (.array .byte)) (t' := .byte) (by decide) (by decide))))
  have fk13 : Exa Z h11 x0 "java/lang/String" := (fk10.wr W11)
  refine Go.putF X11 hx hZ hown (host := "") (Or.inl (tw_25 hw)) Via.refl e11 fk12 fk13 (Or.inr ⟨(tw_21 hw), rfl, hnm⟩) (tw_7 hw) (ty := (.array .byte)) (by decide) rfl rfl (pc' := 57) rfl (hb hby d3_54) ?_
  intro T14 h14 e14 W14 F14 X14
  have N14 := Fr.snoc X14 N11 g_x0
  subst hFF
  refine Go.ret0 X14 hx hlk hret (hb hby d3_57) (by decide) (by decide) ?_
  rw [e14]
  have fk15 : Exa Z h14 x0 "java/lang/String" := (fk13.wr W14)
  have fk16 : Fld Z h14 x0 "java/lang/String" "coder" "B" (.int 0) := (F11.other W14 (Or.inr (slot_ne (Or.inr (tw_22 hw)) (Or.inr (tw_21 hw)) (by decide) (t := .byte) (t' := (.array .byte)) (by decide) (by decide))))
  have ne17 : x0 ≠ b4_0 := Nat.ne_of_lt (Nat.lt_of_lt_of_le P0.lt s4_0)
  have fk18 := ((F4_0.other W11 (Ne.symm ne17)).other W14 (Ne.symm ne17))
  have fk19 : Exa Z h14 b4_0 "[B" := ((F4_1.wr W11).wr W14)
  have Kp20 : Keep h0 h11 [x0] := (Kp7.wr W11 (Or.inl (List.mem_of_getElem? (i := 0) rfl)))
  have Kp21 : Keep h0 h14 [x0] := (Kp20.wr W14 (Or.inl (List.mem_of_getElem? (i := 0) rfl)))
  have sz22 : h0.size ≤ b4_0 := Nat.le_trans (Keep.refl h0 [x0]).1 s4_0
  exact ⟨z4_0, b4_0, k4_0, d4_0, rfl, N14, Kp21, sz22, fk15, fk16, F14, fk18, fk19⟩
-- java/lang/String.init
set_option maxRecDepth 65536 in
set_option maxHeartbeats 4000000 in
theorem au_24 (l : Launch) (Z : State) (a0 : Array Value) (hw : ∀ d ∈ tables_1, d.before a0 Z = true) (x0 : Addr) (x1 : Addr) (kk0 : ClassId) (p0 : Int32) (gz1 : Int32) (gv5 : Value) (h0 : Heap) (n0 : Nat) (Z0 : n0 ≤ h0.size) (O0 : Old Z n0 h0) (G : Glob Z gz1 gv5) (P0 : Exa Z h0 x0 "java/lang/String") (P1 : Fld Z h0 x0 "java/lang/String" "coder" "B" (.int 0)) (P2 : Fld Z h0 x0 "java/lang/String" "value" "[B" .null) (P3 : Arv Z h0 x1 kk0 .char (1 : Int32) [(.int p0)] (.int 0)) (R_p0 : 0 ≤ p0.toInt ∧ p0.toInt ≤ 255) (g_x0 : n0 ≤ x0) :
    Ctr l Z (⟨"java/lang/String", "<init>", "([C)V"⟩ : MethodName) jdk_42_method_3_code 2 none ({ frames := 3, cells := 1, slots := 1, locals := 52 } : Room) #[(.ref x0), (.ref x1)] h0 (fun v h L => ∃ (z1_0 : Int32) (b1_0 : Addr) (k1_0 : ClassId), (p0.toInt8.toInt32) = z1_0 ∧ v = none ∧ Fr n0 L ∧ Keep h0 h [x0] ∧ h0.size ≤ b1_0 ∧ Exa Z h x0 "java/lang/String" ∧ Fld Z h x0 "java/lang/String" "coder" "B" (.int 0) ∧ Fld Z h x0 "java/lang/String" "value" "[B" (.ref b1_0) ∧ Arv Z h b1_0 k1_0 .byte (1 : Int32) [(.int z1_0)] (.int 0) ∧ Exa Z h b1_0 "[B") := by
  refine Ctr.of (plainFor_of_name pn_c1) ?_
  intro p e s m below meth c T0 hx hZ hby hml hown hnm hret hlk e0 es X0
  refine Go.cast (ef_2_RR m x0 x1) ?_
  generalize hFF : EndN s _ _ _ = FF
  refine Go.aloadN X0 hx (pc' := 1) rfl (hb hby d2_0) rfl rfl ?_
  refine Go.aloadN X0 hx (pc' := 2) rfl (hb hby d2_1) rfl rfl ?_
  refine Go.iconst X0 hx (pc' := 3) rfl (hb hby d2_2) (v := (0 : Int32)) rfl ?_
  refine Go.aloadN X0 hx (pc' := 4) rfl (hb hby d2_3) rfl rfl ?_
  refine Go.arraylength X0 hx hZ e0 P3 (pc' := 5) rfl (hb hby d2_4) ?_
  refine Go.anull X0 hx (pc' := 6) rfl (hb hby d2_5) ?_
  refine Go.callN X0 hx hZ hown rfl (tw_12 hw) (tw_13 hw) (tw_15 hw) (by decide) (tw_15 hw) (tw_8 hw) (au_25 l Z a0 hw x0 x1 kk0 p0 gz1 gv5 h0 n0 Z0 O0 G P0 P1 P2 P3 R_p0 g_x0) e0 (a := x0) (argsL := [(.ref x1), (.int 0), (.int 1), .null]) (rest := []) (pc' := 9) rfl (by rw [hml]; rfl) (lenOf pd_1 rfl) rfl rfl (W := 0) (Nat.le_of_eq rfl) (by decide) (by decide) (by decide) (by decide) (hb hby d2_6) ?_
  intro v1 T1 L1 q1 X1
  obtain ⟨h1, e1⟩ : ∃ z, T1.heap = z := ⟨_, rfl⟩
  rw [e1] at q1
  obtain ⟨z1_0, b1_0, k1_0, d1_0, rfl, N1, K1, s1_0, F1_0, F1_1, F1_2, F1_3, F1_4⟩ := q1
  show Go _ _ _ _ (T1.setTop (mkF m 9 #[.val (.ref x0), .val (.ref x1)] []))
  subst hFF
  refine Go.ret0 X1 hx hlk hret (hb hby d2_9) (by decide) (by decide) ?_
  rw [e1]
  have Kp2 : Keep h0 h1 [x0] := ((Keep.refl h0 [x0]).trans K1 (allS (Or.inl (List.mem_of_getElem? (i := 0) rfl)) all0))
  have sz3 : h0.size ≤ b1_0 := Nat.le_trans (Keep.refl h0 [x0]).1 s1_0
  exact ⟨z1_0, b1_0, k1_0, d1_0, rfl, (Fr.app (Fr.nil n0) N1), Kp2, sz3, F1_0, F1_1, F1_2, F1_3, F1_4⟩
theorem d7_7 : decode jdk_43_method_13_code 7 = .ok (.iconst 0, 1) := by decide +kernel
theorem d7_8 : decode jdk_43_method_13_code 8 = .ok (.istore_n 2, 1) := by decide +kernel
theorem d7_9 : decode jdk_43_method_13_code 9 = .ok (.iload_n 2, 1) := by decide +kernel
theorem d7_10 : decode jdk_43_method_13_code 10 = .ok (.aload_n 0, 1) := by decide +kernel
theorem d7_11 : decode jdk_43_method_13_code 11 = .ok (.arraylength, 1) := by decide +kernel
theorem d7_12 : decode jdk_43_method_13_code 12 = .ok (.if_icmp .ge 20, 3) := by decide +kernel
theorem d7_15 : decode jdk_43_method_13_code 15 = .ok (.aload_n 0, 1) := by decide +kernel
theorem d7_16 : decode jdk_43_method_13_code 16 = .ok (.iload_n 2, 1) := by decide +kernel
theorem d7_17 : decode jdk_43_method_13_code 17 = .ok (.baload, 1) := by decide +kernel
theorem d7_18 : decode jdk_43_method_13_code 18 = .ok (.aload_n 1, 1) := by decide +kernel
theorem d7_19 : decode jdk_43_method_13_code 19 = .ok (.iload_n 2, 1) := by decide +kernel
theorem d7_20 : decode jdk_43_method_13_code 20 = .ok (.baload, 1) := by decide +kernel
theorem d7_21 : decode jdk_43_method_13_code 21 = .ok (.if_icmp .eq 5, 3) := by decide +kernel
theorem d7_26 : decode jdk_43_method_13_code 26 = .ok (.iinc 2 1, 3) := by decide +kernel
theorem d7_29 : decode jdk_43_method_13_code 29 = .ok (.goto (-20), 3) := by decide +kernel
theorem d7_32 : decode jdk_43_method_13_code 32 = .ok (.iconst 1, 1) := by decide +kernel
theorem d7_33 : decode jdk_43_method_13_code 33 = .ok (.ireturn, 1) := by decide +kernel
theorem d7_24 : decode jdk_43_method_13_code 24 = .ok (.iconst 0, 1) := by decide +kernel
theorem d7_25 : decode jdk_43_method_13_code 25 = .ok (.ireturn, 1) := by decide +kernel
-- java/lang/StringLatin1.equals
set_option maxRecDepth 65536 in
set_option maxHeartbeats 4000000 in
theorem au_32 (l : Launch) (Z : State) (a0 : Array Value) (hw : ∀ d ∈ tables_1, d.before a0 Z = true) (x0 : Addr) (x1 : Addr) (kk0 : ClassId) (p0 : Int32) (kk1 : ClassId) (p1 : Int32) (h0 : Heap) (n0 : Nat) (Z0 : n0 ≤ h0.size) (P0 : Arv Z h0 x0 kk0 .byte (1 : Int32) [(.int p0)] (.int 0)) (P2 : Arv Z h0 x1 kk1 .byte (1 : Int32) [(.int 47)] (.int (0 : Int32))) (R_p1 : 0 ≤ p1.toInt ∧ p1.toInt ≤ 255) (B_p0 : (p1.toInt8.toInt32) = p0) :
    Ctr l Z (⟨"java/lang/StringLatin1", "equals", "([B[B)Z"⟩ : MethodName) jdk_43_method_13_code 3 (some .boolean) ({ frames := 0, cells := 0, slots := 0, locals := 0 } : Room) #[(.ref x0), (.ref x1)] h0 (fun v h L => (p1 = (47 : Int32) ∧ v = some (.int 1) ∧ Fr n0 L ∧ h = h0) ∨ (¬ (p1 = (47 : Int32)) ∧ v = some (.int 0) ∧ Fr n0 L ∧ h = h0)) := by
  refine Ctr.of (plainFor_of_name pn_c2) ?_
  intro p e s m below meth c T0 hx hZ hby hml hown hnm hret hlk e0 es X0
  refine Go.cast (ef_7_RR m x0 x1) ?_
  generalize hFF : EndN s _ _ _ = FF
  refine Go.aloadN X0 hx (pc' := 1) rfl (hb hby d7_0) rfl rfl ?_
  refine Go.arraylength X0 hx hZ e0 P0 (pc' := 2) rfl (hb hby d7_1) ?_
  refine Go.aloadN X0 hx (pc' := 3) rfl (hb hby d7_2) rfl rfl ?_
  refine Go.arraylength X0 hx hZ e0 P2 (pc' := 4) rfl (hb hby d7_3) ?_
  refine Go.icmpNo X0 hx (pc' := 7) rfl (hb hby d7_4) (by decide) ?_
  refine Go.iconst X0 hx (pc' := 8) rfl (hb hby d7_7) (v := (0 : Int32)) rfl ?_
  refine Go.istoreN X0 hx (pc' := 9) rfl (hb hby d7_8) (Ls' := #[.val (.ref x0), .val (.ref x1), .val (.int 0)]) rfl ?_
  refine Go.iloadN X0 hx (pc' := 10) rfl (hb hby d7_9) rfl ?_
  refine Go.aloadN X0 hx (pc' := 11) rfl (hb hby d7_10) rfl rfl ?_
  refine Go.arraylength X0 hx hZ e0 P0 (pc' := 12) rfl (hb hby d7_11) ?_
  refine Go.icmpNo X0 hx (pc' := 15) rfl (hb hby d7_12) (by decide) ?_
  refine Go.aloadN X0 hx (pc' := 16) rfl (hb hby d7_15) rfl rfl ?_
  refine Go.iloadN X0 hx (pc' := 17) rfl (hb hby d7_16) rfl ?_
  refine Go.baload X0 hx hZ e0 P0 (v := (.int p0)) ⟨by decide, by decide⟩ rfl (pc' := 18) rfl (hb hby d7_17) ?_
  refine Go.aloadN X0 hx (pc' := 19) rfl (hb hby d7_18) rfl rfl ?_
  refine Go.iloadN X0 hx (pc' := 20) rfl (hb hby d7_19) rfl ?_
  refine Go.baload X0 hx hZ e0 P2 (v := (.int 47)) ⟨by decide, by decide⟩ rfl (pc' := 21) rfl (hb hby d7_20) ?_
  by_cases hc1 : p1 = (47 : Int32)
  · refine Go.icmpYes X0 hx (pc' := 26) (hb hby d7_21) (teq (own_lat_eq B_p0 (by decide : ((47 : Int32)).toInt8.toInt32 = (47 : Int32)) hc1)).1 (by decide) (by decide) ?_
    refine Go.iinc X0 hx (pc' := 29) rfl (hb hby d7_26) rfl (y := (1 : Int32)) (by decide) (Ls' := #[.val (.ref x0), .val (.ref x1), .val (.int 1)]) rfl ?_
    refine Go.goto X0 hx (pc' := 9) (hb hby d7_29) (by decide) (by decide) ?_
    refine Go.iloadN X0 hx (pc' := 10) rfl (hb hby d7_9) rfl ?_
    refine Go.aloadN X0 hx (pc' := 11) rfl (hb hby d7_10) rfl rfl ?_
    refine Go.arraylength X0 hx hZ e0 P0 (pc' := 12) rfl (hb hby d7_11) ?_
    refine Go.icmpYes X0 hx (pc' := 32) (hb hby d7_12) (by decide) (by decide) (by decide) ?_
    refine Go.iconst X0 hx (pc' := 33) rfl (hb hby d7_32) (v := (1 : Int32)) rfl ?_
    subst hFF
    refine Go.retN X0 hx hlk (t := .boolean) hret (by simp) (hb hby d7_33) (by decide) (by decide) ?_
    rw [e0]
    exact Or.inl ⟨hc1, (congrArg (fun z => some (Value.int z)) (by decide : nar .boolean (1 : Int32) = (1 : Int32))), (Fr.nil n0), rfl⟩
  · refine Go.icmpNo X0 hx (pc' := 24) rfl (hb hby d7_21) (feq (own_lat_ne B_p0 (by decide : ((47 : Int32)).toInt8.toInt32 = (47 : Int32)) R_p1 (own_rlit (n := 47) (by decide)) (by decide) hc1)).1 ?_
    refine Go.iconst X0 hx (pc' := 25) rfl (hb hby d7_24) (v := (0 : Int32)) rfl ?_
    subst hFF
    refine Go.retN X0 hx hlk (t := .boolean) hret (by simp) (hb hby d7_25) (by decide) (by decide) ?_
    rw [e0]
    exact Or.inr (⟨hc1, (congrArg (fun z => some (Value.int z)) (by decide : nar .boolean (0 : Int32) = (0 : Int32))), (Fr.nil n0), rfl⟩)
theorem d6_50 : decode jdk_42_method_66_code 50 = .ok (.iconst 1, 1) := by decide +kernel
theorem d6_51 : decode jdk_42_method_66_code 51 = .ok (.goto 4, 3) := by decide +kernel
-- java/lang/String.equals
set_option maxRecDepth 65536 in
set_option maxHeartbeats 4000000 in
theorem au_31 (l : Launch) (Z : State) (a0 : Array Value) (hw : ∀ d ∈ tables_1, d.before a0 Z = true) (x0 : Addr) (x1 : Addr) (x2 : Addr) (x3 : Addr) (kk0 : ClassId) (p0 : Int32) (kk1 : ClassId) (p1 : Int32) (gz1 : Int32) (gv5 : Value) (h0 : Heap) (n0 : Nat) (Z0 : n0 ≤ h0.size) (O0 : Old Z n0 h0) (G : Glob Z gz1 gv5) (P1 : Fld Z h0 x0 "java/lang/String" "coder" "B" (.int 0)) (P2 : Fld Z h0 x0 "java/lang/String" "value" "[B" (.ref x2)) (P3 : Exa Z h0 x1 "java/lang/String") (P4 : Fld Z h0 x1 "java/lang/String" "coder" "B" (.int 0)) (P5 : Fld Z h0 x1 "java/lang/String" "value" "[B" (.ref x3)) (P6 : Arv Z h0 x2 kk0 .byte (1 : Int32) [(.int p0)] (.int 0)) (P8 : Arv Z h0 x3 kk1 .byte (1 : Int32) [(.int 47)] (.int (0 : Int32))) (R_p1 : 0 ≤ p1.toInt ∧ p1.toInt ≤ 255) (B_p0 : (p1.toInt8.toInt32) = p0) (ne_x0_x1 : x0 ≠ x1) :
    Ctr l Z (⟨"java/lang/String", "equals", "(Ljava/lang/Object;)Z"⟩ : MethodName) jdk_42_method_66_code 3 (some .boolean) ({ frames := 1, cells := 0, slots := 0, locals := 14 } : Room) #[(.ref x0), (.ref x1)] h0 (fun v h L => (p1 = (47 : Int32) ∧ v = some (.int 1) ∧ Fr n0 L ∧ h = h0) ∨ (¬ (p1 = (47 : Int32)) ∧ v = some (.int 0) ∧ Fr n0 L ∧ h = h0)) := by
  refine Ctr.of (plainFor_of_name pn_c1) ?_
  intro p e s m below meth c T0 hx hZ hby hml hown hnm hret hlk e0 es X0
  have G' := G
  obtain ⟨G0, -, G2, -⟩ := G'
  refine Go.cast (ef_6_RR m x0 x1) ?_
  generalize hFF : EndN s _ _ _ = FF
  refine Go.aloadN X0 hx (pc' := 1) rfl (hb hby d6_0) rfl rfl ?_
  refine Go.aloadN X0 hx (pc' := 2) rfl (hb hby d6_1) rfl rfl ?_
  refine Go.acmp X0 hx (pc' := 7) (same := false) (hb hby d6_2) rfl rfl (decide_eq_false (fun q => ne_x0_x1 (Value.ref.inj q))) (by decide) (by decide) ?_
  refine Go.aloadN X0 hx (pc' := 8) rfl (hb hby d6_7) rfl rfl ?_
  refine Go.instY X0 hx hZ hown (tw_37 hw) e0 (Ins.self P3) (pc' := 11) rfl (hb hby d6_8) ?_
  intro T1 e1 X1
  refine Go.ifNo X1 hx (pc' := 14) rfl (hb hby d6_11) (by decide) ?_
  refine Go.aloadN X1 hx (pc' := 15) rfl (hb hby d6_14) rfl rfl ?_
  refine Go.castY X1 hx hZ hown (tw_37 hw) e1 (Ins.self P3) (pc' := 18) rfl (hb hby d6_15) ?_
  intro T2 e2 X2
  refine Go.astoreN X2 hx (pc' := 19) rfl (hb hby d6_18) (Ls' := #[.val (.ref x0), .val (.ref x1), .val (.ref x1)]) rfl rfl ?_
  have fk3 : Sta Z h0 "java/lang/String" "COMPACT_STRINGS" "Z" (.int gz1) := G0.ext O0.2
  refine Go.getS X2 hx hZ hown (host := "") (Or.inl (tw_38 hw)) Via.refl e2 fk3 (pc' := 22) rfl (hb hby d6_19) ?_
  intro T4 e4 X4
  refine Go.ifNo X4 hx (pc' := 25) rfl (hb hby d6_22) (feq G2).1 ?_
  refine Go.aloadN X4 hx (pc' := 26) rfl (hb hby d6_25) rfl rfl ?_
  refine Go.getF X4 hx hZ hown (host := "") (Or.inl (tw_26 hw)) Via.refl e4 P1 (pc' := 29) rfl (hb hby d6_26) ?_
  intro T5 e5 X5
  refine Go.aloadN X5 hx (pc' := 30) rfl (hb hby d6_29) rfl rfl ?_
  refine Go.getF X5 hx hZ hown (host := "") (Or.inl (tw_26 hw)) Via.refl e5 P4 (pc' := 33) rfl (hb hby d6_30) ?_
  intro T6 e6 X6
  refine Go.icmpNo X6 hx (pc' := 36) rfl (hb hby d6_33) (by decide) ?_
  refine Go.aloadN X6 hx (pc' := 37) rfl (hb hby d6_36) rfl rfl ?_
  refine Go.getF X6 hx hZ hown (host := "") (Or.inl (tw_25 hw)) Via.refl e6 P2 (pc' := 40) rfl (hb hby d6_37) ?_
  intro T7 e7 X7
  refine Go.aloadN X7 hx (pc' := 41) rfl (hb hby d6_40) rfl rfl ?_
  refine Go.getF X7 hx hZ hown (host := "") (Or.inl (tw_25 hw)) Via.refl e7 P5 (pc' := 44) rfl (hb hby d6_41) ?_
  intro T8 e8 X8
  refine Go.callS X8 hx hZ hown (tw_39 hw) (tw_40 hw) (tw_41 hw) (tw_42 hw) (by decide) (tw_42 hw) (tw_41 hw) (au_32 l Z a0 hw x2 x3 kk0 p0 kk1 p1 h0 n0 Z0 P6 P8 R_p1 B_p0) e8 (argsL := [(.ref x2), (.ref x3)]) (rest := []) (pc' := 47) rfl (by rw [hml]; rfl) (lenOf pd_3 rfl) rfl rfl (W := 0) (Nat.le_of_eq rfl) (by decide) (by decide) (by decide) (by decide) (hb hby d6_44) ?_
  intro v9 T9 L9 q9 X9
  rcases q9 with ⟨c9_0_0, rfl, N9_0, e9_0⟩ | ⟨c9_1_0, rfl, N9_1, e9_1⟩
  · show Go _ _ _ _ (T9.setTop (mkF m 47 #[.val (.ref x0), .val (.ref x1), .val (.ref x1)] [(.int 1)]))
    refine Go.ifNo X9 hx (pc' := 50) rfl (hb hby d6_47) (by decide) ?_
    refine Go.iconst X9 hx (pc' := 51) rfl (hb hby d6_50) (v := (1 : Int32)) rfl ?_
    refine Go.goto X9 hx (pc' := 55) (hb hby d6_51) (by decide) (by decide) ?_
    subst hFF
    refine Go.retN X9 hx hlk (t := .boolean) hret (by simp) (hb hby d6_55) (by decide) (by decide) ?_
    rw [e9_0]
    exact Or.inl ⟨c9_0_0, (congrArg (fun z => some (Value.int z)) (by decide : nar .boolean (1 : Int32) = (1 : Int32))), (Fr.app (Fr.nil n0) N9_0), rfl⟩
  · show Go _ _ _ _ (T9.setTop (mkF m 47 #[.val (.ref x0), .val (.ref x1), .val (.ref x1)] [(.int 0)]))
    refine Go.ifYes X9 hx (pc' := 54) (hb hby d6_47) (by decide) (by decide) (by decide) ?_
    refine Go.iconst X9 hx (pc' := 55) rfl (hb hby d6_54) (v := (0 : Int32)) rfl ?_
    subst hFF
    refine Go.retN X9 hx hlk (t := .boolean) hret (by simp) (hb hby d6_55) (by decide) (by decide) ?_
    rw [e9_1]
    exact Or.inr (⟨c9_1_0, (congrArg (fun z => some (Value.int z)) (by decide : nar .boolean (0 : Int32) = (0 : Int32))), (Fr.app (Fr.nil n0) N9_1), rfl⟩)
theorem d5_29 : decode prog_11_method_4_code 29 = .ok (.iconst 1, 1) := by decide +kernel
theorem d5_30 : decode prog_11_method_4_code 30 = .ok (.goto 4, 3) := by decide +kernel
-- java/lang/StringLatin1.equals
set_option maxRecDepth 65536 in
set_option maxHeartbeats 4000000 in
theorem au_34 (l : Launch) (Z : State) (a0 : Array Value) (hw : ∀ d ∈ tables_1, d.before a0 Z = true) (x0 : Addr) (x1 : Addr) (kk0 : ClassId) (p0 : Int32) (kk1 : ClassId) (h0 : Heap) (n0 : Nat) (Z0 : n0 ≤ h0.size) (P0 : Arv Z h0 x0 kk0 .byte (1 : Int32) [(.int p0)] (.int 0)) (P2 : Arv Z h0 x1 kk1 .byte (3 : Int32) [(.int 47), (.int 117), (.int 105)] (.int 0)) :
    Ctr l Z (⟨"java/lang/StringLatin1", "equals", "([B[B)Z"⟩ : MethodName) jdk_43_method_13_code 3 (some .boolean) ({ frames := 0, cells := 0, slots := 0, locals := 0 } : Room) #[(.ref x0), (.ref x1)] h0 (fun v h L => v = some (.int 0) ∧ Fr n0 L ∧ h = h0) := by
  refine Ctr.of (plainFor_of_name pn_c2) ?_
  intro p e s m below meth c T0 hx hZ hby hml hown hnm hret hlk e0 es X0
  refine Go.cast (ef_7_RR m x0 x1) ?_
  generalize hFF : EndN s _ _ _ = FF
  refine Go.aloadN X0 hx (pc' := 1) rfl (hb hby d7_0) rfl rfl ?_
  refine Go.arraylength X0 hx hZ e0 P0 (pc' := 2) rfl (hb hby d7_1) ?_
  refine Go.aloadN X0 hx (pc' := 3) rfl (hb hby d7_2) rfl rfl ?_
  refine Go.arraylength X0 hx hZ e0 P2 (pc' := 4) rfl (hb hby d7_3) ?_
  refine Go.icmpYes X0 hx (pc' := 34) (hb hby d7_4) (by decide) (by decide) (by decide) ?_
  refine Go.iconst X0 hx (pc' := 35) rfl (hb hby d7_34) (v := (0 : Int32)) rfl ?_
  subst hFF
  refine Go.retN X0 hx hlk (t := .boolean) hret (by simp) (hb hby d7_35) (by decide) (by decide) ?_
  rw [e0]
  exact ⟨(congrArg (fun z => some (Value.int z)) (by decide : nar .boolean (0 : Int32) = (0 : Int32))), (Fr.nil n0), rfl⟩
-- java/lang/String.equals
set_option maxRecDepth 65536 in
set_option maxHeartbeats 4000000 in
theorem au_33 (l : Launch) (Z : State) (a0 : Array Value) (hw : ∀ d ∈ tables_1, d.before a0 Z = true) (x0 : Addr) (x1 : Addr) (x2 : Addr) (x3 : Addr) (kk0 : ClassId) (p0 : Int32) (kk1 : ClassId) (gz1 : Int32) (gv5 : Value) (h0 : Heap) (n0 : Nat) (Z0 : n0 ≤ h0.size) (O0 : Old Z n0 h0) (G : Glob Z gz1 gv5) (P1 : Fld Z h0 x0 "java/lang/String" "coder" "B" (.int 0)) (P2 : Fld Z h0 x0 "java/lang/String" "value" "[B" (.ref x2)) (P3 : Exa Z h0 x1 "java/lang/String") (P4 : Fld Z h0 x1 "java/lang/String" "coder" "B" (.int 0)) (P5 : Fld Z h0 x1 "java/lang/String" "value" "[B" (.ref x3)) (P6 : Arv Z h0 x2 kk0 .byte (1 : Int32) [(.int p0)] (.int 0)) (P8 : Arv Z h0 x3 kk1 .byte (3 : Int32) [(.int 47), (.int 117), (.int 105)] (.int 0)) (ne_x0_x1 : x0 ≠ x1) :
    Ctr l Z (⟨"java/lang/String", "equals", "(Ljava/lang/Object;)Z"⟩ : MethodName) jdk_42_method_66_code 3 (some .boolean) ({ frames := 1, cells := 0, slots := 0, locals := 14 } : Room) #[(.ref x0), (.ref x1)] h0 (fun v h L => v = some (.int 0) ∧ Fr n0 L ∧ h = h0) := by
  refine Ctr.of (plainFor_of_name pn_c1) ?_
  intro p e s m below meth c T0 hx hZ hby hml hown hnm hret hlk e0 es X0
  have G' := G
  obtain ⟨G0, -, G2, -⟩ := G'
  refine Go.cast (ef_6_RR m x0 x1) ?_
  generalize hFF : EndN s _ _ _ = FF
  refine Go.aloadN X0 hx (pc' := 1) rfl (hb hby d6_0) rfl rfl ?_
  refine Go.aloadN X0 hx (pc' := 2) rfl (hb hby d6_1) rfl rfl ?_
  refine Go.acmp X0 hx (pc' := 7) (same := false) (hb hby d6_2) rfl rfl (decide_eq_false (fun q => ne_x0_x1 (Value.ref.inj q))) (by decide) (by decide) ?_
  refine Go.aloadN X0 hx (pc' := 8) rfl (hb hby d6_7) rfl rfl ?_
  refine Go.instY X0 hx hZ hown (tw_37 hw) e0 (Ins.self P3) (pc' := 11) rfl (hb hby d6_8) ?_
  intro T1 e1 X1
  refine Go.ifNo X1 hx (pc' := 14) rfl (hb hby d6_11) (by decide) ?_
  refine Go.aloadN X1 hx (pc' := 15) rfl (hb hby d6_14) rfl rfl ?_
  refine Go.castY X1 hx hZ hown (tw_37 hw) e1 (Ins.self P3) (pc' := 18) rfl (hb hby d6_15) ?_
  intro T2 e2 X2
  refine Go.astoreN X2 hx (pc' := 19) rfl (hb hby d6_18) (Ls' := #[.val (.ref x0), .val (.ref x1), .val (.ref x1)]) rfl rfl ?_
  have fk3 : Sta Z h0 "java/lang/String" "COMPACT_STRINGS" "Z" (.int gz1) := G0.ext O0.2
  refine Go.getS X2 hx hZ hown (host := "") (Or.inl (tw_38 hw)) Via.refl e2 fk3 (pc' := 22) rfl (hb hby d6_19) ?_
  intro T4 e4 X4
  refine Go.ifNo X4 hx (pc' := 25) rfl (hb hby d6_22) (feq G2).1 ?_
  refine Go.aloadN X4 hx (pc' := 26) rfl (hb hby d6_25) rfl rfl ?_
  refine Go.getF X4 hx hZ hown (host := "") (Or.inl (tw_26 hw)) Via.refl e4 P1 (pc' := 29) rfl (hb hby d6_26) ?_
  intro T5 e5 X5
  refine Go.aloadN X5 hx (pc' := 30) rfl (hb hby d6_29) rfl rfl ?_
  refine Go.getF X5 hx hZ hown (host := "") (Or.inl (tw_26 hw)) Via.refl e5 P4 (pc' := 33) rfl (hb hby d6_30) ?_
  intro T6 e6 X6
  refine Go.icmpNo X6 hx (pc' := 36) rfl (hb hby d6_33) (by decide) ?_
  refine Go.aloadN X6 hx (pc' := 37) rfl (hb hby d6_36) rfl rfl ?_
  refine Go.getF X6 hx hZ hown (host := "") (Or.inl (tw_25 hw)) Via.refl e6 P2 (pc' := 40) rfl (hb hby d6_37) ?_
  intro T7 e7 X7
  refine Go.aloadN X7 hx (pc' := 41) rfl (hb hby d6_40) rfl rfl ?_
  refine Go.getF X7 hx hZ hown (host := "") (Or.inl (tw_25 hw)) Via.refl e7 P5 (pc' := 44) rfl (hb hby d6_41) ?_
  intro T8 e8 X8
  refine Go.callS X8 hx hZ hown (tw_39 hw) (tw_40 hw) (tw_41 hw) (tw_42 hw) (by decide) (tw_42 hw) (tw_41 hw) (au_34 l Z a0 hw x2 x3 kk0 p0 kk1 h0 n0 Z0 P6 P8) e8 (argsL := [(.ref x2), (.ref x3)]) (rest := []) (pc' := 47) rfl (by rw [hml]; rfl) (lenOf pd_3 rfl) rfl rfl (W := 0) (Nat.le_of_eq rfl) (by decide) (by decide) (by decide) (by decide) (hb hby d6_44) ?_
  intro v9 T9 L9 q9 X9
  obtain ⟨rfl, N9, e9⟩ := q9
  show Go _ _ _ _ (T9.setTop (mkF m 47 #[.val (.ref x0), .val (.ref x1), .val (.ref x1)] [(.int 0)]))
  refine Go.ifYes X9 hx (pc' := 54) (hb hby d6_47) (by decide) (by decide) (by decide) ?_
  refine Go.iconst X9 hx (pc' := 55) rfl (hb hby d6_54) (v := (0 : Int32)) rfl ?_
  subst hFF
  refine Go.retN X9 hx hlk (t := .boolean) hret (by simp) (hb hby d6_55) (by decide) (by decide) ?_
  rw [e9]
  exact ⟨(congrArg (fun z => some (Value.int z)) (by decide : nar .boolean (0 : Int32) = (0 : Int32))), (Fr.app (Fr.nil n0) N9), rfl⟩
-- com/example/roles_over_datacenter/rolesoverdatacenter/Page.redirects
set_option maxRecDepth 65536 in
set_option maxHeartbeats 4000000 in
theorem au_30 (l : Launch) (Z : State) (a0 : Array Value) (hw : ∀ d ∈ tables_1, d.before a0 Z = true) (x0 : Addr) (x1 : Addr) (kk0 : ClassId) (p0 : Int32) (p1 : Int32) (gz1 : Int32) (gv5 : Value) (h0 : Heap) (n0 : Nat) (Z0 : n0 ≤ h0.size) (O0 : Old Z n0 h0) (G : Glob Z gz1 gv5) (P0 : Exa Z h0 x0 "java/lang/String") (P1 : Fld Z h0 x0 "java/lang/String" "coder" "B" (.int 0)) (P2 : Fld Z h0 x0 "java/lang/String" "value" "[B" (.ref x1)) (P3 : Arv Z h0 x1 kk0 .byte (1 : Int32) [(.int p0)] (.int 0)) (R_p1 : 0 ≤ p1.toInt ∧ p1.toInt ≤ 255) (B_p0 : (p1.toInt8.toInt32) = p0) :
    CtrW l Z EL0 (⟨"com/example/roles_over_datacenter/rolesoverdatacenter/Page", "redirects", "(Ljava/lang/String;)Z"⟩ : MethodName) prog_11_method_4_code 1 (some .boolean) ({ frames := 5, cells := 8, slots := 55, locals := 81 } : Room) #[(.ref x0)] h0 [x0] (fun v vm h L => (p1 = (47 : Int32) ∧ v = some (.int 1) ∧ Fr n0 L ∧ Keep h0 h []) ∨ (¬ (p1 = (47 : Int32)) ∧ v = some (.int 0) ∧ Fr n0 L ∧ Keep h0 h [])) := by
  refine CtrW.of (plainFor_of_name pn_c5) ?_
  intro p e s m below meth c T0 hx hZ hby hml hown hnm hret hlk e0 es hS0 C0 hsf X0
  have G' := G
  obtain ⟨-, G1, -, -⟩ := G'
  refine Go.cast (ef_5_R m x0) ?_
  generalize hFF : EndW Z EL0 s _ _ _ = FF
  refine Go.aloadN X0 hx (pc' := 1) rfl (hb hby d5_0) rfl rfl ?_
  refine Go.ldcCH X0 hx hZ hown (tw_31 hw) (own_SA hw) e0 hS0 (Nat.le_refl _) (own_EW hw) (List.mem_of_getElem? (i := 1) rfl) C0.1 (vs := [(.int (47 : Int32))]) (z := (1 : Int32)) (by decide) (by decide) rfl (n := 4) (by decide) (by decide) (by decide) (by decide) (pc' := 3) rfl (hb hby d5_1) ?_
  intro a1 T1 h1 j1 b1 k1 e1 E1 S1 i1 Z1 O1 A1 F1 G1 V1 C1 D1 X1
  have Kp3 : Keep h0 h1 [] := ((Keep.refl h0 []).ext E1)
  have Zn2 : n0 ≤ h1.size := Nat.le_trans Z0 Kp3.1
  have O4 := (O0.ext E1)
  have fk5 : Fld Z h1 x0 "java/lang/String" "coder" "B" (.int 0) := (P1.ext E1)
  have fk6 : Fld Z h1 x0 "java/lang/String" "value" "[B" (.ref x1) := (P2.ext E1)
  have fk7 := (P3.ext E1)
  have fk8 : Safe Z EL0 T1.vm h1 x0 := (C1.safe P0.lt (hsf _ (List.mem_of_getElem? (i := 0) rfl)))
  have fk9 : Exa Z h1 x0 "java/lang/String" := (P0.ext E1)
  refine Go.callV X1 hx Z1 O1 (tw_32 hw) (tw_33 hw) (notFace_of_selects (args := #[]) (mvT Z1 (tw_35 hw))) (tw_35 hw) (tw_34 hw) (by decide) (tw_36 hw) (tw_8 hw) (au_31 l Z a0 hw x0 a1 x1 b1 kk0 p0 k1 p1 gz1 gv5 h1 n0 Zn2 O4 G fk5 fk6 A1 F1 G1 fk7 V1 R_p1 B_p0 (D1 x0 fk8).1) e1 fk9 (argsL := [(.ref a1)]) (rest := []) (pc' := 6) rfl (by rw [hml]; rfl) (lenOf pd_4 rfl) rfl rfl (W := 0) (Nat.le_of_eq rfl) (by decide) (by decide) (by decide) (by decide) (hb hby d5_3) ?_
  intro v10 T10 L10 q10 X10
  rcases q10 with ⟨c10_0_0, rfl, N10_0, e10_0⟩ | ⟨c10_1_0, rfl, N10_1, e10_1⟩
  · show Go _ _ _ _ (T10.setTop (mkF m 6 #[.val (.ref x0)] [(.int 1)]))
    refine Go.ifYes X10 hx (pc' := 29) (hb hby d5_6) (by decide) (by decide) (by decide) ?_
    refine Go.iconst X10 hx (pc' := 30) rfl (hb hby d5_29) (v := (1 : Int32)) rfl ?_
    refine Go.goto X10 hx (pc' := 34) (hb hby d5_30) (by decide) (by decide) ?_
    subst hFF
    have C11 : CHr Z EL0 s.vm s.heap T1.vm h1 := (C0.trans C1)
    refine Go.retNW X10 hx hlk Z1 (own_EW hw) e10_0 S1 i1 C11 (t := .boolean) hret (by simp) (hb hby d5_34) (by decide) (by decide) (fun hat => ?_)
    exact Or.inl ⟨c10_0_0, (congrArg (fun z => some (Value.int z)) (by decide : nar .boolean (1 : Int32) = (1 : Int32))), (Fr.app (Fr.nil n0) N10_0), Kp3⟩
  · show Go _ _ _ _ (T10.setTop (mkF m 6 #[.val (.ref x0)] [(.int 0)]))
    refine Go.ifNo X10 hx (pc' := 9) rfl (hb hby d5_6) (by decide) ?_
    refine Go.aloadN X10 hx (pc' := 10) rfl (hb hby d5_9) rfl rfl ?_
    have C12 : CHr Z EL0 s.vm s.heap T1.vm h1 := (C0.trans C1)
    refine Go.ldcCH X10 hx Z1 O1 (tw_43 hw) (own_SA hw) e10_1 S1 i1 (own_EW hw) (List.mem_of_getElem? (i := 0) rfl) C12.1 (vs := [(.int (47 : Int32)), (.int (117 : Int32)), (.int (105 : Int32)), (.int (47 : Int32))]) (z := (4 : Int32)) (by decide) (by decide) rfl (n := 16) (by decide) (by decide) (by decide) (by decide) (pc' := 12) rfl (hb hby d5_10) ?_
    intro a13 T13 h13 j13 b13 k13 e13 E13 S13 i13 Z13 O13 A13 F13 G13 V13 C13 D13 X13
    refine Go.iconst X13 hx (pc' := 13) rfl (hb hby d5_12) (v := (0 : Int32)) rfl ?_
    have C14 : CHr Z EL0 s.vm s.heap T13.vm h13 := (C12.trans C13)
    refine Go.ldcCH X13 hx Z13 O13 (tw_43 hw) (own_SA hw) e13 S13 i13 (own_EW hw) (List.mem_of_getElem? (i := 0) rfl) C14.1 (vs := [(.int (47 : Int32)), (.int (117 : Int32)), (.int (105 : Int32)), (.int (47 : Int32))]) (z := (4 : Int32)) (by decide) (by decide) rfl (n := 16) (by decide) (by decide) (by decide) (by decide) (pc' := 15) rfl (hb hby d5_13) ?_
    intro a15 T15 h15 j15 b15 k15 e15 E15 S15 i15 Z15 O15 A15 F15 G15 V15 C15 D15 X15
    have Kp17 : Keep h0 h13 [] := (Kp3.ext E13)
    have Kp18 : Keep h0 h15 [] := (Kp17.ext E15)
    have Zn16 : n0 ≤ h15.size := Nat.le_trans Z0 Kp18.1
    have O19 := (O4.ext E13)
    have O20 := (O19.ext E15)
    refine Go.callV X15 hx Z15 O15 (tw_44 hw) (tw_45 hw) (notFace_of_selects (args := #[]) (mvT Z15 (tw_47 hw))) (tw_47 hw) (tw_46 hw) (by decide) (tw_48 hw) (tw_8 hw) (au_10 l Z a0 hw a15 b15 k15 gz1 gv5 h15 n0 Zn16 O20 G A15 F15 G15 V15) e15 A15 (argsL := []) (rest := [(.int 0), (.ref a13), (.ref x0)]) (pc' := 18) rfl (by rw [hml]; rfl) (lenOf pd_6 rfl) rfl rfl (W := 3) (Nat.le_of_eq rfl) (by decide) (by decide) (by decide) (by decide) (hb hby d5_15) ?_
    intro v21 T21 L21 q21 X21
    obtain ⟨rfl, N21, e21⟩ := q21
    show Go _ _ _ _ (T21.setTop (mkF m 18 #[.val (.ref x0)] [(.int 4), (.int 0), (.ref a13), (.ref x0)]))
    refine Go.iconst X21 hx (pc' := 19) rfl (hb hby d5_18) (v := (1 : Int32)) rfl ?_
    refine Go.isub X21 hx (pc' := 20) rfl (hb hby d5_19) ?_
    rw [show ((4 : Int32) - (1 : Int32)) = (3 : Int32) from by decide]
    have fk22 : Exa Z h15 a13 "java/lang/String" := (A13.ext E15)
    have fk23 : Fld Z h15 a13 "java/lang/String" "coder" "B" (.int 0) := (F13.ext E15)
    have fk24 : Fld Z h15 a13 "java/lang/String" "value" "[B" (.ref b13) := (G13.ext E15)
    have fk25 := (V13.ext E15)
    refine Go.callV X21 hx Z15 O15 (tw_54 hw) (tw_55 hw) (notFace_of_selects (args := #[]) (mvT Z15 (tw_57 hw))) (tw_57 hw) (tw_56 hw) (by decide) (tw_58 hw) (tw_8 hw) (au_12 l Z a0 hw a13 b13 k13 gz1 gv5 h15 n0 Zn16 O20 G fk22 fk23 fk24 fk25) e21 fk22 (argsL := [(.int 0), (.int 3)]) (rest := [(.ref x0)]) (pc' := 23) rfl (by rw [hml]; rfl) (lenOf pd_15 rfl) rfl rfl (W := 1) (Nat.le_of_eq rfl) (by decide) (by decide) (by decide) (by decide) (hb hby d5_20) ?_
    intro v26 T26 L26 q26 X26
    obtain ⟨h26, e26⟩ : ∃ z, T26.heap = z := ⟨_, rfl⟩
    rw [e26] at q26
    obtain ⟨b26_0, b26_1, k26_0, rfl, N26, K26, s26_0, s26_1, n26_0, F26_0, F26_1, F26_2, F26_3, F26_4⟩ := q26
    show Go _ _ _ _ (T26.setTop (mkF m 23 #[.val (.ref x0)] [(.ref b26_0), (.ref x0)]))
    have Kp28 : Keep h0 h26 [] := (Kp18.trans K26 all0)
    have Zn27 : n0 ≤ h26.size := Nat.le_trans Z0 Kp28.1
    have O29 := (O20.keep K26 all0)
    have fk30 : Fld Z h26 x0 "java/lang/String" "coder" "B" (.int 0) := (((fk5.ext E13).ext E15).keep K26 nin0)
    have fk31 : Fld Z h26 x0 "java/lang/String" "value" "[B" (.ref x1) := (((fk6.ext E13).ext E15).keep K26 nin0)
    have fk32 := (((fk7.ext E13).ext E15).keep K26 nin0)
    have fk34 : Exa Z h15 x0 "java/lang/String" := ((fk9.ext E13).ext E15)
    have ne33 : x0 ≠ b26_0 := Nat.ne_of_lt (Nat.lt_of_lt_of_le fk34.lt s26_0)
    have fk35 : Exa Z h26 x0 "java/lang/String" := (fk34.keep K26)
    refine Go.callV X26 hx Z15 O15 (tw_32 hw) (tw_33 hw) (notFace_of_selects (args := #[]) (mvT Z15 (tw_35 hw))) (tw_35 hw) (tw_34 hw) (by decide) (tw_36 hw) (tw_8 hw) (au_33 l Z a0 hw x0 b26_0 x1 b26_1 kk0 p0 k26_0 gz1 gv5 h26 n0 Zn27 O29 G fk30 fk31 F26_0 F26_1 F26_2 fk32 F26_3 ne33) e26 fk35 (argsL := [(.ref b26_0)]) (rest := []) (pc' := 26) rfl (by rw [hml]; rfl) (lenOf pd_4 rfl) rfl rfl (W := 0) (Nat.le_of_eq rfl) (by decide) (by decide) (by decide) (by decide) (hb hby d5_23) ?_
    intro v36 T36 L36 q36 X36
    obtain ⟨rfl, N36, e36⟩ := q36
    show Go _ _ _ _ (T36.setTop (mkF m 26 #[.val (.ref x0)] [(.int 0)]))
    refine Go.ifYes X36 hx (pc' := 33) (hb hby d5_26) (by decide) (by decide) (by decide) ?_
    refine Go.iconst X36 hx (pc' := 34) rfl (hb hby d5_33) (v := (0 : Int32)) rfl ?_
    subst hFF
    have C37 : CHr Z EL0 s.vm s.heap T15.vm h15 := (C14.trans C15)
    have C38 : CHr Z EL0 s.vm s.heap T15.vm h26 := (C37.trans (CHr.keep K26 sf0 C37.1))
    have hk39 := (Nat.le_trans i15 K26.1)
    refine Go.retNW X36 hx hlk Z15 (own_EW hw) e36 S15 hk39 C38 (t := .boolean) hret (by simp) (hb hby d5_34) (by decide) (by decide) (fun hat => ?_)
    exact Or.inr (⟨c10_1_0, (congrArg (fun z => some (Value.int z)) (by decide : nar .boolean (0 : Int32) = (0 : Int32))), (Fr.app (Fr.app (Fr.app (Fr.app (Fr.nil n0) N10_1) N21) N26) N36), Kp28⟩)
-- java/lang/StringUTF16.compress
set_option maxRecDepth 65536 in
set_option maxHeartbeats 4000000 in
theorem au_38 (l : Launch) (Z : State) (a0 : Array Value) (hw : ∀ d ∈ tables_1, d.before a0 Z = true) (x0 : Addr) (x1 : Addr) (kk0 : ClassId) (p0 : Int32) (p1 : Int32) (kk1 : ClassId) (h0 : Heap) (n0 : Nat) (Z0 : n0 ≤ h0.size) (P0 : Arv Z h0 x0 kk0 .char (2 : Int32) [(.int p0), (.int p1)] (.int 0)) (P2 : Arv Z h0 x1 kk1 .byte (2 : Int32) [(.int 0), (.int 0)] (.int 0)) (P3 : Exa Z h0 x1 "[B") (R_p0 : 0 ≤ p0.toInt ∧ p0.toInt ≤ 255) (R_p1 : 0 ≤ p1.toInt ∧ p1.toInt ≤ 255) (g_x1 : n0 ≤ x1) (ne_x0_x1 : x0 ≠ x1) :
    Ctr l Z (⟨"java/lang/StringUTF16", "compress", "([CI[BII)I"⟩ : MethodName) jdk_52_method_21_code 7 (some .int) ({ frames := 0, cells := 0, slots := 0, locals := 0 } : Room) #[(.ref x0), (.int 0), (.ref x1), (.int 0), (.int 2)] h0 (fun v h L => ∃ (z1 : Int32) (z5 : Int32), (p0.toInt8.toInt32) = z1 ∧ (p1.toInt8.toInt32) = z5 ∧ v = some (.int 2) ∧ Fr n0 L ∧ Keep h0 h [x1] ∧ Arv Z h x1 kk1 .byte (2 : Int32) [(.int z1), (.int z5)] (.int 0) ∧ Exa Z h x1 "[B") := by
  refine Ctr.of (plainFor_of_name pn_c6) ?_
  intro p e s m below meth c T0 hx hZ hby hml hown hnm hret hlk e0 es X0
  refine Go.cast (ef_21_RIRII m x0 (0 : Int32) x1 (0 : Int32) (2 : Int32)) ?_
  generalize hFF : EndN s _ _ _ = FF
  refine Go.iconst X0 hx (pc' := 1) rfl (hb hby d21_0) (v := (0 : Int32)) rfl ?_
  refine Go.istore X0 hx (pc' := 3) rfl (hb hby d21_1) (Ls' := #[.val (.ref x0), .val (.int 0), .val (.ref x1), .val (.int 0), .val (.int 2), .val (.int 0), .unset]) rfl ?_
  refine Go.iload X0 hx (pc' := 5) rfl (hb hby d21_3) rfl ?_
  refine Go.iload X0 hx (pc' := 7) rfl (hb hby d21_5) rfl ?_
  refine Go.icmpNo X0 hx (pc' := 10) rfl (hb hby d21_7) (by decide) ?_
  refine Go.aloadN X0 hx (pc' := 11) rfl (hb hby d21_10) rfl rfl ?_
  refine Go.iloadN X0 hx (pc' := 12) rfl (hb hby d21_11) rfl ?_
  refine Go.caload X0 hx hZ e0 P0 (v := (.int p0)) ⟨by decide, by decide⟩ rfl (pc' := 13) rfl (hb hby d21_12) ?_
  refine Go.istore X0 hx (pc' := 15) rfl (hb hby d21_13) (Ls' := #[.val (.ref x0), .val (.int 0), .val (.ref x1), .val (.int 0), .val (.int 2), .val (.int 0), .val (.int p0)]) rfl ?_
  refine Go.iload X0 hx (pc' := 17) rfl (hb hby d21_15) rfl ?_
  refine Go.sipush X0 hx (pc' := 20) rfl (hb hby d21_17) (v := (255 : Int32)) (by decide) ?_
  refine Go.icmpYes X0 hx (pc' := 26) (hb hby d21_20) (flt (own_nlt_r (own_rlit (n := 255) (by decide)) R_p0 (by decide))).2.2.2 (by decide) (by decide) ?_
  refine Go.aloadN X0 hx (pc' := 27) rfl (hb hby d21_26) rfl rfl ?_
  refine Go.iloadN X0 hx (pc' := 28) rfl (hb hby d21_27) rfl ?_
  refine Go.iload X0 hx (pc' := 30) rfl (hb hby d21_28) rfl ?_
  refine Go.i2b X0 hx (pc' := 31) rfl (hb hby d21_30) ?_
  generalize hz1 : (p0.toInt8.toInt32) = z1
  have r2 : -128 ≤ z1.toInt ∧ z1.toInt ≤ 127 := own_ri2b hz1
  refine Go.bastore X0 hx hZ e0 P2 z1 (own_nar_byte r2 (by decide) (by decide)) ⟨by decide, by decide⟩ 0 rfl (Nat.le_of_ble_eq_true rfl) (pc' := 32) rfl (hb hby d21_31) ?_
  intro T3 h3 e3 W3 V3 X3
  have N3 := Fr.snoc X3 (Fr.nil n0) g_x1
  refine Go.iinc X3 hx (pc' := 35) rfl (hb hby d21_32) rfl (y := (1 : Int32)) (by decide) (Ls' := #[.val (.ref x0), .val (.int 1), .val (.ref x1), .val (.int 0), .val (.int 2), .val (.int 0), .val (.int p0)]) rfl ?_
  refine Go.iinc X3 hx (pc' := 38) rfl (hb hby d21_35) rfl (y := (1 : Int32)) (by decide) (Ls' := #[.val (.ref x0), .val (.int 1), .val (.ref x1), .val (.int 1), .val (.int 2), .val (.int 0), .val (.int p0)]) rfl ?_
  refine Go.iinc X3 hx (pc' := 41) rfl (hb hby d21_38) rfl (y := (1 : Int32)) (by decide) (Ls' := #[.val (.ref x0), .val (.int 1), .val (.ref x1), .val (.int 1), .val (.int 2), .val (.int 1), .val (.int p0)]) rfl ?_
  refine Go.goto X3 hx (pc' := 3) (hb hby d21_41) (by decide) (by decide) ?_
  refine Go.iload X3 hx (pc' := 5) rfl (hb hby d21_3) rfl ?_
  refine Go.iload X3 hx (pc' := 7) rfl (hb hby d21_5) rfl ?_
  refine Go.icmpNo X3 hx (pc' := 10) rfl (hb hby d21_7) (by decide) ?_
  refine Go.aloadN X3 hx (pc' := 11) rfl (hb hby d21_10) rfl rfl ?_
  refine Go.iloadN X3 hx (pc' := 12) rfl (hb hby d21_11) rfl ?_
  have fk4 := (P0.other W3 ne_x0_x1)
  refine Go.caload X3 hx hZ e3 fk4 (v := (.int p1)) ⟨by decide, by decide⟩ rfl (pc' := 13) rfl (hb hby d21_12) ?_
  refine Go.istore X3 hx (pc' := 15) rfl (hb hby d21_13) (Ls' := #[.val (.ref x0), .val (.int 1), .val (.ref x1), .val (.int 1), .val (.int 2), .val (.int 1), .val (.int p1)]) rfl ?_
  refine Go.iload X3 hx (pc' := 17) rfl (hb hby d21_15) rfl ?_
  refine Go.sipush X3 hx (pc' := 20) rfl (hb hby d21_17) (v := (255 : Int32)) (by decide) ?_
  refine Go.icmpYes X3 hx (pc' := 26) (hb hby d21_20) (flt (own_nlt_r (own_rlit (n := 255) (by decide)) R_p1 (by decide))).2.2.2 (by decide) (by decide) ?_
  refine Go.aloadN X3 hx (pc' := 27) rfl (hb hby d21_26) rfl rfl ?_
  refine Go.iloadN X3 hx (pc' := 28) rfl (hb hby d21_27) rfl ?_
  refine Go.iload X3 hx (pc' := 30) rfl (hb hby d21_28) rfl ?_
  refine Go.i2b X3 hx (pc' := 31) rfl (hb hby d21_30) ?_
  generalize hz5 : (p1.toInt8.toInt32) = z5
  have r6 : -128 ≤ z5.toInt ∧ z5.toInt ≤ 127 := own_ri2b hz5
  refine Go.bastore X3 hx hZ e3 V3 z5 (own_nar_byte r6 (by decide) (by decide)) ⟨by decide, by decide⟩ 1 rfl (Nat.le_of_ble_eq_true rfl) (pc' := 32) rfl (hb hby d21_31) ?_
  intro T7 h7 e7 W7 V7 X7
  have N7 := Fr.snoc X7 N3 g_x1
  refine Go.iinc X7 hx (pc' := 35) rfl (hb hby d21_32) rfl (y := (2 : Int32)) (by decide) (Ls' := #[.val (.ref x0), .val (.int 2), .val (.ref x1), .val (.int 1), .val (.int 2), .val (.int 1), .val (.int p1)]) rfl ?_
  refine Go.iinc X7 hx (pc' := 38) rfl (hb hby d21_35) rfl (y := (2 : Int32)) (by decide) (Ls' := #[.val (.ref x0), .val (.int 2), .val (.ref x1), .val (.int 2), .val (.int 2), .val (.int 1), .val (.int p1)]) rfl ?_
  refine Go.iinc X7 hx (pc' := 41) rfl (hb hby d21_38) rfl (y := (2 : Int32)) (by decide) (Ls' := #[.val (.ref x0), .val (.int 2), .val (.ref x1), .val (.int 2), .val (.int 2), .val (.int 2), .val (.int p1)]) rfl ?_
  refine Go.goto X7 hx (pc' := 3) (hb hby d21_41) (by decide) (by decide) ?_
  refine Go.iload X7 hx (pc' := 5) rfl (hb hby d21_3) rfl ?_
  refine Go.iload X7 hx (pc' := 7) rfl (hb hby d21_5) rfl ?_
  refine Go.icmpYes X7 hx (pc' := 44) (hb hby d21_7) (by decide) (by decide) (by decide) ?_
  refine Go.iload X7 hx (pc' := 46) rfl (hb hby d21_44) rfl ?_
  subst hFF
  refine Go.retI X7 hx hlk hret (hb hby d21_46) (by decide) (by decide) ?_
  rw [e7]
  have V8 : Arv Z h7 x1 kk1 .byte (2 : Int32) [(.int z1), (.int z5)] (.int 0) := V7
  have fk9 : Exa Z h7 x1 "[B" := ((P3.wr W3).wr W7)
  have Kp10 : Keep h0 h3 [x1] := ((Keep.refl h0 [x1]).wr W3 (Or.inl (List.mem_of_getElem? (i := 0) rfl)))
  have Kp11 : Keep h0 h7 [x1] := (Kp10.wr W7 (Or.inl (List.mem_of_getElem? (i := 0) rfl)))
  exact ⟨z1, z5, hz1, hz5, rfl, N7, Kp11, V8, fk9⟩
-- java/lang/StringUTF16.compress
set_option maxRecDepth 65536 in
set_option maxHeartbeats 4000000 in
theorem au_37 (l : Launch) (Z : State) (a0 : Array Value) (hw : ∀ d ∈ tables_1, d.before a0 Z = true) (x0 : Addr) (kk0 : ClassId) (p0 : Int32) (p1 : Int32) (h0 : Heap) (n0 : Nat) (Z0 : n0 ≤ h0.size) (P0 : Arv Z h0 x0 kk0 .char (2 : Int32) [(.int p0), (.int p1)] (.int 0)) (R_p0 : 0 ≤ p0.toInt ∧ p0.toInt ≤ 255) (R_p1 : 0 ≤ p1.toInt ∧ p1.toInt ≤ 255) :
    Ctr l Z (⟨"java/lang/StringUTF16", "compress", "([CII)[B"⟩ : MethodName) jdk_52_method_16_code 6 (some (.array .byte)) ({ frames := 1, cells := 1, slots := 2, locals := 18 } : Room) #[(.ref x0), (.int 0), (.int 2)] h0 (fun v h L => ∃ (z8_0 : Int32) (z8_1 : Int32) (b1 : Addr) (k1 : ClassId), (p0.toInt8.toInt32) = z8_0 ∧ (p1.toInt8.toInt32) = z8_1 ∧ v = some (.ref b1) ∧ Fr n0 L ∧ Keep h0 h [] ∧ h0.size ≤ b1 ∧ Arv Z h b1 k1 .byte (2 : Int32) [(.int z8_0), (.int z8_1)] (.int 0) ∧ Exa Z h b1 "[B") := by
  refine Ctr.of (plainFor_of_name pn_c6) ?_
  intro p e s m below meth c T0 hx hZ hby hml hown hnm hret hlk e0 es X0
  refine Go.cast (ef_20_RII m x0 (0 : Int32) (2 : Int32)) ?_
  generalize hFF : EndN s _ _ _ = FF
  refine Go.iloadN X0 hx (pc' := 1) rfl (hb hby d20_0) rfl ?_
  refine Go.newarray X0 hx hZ (ty := .byte) rfl (tw_20 hw) e0 (by decide) (cap := 2) (by decide) (by decide) (by decide) (by decide) (ad := "[B") (by decide) 2 (pc' := 3) rfl (hb hby d20_1) ?_
  intro T1 h1 b1 k1 e1 E1 g1 V1 A1 X1
  have V1' : Arv Z h1 b1 k1 .byte (2 : Int32) [(.int 0), (.int 0)] (.int 0) := V1
  refine Go.astoreN X1 hx (pc' := 4) rfl (hb hby d20_3) (Ls' := #[.val (.ref x0), .val (.int 0), .val (.int 2), .val (.ref b1), .unset, .unset]) rfl rfl ?_
  refine Go.aloadN X1 hx (pc' := 5) rfl (hb hby d20_4) rfl rfl ?_
  refine Go.iloadN X1 hx (pc' := 6) rfl (hb hby d20_5) rfl ?_
  refine Go.aloadN X1 hx (pc' := 7) rfl (hb hby d20_6) rfl rfl ?_
  refine Go.iconst X1 hx (pc' := 8) rfl (hb hby d20_7) (v := (0 : Int32)) rfl ?_
  refine Go.iloadN X1 hx (pc' := 9) rfl (hb hby d20_8) rfl ?_
  have Kp3 : Keep h0 h1 [] := ((Keep.refl h0 []).ext E1)
  have Zn2 : n0 ≤ h1.size := Nat.le_trans Z0 Kp3.1
  have fk4 := (P0.ext E1)
  have sz6 : h0.size ≤ b1 := Nat.le_trans (Keep.refl h0 []).1 (Nat.le_of_eq g1.symm)
  have ge5 : n0 ≤ b1 := Nat.le_trans Z0 sz6
  have ne7 : x0 ≠ b1 := Nat.ne_of_lt (Nat.lt_of_lt_of_le P0.lt (Nat.le_of_eq g1.symm))
  refine Go.callS X1 hx hZ hown (tw_102 hw) (tw_103 hw) (tw_100 hw) (tw_104 hw) (by decide) (tw_104 hw) (tw_100 hw) (au_38 l Z a0 hw x0 b1 kk0 p0 p1 k1 h1 n0 Zn2 fk4 V1' A1 R_p0 R_p1 ge5 ne7) e1 (argsL := [(.ref x0), (.int 0), (.ref b1), (.int 0), (.int 2)]) (rest := []) (pc' := 12) rfl (by rw [hml]; rfl) (lenOf pd_17 rfl) rfl rfl (W := 0) (Nat.le_of_eq rfl) (by decide) (by decide) (by decide) (by decide) (hb hby d20_9) ?_
  intro v8 T8 L8 q8 X8
  obtain ⟨h8, e8⟩ : ∃ z, T8.heap = z := ⟨_, rfl⟩
  rw [e8] at q8
  obtain ⟨z8_0, z8_1, d8_0, d8_1, rfl, N8, K8, F8_0, F8_1⟩ := q8
  show Go _ _ _ _ (T8.setTop (mkF m 12 #[.val (.ref x0), .val (.int 0), .val (.int 2), .val (.ref b1), .unset, .unset] [(.int 2)]))
  refine Go.istore X8 hx (pc' := 14) rfl (hb hby d20_12) (Ls' := #[.val (.ref x0), .val (.int 0), .val (.int 2), .val (.ref b1), .val (.int 2), .unset]) rfl ?_
  refine Go.iload X8 hx (pc' := 16) rfl (hb hby d20_14) rfl ?_
  refine Go.iloadN X8 hx (pc' := 17) rfl (hb hby d20_16) rfl ?_
  refine Go.icmpYes X8 hx (pc' := 57) (hb hby d20_17) (by decide) (by decide) (by decide) ?_
  refine Go.aloadN X8 hx (pc' := 58) rfl (hb hby d20_57) rfl rfl ?_
  subst hFF
  refine Go.retR X8 hx hlk (t := (.array .byte)) hret rfl rfl (hb hby d20_58) (by decide) (by decide) ?_
  rw [e8]
  have Kp9 : Keep h0 h8 [] := (Kp3.trans K8 (allS (Or.inr sz6) all0))
  exact ⟨z8_0, z8_1, b1, k1, d8_0, d8_1, rfl, (Fr.app (Fr.nil n0) N8), Kp9, sz6, F8_0, F8_1⟩
-- java/lang/StringUTF16.coderFromArrayLen
set_option maxRecDepth 65536 in
set_option maxHeartbeats 4000000 in
theorem au_39 (l : Launch) (Z : State) (a0 : Array Value) (hw : ∀ d ∈ tables_1, d.before a0 Z = true) (x0 : Addr) (kk0 : ClassId) (p0 : Int32) (p1 : Int32) (h0 : Heap) (n0 : Nat) (Z0 : n0 ≤ h0.size) (P0 : Arv Z h0 x0 kk0 .byte (2 : Int32) [(.int p0), (.int p1)] (.int 0)) :
    Ctr l Z (⟨"java/lang/StringUTF16", "coderFromArrayLen", "([BI)B"⟩ : MethodName) jdk_52_method_15_code 2 (some .byte) ({ frames := 0, cells := 0, slots := 0, locals := 0 } : Room) #[(.ref x0), (.int 2)] h0 (fun v h L => v = some (.int 0) ∧ Fr n0 L ∧ h = h0) := by
  refine Ctr.of (plainFor_of_name pn_c6) ?_
  intro p e s m below meth c T0 hx hZ hby hml hown hnm hret hlk e0 es X0
  refine Go.cast (ef_22_RI m x0 (2 : Int32)) ?_
  generalize hFF : EndN s _ _ _ = FF
  refine Go.iloadN X0 hx (pc' := 1) rfl (hb hby d22_0) rfl ?_
  refine Go.aloadN X0 hx (pc' := 2) rfl (hb hby d22_1) rfl rfl ?_
  refine Go.arraylength X0 hx hZ e0 P0 (pc' := 3) rfl (hb hby d22_2) ?_
  refine Go.isub X0 hx (pc' := 4) rfl (hb hby d22_3) ?_
  rw [show ((2 : Int32) - (2 : Int32)) = (0 : Int32) from by decide]
  refine Go.bipush X0 hx (pc' := 6) rfl (hb hby d22_4) (v := (31 : Int32)) (by decide) ?_
  refine Go.iushr X0 hx (pc' := 7) rfl (hb hby d22_6) ?_
  rw [show (((0 : Int32).toUInt32 >>> ((31 : Int32) &&& 31).toUInt32).toInt32) = (0 : Int32) from by decide]
  refine Go.i2b X0 hx (pc' := 8) rfl (hb hby d22_7) ?_
  rw [show ((0 : Int32).toInt8.toInt32) = (0 : Int32) from by decide]
  subst hFF
  refine Go.retN X0 hx hlk (t := .byte) hret (by simp) (hb hby d22_8) (by decide) (by decide) ?_
  rw [e0]
  exact ⟨(congrArg (fun z => some (Value.int z)) (by decide : nar .byte (0 : Int32) = (0 : Int32))), (Fr.nil n0), rfl⟩
-- java/lang/String.init
set_option maxRecDepth 65536 in
set_option maxHeartbeats 4000000 in
theorem au_36 (l : Launch) (Z : State) (a0 : Array Value) (hw : ∀ d ∈ tables_1, d.before a0 Z = true) (x0 : Addr) (x1 : Addr) (kk0 : ClassId) (p0 : Int32) (p1 : Int32) (gz1 : Int32) (gv5 : Value) (h0 : Heap) (n0 : Nat) (Z0 : n0 ≤ h0.size) (O0 : Old Z n0 h0) (G : Glob Z gz1 gv5) (P0 : Exa Z h0 x0 "java/lang/String") (P1 : Fld Z h0 x0 "java/lang/String" "coder" "B" (.int 0)) (P2 : Fld Z h0 x0 "java/lang/String" "value" "[B" .null) (P3 : Arv Z h0 x1 kk0 .char (2 : Int32) [(.int p0), (.int p1)] (.int 0)) (R_p0 : 0 ≤ p0.toInt ∧ p0.toInt ≤ 255) (R_p1 : 0 ≤ p1.toInt ∧ p1.toInt ≤ 255) (g_x0 : n0 ≤ x0) :
    Ctr l Z (⟨"java/lang/String", "<init>", "([CIILjava/lang/Void;)V"⟩ : MethodName) jdk_42_method_149_code 6 none ({ frames := 2, cells := 1, slots := 2, locals := 35 } : Room) #[(.ref x0), (.ref x1), (.int 0), (.int 2), .null] h0 (fun v h L => ∃ (z4_0 : Int32) (z4_1 : Int32) (b4_0 : Addr) (k4_0 : ClassId), (p0.toInt8.toInt32) = z4_0 ∧ (p1.toInt8.toInt32) = z4_1 ∧ v = none ∧ Fr n0 L ∧ Keep h0 h [x0] ∧ h0.size ≤ b4_0 ∧ Exa Z h x0 "java/lang/String" ∧ Fld Z h x0 "java/lang/String" "coder" "B" (.int 0) ∧ Fld Z h x0 "java/lang/String" "value" "[B" (.ref b4_0) ∧ Arv Z h b4_0 k4_0 .byte (2 : Int32) [(.int z4_0), (.int z4_1)] (.int 0) ∧ Exa Z h b4_0 "[B") := by
  refine Ctr.of (plainFor_of_name pn_c1) ?_
  intro p e s m below meth c T0 hx hZ hby hml hown hnm hret hlk e0 es X0
  have G' := G
  obtain ⟨G0, -, G2, -⟩ := G'
  refine Go.cast (ef_3_RRIIN m x0 x1 (0 : Int32) (2 : Int32)) ?_
  generalize hFF : EndN s _ _ _ = FF
  refine Go.aloadN X0 hx (pc' := 1) rfl (hb hby d3_0) rfl rfl ?_
  refine Go.initO X0 hx hZ hown (tw_16 hw) (tw_17 hw) (tw_18 hw) e0 (by decide) (W := 0) (by rw [hml]; rfl) (Nat.le_of_eq rfl) (by decide) (pc' := 4) rfl (hb hby d3_1) ?_
  intro T1 e1 X1
  refine Go.iloadN X1 hx (pc' := 5) rfl (hb hby d3_4) rfl ?_
  refine Go.ifYes X1 hx (pc' := 27) (hb hby d3_5) (by decide) (by decide) (by decide) ?_
  have fk2 : Sta Z h0 "java/lang/String" "COMPACT_STRINGS" "Z" (.int gz1) := G0.ext O0.2
  refine Go.getS X1 hx hZ hown (host := "") (Or.inl (tw_38 hw)) Via.refl e1 fk2 (pc' := 30) rfl (hb hby d3_27) ?_
  intro T3 e3 X3
  refine Go.ifNo X3 hx (pc' := 33) rfl (hb hby d3_30) (feq G2).1 ?_
  refine Go.aloadN X3 hx (pc' := 34) rfl (hb hby d3_33) rfl rfl ?_
  refine Go.iloadN X3 hx (pc' := 35) rfl (hb hby d3_34) rfl ?_
  refine Go.iloadN X3 hx (pc' := 36) rfl (hb hby d3_35) rfl ?_
  refine Go.callS X3 hx hZ hown (tw_98 hw) (tw_99 hw) (tw_100 hw) (tw_101 hw) (by decide) (tw_101 hw) (tw_100 hw) (au_37 l Z a0 hw x1 kk0 p0 p1 h0 n0 Z0 P3 R_p0 R_p1) e3 (argsL := [(.ref x1), (.int 0), (.int 2)]) (rest := []) (pc' := 39) rfl (by rw [hml]; rfl) (lenOf pd_18 rfl) rfl rfl (W := 0) (Nat.le_of_eq rfl) (by decide) (by decide) (by decide) (by decide) (hb hby d3_36) ?_
  intro v4 T4 L4 q4 X4
  obtain ⟨h4, e4⟩ : ∃ z, T4.heap = z := ⟨_, rfl⟩
  rw [e4] at q4
  obtain ⟨z4_0, z4_1, b4_0, k4_0, d4_0, d4_1, rfl, N4, K4, s4_0, F4_0, F4_1⟩ := q4
  show Go _ _ _ _ (T4.setTop (mkF m 39 #[.val (.ref x0), .val (.ref x1), .val (.int 0), .val (.int 2), .val .null, .unset] [(.ref b4_0)]))
  refine Go.astore X4 hx (pc' := 41) rfl (hb hby d3_39) (Ls' := #[.val (.ref x0), .val (.ref x1), .val (.int 0), .val (.int 2), .val .null, .val (.ref b4_0)]) rfl rfl ?_
  refine Go.aloadN X4 hx (pc' := 42) rfl (hb hby d3_41) rfl rfl ?_
  refine Go.aload X4 hx (pc' := 44) rfl (hb hby d3_42) rfl rfl ?_
  refine Go.iloadN X4 hx (pc' := 45) rfl (hb hby d3_44) rfl ?_
  have r5 : -128 ≤ z4_0.toInt ∧ z4_0.toInt ≤ 127 := own_ri2b d4_0
  have r6 : -128 ≤ z4_1.toInt ∧ z4_1.toInt ≤ 127 := own_ri2b d4_1
  have Kp8 : Keep h0 h4 [x0] := ((Keep.refl h0 [x0]).trans K4 all0)
  have Zn7 : n0 ≤ h4.size := Nat.le_trans Z0 Kp8.1
  refine Go.callS X4 hx hZ hown (tw_105 hw) (tw_106 hw) (tw_100 hw) (tw_107 hw) (by decide) (tw_107 hw) (tw_100 hw) (au_39 l Z a0 hw b4_0 k4_0 z4_0 z4_1 h4 n0 Zn7 F4_0) e4 (argsL := [(.ref b4_0), (.int 2)]) (rest := [(.ref x0)]) (pc' := 48) rfl (by rw [hml]; rfl) (lenOf pd_19 rfl) rfl rfl (W := 1) (Nat.le_of_eq rfl) (by decide) (by decide) (by decide) (by decide) (hb hby d3_45) ?_
  intro v9 T9 L9 q9 X9
  obtain ⟨rfl, N9, e9⟩ := q9
  show Go _ _ _ _ (T9.setTop (mkF m 48 #[.val (.ref x0), .val (.ref x1), .val (.int 0), .val (.int 2), .val .null, .val (.ref b4_0)] [(.int 0), (.ref x0)]))
  have fk10 : Fld Z h4 x0 "java/lang/String" "coder" "B" (.int 0) := (P1.keep K4 nin0)
  have fk11 : Exa Z h4 x0 "java/lang/String" := (P0.keep K4)
  refine Go.putFN X9 hx hZ hown (tw_26 hw) Via.refl e9 fk10 fk11 (Or.inr ⟨(tw_22 hw), rfl, hnm⟩) (tw_7 hw) (ty := .byte) (v' := (.int 0)) (by decide) (by decide) (by decide) (pc' := 51) rfl (hb hby d3_48) ?_
  intro T12 h12 e12 W12 F12 X12
  have N12 := Fr.snoc X12 (Fr.app (Fr.app (Fr.nil n0) N4) N9) g_x0
  refine Go.aloadN X12 hx (pc' := 52) rfl (hb hby d3_51) rfl rfl ?_
  refine Go.aload X12 hx (pc' := 54) rfl (hb hby d3_52) rfl rfl ?_
  have fk13 : Fld Z h12 x0 "java/lang/String" "value" "[B" .null := ((P2.keep K4 nin0).other W12 (Or.inr (slot_ne (Or.inr (tw_21 hw)) (Or.inr (tw_22 hw)) (by decide) (t := (.array .byte)) (t' := .byte) (by decide) (by decide))))
  have fk14 : Exa Z h12 x0 "java/lang/String" := (fk11.wr W12)
  refine Go.putF X12 hx hZ hown (host := "") (Or.inl (tw_25 hw)) Via.refl e12 fk13 fk14 (Or.inr ⟨(tw_21 hw), rfl, hnm⟩) (tw_7 hw) (ty := (.array .byte)) (by decide) rfl rfl (pc' := 57) rfl (hb hby d3_54) ?_
  intro T15 h15 e15 W15 F15 X15
  have N15 := Fr.snoc X15 N12 g_x0
  subst hFF
  refine Go.ret0 X15 hx hlk hret (hb hby d3_57) (by decide) (by decide) ?_
  rw [e15]
  have fk16 : Exa Z h15 x0 "java/lang/String" := (fk14.wr W15)
  have fk17 : Fld Z h15 x0 "java/lang/String" "coder" "B" (.int 0) := (F12.other W15 (Or.inr (slot_ne (Or.inr (tw_22 hw)) (Or.inr (tw_21 hw)) (by decide) (t := .byte) (t' := (.array .byte)) (by decide) (by decide))))
  have ne18 : x0 ≠ b4_0 := Nat.ne_of_lt (Nat.lt_of_lt_of_le P0.lt s4_0)
  have fk19 := ((F4_0.other W12 (Ne.symm ne18)).other W15 (Ne.symm ne18))
  have fk20 : Exa Z h15 b4_0 "[B" := ((F4_1.wr W12).wr W15)
  have Kp21 : Keep h0 h12 [x0] := (Kp8.wr W12 (Or.inl (List.mem_of_getElem? (i := 0) rfl)))
  have Kp22 : Keep h0 h15 [x0] := (Kp21.wr W15 (Or.inl (List.mem_of_getElem? (i := 0) rfl)))
  have sz23 : h0.size ≤ b4_0 := Nat.le_trans (Keep.refl h0 [x0]).1 s4_0
  exact ⟨z4_0, z4_1, b4_0, k4_0, d4_0, d4_1, rfl, N15, Kp22, sz23, fk16, fk17, F15, fk19, fk20⟩
-- java/lang/String.init
set_option maxRecDepth 65536 in
set_option maxHeartbeats 4000000 in
theorem au_35 (l : Launch) (Z : State) (a0 : Array Value) (hw : ∀ d ∈ tables_1, d.before a0 Z = true) (x0 : Addr) (x1 : Addr) (kk0 : ClassId) (p0 : Int32) (p1 : Int32) (gz1 : Int32) (gv5 : Value) (h0 : Heap) (n0 : Nat) (Z0 : n0 ≤ h0.size) (O0 : Old Z n0 h0) (G : Glob Z gz1 gv5) (P0 : Exa Z h0 x0 "java/lang/String") (P1 : Fld Z h0 x0 "java/lang/String" "coder" "B" (.int 0)) (P2 : Fld Z h0 x0 "java/lang/String" "value" "[B" .null) (P3 : Arv Z h0 x1 kk0 .char (2 : Int32) [(.int p0), (.int p1)] (.int 0)) (R_p0 : 0 ≤ p0.toInt ∧ p0.toInt ≤ 255) (R_p1 : 0 ≤ p1.toInt ∧ p1.toInt ≤ 255) (g_x0 : n0 ≤ x0) :
    Ctr l Z (⟨"java/lang/String", "<init>", "([C)V"⟩ : MethodName) jdk_42_method_3_code 2 none ({ frames := 3, cells := 1, slots := 2, locals := 52 } : Room) #[(.ref x0), (.ref x1)] h0 (fun v h L => ∃ (z1_0 : Int32) (z1_1 : Int32) (b1_0 : Addr) (k1_0 : ClassId), (p0.toInt8.toInt32) = z1_0 ∧ (p1.toInt8.toInt32) = z1_1 ∧ v = none ∧ Fr n0 L ∧ Keep h0 h [x0] ∧ h0.size ≤ b1_0 ∧ Exa Z h x0 "java/lang/String" ∧ Fld Z h x0 "java/lang/String" "coder" "B" (.int 0) ∧ Fld Z h x0 "java/lang/String" "value" "[B" (.ref b1_0) ∧ Arv Z h b1_0 k1_0 .byte (2 : Int32) [(.int z1_0), (.int z1_1)] (.int 0) ∧ Exa Z h b1_0 "[B") := by
  refine Ctr.of (plainFor_of_name pn_c1) ?_
  intro p e s m below meth c T0 hx hZ hby hml hown hnm hret hlk e0 es X0
  refine Go.cast (ef_2_RR m x0 x1) ?_
  generalize hFF : EndN s _ _ _ = FF
  refine Go.aloadN X0 hx (pc' := 1) rfl (hb hby d2_0) rfl rfl ?_
  refine Go.aloadN X0 hx (pc' := 2) rfl (hb hby d2_1) rfl rfl ?_
  refine Go.iconst X0 hx (pc' := 3) rfl (hb hby d2_2) (v := (0 : Int32)) rfl ?_
  refine Go.aloadN X0 hx (pc' := 4) rfl (hb hby d2_3) rfl rfl ?_
  refine Go.arraylength X0 hx hZ e0 P3 (pc' := 5) rfl (hb hby d2_4) ?_
  refine Go.anull X0 hx (pc' := 6) rfl (hb hby d2_5) ?_
  refine Go.callN X0 hx hZ hown rfl (tw_12 hw) (tw_13 hw) (tw_15 hw) (by decide) (tw_15 hw) (tw_8 hw) (au_36 l Z a0 hw x0 x1 kk0 p0 p1 gz1 gv5 h0 n0 Z0 O0 G P0 P1 P2 P3 R_p0 R_p1 g_x0) e0 (a := x0) (argsL := [(.ref x1), (.int 0), (.int 2), .null]) (rest := []) (pc' := 9) rfl (by rw [hml]; rfl) (lenOf pd_1 rfl) rfl rfl (W := 0) (Nat.le_of_eq rfl) (by decide) (by decide) (by decide) (by decide) (hb hby d2_6) ?_
  intro v1 T1 L1 q1 X1
  obtain ⟨h1, e1⟩ : ∃ z, T1.heap = z := ⟨_, rfl⟩
  rw [e1] at q1
  obtain ⟨z1_0, z1_1, b1_0, k1_0, d1_0, d1_1, rfl, N1, K1, s1_0, F1_0, F1_1, F1_2, F1_3, F1_4⟩ := q1
  show Go _ _ _ _ (T1.setTop (mkF m 9 #[.val (.ref x0), .val (.ref x1)] []))
  subst hFF
  refine Go.ret0 X1 hx hlk hret (hb hby d2_9) (by decide) (by decide) ?_
  rw [e1]
  have Kp2 : Keep h0 h1 [x0] := ((Keep.refl h0 [x0]).trans K1 (allS (Or.inl (List.mem_of_getElem? (i := 0) rfl)) all0))
  have sz3 : h0.size ≤ b1_0 := Nat.le_trans (Keep.refl h0 [x0]).1 s1_0
  exact ⟨z1_0, z1_1, b1_0, k1_0, d1_0, d1_1, rfl, (Fr.app (Fr.nil n0) N1), Kp2, sz3, F1_0, F1_1, F1_2, F1_3, F1_4⟩
-- java/lang/StringLatin1.equals
set_option maxRecDepth 65536 in
set_option maxHeartbeats 4000000 in
theorem au_43 (l : Launch) (Z : State) (a0 : Array Value) (hw : ∀ d ∈ tables_1, d.before a0 Z = true) (x0 : Addr) (x1 : Addr) (kk0 : ClassId) (p0 : Int32) (p1 : Int32) (kk1 : ClassId) (h0 : Heap) (n0 : Nat) (Z0 : n0 ≤ h0.size) (P0 : Arv Z h0 x0 kk0 .byte (2 : Int32) [(.int p0), (.int p1)] (.int 0)) (P2 : Arv Z h0 x1 kk1 .byte (1 : Int32) [(.int 47)] (.int (0 : Int32))) :
    Ctr l Z (⟨"java/lang/StringLatin1", "equals", "([B[B)Z"⟩ : MethodName) jdk_43_method_13_code 3 (some .boolean) ({ frames := 0, cells := 0, slots := 0, locals := 0 } : Room) #[(.ref x0), (.ref x1)] h0 (fun v h L => v = some (.int 0) ∧ Fr n0 L ∧ h = h0) := by
  refine Ctr.of (plainFor_of_name pn_c2) ?_
  intro p e s m below meth c T0 hx hZ hby hml hown hnm hret hlk e0 es X0
  refine Go.cast (ef_7_RR m x0 x1) ?_
  generalize hFF : EndN s _ _ _ = FF
  refine Go.aloadN X0 hx (pc' := 1) rfl (hb hby d7_0) rfl rfl ?_
  refine Go.arraylength X0 hx hZ e0 P0 (pc' := 2) rfl (hb hby d7_1) ?_
  refine Go.aloadN X0 hx (pc' := 3) rfl (hb hby d7_2) rfl rfl ?_
  refine Go.arraylength X0 hx hZ e0 P2 (pc' := 4) rfl (hb hby d7_3) ?_
  refine Go.icmpYes X0 hx (pc' := 34) (hb hby d7_4) (by decide) (by decide) (by decide) ?_
  refine Go.iconst X0 hx (pc' := 35) rfl (hb hby d7_34) (v := (0 : Int32)) rfl ?_
  subst hFF
  refine Go.retN X0 hx hlk (t := .boolean) hret (by simp) (hb hby d7_35) (by decide) (by decide) ?_
  rw [e0]
  exact ⟨(congrArg (fun z => some (Value.int z)) (by decide : nar .boolean (0 : Int32) = (0 : Int32))), (Fr.nil n0), rfl⟩
-- java/lang/String.equals
set_option maxRecDepth 65536 in
set_option maxHeartbeats 4000000 in
theorem au_42 (l : Launch) (Z : State) (a0 : Array Value) (hw : ∀ d ∈ tables_1, d.before a0 Z = true) (x0 : Addr) (x1 : Addr) (x2 : Addr) (x3 : Addr) (kk0 : ClassId) (p0 : Int32) (p1 : Int32) (kk1 : ClassId) (gz1 : Int32) (gv5 : Value) (h0 : Heap) (n0 : Nat) (Z0 : n0 ≤ h0.size) (O0 : Old Z n0 h0) (G : Glob Z gz1 gv5) (P1 : Fld Z h0 x0 "java/lang/String" "coder" "B" (.int 0)) (P2 : Fld Z h0 x0 "java/lang/String" "value" "[B" (.ref x2)) (P3 : Exa Z h0 x1 "java/lang/String") (P4 : Fld Z h0 x1 "java/lang/String" "coder" "B" (.int 0)) (P5 : Fld Z h0 x1 "java/lang/String" "value" "[B" (.ref x3)) (P6 : Arv Z h0 x2 kk0 .byte (2 : Int32) [(.int p0), (.int p1)] (.int 0)) (P8 : Arv Z h0 x3 kk1 .byte (1 : Int32) [(.int 47)] (.int (0 : Int32))) (ne_x0_x1 : x0 ≠ x1) :
    Ctr l Z (⟨"java/lang/String", "equals", "(Ljava/lang/Object;)Z"⟩ : MethodName) jdk_42_method_66_code 3 (some .boolean) ({ frames := 1, cells := 0, slots := 0, locals := 14 } : Room) #[(.ref x0), (.ref x1)] h0 (fun v h L => v = some (.int 0) ∧ Fr n0 L ∧ h = h0) := by
  refine Ctr.of (plainFor_of_name pn_c1) ?_
  intro p e s m below meth c T0 hx hZ hby hml hown hnm hret hlk e0 es X0
  have G' := G
  obtain ⟨G0, -, G2, -⟩ := G'
  refine Go.cast (ef_6_RR m x0 x1) ?_
  generalize hFF : EndN s _ _ _ = FF
  refine Go.aloadN X0 hx (pc' := 1) rfl (hb hby d6_0) rfl rfl ?_
  refine Go.aloadN X0 hx (pc' := 2) rfl (hb hby d6_1) rfl rfl ?_
  refine Go.acmp X0 hx (pc' := 7) (same := false) (hb hby d6_2) rfl rfl (decide_eq_false (fun q => ne_x0_x1 (Value.ref.inj q))) (by decide) (by decide) ?_
  refine Go.aloadN X0 hx (pc' := 8) rfl (hb hby d6_7) rfl rfl ?_
  refine Go.instY X0 hx hZ hown (tw_37 hw) e0 (Ins.self P3) (pc' := 11) rfl (hb hby d6_8) ?_
  intro T1 e1 X1
  refine Go.ifNo X1 hx (pc' := 14) rfl (hb hby d6_11) (by decide) ?_
  refine Go.aloadN X1 hx (pc' := 15) rfl (hb hby d6_14) rfl rfl ?_
  refine Go.castY X1 hx hZ hown (tw_37 hw) e1 (Ins.self P3) (pc' := 18) rfl (hb hby d6_15) ?_
  intro T2 e2 X2
  refine Go.astoreN X2 hx (pc' := 19) rfl (hb hby d6_18) (Ls' := #[.val (.ref x0), .val (.ref x1), .val (.ref x1)]) rfl rfl ?_
  have fk3 : Sta Z h0 "java/lang/String" "COMPACT_STRINGS" "Z" (.int gz1) := G0.ext O0.2
  refine Go.getS X2 hx hZ hown (host := "") (Or.inl (tw_38 hw)) Via.refl e2 fk3 (pc' := 22) rfl (hb hby d6_19) ?_
  intro T4 e4 X4
  refine Go.ifNo X4 hx (pc' := 25) rfl (hb hby d6_22) (feq G2).1 ?_
  refine Go.aloadN X4 hx (pc' := 26) rfl (hb hby d6_25) rfl rfl ?_
  refine Go.getF X4 hx hZ hown (host := "") (Or.inl (tw_26 hw)) Via.refl e4 P1 (pc' := 29) rfl (hb hby d6_26) ?_
  intro T5 e5 X5
  refine Go.aloadN X5 hx (pc' := 30) rfl (hb hby d6_29) rfl rfl ?_
  refine Go.getF X5 hx hZ hown (host := "") (Or.inl (tw_26 hw)) Via.refl e5 P4 (pc' := 33) rfl (hb hby d6_30) ?_
  intro T6 e6 X6
  refine Go.icmpNo X6 hx (pc' := 36) rfl (hb hby d6_33) (by decide) ?_
  refine Go.aloadN X6 hx (pc' := 37) rfl (hb hby d6_36) rfl rfl ?_
  refine Go.getF X6 hx hZ hown (host := "") (Or.inl (tw_25 hw)) Via.refl e6 P2 (pc' := 40) rfl (hb hby d6_37) ?_
  intro T7 e7 X7
  refine Go.aloadN X7 hx (pc' := 41) rfl (hb hby d6_40) rfl rfl ?_
  refine Go.getF X7 hx hZ hown (host := "") (Or.inl (tw_25 hw)) Via.refl e7 P5 (pc' := 44) rfl (hb hby d6_41) ?_
  intro T8 e8 X8
  refine Go.callS X8 hx hZ hown (tw_39 hw) (tw_40 hw) (tw_41 hw) (tw_42 hw) (by decide) (tw_42 hw) (tw_41 hw) (au_43 l Z a0 hw x2 x3 kk0 p0 p1 kk1 h0 n0 Z0 P6 P8) e8 (argsL := [(.ref x2), (.ref x3)]) (rest := []) (pc' := 47) rfl (by rw [hml]; rfl) (lenOf pd_3 rfl) rfl rfl (W := 0) (Nat.le_of_eq rfl) (by decide) (by decide) (by decide) (by decide) (hb hby d6_44) ?_
  intro v9 T9 L9 q9 X9
  obtain ⟨rfl, N9, e9⟩ := q9
  show Go _ _ _ _ (T9.setTop (mkF m 47 #[.val (.ref x0), .val (.ref x1), .val (.ref x1)] [(.int 0)]))
  refine Go.ifYes X9 hx (pc' := 54) (hb hby d6_47) (by decide) (by decide) (by decide) ?_
  refine Go.iconst X9 hx (pc' := 55) rfl (hb hby d6_54) (v := (0 : Int32)) rfl ?_
  subst hFF
  refine Go.retN X9 hx hlk (t := .boolean) hret (by simp) (hb hby d6_55) (by decide) (by decide) ?_
  rw [e9]
  exact ⟨(congrArg (fun z => some (Value.int z)) (by decide : nar .boolean (0 : Int32) = (0 : Int32))), (Fr.app (Fr.nil n0) N9), rfl⟩
-- java/lang/StringLatin1.equals
set_option maxRecDepth 65536 in
set_option maxHeartbeats 4000000 in
theorem au_45 (l : Launch) (Z : State) (a0 : Array Value) (hw : ∀ d ∈ tables_1, d.before a0 Z = true) (x0 : Addr) (x1 : Addr) (kk0 : ClassId) (p0 : Int32) (p1 : Int32) (kk1 : ClassId) (h0 : Heap) (n0 : Nat) (Z0 : n0 ≤ h0.size) (P0 : Arv Z h0 x0 kk0 .byte (2 : Int32) [(.int p0), (.int p1)] (.int 0)) (P2 : Arv Z h0 x1 kk1 .byte (3 : Int32) [(.int 47), (.int 117), (.int 105)] (.int 0)) :
    Ctr l Z (⟨"java/lang/StringLatin1", "equals", "([B[B)Z"⟩ : MethodName) jdk_43_method_13_code 3 (some .boolean) ({ frames := 0, cells := 0, slots := 0, locals := 0 } : Room) #[(.ref x0), (.ref x1)] h0 (fun v h L => v = some (.int 0) ∧ Fr n0 L ∧ h = h0) := by
  refine Ctr.of (plainFor_of_name pn_c2) ?_
  intro p e s m below meth c T0 hx hZ hby hml hown hnm hret hlk e0 es X0
  refine Go.cast (ef_7_RR m x0 x1) ?_
  generalize hFF : EndN s _ _ _ = FF
  refine Go.aloadN X0 hx (pc' := 1) rfl (hb hby d7_0) rfl rfl ?_
  refine Go.arraylength X0 hx hZ e0 P0 (pc' := 2) rfl (hb hby d7_1) ?_
  refine Go.aloadN X0 hx (pc' := 3) rfl (hb hby d7_2) rfl rfl ?_
  refine Go.arraylength X0 hx hZ e0 P2 (pc' := 4) rfl (hb hby d7_3) ?_
  refine Go.icmpYes X0 hx (pc' := 34) (hb hby d7_4) (by decide) (by decide) (by decide) ?_
  refine Go.iconst X0 hx (pc' := 35) rfl (hb hby d7_34) (v := (0 : Int32)) rfl ?_
  subst hFF
  refine Go.retN X0 hx hlk (t := .boolean) hret (by simp) (hb hby d7_35) (by decide) (by decide) ?_
  rw [e0]
  exact ⟨(congrArg (fun z => some (Value.int z)) (by decide : nar .boolean (0 : Int32) = (0 : Int32))), (Fr.nil n0), rfl⟩
-- java/lang/String.equals
set_option maxRecDepth 65536 in
set_option maxHeartbeats 4000000 in
theorem au_44 (l : Launch) (Z : State) (a0 : Array Value) (hw : ∀ d ∈ tables_1, d.before a0 Z = true) (x0 : Addr) (x1 : Addr) (x2 : Addr) (x3 : Addr) (kk0 : ClassId) (p0 : Int32) (p1 : Int32) (kk1 : ClassId) (gz1 : Int32) (gv5 : Value) (h0 : Heap) (n0 : Nat) (Z0 : n0 ≤ h0.size) (O0 : Old Z n0 h0) (G : Glob Z gz1 gv5) (P1 : Fld Z h0 x0 "java/lang/String" "coder" "B" (.int 0)) (P2 : Fld Z h0 x0 "java/lang/String" "value" "[B" (.ref x2)) (P3 : Exa Z h0 x1 "java/lang/String") (P4 : Fld Z h0 x1 "java/lang/String" "coder" "B" (.int 0)) (P5 : Fld Z h0 x1 "java/lang/String" "value" "[B" (.ref x3)) (P6 : Arv Z h0 x2 kk0 .byte (2 : Int32) [(.int p0), (.int p1)] (.int 0)) (P8 : Arv Z h0 x3 kk1 .byte (3 : Int32) [(.int 47), (.int 117), (.int 105)] (.int 0)) (ne_x0_x1 : x0 ≠ x1) :
    Ctr l Z (⟨"java/lang/String", "equals", "(Ljava/lang/Object;)Z"⟩ : MethodName) jdk_42_method_66_code 3 (some .boolean) ({ frames := 1, cells := 0, slots := 0, locals := 14 } : Room) #[(.ref x0), (.ref x1)] h0 (fun v h L => v = some (.int 0) ∧ Fr n0 L ∧ h = h0) := by
  refine Ctr.of (plainFor_of_name pn_c1) ?_
  intro p e s m below meth c T0 hx hZ hby hml hown hnm hret hlk e0 es X0
  have G' := G
  obtain ⟨G0, -, G2, -⟩ := G'
  refine Go.cast (ef_6_RR m x0 x1) ?_
  generalize hFF : EndN s _ _ _ = FF
  refine Go.aloadN X0 hx (pc' := 1) rfl (hb hby d6_0) rfl rfl ?_
  refine Go.aloadN X0 hx (pc' := 2) rfl (hb hby d6_1) rfl rfl ?_
  refine Go.acmp X0 hx (pc' := 7) (same := false) (hb hby d6_2) rfl rfl (decide_eq_false (fun q => ne_x0_x1 (Value.ref.inj q))) (by decide) (by decide) ?_
  refine Go.aloadN X0 hx (pc' := 8) rfl (hb hby d6_7) rfl rfl ?_
  refine Go.instY X0 hx hZ hown (tw_37 hw) e0 (Ins.self P3) (pc' := 11) rfl (hb hby d6_8) ?_
  intro T1 e1 X1
  refine Go.ifNo X1 hx (pc' := 14) rfl (hb hby d6_11) (by decide) ?_
  refine Go.aloadN X1 hx (pc' := 15) rfl (hb hby d6_14) rfl rfl ?_
  refine Go.castY X1 hx hZ hown (tw_37 hw) e1 (Ins.self P3) (pc' := 18) rfl (hb hby d6_15) ?_
  intro T2 e2 X2
  refine Go.astoreN X2 hx (pc' := 19) rfl (hb hby d6_18) (Ls' := #[.val (.ref x0), .val (.ref x1), .val (.ref x1)]) rfl rfl ?_
  have fk3 : Sta Z h0 "java/lang/String" "COMPACT_STRINGS" "Z" (.int gz1) := G0.ext O0.2
  refine Go.getS X2 hx hZ hown (host := "") (Or.inl (tw_38 hw)) Via.refl e2 fk3 (pc' := 22) rfl (hb hby d6_19) ?_
  intro T4 e4 X4
  refine Go.ifNo X4 hx (pc' := 25) rfl (hb hby d6_22) (feq G2).1 ?_
  refine Go.aloadN X4 hx (pc' := 26) rfl (hb hby d6_25) rfl rfl ?_
  refine Go.getF X4 hx hZ hown (host := "") (Or.inl (tw_26 hw)) Via.refl e4 P1 (pc' := 29) rfl (hb hby d6_26) ?_
  intro T5 e5 X5
  refine Go.aloadN X5 hx (pc' := 30) rfl (hb hby d6_29) rfl rfl ?_
  refine Go.getF X5 hx hZ hown (host := "") (Or.inl (tw_26 hw)) Via.refl e5 P4 (pc' := 33) rfl (hb hby d6_30) ?_
  intro T6 e6 X6
  refine Go.icmpNo X6 hx (pc' := 36) rfl (hb hby d6_33) (by decide) ?_
  refine Go.aloadN X6 hx (pc' := 37) rfl (hb hby d6_36) rfl rfl ?_
  refine Go.getF X6 hx hZ hown (host := "") (Or.inl (tw_25 hw)) Via.refl e6 P2 (pc' := 40) rfl (hb hby d6_37) ?_
  intro T7 e7 X7
  refine Go.aloadN X7 hx (pc' := 41) rfl (hb hby d6_40) rfl rfl ?_
  refine Go.getF X7 hx hZ hown (host := "") (Or.inl (tw_25 hw)) Via.refl e7 P5 (pc' := 44) rfl (hb hby d6_41) ?_
  intro T8 e8 X8
  refine Go.callS X8 hx hZ hown (tw_39 hw) (tw_40 hw) (tw_41 hw) (tw_42 hw) (by decide) (tw_42 hw) (tw_41 hw) (au_45 l Z a0 hw x2 x3 kk0 p0 p1 kk1 h0 n0 Z0 P6 P8) e8 (argsL := [(.ref x2), (.ref x3)]) (rest := []) (pc' := 47) rfl (by rw [hml]; rfl) (lenOf pd_3 rfl) rfl rfl (W := 0) (Nat.le_of_eq rfl) (by decide) (by decide) (by decide) (by decide) (hb hby d6_44) ?_
  intro v9 T9 L9 q9 X9
  obtain ⟨rfl, N9, e9⟩ := q9
  show Go _ _ _ _ (T9.setTop (mkF m 47 #[.val (.ref x0), .val (.ref x1), .val (.ref x1)] [(.int 0)]))
  refine Go.ifYes X9 hx (pc' := 54) (hb hby d6_47) (by decide) (by decide) (by decide) ?_
  refine Go.iconst X9 hx (pc' := 55) rfl (hb hby d6_54) (v := (0 : Int32)) rfl ?_
  subst hFF
  refine Go.retN X9 hx hlk (t := .boolean) hret (by simp) (hb hby d6_55) (by decide) (by decide) ?_
  rw [e9]
  exact ⟨(congrArg (fun z => some (Value.int z)) (by decide : nar .boolean (0 : Int32) = (0 : Int32))), (Fr.app (Fr.nil n0) N9), rfl⟩
-- com/example/roles_over_datacenter/rolesoverdatacenter/Page.redirects
set_option maxRecDepth 65536 in
set_option maxHeartbeats 4000000 in
theorem au_41 (l : Launch) (Z : State) (a0 : Array Value) (hw : ∀ d ∈ tables_1, d.before a0 Z = true) (x0 : Addr) (x1 : Addr) (kk0 : ClassId) (p0 : Int32) (p1 : Int32) (gz1 : Int32) (gv5 : Value) (h0 : Heap) (n0 : Nat) (Z0 : n0 ≤ h0.size) (O0 : Old Z n0 h0) (G : Glob Z gz1 gv5) (P0 : Exa Z h0 x0 "java/lang/String") (P1 : Fld Z h0 x0 "java/lang/String" "coder" "B" (.int 0)) (P2 : Fld Z h0 x0 "java/lang/String" "value" "[B" (.ref x1)) (P3 : Arv Z h0 x1 kk0 .byte (2 : Int32) [(.int p0), (.int p1)] (.int 0)) :
    CtrW l Z EL0 (⟨"com/example/roles_over_datacenter/rolesoverdatacenter/Page", "redirects", "(Ljava/lang/String;)Z"⟩ : MethodName) prog_11_method_4_code 1 (some .boolean) ({ frames := 5, cells := 8, slots := 55, locals := 81 } : Room) #[(.ref x0)] h0 [x0] (fun v vm h L => v = some (.int 0) ∧ Fr n0 L ∧ Keep h0 h []) := by
  refine CtrW.of (plainFor_of_name pn_c5) ?_
  intro p e s m below meth c T0 hx hZ hby hml hown hnm hret hlk e0 es hS0 C0 hsf X0
  have G' := G
  obtain ⟨-, G1, -, -⟩ := G'
  refine Go.cast (ef_5_R m x0) ?_
  generalize hFF : EndW Z EL0 s _ _ _ = FF
  refine Go.aloadN X0 hx (pc' := 1) rfl (hb hby d5_0) rfl rfl ?_
  refine Go.ldcCH X0 hx hZ hown (tw_31 hw) (own_SA hw) e0 hS0 (Nat.le_refl _) (own_EW hw) (List.mem_of_getElem? (i := 1) rfl) C0.1 (vs := [(.int (47 : Int32))]) (z := (1 : Int32)) (by decide) (by decide) rfl (n := 4) (by decide) (by decide) (by decide) (by decide) (pc' := 3) rfl (hb hby d5_1) ?_
  intro a1 T1 h1 j1 b1 k1 e1 E1 S1 i1 Z1 O1 A1 F1 G1 V1 C1 D1 X1
  have Kp3 : Keep h0 h1 [] := ((Keep.refl h0 []).ext E1)
  have Zn2 : n0 ≤ h1.size := Nat.le_trans Z0 Kp3.1
  have O4 := (O0.ext E1)
  have fk5 : Fld Z h1 x0 "java/lang/String" "coder" "B" (.int 0) := (P1.ext E1)
  have fk6 : Fld Z h1 x0 "java/lang/String" "value" "[B" (.ref x1) := (P2.ext E1)
  have fk7 := (P3.ext E1)
  have fk8 : Safe Z EL0 T1.vm h1 x0 := (C1.safe P0.lt (hsf _ (List.mem_of_getElem? (i := 0) rfl)))
  have fk9 : Exa Z h1 x0 "java/lang/String" := (P0.ext E1)
  refine Go.callV X1 hx Z1 O1 (tw_32 hw) (tw_33 hw) (notFace_of_selects (args := #[]) (mvT Z1 (tw_35 hw))) (tw_35 hw) (tw_34 hw) (by decide) (tw_36 hw) (tw_8 hw) (au_42 l Z a0 hw x0 a1 x1 b1 kk0 p0 p1 k1 gz1 gv5 h1 n0 Zn2 O4 G fk5 fk6 A1 F1 G1 fk7 V1 (D1 x0 fk8).1) e1 fk9 (argsL := [(.ref a1)]) (rest := []) (pc' := 6) rfl (by rw [hml]; rfl) (lenOf pd_4 rfl) rfl rfl (W := 0) (Nat.le_of_eq rfl) (by decide) (by decide) (by decide) (by decide) (hb hby d5_3) ?_
  intro v10 T10 L10 q10 X10
  obtain ⟨rfl, N10, e10⟩ := q10
  show Go _ _ _ _ (T10.setTop (mkF m 6 #[.val (.ref x0)] [(.int 0)]))
  refine Go.ifNo X10 hx (pc' := 9) rfl (hb hby d5_6) (by decide) ?_
  refine Go.aloadN X10 hx (pc' := 10) rfl (hb hby d5_9) rfl rfl ?_
  have C11 : CHr Z EL0 s.vm s.heap T1.vm h1 := (C0.trans C1)
  refine Go.ldcCH X10 hx Z1 O1 (tw_43 hw) (own_SA hw) e10 S1 i1 (own_EW hw) (List.mem_of_getElem? (i := 0) rfl) C11.1 (vs := [(.int (47 : Int32)), (.int (117 : Int32)), (.int (105 : Int32)), (.int (47 : Int32))]) (z := (4 : Int32)) (by decide) (by decide) rfl (n := 16) (by decide) (by decide) (by decide) (by decide) (pc' := 12) rfl (hb hby d5_10) ?_
  intro a12 T12 h12 j12 b12 k12 e12 E12 S12 i12 Z12 O12 A12 F12 G12 V12 C12 D12 X12
  refine Go.iconst X12 hx (pc' := 13) rfl (hb hby d5_12) (v := (0 : Int32)) rfl ?_
  have C13 : CHr Z EL0 s.vm s.heap T12.vm h12 := (C11.trans C12)
  refine Go.ldcCH X12 hx Z12 O12 (tw_43 hw) (own_SA hw) e12 S12 i12 (own_EW hw) (List.mem_of_getElem? (i := 0) rfl) C13.1 (vs := [(.int (47 : Int32)), (.int (117 : Int32)), (.int (105 : Int32)), (.int (47 : Int32))]) (z := (4 : Int32)) (by decide) (by decide) rfl (n := 16) (by decide) (by decide) (by decide) (by decide) (pc' := 15) rfl (hb hby d5_13) ?_
  intro a14 T14 h14 j14 b14 k14 e14 E14 S14 i14 Z14 O14 A14 F14 G14 V14 C14 D14 X14
  have Kp16 : Keep h0 h12 [] := (Kp3.ext E12)
  have Kp17 : Keep h0 h14 [] := (Kp16.ext E14)
  have Zn15 : n0 ≤ h14.size := Nat.le_trans Z0 Kp17.1
  have O18 := (O4.ext E12)
  have O19 := (O18.ext E14)
  refine Go.callV X14 hx Z14 O14 (tw_44 hw) (tw_45 hw) (notFace_of_selects (args := #[]) (mvT Z14 (tw_47 hw))) (tw_47 hw) (tw_46 hw) (by decide) (tw_48 hw) (tw_8 hw) (au_10 l Z a0 hw a14 b14 k14 gz1 gv5 h14 n0 Zn15 O19 G A14 F14 G14 V14) e14 A14 (argsL := []) (rest := [(.int 0), (.ref a12), (.ref x0)]) (pc' := 18) rfl (by rw [hml]; rfl) (lenOf pd_6 rfl) rfl rfl (W := 3) (Nat.le_of_eq rfl) (by decide) (by decide) (by decide) (by decide) (hb hby d5_15) ?_
  intro v20 T20 L20 q20 X20
  obtain ⟨rfl, N20, e20⟩ := q20
  show Go _ _ _ _ (T20.setTop (mkF m 18 #[.val (.ref x0)] [(.int 4), (.int 0), (.ref a12), (.ref x0)]))
  refine Go.iconst X20 hx (pc' := 19) rfl (hb hby d5_18) (v := (1 : Int32)) rfl ?_
  refine Go.isub X20 hx (pc' := 20) rfl (hb hby d5_19) ?_
  rw [show ((4 : Int32) - (1 : Int32)) = (3 : Int32) from by decide]
  have fk21 : Exa Z h14 a12 "java/lang/String" := (A12.ext E14)
  have fk22 : Fld Z h14 a12 "java/lang/String" "coder" "B" (.int 0) := (F12.ext E14)
  have fk23 : Fld Z h14 a12 "java/lang/String" "value" "[B" (.ref b12) := (G12.ext E14)
  have fk24 := (V12.ext E14)
  refine Go.callV X20 hx Z14 O14 (tw_54 hw) (tw_55 hw) (notFace_of_selects (args := #[]) (mvT Z14 (tw_57 hw))) (tw_57 hw) (tw_56 hw) (by decide) (tw_58 hw) (tw_8 hw) (au_12 l Z a0 hw a12 b12 k12 gz1 gv5 h14 n0 Zn15 O19 G fk21 fk22 fk23 fk24) e20 fk21 (argsL := [(.int 0), (.int 3)]) (rest := [(.ref x0)]) (pc' := 23) rfl (by rw [hml]; rfl) (lenOf pd_15 rfl) rfl rfl (W := 1) (Nat.le_of_eq rfl) (by decide) (by decide) (by decide) (by decide) (hb hby d5_20) ?_
  intro v25 T25 L25 q25 X25
  obtain ⟨h25, e25⟩ : ∃ z, T25.heap = z := ⟨_, rfl⟩
  rw [e25] at q25
  obtain ⟨b25_0, b25_1, k25_0, rfl, N25, K25, s25_0, s25_1, n25_0, F25_0, F25_1, F25_2, F25_3, F25_4⟩ := q25
  show Go _ _ _ _ (T25.setTop (mkF m 23 #[.val (.ref x0)] [(.ref b25_0), (.ref x0)]))
  have Kp27 : Keep h0 h25 [] := (Kp17.trans K25 all0)
  have Zn26 : n0 ≤ h25.size := Nat.le_trans Z0 Kp27.1
  have O28 := (O19.keep K25 all0)
  have fk29 : Fld Z h25 x0 "java/lang/String" "coder" "B" (.int 0) := (((fk5.ext E12).ext E14).keep K25 nin0)
  have fk30 : Fld Z h25 x0 "java/lang/String" "value" "[B" (.ref x1) := (((fk6.ext E12).ext E14).keep K25 nin0)
  have fk31 := (((fk7.ext E12).ext E14).keep K25 nin0)
  have fk33 : Exa Z h14 x0 "java/lang/String" := ((fk9.ext E12).ext E14)
  have ne32 : x0 ≠ b25_0 := Nat.ne_of_lt (Nat.lt_of_lt_of_le fk33.lt s25_0)
  have fk34 : Exa Z h25 x0 "java/lang/String" := (fk33.keep K25)
  refine Go.callV X25 hx Z14 O14 (tw_32 hw) (tw_33 hw) (notFace_of_selects (args := #[]) (mvT Z14 (tw_35 hw))) (tw_35 hw) (tw_34 hw) (by decide) (tw_36 hw) (tw_8 hw) (au_44 l Z a0 hw x0 b25_0 x1 b25_1 kk0 p0 p1 k25_0 gz1 gv5 h25 n0 Zn26 O28 G fk29 fk30 F25_0 F25_1 F25_2 fk31 F25_3 ne32) e25 fk34 (argsL := [(.ref b25_0)]) (rest := []) (pc' := 26) rfl (by rw [hml]; rfl) (lenOf pd_4 rfl) rfl rfl (W := 0) (Nat.le_of_eq rfl) (by decide) (by decide) (by decide) (by decide) (hb hby d5_23) ?_
  intro v35 T35 L35 q35 X35
  obtain ⟨rfl, N35, e35⟩ := q35
  show Go _ _ _ _ (T35.setTop (mkF m 26 #[.val (.ref x0)] [(.int 0)]))
  refine Go.ifYes X35 hx (pc' := 33) (hb hby d5_26) (by decide) (by decide) (by decide) ?_
  refine Go.iconst X35 hx (pc' := 34) rfl (hb hby d5_33) (v := (0 : Int32)) rfl ?_
  subst hFF
  have C36 : CHr Z EL0 s.vm s.heap T14.vm h14 := (C13.trans C14)
  have C37 : CHr Z EL0 s.vm s.heap T14.vm h25 := (C36.trans (CHr.keep K25 sf0 C36.1))
  have hk38 := (Nat.le_trans i14 K25.1)
  refine Go.retNW X35 hx hlk Z14 (own_EW hw) e35 S14 hk38 C37 (t := .boolean) hret (by simp) (hb hby d5_34) (by decide) (by decide) (fun hat => ?_)
  exact ⟨(congrArg (fun z => some (Value.int z)) (by decide : nar .boolean (0 : Int32) = (0 : Int32))), (Fr.app (Fr.app (Fr.app (Fr.app (Fr.nil n0) N10) N20) N25) N35), Kp27⟩
-- java/lang/StringUTF16.compress
set_option maxRecDepth 65536 in
set_option maxHeartbeats 4000000 in
theorem au_49 (l : Launch) (Z : State) (a0 : Array Value) (hw : ∀ d ∈ tables_1, d.before a0 Z = true) (x0 : Addr) (x1 : Addr) (kk0 : ClassId) (p0 : Int32) (p1 : Int32) (p2 : Int32) (kk1 : ClassId) (h0 : Heap) (n0 : Nat) (Z0 : n0 ≤ h0.size) (P0 : Arv Z h0 x0 kk0 .char (3 : Int32) [(.int p0), (.int p1), (.int p2)] (.int 0)) (P2 : Arv Z h0 x1 kk1 .byte (3 : Int32) [(.int 0), (.int 0), (.int 0)] (.int 0)) (P3 : Exa Z h0 x1 "[B") (R_p0 : 0 ≤ p0.toInt ∧ p0.toInt ≤ 255) (R_p1 : 0 ≤ p1.toInt ∧ p1.toInt ≤ 255) (R_p2 : 0 ≤ p2.toInt ∧ p2.toInt ≤ 255) (g_x1 : n0 ≤ x1) (ne_x0_x1 : x0 ≠ x1) :
    Ctr l Z (⟨"java/lang/StringUTF16", "compress", "([CI[BII)I"⟩ : MethodName) jdk_52_method_21_code 7 (some .int) ({ frames := 0, cells := 0, slots := 0, locals := 0 } : Room) #[(.ref x0), (.int 0), (.ref x1), (.int 0), (.int 3)] h0 (fun v h L => ∃ (z1 : Int32) (z5 : Int32) (z9 : Int32), (p0.toInt8.toInt32) = z1 ∧ (p1.toInt8.toInt32) = z5 ∧ (p2.toInt8.toInt32) = z9 ∧ v = some (.int 3) ∧ Fr n0 L ∧ Keep h0 h [x1] ∧ Arv Z h x1 kk1 .byte (3 : Int32) [(.int z1), (.int z5), (.int z9)] (.int 0) ∧ Exa Z h x1 "[B") := by
  refine Ctr.of (plainFor_of_name pn_c6) ?_
  intro p e s m below meth c T0 hx hZ hby hml hown hnm hret hlk e0 es X0
  refine Go.cast (ef_21_RIRII m x0 (0 : Int32) x1 (0 : Int32) (3 : Int32)) ?_
  generalize hFF : EndN s _ _ _ = FF
  refine Go.iconst X0 hx (pc' := 1) rfl (hb hby d21_0) (v := (0 : Int32)) rfl ?_
  refine Go.istore X0 hx (pc' := 3) rfl (hb hby d21_1) (Ls' := #[.val (.ref x0), .val (.int 0), .val (.ref x1), .val (.int 0), .val (.int 3), .val (.int 0), .unset]) rfl ?_
  refine Go.iload X0 hx (pc' := 5) rfl (hb hby d21_3) rfl ?_
  refine Go.iload X0 hx (pc' := 7) rfl (hb hby d21_5) rfl ?_
  refine Go.icmpNo X0 hx (pc' := 10) rfl (hb hby d21_7) (by decide) ?_
  refine Go.aloadN X0 hx (pc' := 11) rfl (hb hby d21_10) rfl rfl ?_
  refine Go.iloadN X0 hx (pc' := 12) rfl (hb hby d21_11) rfl ?_
  refine Go.caload X0 hx hZ e0 P0 (v := (.int p0)) ⟨by decide, by decide⟩ rfl (pc' := 13) rfl (hb hby d21_12) ?_
  refine Go.istore X0 hx (pc' := 15) rfl (hb hby d21_13) (Ls' := #[.val (.ref x0), .val (.int 0), .val (.ref x1), .val (.int 0), .val (.int 3), .val (.int 0), .val (.int p0)]) rfl ?_
  refine Go.iload X0 hx (pc' := 17) rfl (hb hby d21_15) rfl ?_
  refine Go.sipush X0 hx (pc' := 20) rfl (hb hby d21_17) (v := (255 : Int32)) (by decide) ?_
  refine Go.icmpYes X0 hx (pc' := 26) (hb hby d21_20) (flt (own_nlt_r (own_rlit (n := 255) (by decide)) R_p0 (by decide))).2.2.2 (by decide) (by decide) ?_
  refine Go.aloadN X0 hx (pc' := 27) rfl (hb hby d21_26) rfl rfl ?_
  refine Go.iloadN X0 hx (pc' := 28) rfl (hb hby d21_27) rfl ?_
  refine Go.iload X0 hx (pc' := 30) rfl (hb hby d21_28) rfl ?_
  refine Go.i2b X0 hx (pc' := 31) rfl (hb hby d21_30) ?_
  generalize hz1 : (p0.toInt8.toInt32) = z1
  have r2 : -128 ≤ z1.toInt ∧ z1.toInt ≤ 127 := own_ri2b hz1
  refine Go.bastore X0 hx hZ e0 P2 z1 (own_nar_byte r2 (by decide) (by decide)) ⟨by decide, by decide⟩ 0 rfl (Nat.le_of_ble_eq_true rfl) (pc' := 32) rfl (hb hby d21_31) ?_
  intro T3 h3 e3 W3 V3 X3
  have N3 := Fr.snoc X3 (Fr.nil n0) g_x1
  refine Go.iinc X3 hx (pc' := 35) rfl (hb hby d21_32) rfl (y := (1 : Int32)) (by decide) (Ls' := #[.val (.ref x0), .val (.int 1), .val (.ref x1), .val (.int 0), .val (.int 3), .val (.int 0), .val (.int p0)]) rfl ?_
  refine Go.iinc X3 hx (pc' := 38) rfl (hb hby d21_35) rfl (y := (1 : Int32)) (by decide) (Ls' := #[.val (.ref x0), .val (.int 1), .val (.ref x1), .val (.int 1), .val (.int 3), .val (.int 0), .val (.int p0)]) rfl ?_
  refine Go.iinc X3 hx (pc' := 41) rfl (hb hby d21_38) rfl (y := (1 : Int32)) (by decide) (Ls' := #[.val (.ref x0), .val (.int 1), .val (.ref x1), .val (.int 1), .val (.int 3), .val (.int 1), .val (.int p0)]) rfl ?_
  refine Go.goto X3 hx (pc' := 3) (hb hby d21_41) (by decide) (by decide) ?_
  refine Go.iload X3 hx (pc' := 5) rfl (hb hby d21_3) rfl ?_
  refine Go.iload X3 hx (pc' := 7) rfl (hb hby d21_5) rfl ?_
  refine Go.icmpNo X3 hx (pc' := 10) rfl (hb hby d21_7) (by decide) ?_
  refine Go.aloadN X3 hx (pc' := 11) rfl (hb hby d21_10) rfl rfl ?_
  refine Go.iloadN X3 hx (pc' := 12) rfl (hb hby d21_11) rfl ?_
  have fk4 := (P0.other W3 ne_x0_x1)
  refine Go.caload X3 hx hZ e3 fk4 (v := (.int p1)) ⟨by decide, by decide⟩ rfl (pc' := 13) rfl (hb hby d21_12) ?_
  refine Go.istore X3 hx (pc' := 15) rfl (hb hby d21_13) (Ls' := #[.val (.ref x0), .val (.int 1), .val (.ref x1), .val (.int 1), .val (.int 3), .val (.int 1), .val (.int p1)]) rfl ?_
  refine Go.iload X3 hx (pc' := 17) rfl (hb hby d21_15) rfl ?_
  refine Go.sipush X3 hx (pc' := 20) rfl (hb hby d21_17) (v := (255 : Int32)) (by decide) ?_
  refine Go.icmpYes X3 hx (pc' := 26) (hb hby d21_20) (flt (own_nlt_r (own_rlit (n := 255) (by decide)) R_p1 (by decide))).2.2.2 (by decide) (by decide) ?_
  refine Go.aloadN X3 hx (pc' := 27) rfl (hb hby d21_26) rfl rfl ?_
  refine Go.iloadN X3 hx (pc' := 28) rfl (hb hby d21_27) rfl ?_
  refine Go.iload X3 hx (pc' := 30) rfl (hb hby d21_28) rfl ?_
  refine Go.i2b X3 hx (pc' := 31) rfl (hb hby d21_30) ?_
  generalize hz5 : (p1.toInt8.toInt32) = z5
  have r6 : -128 ≤ z5.toInt ∧ z5.toInt ≤ 127 := own_ri2b hz5
  refine Go.bastore X3 hx hZ e3 V3 z5 (own_nar_byte r6 (by decide) (by decide)) ⟨by decide, by decide⟩ 1 rfl (Nat.le_of_ble_eq_true rfl) (pc' := 32) rfl (hb hby d21_31) ?_
  intro T7 h7 e7 W7 V7 X7
  have N7 := Fr.snoc X7 N3 g_x1
  refine Go.iinc X7 hx (pc' := 35) rfl (hb hby d21_32) rfl (y := (2 : Int32)) (by decide) (Ls' := #[.val (.ref x0), .val (.int 2), .val (.ref x1), .val (.int 1), .val (.int 3), .val (.int 1), .val (.int p1)]) rfl ?_
  refine Go.iinc X7 hx (pc' := 38) rfl (hb hby d21_35) rfl (y := (2 : Int32)) (by decide) (Ls' := #[.val (.ref x0), .val (.int 2), .val (.ref x1), .val (.int 2), .val (.int 3), .val (.int 1), .val (.int p1)]) rfl ?_
  refine Go.iinc X7 hx (pc' := 41) rfl (hb hby d21_38) rfl (y := (2 : Int32)) (by decide) (Ls' := #[.val (.ref x0), .val (.int 2), .val (.ref x1), .val (.int 2), .val (.int 3), .val (.int 2), .val (.int p1)]) rfl ?_
  refine Go.goto X7 hx (pc' := 3) (hb hby d21_41) (by decide) (by decide) ?_
  refine Go.iload X7 hx (pc' := 5) rfl (hb hby d21_3) rfl ?_
  refine Go.iload X7 hx (pc' := 7) rfl (hb hby d21_5) rfl ?_
  refine Go.icmpNo X7 hx (pc' := 10) rfl (hb hby d21_7) (by decide) ?_
  refine Go.aloadN X7 hx (pc' := 11) rfl (hb hby d21_10) rfl rfl ?_
  refine Go.iloadN X7 hx (pc' := 12) rfl (hb hby d21_11) rfl ?_
  have fk8 := (fk4.other W7 ne_x0_x1)
  refine Go.caload X7 hx hZ e7 fk8 (v := (.int p2)) ⟨by decide, by decide⟩ rfl (pc' := 13) rfl (hb hby d21_12) ?_
  refine Go.istore X7 hx (pc' := 15) rfl (hb hby d21_13) (Ls' := #[.val (.ref x0), .val (.int 2), .val (.ref x1), .val (.int 2), .val (.int 3), .val (.int 2), .val (.int p2)]) rfl ?_
  refine Go.iload X7 hx (pc' := 17) rfl (hb hby d21_15) rfl ?_
  refine Go.sipush X7 hx (pc' := 20) rfl (hb hby d21_17) (v := (255 : Int32)) (by decide) ?_
  refine Go.icmpYes X7 hx (pc' := 26) (hb hby d21_20) (flt (own_nlt_r (own_rlit (n := 255) (by decide)) R_p2 (by decide))).2.2.2 (by decide) (by decide) ?_
  refine Go.aloadN X7 hx (pc' := 27) rfl (hb hby d21_26) rfl rfl ?_
  refine Go.iloadN X7 hx (pc' := 28) rfl (hb hby d21_27) rfl ?_
  refine Go.iload X7 hx (pc' := 30) rfl (hb hby d21_28) rfl ?_
  refine Go.i2b X7 hx (pc' := 31) rfl (hb hby d21_30) ?_
  generalize hz9 : (p2.toInt8.toInt32) = z9
  have r10 : -128 ≤ z9.toInt ∧ z9.toInt ≤ 127 := own_ri2b hz9
  refine Go.bastore X7 hx hZ e7 V7 z9 (own_nar_byte r10 (by decide) (by decide)) ⟨by decide, by decide⟩ 2 rfl (Nat.le_of_ble_eq_true rfl) (pc' := 32) rfl (hb hby d21_31) ?_
  intro T11 h11 e11 W11 V11 X11
  have N11 := Fr.snoc X11 N7 g_x1
  refine Go.iinc X11 hx (pc' := 35) rfl (hb hby d21_32) rfl (y := (3 : Int32)) (by decide) (Ls' := #[.val (.ref x0), .val (.int 3), .val (.ref x1), .val (.int 2), .val (.int 3), .val (.int 2), .val (.int p2)]) rfl ?_
  refine Go.iinc X11 hx (pc' := 38) rfl (hb hby d21_35) rfl (y := (3 : Int32)) (by decide) (Ls' := #[.val (.ref x0), .val (.int 3), .val (.ref x1), .val (.int 3), .val (.int 3), .val (.int 2), .val (.int p2)]) rfl ?_
  refine Go.iinc X11 hx (pc' := 41) rfl (hb hby d21_38) rfl (y := (3 : Int32)) (by decide) (Ls' := #[.val (.ref x0), .val (.int 3), .val (.ref x1), .val (.int 3), .val (.int 3), .val (.int 3), .val (.int p2)]) rfl ?_
  refine Go.goto X11 hx (pc' := 3) (hb hby d21_41) (by decide) (by decide) ?_
  refine Go.iload X11 hx (pc' := 5) rfl (hb hby d21_3) rfl ?_
  refine Go.iload X11 hx (pc' := 7) rfl (hb hby d21_5) rfl ?_
  refine Go.icmpYes X11 hx (pc' := 44) (hb hby d21_7) (by decide) (by decide) (by decide) ?_
  refine Go.iload X11 hx (pc' := 46) rfl (hb hby d21_44) rfl ?_
  subst hFF
  refine Go.retI X11 hx hlk hret (hb hby d21_46) (by decide) (by decide) ?_
  rw [e11]
  have V12 : Arv Z h11 x1 kk1 .byte (3 : Int32) [(.int z1), (.int z5), (.int z9)] (.int 0) := V11
  have fk13 : Exa Z h11 x1 "[B" := (((P3.wr W3).wr W7).wr W11)
  have Kp14 : Keep h0 h3 [x1] := ((Keep.refl h0 [x1]).wr W3 (Or.inl (List.mem_of_getElem? (i := 0) rfl)))
  have Kp15 : Keep h0 h7 [x1] := (Kp14.wr W7 (Or.inl (List.mem_of_getElem? (i := 0) rfl)))
  have Kp16 : Keep h0 h11 [x1] := (Kp15.wr W11 (Or.inl (List.mem_of_getElem? (i := 0) rfl)))
  exact ⟨z1, z5, z9, hz1, hz5, hz9, rfl, N11, Kp16, V12, fk13⟩
-- java/lang/StringUTF16.compress
set_option maxRecDepth 65536 in
set_option maxHeartbeats 4000000 in
theorem au_48 (l : Launch) (Z : State) (a0 : Array Value) (hw : ∀ d ∈ tables_1, d.before a0 Z = true) (x0 : Addr) (kk0 : ClassId) (p0 : Int32) (p1 : Int32) (p2 : Int32) (h0 : Heap) (n0 : Nat) (Z0 : n0 ≤ h0.size) (P0 : Arv Z h0 x0 kk0 .char (3 : Int32) [(.int p0), (.int p1), (.int p2)] (.int 0)) (R_p0 : 0 ≤ p0.toInt ∧ p0.toInt ≤ 255) (R_p1 : 0 ≤ p1.toInt ∧ p1.toInt ≤ 255) (R_p2 : 0 ≤ p2.toInt ∧ p2.toInt ≤ 255) :
    Ctr l Z (⟨"java/lang/StringUTF16", "compress", "([CII)[B"⟩ : MethodName) jdk_52_method_16_code 6 (some (.array .byte)) ({ frames := 1, cells := 1, slots := 3, locals := 18 } : Room) #[(.ref x0), (.int 0), (.int 3)] h0 (fun v h L => ∃ (z8_0 : Int32) (z8_1 : Int32) (z8_2 : Int32) (b1 : Addr) (k1 : ClassId), (p0.toInt8.toInt32) = z8_0 ∧ (p1.toInt8.toInt32) = z8_1 ∧ (p2.toInt8.toInt32) = z8_2 ∧ v = some (.ref b1) ∧ Fr n0 L ∧ Keep h0 h [] ∧ h0.size ≤ b1 ∧ Arv Z h b1 k1 .byte (3 : Int32) [(.int z8_0), (.int z8_1), (.int z8_2)] (.int 0) ∧ Exa Z h b1 "[B") := by
  refine Ctr.of (plainFor_of_name pn_c6) ?_
  intro p e s m below meth c T0 hx hZ hby hml hown hnm hret hlk e0 es X0
  refine Go.cast (ef_20_RII m x0 (0 : Int32) (3 : Int32)) ?_
  generalize hFF : EndN s _ _ _ = FF
  refine Go.iloadN X0 hx (pc' := 1) rfl (hb hby d20_0) rfl ?_
  refine Go.newarray X0 hx hZ (ty := .byte) rfl (tw_20 hw) e0 (by decide) (cap := 3) (by decide) (by decide) (by decide) (by decide) (ad := "[B") (by decide) 3 (pc' := 3) rfl (hb hby d20_1) ?_
  intro T1 h1 b1 k1 e1 E1 g1 V1 A1 X1
  have V1' : Arv Z h1 b1 k1 .byte (3 : Int32) [(.int 0), (.int 0), (.int 0)] (.int 0) := V1
  refine Go.astoreN X1 hx (pc' := 4) rfl (hb hby d20_3) (Ls' := #[.val (.ref x0), .val (.int 0), .val (.int 3), .val (.ref b1), .unset, .unset]) rfl rfl ?_
  refine Go.aloadN X1 hx (pc' := 5) rfl (hb hby d20_4) rfl rfl ?_
  refine Go.iloadN X1 hx (pc' := 6) rfl (hb hby d20_5) rfl ?_
  refine Go.aloadN X1 hx (pc' := 7) rfl (hb hby d20_6) rfl rfl ?_
  refine Go.iconst X1 hx (pc' := 8) rfl (hb hby d20_7) (v := (0 : Int32)) rfl ?_
  refine Go.iloadN X1 hx (pc' := 9) rfl (hb hby d20_8) rfl ?_
  have Kp3 : Keep h0 h1 [] := ((Keep.refl h0 []).ext E1)
  have Zn2 : n0 ≤ h1.size := Nat.le_trans Z0 Kp3.1
  have fk4 := (P0.ext E1)
  have sz6 : h0.size ≤ b1 := Nat.le_trans (Keep.refl h0 []).1 (Nat.le_of_eq g1.symm)
  have ge5 : n0 ≤ b1 := Nat.le_trans Z0 sz6
  have ne7 : x0 ≠ b1 := Nat.ne_of_lt (Nat.lt_of_lt_of_le P0.lt (Nat.le_of_eq g1.symm))
  refine Go.callS X1 hx hZ hown (tw_102 hw) (tw_103 hw) (tw_100 hw) (tw_104 hw) (by decide) (tw_104 hw) (tw_100 hw) (au_49 l Z a0 hw x0 b1 kk0 p0 p1 p2 k1 h1 n0 Zn2 fk4 V1' A1 R_p0 R_p1 R_p2 ge5 ne7) e1 (argsL := [(.ref x0), (.int 0), (.ref b1), (.int 0), (.int 3)]) (rest := []) (pc' := 12) rfl (by rw [hml]; rfl) (lenOf pd_17 rfl) rfl rfl (W := 0) (Nat.le_of_eq rfl) (by decide) (by decide) (by decide) (by decide) (hb hby d20_9) ?_
  intro v8 T8 L8 q8 X8
  obtain ⟨h8, e8⟩ : ∃ z, T8.heap = z := ⟨_, rfl⟩
  rw [e8] at q8
  obtain ⟨z8_0, z8_1, z8_2, d8_0, d8_1, d8_2, rfl, N8, K8, F8_0, F8_1⟩ := q8
  show Go _ _ _ _ (T8.setTop (mkF m 12 #[.val (.ref x0), .val (.int 0), .val (.int 3), .val (.ref b1), .unset, .unset] [(.int 3)]))
  refine Go.istore X8 hx (pc' := 14) rfl (hb hby d20_12) (Ls' := #[.val (.ref x0), .val (.int 0), .val (.int 3), .val (.ref b1), .val (.int 3), .unset]) rfl ?_
  refine Go.iload X8 hx (pc' := 16) rfl (hb hby d20_14) rfl ?_
  refine Go.iloadN X8 hx (pc' := 17) rfl (hb hby d20_16) rfl ?_
  refine Go.icmpYes X8 hx (pc' := 57) (hb hby d20_17) (by decide) (by decide) (by decide) ?_
  refine Go.aloadN X8 hx (pc' := 58) rfl (hb hby d20_57) rfl rfl ?_
  subst hFF
  refine Go.retR X8 hx hlk (t := (.array .byte)) hret rfl rfl (hb hby d20_58) (by decide) (by decide) ?_
  rw [e8]
  have Kp9 : Keep h0 h8 [] := (Kp3.trans K8 (allS (Or.inr sz6) all0))
  exact ⟨z8_0, z8_1, z8_2, b1, k1, d8_0, d8_1, d8_2, rfl, (Fr.app (Fr.nil n0) N8), Kp9, sz6, F8_0, F8_1⟩
-- java/lang/StringUTF16.coderFromArrayLen
set_option maxRecDepth 65536 in
set_option maxHeartbeats 4000000 in
theorem au_50 (l : Launch) (Z : State) (a0 : Array Value) (hw : ∀ d ∈ tables_1, d.before a0 Z = true) (x0 : Addr) (kk0 : ClassId) (p0 : Int32) (p1 : Int32) (p2 : Int32) (h0 : Heap) (n0 : Nat) (Z0 : n0 ≤ h0.size) (P0 : Arv Z h0 x0 kk0 .byte (3 : Int32) [(.int p0), (.int p1), (.int p2)] (.int 0)) :
    Ctr l Z (⟨"java/lang/StringUTF16", "coderFromArrayLen", "([BI)B"⟩ : MethodName) jdk_52_method_15_code 2 (some .byte) ({ frames := 0, cells := 0, slots := 0, locals := 0 } : Room) #[(.ref x0), (.int 3)] h0 (fun v h L => v = some (.int 0) ∧ Fr n0 L ∧ h = h0) := by
  refine Ctr.of (plainFor_of_name pn_c6) ?_
  intro p e s m below meth c T0 hx hZ hby hml hown hnm hret hlk e0 es X0
  refine Go.cast (ef_22_RI m x0 (3 : Int32)) ?_
  generalize hFF : EndN s _ _ _ = FF
  refine Go.iloadN X0 hx (pc' := 1) rfl (hb hby d22_0) rfl ?_
  refine Go.aloadN X0 hx (pc' := 2) rfl (hb hby d22_1) rfl rfl ?_
  refine Go.arraylength X0 hx hZ e0 P0 (pc' := 3) rfl (hb hby d22_2) ?_
  refine Go.isub X0 hx (pc' := 4) rfl (hb hby d22_3) ?_
  rw [show ((3 : Int32) - (3 : Int32)) = (0 : Int32) from by decide]
  refine Go.bipush X0 hx (pc' := 6) rfl (hb hby d22_4) (v := (31 : Int32)) (by decide) ?_
  refine Go.iushr X0 hx (pc' := 7) rfl (hb hby d22_6) ?_
  rw [show (((0 : Int32).toUInt32 >>> ((31 : Int32) &&& 31).toUInt32).toInt32) = (0 : Int32) from by decide]
  refine Go.i2b X0 hx (pc' := 8) rfl (hb hby d22_7) ?_
  rw [show ((0 : Int32).toInt8.toInt32) = (0 : Int32) from by decide]
  subst hFF
  refine Go.retN X0 hx hlk (t := .byte) hret (by simp) (hb hby d22_8) (by decide) (by decide) ?_
  rw [e0]
  exact ⟨(congrArg (fun z => some (Value.int z)) (by decide : nar .byte (0 : Int32) = (0 : Int32))), (Fr.nil n0), rfl⟩
-- java/lang/String.init
set_option maxRecDepth 65536 in
set_option maxHeartbeats 4000000 in
theorem au_47 (l : Launch) (Z : State) (a0 : Array Value) (hw : ∀ d ∈ tables_1, d.before a0 Z = true) (x0 : Addr) (x1 : Addr) (kk0 : ClassId) (p0 : Int32) (p1 : Int32) (p2 : Int32) (gz1 : Int32) (gv5 : Value) (h0 : Heap) (n0 : Nat) (Z0 : n0 ≤ h0.size) (O0 : Old Z n0 h0) (G : Glob Z gz1 gv5) (P0 : Exa Z h0 x0 "java/lang/String") (P1 : Fld Z h0 x0 "java/lang/String" "coder" "B" (.int 0)) (P2 : Fld Z h0 x0 "java/lang/String" "value" "[B" .null) (P3 : Arv Z h0 x1 kk0 .char (3 : Int32) [(.int p0), (.int p1), (.int p2)] (.int 0)) (R_p0 : 0 ≤ p0.toInt ∧ p0.toInt ≤ 255) (R_p1 : 0 ≤ p1.toInt ∧ p1.toInt ≤ 255) (R_p2 : 0 ≤ p2.toInt ∧ p2.toInt ≤ 255) (g_x0 : n0 ≤ x0) :
    Ctr l Z (⟨"java/lang/String", "<init>", "([CIILjava/lang/Void;)V"⟩ : MethodName) jdk_42_method_149_code 6 none ({ frames := 2, cells := 1, slots := 3, locals := 35 } : Room) #[(.ref x0), (.ref x1), (.int 0), (.int 3), .null] h0 (fun v h L => ∃ (z4_0 : Int32) (z4_1 : Int32) (z4_2 : Int32) (b4_0 : Addr) (k4_0 : ClassId), (p0.toInt8.toInt32) = z4_0 ∧ (p1.toInt8.toInt32) = z4_1 ∧ (p2.toInt8.toInt32) = z4_2 ∧ v = none ∧ Fr n0 L ∧ Keep h0 h [x0] ∧ h0.size ≤ b4_0 ∧ Exa Z h x0 "java/lang/String" ∧ Fld Z h x0 "java/lang/String" "coder" "B" (.int 0) ∧ Fld Z h x0 "java/lang/String" "value" "[B" (.ref b4_0) ∧ Arv Z h b4_0 k4_0 .byte (3 : Int32) [(.int z4_0), (.int z4_1), (.int z4_2)] (.int 0) ∧ Exa Z h b4_0 "[B") := by
  refine Ctr.of (plainFor_of_name pn_c1) ?_
  intro p e s m below meth c T0 hx hZ hby hml hown hnm hret hlk e0 es X0
  have G' := G
  obtain ⟨G0, -, G2, -⟩ := G'
  refine Go.cast (ef_3_RRIIN m x0 x1 (0 : Int32) (3 : Int32)) ?_
  generalize hFF : EndN s _ _ _ = FF
  refine Go.aloadN X0 hx (pc' := 1) rfl (hb hby d3_0) rfl rfl ?_
  refine Go.initO X0 hx hZ hown (tw_16 hw) (tw_17 hw) (tw_18 hw) e0 (by decide) (W := 0) (by rw [hml]; rfl) (Nat.le_of_eq rfl) (by decide) (pc' := 4) rfl (hb hby d3_1) ?_
  intro T1 e1 X1
  refine Go.iloadN X1 hx (pc' := 5) rfl (hb hby d3_4) rfl ?_
  refine Go.ifYes X1 hx (pc' := 27) (hb hby d3_5) (by decide) (by decide) (by decide) ?_
  have fk2 : Sta Z h0 "java/lang/String" "COMPACT_STRINGS" "Z" (.int gz1) := G0.ext O0.2
  refine Go.getS X1 hx hZ hown (host := "") (Or.inl (tw_38 hw)) Via.refl e1 fk2 (pc' := 30) rfl (hb hby d3_27) ?_
  intro T3 e3 X3
  refine Go.ifNo X3 hx (pc' := 33) rfl (hb hby d3_30) (feq G2).1 ?_
  refine Go.aloadN X3 hx (pc' := 34) rfl (hb hby d3_33) rfl rfl ?_
  refine Go.iloadN X3 hx (pc' := 35) rfl (hb hby d3_34) rfl ?_
  refine Go.iloadN X3 hx (pc' := 36) rfl (hb hby d3_35) rfl ?_
  refine Go.callS X3 hx hZ hown (tw_98 hw) (tw_99 hw) (tw_100 hw) (tw_101 hw) (by decide) (tw_101 hw) (tw_100 hw) (au_48 l Z a0 hw x1 kk0 p0 p1 p2 h0 n0 Z0 P3 R_p0 R_p1 R_p2) e3 (argsL := [(.ref x1), (.int 0), (.int 3)]) (rest := []) (pc' := 39) rfl (by rw [hml]; rfl) (lenOf pd_18 rfl) rfl rfl (W := 0) (Nat.le_of_eq rfl) (by decide) (by decide) (by decide) (by decide) (hb hby d3_36) ?_
  intro v4 T4 L4 q4 X4
  obtain ⟨h4, e4⟩ : ∃ z, T4.heap = z := ⟨_, rfl⟩
  rw [e4] at q4
  obtain ⟨z4_0, z4_1, z4_2, b4_0, k4_0, d4_0, d4_1, d4_2, rfl, N4, K4, s4_0, F4_0, F4_1⟩ := q4
  show Go _ _ _ _ (T4.setTop (mkF m 39 #[.val (.ref x0), .val (.ref x1), .val (.int 0), .val (.int 3), .val .null, .unset] [(.ref b4_0)]))
  refine Go.astore X4 hx (pc' := 41) rfl (hb hby d3_39) (Ls' := #[.val (.ref x0), .val (.ref x1), .val (.int 0), .val (.int 3), .val .null, .val (.ref b4_0)]) rfl rfl ?_
  refine Go.aloadN X4 hx (pc' := 42) rfl (hb hby d3_41) rfl rfl ?_
  refine Go.aload X4 hx (pc' := 44) rfl (hb hby d3_42) rfl rfl ?_
  refine Go.iloadN X4 hx (pc' := 45) rfl (hb hby d3_44) rfl ?_
  have r5 : -128 ≤ z4_0.toInt ∧ z4_0.toInt ≤ 127 := own_ri2b d4_0
  have r6 : -128 ≤ z4_1.toInt ∧ z4_1.toInt ≤ 127 := own_ri2b d4_1
  have r7 : -128 ≤ z4_2.toInt ∧ z4_2.toInt ≤ 127 := own_ri2b d4_2
  have Kp9 : Keep h0 h4 [x0] := ((Keep.refl h0 [x0]).trans K4 all0)
  have Zn8 : n0 ≤ h4.size := Nat.le_trans Z0 Kp9.1
  refine Go.callS X4 hx hZ hown (tw_105 hw) (tw_106 hw) (tw_100 hw) (tw_107 hw) (by decide) (tw_107 hw) (tw_100 hw) (au_50 l Z a0 hw b4_0 k4_0 z4_0 z4_1 z4_2 h4 n0 Zn8 F4_0) e4 (argsL := [(.ref b4_0), (.int 3)]) (rest := [(.ref x0)]) (pc' := 48) rfl (by rw [hml]; rfl) (lenOf pd_19 rfl) rfl rfl (W := 1) (Nat.le_of_eq rfl) (by decide) (by decide) (by decide) (by decide) (hb hby d3_45) ?_
  intro v10 T10 L10 q10 X10
  obtain ⟨rfl, N10, e10⟩ := q10
  show Go _ _ _ _ (T10.setTop (mkF m 48 #[.val (.ref x0), .val (.ref x1), .val (.int 0), .val (.int 3), .val .null, .val (.ref b4_0)] [(.int 0), (.ref x0)]))
  have fk11 : Fld Z h4 x0 "java/lang/String" "coder" "B" (.int 0) := (P1.keep K4 nin0)
  have fk12 : Exa Z h4 x0 "java/lang/String" := (P0.keep K4)
  refine Go.putFN X10 hx hZ hown (tw_26 hw) Via.refl e10 fk11 fk12 (Or.inr ⟨(tw_22 hw), rfl, hnm⟩) (tw_7 hw) (ty := .byte) (v' := (.int 0)) (by decide) (by decide) (by decide) (pc' := 51) rfl (hb hby d3_48) ?_
  intro T13 h13 e13 W13 F13 X13
  have N13 := Fr.snoc X13 (Fr.app (Fr.app (Fr.nil n0) N4) N10) g_x0
  refine Go.aloadN X13 hx (pc' := 52) rfl (hb hby d3_51) rfl rfl ?_
  refine Go.aload X13 hx (pc' := 54) rfl (hb hby d3_52) rfl rfl ?_
  have fk14 : Fld Z h13 x0 "java/lang/String" "value" "[B" .null := ((P2.keep K4 nin0).other W13 (Or.inr (slot_ne (Or.inr (tw_21 hw)) (Or.inr (tw_22 hw)) (by decide) (t := (.array .byte)) (t' := .byte) (by decide) (by decide))))
  have fk15 : Exa Z h13 x0 "java/lang/String" := (fk12.wr W13)
  refine Go.putF X13 hx hZ hown (host := "") (Or.inl (tw_25 hw)) Via.refl e13 fk14 fk15 (Or.inr ⟨(tw_21 hw), rfl, hnm⟩) (tw_7 hw) (ty := (.array .byte)) (by decide) rfl rfl (pc' := 57) rfl (hb hby d3_54) ?_
  intro T16 h16 e16 W16 F16 X16
  have N16 := Fr.snoc X16 N13 g_x0
  subst hFF
  refine Go.ret0 X16 hx hlk hret (hb hby d3_57) (by decide) (by decide) ?_
  rw [e16]
  have fk17 : Exa Z h16 x0 "java/lang/String" := (fk15.wr W16)
  have fk18 : Fld Z h16 x0 "java/lang/String" "coder" "B" (.int 0) := (F13.other W16 (Or.inr (slot_ne (Or.inr (tw_22 hw)) (Or.inr (tw_21 hw)) (by decide) (t := .byte) (t' := (.array .byte)) (by decide) (by decide))))
  have ne19 : x0 ≠ b4_0 := Nat.ne_of_lt (Nat.lt_of_lt_of_le P0.lt s4_0)
  have fk20 := ((F4_0.other W13 (Ne.symm ne19)).other W16 (Ne.symm ne19))
  have fk21 : Exa Z h16 b4_0 "[B" := ((F4_1.wr W13).wr W16)
  have Kp22 : Keep h0 h13 [x0] := (Kp9.wr W13 (Or.inl (List.mem_of_getElem? (i := 0) rfl)))
  have Kp23 : Keep h0 h16 [x0] := (Kp22.wr W16 (Or.inl (List.mem_of_getElem? (i := 0) rfl)))
  have sz24 : h0.size ≤ b4_0 := Nat.le_trans (Keep.refl h0 [x0]).1 s4_0
  exact ⟨z4_0, z4_1, z4_2, b4_0, k4_0, d4_0, d4_1, d4_2, rfl, N16, Kp23, sz24, fk17, fk18, F16, fk20, fk21⟩
-- java/lang/String.init
set_option maxRecDepth 65536 in
set_option maxHeartbeats 4000000 in
theorem au_46 (l : Launch) (Z : State) (a0 : Array Value) (hw : ∀ d ∈ tables_1, d.before a0 Z = true) (x0 : Addr) (x1 : Addr) (kk0 : ClassId) (p0 : Int32) (p1 : Int32) (p2 : Int32) (gz1 : Int32) (gv5 : Value) (h0 : Heap) (n0 : Nat) (Z0 : n0 ≤ h0.size) (O0 : Old Z n0 h0) (G : Glob Z gz1 gv5) (P0 : Exa Z h0 x0 "java/lang/String") (P1 : Fld Z h0 x0 "java/lang/String" "coder" "B" (.int 0)) (P2 : Fld Z h0 x0 "java/lang/String" "value" "[B" .null) (P3 : Arv Z h0 x1 kk0 .char (3 : Int32) [(.int p0), (.int p1), (.int p2)] (.int 0)) (R_p0 : 0 ≤ p0.toInt ∧ p0.toInt ≤ 255) (R_p1 : 0 ≤ p1.toInt ∧ p1.toInt ≤ 255) (R_p2 : 0 ≤ p2.toInt ∧ p2.toInt ≤ 255) (g_x0 : n0 ≤ x0) :
    Ctr l Z (⟨"java/lang/String", "<init>", "([C)V"⟩ : MethodName) jdk_42_method_3_code 2 none ({ frames := 3, cells := 1, slots := 3, locals := 52 } : Room) #[(.ref x0), (.ref x1)] h0 (fun v h L => ∃ (z1_0 : Int32) (z1_1 : Int32) (z1_2 : Int32) (b1_0 : Addr) (k1_0 : ClassId), (p0.toInt8.toInt32) = z1_0 ∧ (p1.toInt8.toInt32) = z1_1 ∧ (p2.toInt8.toInt32) = z1_2 ∧ v = none ∧ Fr n0 L ∧ Keep h0 h [x0] ∧ h0.size ≤ b1_0 ∧ Exa Z h x0 "java/lang/String" ∧ Fld Z h x0 "java/lang/String" "coder" "B" (.int 0) ∧ Fld Z h x0 "java/lang/String" "value" "[B" (.ref b1_0) ∧ Arv Z h b1_0 k1_0 .byte (3 : Int32) [(.int z1_0), (.int z1_1), (.int z1_2)] (.int 0) ∧ Exa Z h b1_0 "[B") := by
  refine Ctr.of (plainFor_of_name pn_c1) ?_
  intro p e s m below meth c T0 hx hZ hby hml hown hnm hret hlk e0 es X0
  refine Go.cast (ef_2_RR m x0 x1) ?_
  generalize hFF : EndN s _ _ _ = FF
  refine Go.aloadN X0 hx (pc' := 1) rfl (hb hby d2_0) rfl rfl ?_
  refine Go.aloadN X0 hx (pc' := 2) rfl (hb hby d2_1) rfl rfl ?_
  refine Go.iconst X0 hx (pc' := 3) rfl (hb hby d2_2) (v := (0 : Int32)) rfl ?_
  refine Go.aloadN X0 hx (pc' := 4) rfl (hb hby d2_3) rfl rfl ?_
  refine Go.arraylength X0 hx hZ e0 P3 (pc' := 5) rfl (hb hby d2_4) ?_
  refine Go.anull X0 hx (pc' := 6) rfl (hb hby d2_5) ?_
  refine Go.callN X0 hx hZ hown rfl (tw_12 hw) (tw_13 hw) (tw_15 hw) (by decide) (tw_15 hw) (tw_8 hw) (au_47 l Z a0 hw x0 x1 kk0 p0 p1 p2 gz1 gv5 h0 n0 Z0 O0 G P0 P1 P2 P3 R_p0 R_p1 R_p2 g_x0) e0 (a := x0) (argsL := [(.ref x1), (.int 0), (.int 3), .null]) (rest := []) (pc' := 9) rfl (by rw [hml]; rfl) (lenOf pd_1 rfl) rfl rfl (W := 0) (Nat.le_of_eq rfl) (by decide) (by decide) (by decide) (by decide) (hb hby d2_6) ?_
  intro v1 T1 L1 q1 X1
  obtain ⟨h1, e1⟩ : ∃ z, T1.heap = z := ⟨_, rfl⟩
  rw [e1] at q1
  obtain ⟨z1_0, z1_1, z1_2, b1_0, k1_0, d1_0, d1_1, d1_2, rfl, N1, K1, s1_0, F1_0, F1_1, F1_2, F1_3, F1_4⟩ := q1
  show Go _ _ _ _ (T1.setTop (mkF m 9 #[.val (.ref x0), .val (.ref x1)] []))
  subst hFF
  refine Go.ret0 X1 hx hlk hret (hb hby d2_9) (by decide) (by decide) ?_
  rw [e1]
  have Kp2 : Keep h0 h1 [x0] := ((Keep.refl h0 [x0]).trans K1 (allS (Or.inl (List.mem_of_getElem? (i := 0) rfl)) all0))
  have sz3 : h0.size ≤ b1_0 := Nat.le_trans (Keep.refl h0 [x0]).1 s1_0
  exact ⟨z1_0, z1_1, z1_2, b1_0, k1_0, d1_0, d1_1, d1_2, rfl, (Fr.app (Fr.nil n0) N1), Kp2, sz3, F1_0, F1_1, F1_2, F1_3, F1_4⟩
-- java/lang/StringLatin1.equals
set_option maxRecDepth 65536 in
set_option maxHeartbeats 4000000 in
theorem au_54 (l : Launch) (Z : State) (a0 : Array Value) (hw : ∀ d ∈ tables_1, d.before a0 Z = true) (x0 : Addr) (x1 : Addr) (kk0 : ClassId) (p0 : Int32) (p1 : Int32) (p2 : Int32) (kk1 : ClassId) (h0 : Heap) (n0 : Nat) (Z0 : n0 ≤ h0.size) (P0 : Arv Z h0 x0 kk0 .byte (3 : Int32) [(.int p0), (.int p1), (.int p2)] (.int 0)) (P2 : Arv Z h0 x1 kk1 .byte (1 : Int32) [(.int 47)] (.int (0 : Int32))) :
    Ctr l Z (⟨"java/lang/StringLatin1", "equals", "([B[B)Z"⟩ : MethodName) jdk_43_method_13_code 3 (some .boolean) ({ frames := 0, cells := 0, slots := 0, locals := 0 } : Room) #[(.ref x0), (.ref x1)] h0 (fun v h L => v = some (.int 0) ∧ Fr n0 L ∧ h = h0) := by
  refine Ctr.of (plainFor_of_name pn_c2) ?_
  intro p e s m below meth c T0 hx hZ hby hml hown hnm hret hlk e0 es X0
  refine Go.cast (ef_7_RR m x0 x1) ?_
  generalize hFF : EndN s _ _ _ = FF
  refine Go.aloadN X0 hx (pc' := 1) rfl (hb hby d7_0) rfl rfl ?_
  refine Go.arraylength X0 hx hZ e0 P0 (pc' := 2) rfl (hb hby d7_1) ?_
  refine Go.aloadN X0 hx (pc' := 3) rfl (hb hby d7_2) rfl rfl ?_
  refine Go.arraylength X0 hx hZ e0 P2 (pc' := 4) rfl (hb hby d7_3) ?_
  refine Go.icmpYes X0 hx (pc' := 34) (hb hby d7_4) (by decide) (by decide) (by decide) ?_
  refine Go.iconst X0 hx (pc' := 35) rfl (hb hby d7_34) (v := (0 : Int32)) rfl ?_
  subst hFF
  refine Go.retN X0 hx hlk (t := .boolean) hret (by simp) (hb hby d7_35) (by decide) (by decide) ?_
  rw [e0]
  exact ⟨(congrArg (fun z => some (Value.int z)) (by decide : nar .boolean (0 : Int32) = (0 : Int32))), (Fr.nil n0), rfl⟩
-- java/lang/String.equals
set_option maxRecDepth 65536 in
set_option maxHeartbeats 4000000 in
theorem au_53 (l : Launch) (Z : State) (a0 : Array Value) (hw : ∀ d ∈ tables_1, d.before a0 Z = true) (x0 : Addr) (x1 : Addr) (x2 : Addr) (x3 : Addr) (kk0 : ClassId) (p0 : Int32) (p1 : Int32) (p2 : Int32) (kk1 : ClassId) (gz1 : Int32) (gv5 : Value) (h0 : Heap) (n0 : Nat) (Z0 : n0 ≤ h0.size) (O0 : Old Z n0 h0) (G : Glob Z gz1 gv5) (P1 : Fld Z h0 x0 "java/lang/String" "coder" "B" (.int 0)) (P2 : Fld Z h0 x0 "java/lang/String" "value" "[B" (.ref x2)) (P3 : Exa Z h0 x1 "java/lang/String") (P4 : Fld Z h0 x1 "java/lang/String" "coder" "B" (.int 0)) (P5 : Fld Z h0 x1 "java/lang/String" "value" "[B" (.ref x3)) (P6 : Arv Z h0 x2 kk0 .byte (3 : Int32) [(.int p0), (.int p1), (.int p2)] (.int 0)) (P8 : Arv Z h0 x3 kk1 .byte (1 : Int32) [(.int 47)] (.int (0 : Int32))) (ne_x0_x1 : x0 ≠ x1) :
    Ctr l Z (⟨"java/lang/String", "equals", "(Ljava/lang/Object;)Z"⟩ : MethodName) jdk_42_method_66_code 3 (some .boolean) ({ frames := 1, cells := 0, slots := 0, locals := 14 } : Room) #[(.ref x0), (.ref x1)] h0 (fun v h L => v = some (.int 0) ∧ Fr n0 L ∧ h = h0) := by
  refine Ctr.of (plainFor_of_name pn_c1) ?_
  intro p e s m below meth c T0 hx hZ hby hml hown hnm hret hlk e0 es X0
  have G' := G
  obtain ⟨G0, -, G2, -⟩ := G'
  refine Go.cast (ef_6_RR m x0 x1) ?_
  generalize hFF : EndN s _ _ _ = FF
  refine Go.aloadN X0 hx (pc' := 1) rfl (hb hby d6_0) rfl rfl ?_
  refine Go.aloadN X0 hx (pc' := 2) rfl (hb hby d6_1) rfl rfl ?_
  refine Go.acmp X0 hx (pc' := 7) (same := false) (hb hby d6_2) rfl rfl (decide_eq_false (fun q => ne_x0_x1 (Value.ref.inj q))) (by decide) (by decide) ?_
  refine Go.aloadN X0 hx (pc' := 8) rfl (hb hby d6_7) rfl rfl ?_
  refine Go.instY X0 hx hZ hown (tw_37 hw) e0 (Ins.self P3) (pc' := 11) rfl (hb hby d6_8) ?_
  intro T1 e1 X1
  refine Go.ifNo X1 hx (pc' := 14) rfl (hb hby d6_11) (by decide) ?_
  refine Go.aloadN X1 hx (pc' := 15) rfl (hb hby d6_14) rfl rfl ?_
  refine Go.castY X1 hx hZ hown (tw_37 hw) e1 (Ins.self P3) (pc' := 18) rfl (hb hby d6_15) ?_
  intro T2 e2 X2
  refine Go.astoreN X2 hx (pc' := 19) rfl (hb hby d6_18) (Ls' := #[.val (.ref x0), .val (.ref x1), .val (.ref x1)]) rfl rfl ?_
  have fk3 : Sta Z h0 "java/lang/String" "COMPACT_STRINGS" "Z" (.int gz1) := G0.ext O0.2
  refine Go.getS X2 hx hZ hown (host := "") (Or.inl (tw_38 hw)) Via.refl e2 fk3 (pc' := 22) rfl (hb hby d6_19) ?_
  intro T4 e4 X4
  refine Go.ifNo X4 hx (pc' := 25) rfl (hb hby d6_22) (feq G2).1 ?_
  refine Go.aloadN X4 hx (pc' := 26) rfl (hb hby d6_25) rfl rfl ?_
  refine Go.getF X4 hx hZ hown (host := "") (Or.inl (tw_26 hw)) Via.refl e4 P1 (pc' := 29) rfl (hb hby d6_26) ?_
  intro T5 e5 X5
  refine Go.aloadN X5 hx (pc' := 30) rfl (hb hby d6_29) rfl rfl ?_
  refine Go.getF X5 hx hZ hown (host := "") (Or.inl (tw_26 hw)) Via.refl e5 P4 (pc' := 33) rfl (hb hby d6_30) ?_
  intro T6 e6 X6
  refine Go.icmpNo X6 hx (pc' := 36) rfl (hb hby d6_33) (by decide) ?_
  refine Go.aloadN X6 hx (pc' := 37) rfl (hb hby d6_36) rfl rfl ?_
  refine Go.getF X6 hx hZ hown (host := "") (Or.inl (tw_25 hw)) Via.refl e6 P2 (pc' := 40) rfl (hb hby d6_37) ?_
  intro T7 e7 X7
  refine Go.aloadN X7 hx (pc' := 41) rfl (hb hby d6_40) rfl rfl ?_
  refine Go.getF X7 hx hZ hown (host := "") (Or.inl (tw_25 hw)) Via.refl e7 P5 (pc' := 44) rfl (hb hby d6_41) ?_
  intro T8 e8 X8
  refine Go.callS X8 hx hZ hown (tw_39 hw) (tw_40 hw) (tw_41 hw) (tw_42 hw) (by decide) (tw_42 hw) (tw_41 hw) (au_54 l Z a0 hw x2 x3 kk0 p0 p1 p2 kk1 h0 n0 Z0 P6 P8) e8 (argsL := [(.ref x2), (.ref x3)]) (rest := []) (pc' := 47) rfl (by rw [hml]; rfl) (lenOf pd_3 rfl) rfl rfl (W := 0) (Nat.le_of_eq rfl) (by decide) (by decide) (by decide) (by decide) (hb hby d6_44) ?_
  intro v9 T9 L9 q9 X9
  obtain ⟨rfl, N9, e9⟩ := q9
  show Go _ _ _ _ (T9.setTop (mkF m 47 #[.val (.ref x0), .val (.ref x1), .val (.ref x1)] [(.int 0)]))
  refine Go.ifYes X9 hx (pc' := 54) (hb hby d6_47) (by decide) (by decide) (by decide) ?_
  refine Go.iconst X9 hx (pc' := 55) rfl (hb hby d6_54) (v := (0 : Int32)) rfl ?_
  subst hFF
  refine Go.retN X9 hx hlk (t := .boolean) hret (by simp) (hb hby d6_55) (by decide) (by decide) ?_
  rw [e9]
  exact ⟨(congrArg (fun z => some (Value.int z)) (by decide : nar .boolean (0 : Int32) = (0 : Int32))), (Fr.app (Fr.nil n0) N9), rfl⟩
-- java/lang/StringLatin1.equals
set_option maxRecDepth 65536 in
set_option maxHeartbeats 4000000 in
theorem au_56 (l : Launch) (Z : State) (a0 : Array Value) (hw : ∀ d ∈ tables_1, d.before a0 Z = true) (x0 : Addr) (x1 : Addr) (kk0 : ClassId) (p0 : Int32) (p1 : Int32) (p2 : Int32) (kk1 : ClassId) (p3 : Int32) (p4 : Int32) (p5 : Int32) (h0 : Heap) (n0 : Nat) (Z0 : n0 ≤ h0.size) (P0 : Arv Z h0 x0 kk0 .byte (3 : Int32) [(.int p0), (.int p1), (.int p2)] (.int 0)) (P2 : Arv Z h0 x1 kk1 .byte (3 : Int32) [(.int 47), (.int 117), (.int 105)] (.int 0)) (R_p3 : 0 ≤ p3.toInt ∧ p3.toInt ≤ 255) (R_p4 : 0 ≤ p4.toInt ∧ p4.toInt ≤ 255) (R_p5 : 0 ≤ p5.toInt ∧ p5.toInt ≤ 255) (B_p0 : (p3.toInt8.toInt32) = p0) (B_p1 : (p4.toInt8.toInt32) = p1) (B_p2 : (p5.toInt8.toInt32) = p2) :
    Ctr l Z (⟨"java/lang/StringLatin1", "equals", "([B[B)Z"⟩ : MethodName) jdk_43_method_13_code 3 (some .boolean) ({ frames := 0, cells := 0, slots := 0, locals := 0 } : Room) #[(.ref x0), (.ref x1)] h0 (fun v h L => (p3 = (47 : Int32) ∧ p4 = (117 : Int32) ∧ p5 = (105 : Int32) ∧ v = some (.int 1) ∧ Fr n0 L ∧ h = h0) ∨ (p3 = (47 : Int32) ∧ p4 = (117 : Int32) ∧ ¬ (p5 = (105 : Int32)) ∧ v = some (.int 0) ∧ Fr n0 L ∧ h = h0) ∨ (p3 = (47 : Int32) ∧ ¬ (p4 = (117 : Int32)) ∧ v = some (.int 0) ∧ Fr n0 L ∧ h = h0) ∨ (¬ (p3 = (47 : Int32)) ∧ v = some (.int 0) ∧ Fr n0 L ∧ h = h0)) := by
  refine Ctr.of (plainFor_of_name pn_c2) ?_
  intro p e s m below meth c T0 hx hZ hby hml hown hnm hret hlk e0 es X0
  refine Go.cast (ef_7_RR m x0 x1) ?_
  generalize hFF : EndN s _ _ _ = FF
  refine Go.aloadN X0 hx (pc' := 1) rfl (hb hby d7_0) rfl rfl ?_
  refine Go.arraylength X0 hx hZ e0 P0 (pc' := 2) rfl (hb hby d7_1) ?_
  refine Go.aloadN X0 hx (pc' := 3) rfl (hb hby d7_2) rfl rfl ?_
  refine Go.arraylength X0 hx hZ e0 P2 (pc' := 4) rfl (hb hby d7_3) ?_
  refine Go.icmpNo X0 hx (pc' := 7) rfl (hb hby d7_4) (by decide) ?_
  refine Go.iconst X0 hx (pc' := 8) rfl (hb hby d7_7) (v := (0 : Int32)) rfl ?_
  refine Go.istoreN X0 hx (pc' := 9) rfl (hb hby d7_8) (Ls' := #[.val (.ref x0), .val (.ref x1), .val (.int 0)]) rfl ?_
  refine Go.iloadN X0 hx (pc' := 10) rfl (hb hby d7_9) rfl ?_
  refine Go.aloadN X0 hx (pc' := 11) rfl (hb hby d7_10) rfl rfl ?_
  refine Go.arraylength X0 hx hZ e0 P0 (pc' := 12) rfl (hb hby d7_11) ?_
  refine Go.icmpNo X0 hx (pc' := 15) rfl (hb hby d7_12) (by decide) ?_
  refine Go.aloadN X0 hx (pc' := 16) rfl (hb hby d7_15) rfl rfl ?_
  refine Go.iloadN X0 hx (pc' := 17) rfl (hb hby d7_16) rfl ?_
  refine Go.baload X0 hx hZ e0 P0 (v := (.int p0)) ⟨by decide, by decide⟩ rfl (pc' := 18) rfl (hb hby d7_17) ?_
  refine Go.aloadN X0 hx (pc' := 19) rfl (hb hby d7_18) rfl rfl ?_
  refine Go.iloadN X0 hx (pc' := 20) rfl (hb hby d7_19) rfl ?_
  refine Go.baload X0 hx hZ e0 P2 (v := (.int 47)) ⟨by decide, by decide⟩ rfl (pc' := 21) rfl (hb hby d7_20) ?_
  by_cases hc1 : p3 = (47 : Int32)
  · refine Go.icmpYes X0 hx (pc' := 26) (hb hby d7_21) (teq (own_lat_eq B_p0 (by decide : ((47 : Int32)).toInt8.toInt32 = (47 : Int32)) hc1)).1 (by decide) (by decide) ?_
    refine Go.iinc X0 hx (pc' := 29) rfl (hb hby d7_26) rfl (y := (1 : Int32)) (by decide) (Ls' := #[.val (.ref x0), .val (.ref x1), .val (.int 1)]) rfl ?_
    refine Go.goto X0 hx (pc' := 9) (hb hby d7_29) (by decide) (by decide) ?_
    refine Go.iloadN X0 hx (pc' := 10) rfl (hb hby d7_9) rfl ?_
    refine Go.aloadN X0 hx (pc' := 11) rfl (hb hby d7_10) rfl rfl ?_
    refine Go.arraylength X0 hx hZ e0 P0 (pc' := 12) rfl (hb hby d7_11) ?_
    refine Go.icmpNo X0 hx (pc' := 15) rfl (hb hby d7_12) (by decide) ?_
    refine Go.aloadN X0 hx (pc' := 16) rfl (hb hby d7_15) rfl rfl ?_
    refine Go.iloadN X0 hx (pc' := 17) rfl (hb hby d7_16) rfl ?_
    refine Go.baload X0 hx hZ e0 P0 (v := (.int p1)) ⟨by decide, by decide⟩ rfl (pc' := 18) rfl (hb hby d7_17) ?_
    refine Go.aloadN X0 hx (pc' := 19) rfl (hb hby d7_18) rfl rfl ?_
    refine Go.iloadN X0 hx (pc' := 20) rfl (hb hby d7_19) rfl ?_
    refine Go.baload X0 hx hZ e0 P2 (v := (.int 117)) ⟨by decide, by decide⟩ rfl (pc' := 21) rfl (hb hby d7_20) ?_
    by_cases hc2 : p4 = (117 : Int32)
    · refine Go.icmpYes X0 hx (pc' := 26) (hb hby d7_21) (teq (own_lat_eq B_p1 (by decide : ((117 : Int32)).toInt8.toInt32 = (117 : Int32)) hc2)).1 (by decide) (by decide) ?_
      refine Go.iinc X0 hx (pc' := 29) rfl (hb hby d7_26) rfl (y := (2 : Int32)) (by decide) (Ls' := #[.val (.ref x0), .val (.ref x1), .val (.int 2)]) rfl ?_
      refine Go.goto X0 hx (pc' := 9) (hb hby d7_29) (by decide) (by decide) ?_
      refine Go.iloadN X0 hx (pc' := 10) rfl (hb hby d7_9) rfl ?_
      refine Go.aloadN X0 hx (pc' := 11) rfl (hb hby d7_10) rfl rfl ?_
      refine Go.arraylength X0 hx hZ e0 P0 (pc' := 12) rfl (hb hby d7_11) ?_
      refine Go.icmpNo X0 hx (pc' := 15) rfl (hb hby d7_12) (by decide) ?_
      refine Go.aloadN X0 hx (pc' := 16) rfl (hb hby d7_15) rfl rfl ?_
      refine Go.iloadN X0 hx (pc' := 17) rfl (hb hby d7_16) rfl ?_
      refine Go.baload X0 hx hZ e0 P0 (v := (.int p2)) ⟨by decide, by decide⟩ rfl (pc' := 18) rfl (hb hby d7_17) ?_
      refine Go.aloadN X0 hx (pc' := 19) rfl (hb hby d7_18) rfl rfl ?_
      refine Go.iloadN X0 hx (pc' := 20) rfl (hb hby d7_19) rfl ?_
      refine Go.baload X0 hx hZ e0 P2 (v := (.int 105)) ⟨by decide, by decide⟩ rfl (pc' := 21) rfl (hb hby d7_20) ?_
      by_cases hc3 : p5 = (105 : Int32)
      · refine Go.icmpYes X0 hx (pc' := 26) (hb hby d7_21) (teq (own_lat_eq B_p2 (by decide : ((105 : Int32)).toInt8.toInt32 = (105 : Int32)) hc3)).1 (by decide) (by decide) ?_
        refine Go.iinc X0 hx (pc' := 29) rfl (hb hby d7_26) rfl (y := (3 : Int32)) (by decide) (Ls' := #[.val (.ref x0), .val (.ref x1), .val (.int 3)]) rfl ?_
        refine Go.goto X0 hx (pc' := 9) (hb hby d7_29) (by decide) (by decide) ?_
        refine Go.iloadN X0 hx (pc' := 10) rfl (hb hby d7_9) rfl ?_
        refine Go.aloadN X0 hx (pc' := 11) rfl (hb hby d7_10) rfl rfl ?_
        refine Go.arraylength X0 hx hZ e0 P0 (pc' := 12) rfl (hb hby d7_11) ?_
        refine Go.icmpYes X0 hx (pc' := 32) (hb hby d7_12) (by decide) (by decide) (by decide) ?_
        refine Go.iconst X0 hx (pc' := 33) rfl (hb hby d7_32) (v := (1 : Int32)) rfl ?_
        subst hFF
        refine Go.retN X0 hx hlk (t := .boolean) hret (by simp) (hb hby d7_33) (by decide) (by decide) ?_
        rw [e0]
        exact Or.inl ⟨hc1, hc2, hc3, (congrArg (fun z => some (Value.int z)) (by decide : nar .boolean (1 : Int32) = (1 : Int32))), (Fr.nil n0), rfl⟩
      · refine Go.icmpNo X0 hx (pc' := 24) rfl (hb hby d7_21) (feq (own_lat_ne B_p2 (by decide : ((105 : Int32)).toInt8.toInt32 = (105 : Int32)) R_p5 (own_rlit (n := 105) (by decide)) (by decide) hc3)).1 ?_
        refine Go.iconst X0 hx (pc' := 25) rfl (hb hby d7_24) (v := (0 : Int32)) rfl ?_
        subst hFF
        refine Go.retN X0 hx hlk (t := .boolean) hret (by simp) (hb hby d7_25) (by decide) (by decide) ?_
        rw [e0]
        exact Or.inr (Or.inl ⟨hc1, hc2, hc3, (congrArg (fun z => some (Value.int z)) (by decide : nar .boolean (0 : Int32) = (0 : Int32))), (Fr.nil n0), rfl⟩)
    · refine Go.icmpNo X0 hx (pc' := 24) rfl (hb hby d7_21) (feq (own_lat_ne B_p1 (by decide : ((117 : Int32)).toInt8.toInt32 = (117 : Int32)) R_p4 (own_rlit (n := 117) (by decide)) (by decide) hc2)).1 ?_
      refine Go.iconst X0 hx (pc' := 25) rfl (hb hby d7_24) (v := (0 : Int32)) rfl ?_
      subst hFF
      refine Go.retN X0 hx hlk (t := .boolean) hret (by simp) (hb hby d7_25) (by decide) (by decide) ?_
      rw [e0]
      exact Or.inr (Or.inr (Or.inl ⟨hc1, hc2, (congrArg (fun z => some (Value.int z)) (by decide : nar .boolean (0 : Int32) = (0 : Int32))), (Fr.nil n0), rfl⟩))
  · refine Go.icmpNo X0 hx (pc' := 24) rfl (hb hby d7_21) (feq (own_lat_ne B_p0 (by decide : ((47 : Int32)).toInt8.toInt32 = (47 : Int32)) R_p3 (own_rlit (n := 47) (by decide)) (by decide) hc1)).1 ?_
    refine Go.iconst X0 hx (pc' := 25) rfl (hb hby d7_24) (v := (0 : Int32)) rfl ?_
    subst hFF
    refine Go.retN X0 hx hlk (t := .boolean) hret (by simp) (hb hby d7_25) (by decide) (by decide) ?_
    rw [e0]
    exact Or.inr (Or.inr (Or.inr (⟨hc1, (congrArg (fun z => some (Value.int z)) (by decide : nar .boolean (0 : Int32) = (0 : Int32))), (Fr.nil n0), rfl⟩)))
-- java/lang/String.equals
set_option maxRecDepth 65536 in
set_option maxHeartbeats 4000000 in
theorem au_55 (l : Launch) (Z : State) (a0 : Array Value) (hw : ∀ d ∈ tables_1, d.before a0 Z = true) (x0 : Addr) (x1 : Addr) (x2 : Addr) (x3 : Addr) (kk0 : ClassId) (p0 : Int32) (p1 : Int32) (p2 : Int32) (kk1 : ClassId) (p3 : Int32) (p4 : Int32) (p5 : Int32) (gz1 : Int32) (gv5 : Value) (h0 : Heap) (n0 : Nat) (Z0 : n0 ≤ h0.size) (O0 : Old Z n0 h0) (G : Glob Z gz1 gv5) (P1 : Fld Z h0 x0 "java/lang/String" "coder" "B" (.int 0)) (P2 : Fld Z h0 x0 "java/lang/String" "value" "[B" (.ref x2)) (P3 : Exa Z h0 x1 "java/lang/String") (P4 : Fld Z h0 x1 "java/lang/String" "coder" "B" (.int 0)) (P5 : Fld Z h0 x1 "java/lang/String" "value" "[B" (.ref x3)) (P6 : Arv Z h0 x2 kk0 .byte (3 : Int32) [(.int p0), (.int p1), (.int p2)] (.int 0)) (P8 : Arv Z h0 x3 kk1 .byte (3 : Int32) [(.int 47), (.int 117), (.int 105)] (.int 0)) (R_p3 : 0 ≤ p3.toInt ∧ p3.toInt ≤ 255) (R_p4 : 0 ≤ p4.toInt ∧ p4.toInt ≤ 255) (R_p5 : 0 ≤ p5.toInt ∧ p5.toInt ≤ 255) (B_p0 : (p3.toInt8.toInt32) = p0) (B_p1 : (p4.toInt8.toInt32) = p1) (B_p2 : (p5.toInt8.toInt32) = p2) (ne_x0_x1 : x0 ≠ x1) :
    Ctr l Z (⟨"java/lang/String", "equals", "(Ljava/lang/Object;)Z"⟩ : MethodName) jdk_42_method_66_code 3 (some .boolean) ({ frames := 1, cells := 0, slots := 0, locals := 14 } : Room) #[(.ref x0), (.ref x1)] h0 (fun v h L => (p3 = (47 : Int32) ∧ p4 = (117 : Int32) ∧ p5 = (105 : Int32) ∧ v = some (.int 1) ∧ Fr n0 L ∧ h = h0) ∨ (p3 = (47 : Int32) ∧ p4 = (117 : Int32) ∧ ¬ (p5 = (105 : Int32)) ∧ v = some (.int 0) ∧ Fr n0 L ∧ h = h0) ∨ (p3 = (47 : Int32) ∧ ¬ (p4 = (117 : Int32)) ∧ v = some (.int 0) ∧ Fr n0 L ∧ h = h0) ∨ (¬ (p3 = (47 : Int32)) ∧ v = some (.int 0) ∧ Fr n0 L ∧ h = h0)) := by
  refine Ctr.of (plainFor_of_name pn_c1) ?_
  intro p e s m below meth c T0 hx hZ hby hml hown hnm hret hlk e0 es X0
  have G' := G
  obtain ⟨G0, -, G2, -⟩ := G'
  refine Go.cast (ef_6_RR m x0 x1) ?_
  generalize hFF : EndN s _ _ _ = FF
  refine Go.aloadN X0 hx (pc' := 1) rfl (hb hby d6_0) rfl rfl ?_
  refine Go.aloadN X0 hx (pc' := 2) rfl (hb hby d6_1) rfl rfl ?_
  refine Go.acmp X0 hx (pc' := 7) (same := false) (hb hby d6_2) rfl rfl (decide_eq_false (fun q => ne_x0_x1 (Value.ref.inj q))) (by decide) (by decide) ?_
  refine Go.aloadN X0 hx (pc' := 8) rfl (hb hby d6_7) rfl rfl ?_
  refine Go.instY X0 hx hZ hown (tw_37 hw) e0 (Ins.self P3) (pc' := 11) rfl (hb hby d6_8) ?_
  intro T1 e1 X1
  refine Go.ifNo X1 hx (pc' := 14) rfl (hb hby d6_11) (by decide) ?_
  refine Go.aloadN X1 hx (pc' := 15) rfl (hb hby d6_14) rfl rfl ?_
  refine Go.castY X1 hx hZ hown (tw_37 hw) e1 (Ins.self P3) (pc' := 18) rfl (hb hby d6_15) ?_
  intro T2 e2 X2
  refine Go.astoreN X2 hx (pc' := 19) rfl (hb hby d6_18) (Ls' := #[.val (.ref x0), .val (.ref x1), .val (.ref x1)]) rfl rfl ?_
  have fk3 : Sta Z h0 "java/lang/String" "COMPACT_STRINGS" "Z" (.int gz1) := G0.ext O0.2
  refine Go.getS X2 hx hZ hown (host := "") (Or.inl (tw_38 hw)) Via.refl e2 fk3 (pc' := 22) rfl (hb hby d6_19) ?_
  intro T4 e4 X4
  refine Go.ifNo X4 hx (pc' := 25) rfl (hb hby d6_22) (feq G2).1 ?_
  refine Go.aloadN X4 hx (pc' := 26) rfl (hb hby d6_25) rfl rfl ?_
  refine Go.getF X4 hx hZ hown (host := "") (Or.inl (tw_26 hw)) Via.refl e4 P1 (pc' := 29) rfl (hb hby d6_26) ?_
  intro T5 e5 X5
  refine Go.aloadN X5 hx (pc' := 30) rfl (hb hby d6_29) rfl rfl ?_
  refine Go.getF X5 hx hZ hown (host := "") (Or.inl (tw_26 hw)) Via.refl e5 P4 (pc' := 33) rfl (hb hby d6_30) ?_
  intro T6 e6 X6
  refine Go.icmpNo X6 hx (pc' := 36) rfl (hb hby d6_33) (by decide) ?_
  refine Go.aloadN X6 hx (pc' := 37) rfl (hb hby d6_36) rfl rfl ?_
  refine Go.getF X6 hx hZ hown (host := "") (Or.inl (tw_25 hw)) Via.refl e6 P2 (pc' := 40) rfl (hb hby d6_37) ?_
  intro T7 e7 X7
  refine Go.aloadN X7 hx (pc' := 41) rfl (hb hby d6_40) rfl rfl ?_
  refine Go.getF X7 hx hZ hown (host := "") (Or.inl (tw_25 hw)) Via.refl e7 P5 (pc' := 44) rfl (hb hby d6_41) ?_
  intro T8 e8 X8
  refine Go.callS X8 hx hZ hown (tw_39 hw) (tw_40 hw) (tw_41 hw) (tw_42 hw) (by decide) (tw_42 hw) (tw_41 hw) (au_56 l Z a0 hw x2 x3 kk0 p0 p1 p2 kk1 p3 p4 p5 h0 n0 Z0 P6 P8 R_p3 R_p4 R_p5 B_p0 B_p1 B_p2) e8 (argsL := [(.ref x2), (.ref x3)]) (rest := []) (pc' := 47) rfl (by rw [hml]; rfl) (lenOf pd_3 rfl) rfl rfl (W := 0) (Nat.le_of_eq rfl) (by decide) (by decide) (by decide) (by decide) (hb hby d6_44) ?_
  intro v9 T9 L9 q9 X9
  rcases q9 with ⟨c9_0_0, c9_0_1, c9_0_2, rfl, N9_0, e9_0⟩ | ⟨c9_1_0, c9_1_1, c9_1_2, rfl, N9_1, e9_1⟩ | ⟨c9_2_0, c9_2_1, rfl, N9_2, e9_2⟩ | ⟨c9_3_0, rfl, N9_3, e9_3⟩
  · show Go _ _ _ _ (T9.setTop (mkF m 47 #[.val (.ref x0), .val (.ref x1), .val (.ref x1)] [(.int 1)]))
    refine Go.ifNo X9 hx (pc' := 50) rfl (hb hby d6_47) (by decide) ?_
    refine Go.iconst X9 hx (pc' := 51) rfl (hb hby d6_50) (v := (1 : Int32)) rfl ?_
    refine Go.goto X9 hx (pc' := 55) (hb hby d6_51) (by decide) (by decide) ?_
    subst hFF
    refine Go.retN X9 hx hlk (t := .boolean) hret (by simp) (hb hby d6_55) (by decide) (by decide) ?_
    rw [e9_0]
    exact Or.inl ⟨c9_0_0, c9_0_1, c9_0_2, (congrArg (fun z => some (Value.int z)) (by decide : nar .boolean (1 : Int32) = (1 : Int32))), (Fr.app (Fr.nil n0) N9_0), rfl⟩
  · show Go _ _ _ _ (T9.setTop (mkF m 47 #[.val (.ref x0), .val (.ref x1), .val (.ref x1)] [(.int 0)]))
    refine Go.ifYes X9 hx (pc' := 54) (hb hby d6_47) (by decide) (by decide) (by decide) ?_
    refine Go.iconst X9 hx (pc' := 55) rfl (hb hby d6_54) (v := (0 : Int32)) rfl ?_
    subst hFF
    refine Go.retN X9 hx hlk (t := .boolean) hret (by simp) (hb hby d6_55) (by decide) (by decide) ?_
    rw [e9_1]
    exact Or.inr (Or.inl ⟨c9_1_0, c9_1_1, c9_1_2, (congrArg (fun z => some (Value.int z)) (by decide : nar .boolean (0 : Int32) = (0 : Int32))), (Fr.app (Fr.nil n0) N9_1), rfl⟩)
  · show Go _ _ _ _ (T9.setTop (mkF m 47 #[.val (.ref x0), .val (.ref x1), .val (.ref x1)] [(.int 0)]))
    refine Go.ifYes X9 hx (pc' := 54) (hb hby d6_47) (by decide) (by decide) (by decide) ?_
    refine Go.iconst X9 hx (pc' := 55) rfl (hb hby d6_54) (v := (0 : Int32)) rfl ?_
    subst hFF
    refine Go.retN X9 hx hlk (t := .boolean) hret (by simp) (hb hby d6_55) (by decide) (by decide) ?_
    rw [e9_2]
    exact Or.inr (Or.inr (Or.inl ⟨c9_2_0, c9_2_1, (congrArg (fun z => some (Value.int z)) (by decide : nar .boolean (0 : Int32) = (0 : Int32))), (Fr.app (Fr.nil n0) N9_2), rfl⟩))
  · show Go _ _ _ _ (T9.setTop (mkF m 47 #[.val (.ref x0), .val (.ref x1), .val (.ref x1)] [(.int 0)]))
    refine Go.ifYes X9 hx (pc' := 54) (hb hby d6_47) (by decide) (by decide) (by decide) ?_
    refine Go.iconst X9 hx (pc' := 55) rfl (hb hby d6_54) (v := (0 : Int32)) rfl ?_
    subst hFF
    refine Go.retN X9 hx hlk (t := .boolean) hret (by simp) (hb hby d6_55) (by decide) (by decide) ?_
    rw [e9_3]
    exact Or.inr (Or.inr (Or.inr (⟨c9_3_0, (congrArg (fun z => some (Value.int z)) (by decide : nar .boolean (0 : Int32) = (0 : Int32))), (Fr.app (Fr.nil n0) N9_3), rfl⟩)))
-- com/example/roles_over_datacenter/rolesoverdatacenter/Page.redirects
set_option maxRecDepth 65536 in
set_option maxHeartbeats 4000000 in
theorem au_52 (l : Launch) (Z : State) (a0 : Array Value) (hw : ∀ d ∈ tables_1, d.before a0 Z = true) (x0 : Addr) (x1 : Addr) (kk0 : ClassId) (p0 : Int32) (p1 : Int32) (p2 : Int32) (p3 : Int32) (p4 : Int32) (p5 : Int32) (gz1 : Int32) (gv5 : Value) (h0 : Heap) (n0 : Nat) (Z0 : n0 ≤ h0.size) (O0 : Old Z n0 h0) (G : Glob Z gz1 gv5) (P0 : Exa Z h0 x0 "java/lang/String") (P1 : Fld Z h0 x0 "java/lang/String" "coder" "B" (.int 0)) (P2 : Fld Z h0 x0 "java/lang/String" "value" "[B" (.ref x1)) (P3 : Arv Z h0 x1 kk0 .byte (3 : Int32) [(.int p0), (.int p1), (.int p2)] (.int 0)) (R_p3 : 0 ≤ p3.toInt ∧ p3.toInt ≤ 255) (R_p4 : 0 ≤ p4.toInt ∧ p4.toInt ≤ 255) (R_p5 : 0 ≤ p5.toInt ∧ p5.toInt ≤ 255) (B_p0 : (p3.toInt8.toInt32) = p0) (B_p1 : (p4.toInt8.toInt32) = p1) (B_p2 : (p5.toInt8.toInt32) = p2) :
    CtrW l Z EL0 (⟨"com/example/roles_over_datacenter/rolesoverdatacenter/Page", "redirects", "(Ljava/lang/String;)Z"⟩ : MethodName) prog_11_method_4_code 1 (some .boolean) ({ frames := 5, cells := 8, slots := 55, locals := 81 } : Room) #[(.ref x0)] h0 [x0] (fun v vm h L => (p3 = (47 : Int32) ∧ p4 = (117 : Int32) ∧ p5 = (105 : Int32) ∧ v = some (.int 1) ∧ Fr n0 L ∧ Keep h0 h []) ∨ (p3 = (47 : Int32) ∧ p4 = (117 : Int32) ∧ ¬ (p5 = (105 : Int32)) ∧ v = some (.int 0) ∧ Fr n0 L ∧ Keep h0 h []) ∨ (p3 = (47 : Int32) ∧ ¬ (p4 = (117 : Int32)) ∧ v = some (.int 0) ∧ Fr n0 L ∧ Keep h0 h []) ∨ (¬ (p3 = (47 : Int32)) ∧ v = some (.int 0) ∧ Fr n0 L ∧ Keep h0 h [])) := by
  refine CtrW.of (plainFor_of_name pn_c5) ?_
  intro p e s m below meth c T0 hx hZ hby hml hown hnm hret hlk e0 es hS0 C0 hsf X0
  have G' := G
  obtain ⟨-, G1, -, -⟩ := G'
  refine Go.cast (ef_5_R m x0) ?_
  generalize hFF : EndW Z EL0 s _ _ _ = FF
  refine Go.aloadN X0 hx (pc' := 1) rfl (hb hby d5_0) rfl rfl ?_
  refine Go.ldcCH X0 hx hZ hown (tw_31 hw) (own_SA hw) e0 hS0 (Nat.le_refl _) (own_EW hw) (List.mem_of_getElem? (i := 1) rfl) C0.1 (vs := [(.int (47 : Int32))]) (z := (1 : Int32)) (by decide) (by decide) rfl (n := 4) (by decide) (by decide) (by decide) (by decide) (pc' := 3) rfl (hb hby d5_1) ?_
  intro a1 T1 h1 j1 b1 k1 e1 E1 S1 i1 Z1 O1 A1 F1 G1 V1 C1 D1 X1
  have Kp3 : Keep h0 h1 [] := ((Keep.refl h0 []).ext E1)
  have Zn2 : n0 ≤ h1.size := Nat.le_trans Z0 Kp3.1
  have O4 := (O0.ext E1)
  have fk5 : Fld Z h1 x0 "java/lang/String" "coder" "B" (.int 0) := (P1.ext E1)
  have fk6 : Fld Z h1 x0 "java/lang/String" "value" "[B" (.ref x1) := (P2.ext E1)
  have fk7 := (P3.ext E1)
  have fk8 : Safe Z EL0 T1.vm h1 x0 := (C1.safe P0.lt (hsf _ (List.mem_of_getElem? (i := 0) rfl)))
  have fk9 : Exa Z h1 x0 "java/lang/String" := (P0.ext E1)
  refine Go.callV X1 hx Z1 O1 (tw_32 hw) (tw_33 hw) (notFace_of_selects (args := #[]) (mvT Z1 (tw_35 hw))) (tw_35 hw) (tw_34 hw) (by decide) (tw_36 hw) (tw_8 hw) (au_53 l Z a0 hw x0 a1 x1 b1 kk0 p0 p1 p2 k1 gz1 gv5 h1 n0 Zn2 O4 G fk5 fk6 A1 F1 G1 fk7 V1 (D1 x0 fk8).1) e1 fk9 (argsL := [(.ref a1)]) (rest := []) (pc' := 6) rfl (by rw [hml]; rfl) (lenOf pd_4 rfl) rfl rfl (W := 0) (Nat.le_of_eq rfl) (by decide) (by decide) (by decide) (by decide) (hb hby d5_3) ?_
  intro v10 T10 L10 q10 X10
  obtain ⟨rfl, N10, e10⟩ := q10
  show Go _ _ _ _ (T10.setTop (mkF m 6 #[.val (.ref x0)] [(.int 0)]))
  refine Go.ifNo X10 hx (pc' := 9) rfl (hb hby d5_6) (by decide) ?_
  refine Go.aloadN X10 hx (pc' := 10) rfl (hb hby d5_9) rfl rfl ?_
  have C11 : CHr Z EL0 s.vm s.heap T1.vm h1 := (C0.trans C1)
  refine Go.ldcCH X10 hx Z1 O1 (tw_43 hw) (own_SA hw) e10 S1 i1 (own_EW hw) (List.mem_of_getElem? (i := 0) rfl) C11.1 (vs := [(.int (47 : Int32)), (.int (117 : Int32)), (.int (105 : Int32)), (.int (47 : Int32))]) (z := (4 : Int32)) (by decide) (by decide) rfl (n := 16) (by decide) (by decide) (by decide) (by decide) (pc' := 12) rfl (hb hby d5_10) ?_
  intro a12 T12 h12 j12 b12 k12 e12 E12 S12 i12 Z12 O12 A12 F12 G12 V12 C12 D12 X12
  refine Go.iconst X12 hx (pc' := 13) rfl (hb hby d5_12) (v := (0 : Int32)) rfl ?_
  have C13 : CHr Z EL0 s.vm s.heap T12.vm h12 := (C11.trans C12)
  refine Go.ldcCH X12 hx Z12 O12 (tw_43 hw) (own_SA hw) e12 S12 i12 (own_EW hw) (List.mem_of_getElem? (i := 0) rfl) C13.1 (vs := [(.int (47 : Int32)), (.int (117 : Int32)), (.int (105 : Int32)), (.int (47 : Int32))]) (z := (4 : Int32)) (by decide) (by decide) rfl (n := 16) (by decide) (by decide) (by decide) (by decide) (pc' := 15) rfl (hb hby d5_13) ?_
  intro a14 T14 h14 j14 b14 k14 e14 E14 S14 i14 Z14 O14 A14 F14 G14 V14 C14 D14 X14
  have Kp16 : Keep h0 h12 [] := (Kp3.ext E12)
  have Kp17 : Keep h0 h14 [] := (Kp16.ext E14)
  have Zn15 : n0 ≤ h14.size := Nat.le_trans Z0 Kp17.1
  have O18 := (O4.ext E12)
  have O19 := (O18.ext E14)
  refine Go.callV X14 hx Z14 O14 (tw_44 hw) (tw_45 hw) (notFace_of_selects (args := #[]) (mvT Z14 (tw_47 hw))) (tw_47 hw) (tw_46 hw) (by decide) (tw_48 hw) (tw_8 hw) (au_10 l Z a0 hw a14 b14 k14 gz1 gv5 h14 n0 Zn15 O19 G A14 F14 G14 V14) e14 A14 (argsL := []) (rest := [(.int 0), (.ref a12), (.ref x0)]) (pc' := 18) rfl (by rw [hml]; rfl) (lenOf pd_6 rfl) rfl rfl (W := 3) (Nat.le_of_eq rfl) (by decide) (by decide) (by decide) (by decide) (hb hby d5_15) ?_
  intro v20 T20 L20 q20 X20
  obtain ⟨rfl, N20, e20⟩ := q20
  show Go _ _ _ _ (T20.setTop (mkF m 18 #[.val (.ref x0)] [(.int 4), (.int 0), (.ref a12), (.ref x0)]))
  refine Go.iconst X20 hx (pc' := 19) rfl (hb hby d5_18) (v := (1 : Int32)) rfl ?_
  refine Go.isub X20 hx (pc' := 20) rfl (hb hby d5_19) ?_
  rw [show ((4 : Int32) - (1 : Int32)) = (3 : Int32) from by decide]
  have fk21 : Exa Z h14 a12 "java/lang/String" := (A12.ext E14)
  have fk22 : Fld Z h14 a12 "java/lang/String" "coder" "B" (.int 0) := (F12.ext E14)
  have fk23 : Fld Z h14 a12 "java/lang/String" "value" "[B" (.ref b12) := (G12.ext E14)
  have fk24 := (V12.ext E14)
  refine Go.callV X20 hx Z14 O14 (tw_54 hw) (tw_55 hw) (notFace_of_selects (args := #[]) (mvT Z14 (tw_57 hw))) (tw_57 hw) (tw_56 hw) (by decide) (tw_58 hw) (tw_8 hw) (au_12 l Z a0 hw a12 b12 k12 gz1 gv5 h14 n0 Zn15 O19 G fk21 fk22 fk23 fk24) e20 fk21 (argsL := [(.int 0), (.int 3)]) (rest := [(.ref x0)]) (pc' := 23) rfl (by rw [hml]; rfl) (lenOf pd_15 rfl) rfl rfl (W := 1) (Nat.le_of_eq rfl) (by decide) (by decide) (by decide) (by decide) (hb hby d5_20) ?_
  intro v25 T25 L25 q25 X25
  obtain ⟨h25, e25⟩ : ∃ z, T25.heap = z := ⟨_, rfl⟩
  rw [e25] at q25
  obtain ⟨b25_0, b25_1, k25_0, rfl, N25, K25, s25_0, s25_1, n25_0, F25_0, F25_1, F25_2, F25_3, F25_4⟩ := q25
  show Go _ _ _ _ (T25.setTop (mkF m 23 #[.val (.ref x0)] [(.ref b25_0), (.ref x0)]))
  have Kp27 : Keep h0 h25 [] := (Kp17.trans K25 all0)
  have Zn26 : n0 ≤ h25.size := Nat.le_trans Z0 Kp27.1
  have O28 := (O19.keep K25 all0)
  have fk29 : Fld Z h25 x0 "java/lang/String" "coder" "B" (.int 0) := (((fk5.ext E12).ext E14).keep K25 nin0)
  have fk30 : Fld Z h25 x0 "java/lang/String" "value" "[B" (.ref x1) := (((fk6.ext E12).ext E14).keep K25 nin0)
  have fk31 := (((fk7.ext E12).ext E14).keep K25 nin0)
  have fk33 : Exa Z h14 x0 "java/lang/String" := ((fk9.ext E12).ext E14)
  have ne32 : x0 ≠ b25_0 := Nat.ne_of_lt (Nat.lt_of_lt_of_le fk33.lt s25_0)
  have fk34 : Exa Z h25 x0 "java/lang/String" := (fk33.keep K25)
  refine Go.callV X25 hx Z14 O14 (tw_32 hw) (tw_33 hw) (notFace_of_selects (args := #[]) (mvT Z14 (tw_35 hw))) (tw_35 hw) (tw_34 hw) (by decide) (tw_36 hw) (tw_8 hw) (au_55 l Z a0 hw x0 b25_0 x1 b25_1 kk0 p0 p1 p2 k25_0 p3 p4 p5 gz1 gv5 h25 n0 Zn26 O28 G fk29 fk30 F25_0 F25_1 F25_2 fk31 F25_3 R_p3 R_p4 R_p5 B_p0 B_p1 B_p2 ne32) e25 fk34 (argsL := [(.ref b25_0)]) (rest := []) (pc' := 26) rfl (by rw [hml]; rfl) (lenOf pd_4 rfl) rfl rfl (W := 0) (Nat.le_of_eq rfl) (by decide) (by decide) (by decide) (by decide) (hb hby d5_23) ?_
  intro v35 T35 L35 q35 X35
  rcases q35 with ⟨c35_0_0, c35_0_1, c35_0_2, rfl, N35_0, e35_0⟩ | ⟨c35_1_0, c35_1_1, c35_1_2, rfl, N35_1, e35_1⟩ | ⟨c35_2_0, c35_2_1, rfl, N35_2, e35_2⟩ | ⟨c35_3_0, rfl, N35_3, e35_3⟩
  · show Go _ _ _ _ (T35.setTop (mkF m 26 #[.val (.ref x0)] [(.int 1)]))
    refine Go.ifNo X35 hx (pc' := 29) rfl (hb hby d5_26) (by decide) ?_
    refine Go.iconst X35 hx (pc' := 30) rfl (hb hby d5_29) (v := (1 : Int32)) rfl ?_
    refine Go.goto X35 hx (pc' := 34) (hb hby d5_30) (by decide) (by decide) ?_
    subst hFF
    have C36 : CHr Z EL0 s.vm s.heap T14.vm h14 := (C13.trans C14)
    have C37 : CHr Z EL0 s.vm s.heap T14.vm h25 := (C36.trans (CHr.keep K25 sf0 C36.1))
    have hk38 := (Nat.le_trans i14 K25.1)
    refine Go.retNW X35 hx hlk Z14 (own_EW hw) e35_0 S14 hk38 C37 (t := .boolean) hret (by simp) (hb hby d5_34) (by decide) (by decide) (fun hat => ?_)
    exact Or.inl ⟨c35_0_0, c35_0_1, c35_0_2, (congrArg (fun z => some (Value.int z)) (by decide : nar .boolean (1 : Int32) = (1 : Int32))), (Fr.app (Fr.app (Fr.app (Fr.app (Fr.nil n0) N10) N20) N25) N35_0), Kp27⟩
  · show Go _ _ _ _ (T35.setTop (mkF m 26 #[.val (.ref x0)] [(.int 0)]))
    refine Go.ifYes X35 hx (pc' := 33) (hb hby d5_26) (by decide) (by decide) (by decide) ?_
    refine Go.iconst X35 hx (pc' := 34) rfl (hb hby d5_33) (v := (0 : Int32)) rfl ?_
    subst hFF
    have C39 : CHr Z EL0 s.vm s.heap T14.vm h14 := (C13.trans C14)
    have C40 : CHr Z EL0 s.vm s.heap T14.vm h25 := (C39.trans (CHr.keep K25 sf0 C39.1))
    have hk41 := (Nat.le_trans i14 K25.1)
    refine Go.retNW X35 hx hlk Z14 (own_EW hw) e35_1 S14 hk41 C40 (t := .boolean) hret (by simp) (hb hby d5_34) (by decide) (by decide) (fun hat => ?_)
    exact Or.inr (Or.inl ⟨c35_1_0, c35_1_1, c35_1_2, (congrArg (fun z => some (Value.int z)) (by decide : nar .boolean (0 : Int32) = (0 : Int32))), (Fr.app (Fr.app (Fr.app (Fr.app (Fr.nil n0) N10) N20) N25) N35_1), Kp27⟩)
  · show Go _ _ _ _ (T35.setTop (mkF m 26 #[.val (.ref x0)] [(.int 0)]))
    refine Go.ifYes X35 hx (pc' := 33) (hb hby d5_26) (by decide) (by decide) (by decide) ?_
    refine Go.iconst X35 hx (pc' := 34) rfl (hb hby d5_33) (v := (0 : Int32)) rfl ?_
    subst hFF
    have C42 : CHr Z EL0 s.vm s.heap T14.vm h14 := (C13.trans C14)
    have C43 : CHr Z EL0 s.vm s.heap T14.vm h25 := (C42.trans (CHr.keep K25 sf0 C42.1))
    have hk44 := (Nat.le_trans i14 K25.1)
    refine Go.retNW X35 hx hlk Z14 (own_EW hw) e35_2 S14 hk44 C43 (t := .boolean) hret (by simp) (hb hby d5_34) (by decide) (by decide) (fun hat => ?_)
    exact Or.inr (Or.inr (Or.inl ⟨c35_2_0, c35_2_1, (congrArg (fun z => some (Value.int z)) (by decide : nar .boolean (0 : Int32) = (0 : Int32))), (Fr.app (Fr.app (Fr.app (Fr.app (Fr.nil n0) N10) N20) N25) N35_2), Kp27⟩))
  · show Go _ _ _ _ (T35.setTop (mkF m 26 #[.val (.ref x0)] [(.int 0)]))
    refine Go.ifYes X35 hx (pc' := 33) (hb hby d5_26) (by decide) (by decide) (by decide) ?_
    refine Go.iconst X35 hx (pc' := 34) rfl (hb hby d5_33) (v := (0 : Int32)) rfl ?_
    subst hFF
    have C45 : CHr Z EL0 s.vm s.heap T14.vm h14 := (C13.trans C14)
    have C46 : CHr Z EL0 s.vm s.heap T14.vm h25 := (C45.trans (CHr.keep K25 sf0 C45.1))
    have hk47 := (Nat.le_trans i14 K25.1)
    refine Go.retNW X35 hx hlk Z14 (own_EW hw) e35_3 S14 hk47 C46 (t := .boolean) hret (by simp) (hb hby d5_34) (by decide) (by decide) (fun hat => ?_)
    exact Or.inr (Or.inr (Or.inr (⟨c35_3_0, (congrArg (fun z => some (Value.int z)) (by decide : nar .boolean (0 : Int32) = (0 : Int32))), (Fr.app (Fr.app (Fr.app (Fr.app (Fr.nil n0) N10) N20) N25) N35_3), Kp27⟩)))
-- java/lang/StringUTF16.compress
set_option maxRecDepth 65536 in
set_option maxHeartbeats 4000000 in
theorem au_60 (l : Launch) (Z : State) (a0 : Array Value) (hw : ∀ d ∈ tables_1, d.before a0 Z = true) (x0 : Addr) (x1 : Addr) (kk0 : ClassId) (p0 : Int32) (p1 : Int32) (p2 : Int32) (p3 : Int32) (kk1 : ClassId) (h0 : Heap) (n0 : Nat) (Z0 : n0 ≤ h0.size) (P0 : Arv Z h0 x0 kk0 .char (4 : Int32) [(.int p0), (.int p1), (.int p2), (.int p3)] (.int 0)) (P2 : Arv Z h0 x1 kk1 .byte (4 : Int32) [(.int 0), (.int 0), (.int 0), (.int 0)] (.int 0)) (P3 : Exa Z h0 x1 "[B") (R_p0 : 0 ≤ p0.toInt ∧ p0.toInt ≤ 255) (R_p1 : 0 ≤ p1.toInt ∧ p1.toInt ≤ 255) (R_p2 : 0 ≤ p2.toInt ∧ p2.toInt ≤ 255) (R_p3 : 0 ≤ p3.toInt ∧ p3.toInt ≤ 255) (g_x1 : n0 ≤ x1) (ne_x0_x1 : x0 ≠ x1) :
    Ctr l Z (⟨"java/lang/StringUTF16", "compress", "([CI[BII)I"⟩ : MethodName) jdk_52_method_21_code 7 (some .int) ({ frames := 0, cells := 0, slots := 0, locals := 0 } : Room) #[(.ref x0), (.int 0), (.ref x1), (.int 0), (.int 4)] h0 (fun v h L => ∃ (z1 : Int32) (z5 : Int32) (z9 : Int32) (z13 : Int32), (p0.toInt8.toInt32) = z1 ∧ (p1.toInt8.toInt32) = z5 ∧ (p2.toInt8.toInt32) = z9 ∧ (p3.toInt8.toInt32) = z13 ∧ v = some (.int 4) ∧ Fr n0 L ∧ Keep h0 h [x1] ∧ Arv Z h x1 kk1 .byte (4 : Int32) [(.int z1), (.int z5), (.int z9), (.int z13)] (.int 0) ∧ Exa Z h x1 "[B") := by
  refine Ctr.of (plainFor_of_name pn_c6) ?_
  intro p e s m below meth c T0 hx hZ hby hml hown hnm hret hlk e0 es X0
  refine Go.cast (ef_21_RIRII m x0 (0 : Int32) x1 (0 : Int32) (4 : Int32)) ?_
  generalize hFF : EndN s _ _ _ = FF
  refine Go.iconst X0 hx (pc' := 1) rfl (hb hby d21_0) (v := (0 : Int32)) rfl ?_
  refine Go.istore X0 hx (pc' := 3) rfl (hb hby d21_1) (Ls' := #[.val (.ref x0), .val (.int 0), .val (.ref x1), .val (.int 0), .val (.int 4), .val (.int 0), .unset]) rfl ?_
  refine Go.iload X0 hx (pc' := 5) rfl (hb hby d21_3) rfl ?_
  refine Go.iload X0 hx (pc' := 7) rfl (hb hby d21_5) rfl ?_
  refine Go.icmpNo X0 hx (pc' := 10) rfl (hb hby d21_7) (by decide) ?_
  refine Go.aloadN X0 hx (pc' := 11) rfl (hb hby d21_10) rfl rfl ?_
  refine Go.iloadN X0 hx (pc' := 12) rfl (hb hby d21_11) rfl ?_
  refine Go.caload X0 hx hZ e0 P0 (v := (.int p0)) ⟨by decide, by decide⟩ rfl (pc' := 13) rfl (hb hby d21_12) ?_
  refine Go.istore X0 hx (pc' := 15) rfl (hb hby d21_13) (Ls' := #[.val (.ref x0), .val (.int 0), .val (.ref x1), .val (.int 0), .val (.int 4), .val (.int 0), .val (.int p0)]) rfl ?_
  refine Go.iload X0 hx (pc' := 17) rfl (hb hby d21_15) rfl ?_
  refine Go.sipush X0 hx (pc' := 20) rfl (hb hby d21_17) (v := (255 : Int32)) (by decide) ?_
  refine Go.icmpYes X0 hx (pc' := 26) (hb hby d21_20) (flt (own_nlt_r (own_rlit (n := 255) (by decide)) R_p0 (by decide))).2.2.2 (by decide) (by decide) ?_
  refine Go.aloadN X0 hx (pc' := 27) rfl (hb hby d21_26) rfl rfl ?_
  refine Go.iloadN X0 hx (pc' := 28) rfl (hb hby d21_27) rfl ?_
  refine Go.iload X0 hx (pc' := 30) rfl (hb hby d21_28) rfl ?_
  refine Go.i2b X0 hx (pc' := 31) rfl (hb hby d21_30) ?_
  generalize hz1 : (p0.toInt8.toInt32) = z1
  have r2 : -128 ≤ z1.toInt ∧ z1.toInt ≤ 127 := own_ri2b hz1
  refine Go.bastore X0 hx hZ e0 P2 z1 (own_nar_byte r2 (by decide) (by decide)) ⟨by decide, by decide⟩ 0 rfl (Nat.le_of_ble_eq_true rfl) (pc' := 32) rfl (hb hby d21_31) ?_
  intro T3 h3 e3 W3 V3 X3
  have N3 := Fr.snoc X3 (Fr.nil n0) g_x1
  refine Go.iinc X3 hx (pc' := 35) rfl (hb hby d21_32) rfl (y := (1 : Int32)) (by decide) (Ls' := #[.val (.ref x0), .val (.int 1), .val (.ref x1), .val (.int 0), .val (.int 4), .val (.int 0), .val (.int p0)]) rfl ?_
  refine Go.iinc X3 hx (pc' := 38) rfl (hb hby d21_35) rfl (y := (1 : Int32)) (by decide) (Ls' := #[.val (.ref x0), .val (.int 1), .val (.ref x1), .val (.int 1), .val (.int 4), .val (.int 0), .val (.int p0)]) rfl ?_
  refine Go.iinc X3 hx (pc' := 41) rfl (hb hby d21_38) rfl (y := (1 : Int32)) (by decide) (Ls' := #[.val (.ref x0), .val (.int 1), .val (.ref x1), .val (.int 1), .val (.int 4), .val (.int 1), .val (.int p0)]) rfl ?_
  refine Go.goto X3 hx (pc' := 3) (hb hby d21_41) (by decide) (by decide) ?_
  refine Go.iload X3 hx (pc' := 5) rfl (hb hby d21_3) rfl ?_
  refine Go.iload X3 hx (pc' := 7) rfl (hb hby d21_5) rfl ?_
  refine Go.icmpNo X3 hx (pc' := 10) rfl (hb hby d21_7) (by decide) ?_
  refine Go.aloadN X3 hx (pc' := 11) rfl (hb hby d21_10) rfl rfl ?_
  refine Go.iloadN X3 hx (pc' := 12) rfl (hb hby d21_11) rfl ?_
  have fk4 := (P0.other W3 ne_x0_x1)
  refine Go.caload X3 hx hZ e3 fk4 (v := (.int p1)) ⟨by decide, by decide⟩ rfl (pc' := 13) rfl (hb hby d21_12) ?_
  refine Go.istore X3 hx (pc' := 15) rfl (hb hby d21_13) (Ls' := #[.val (.ref x0), .val (.int 1), .val (.ref x1), .val (.int 1), .val (.int 4), .val (.int 1), .val (.int p1)]) rfl ?_
  refine Go.iload X3 hx (pc' := 17) rfl (hb hby d21_15) rfl ?_
  refine Go.sipush X3 hx (pc' := 20) rfl (hb hby d21_17) (v := (255 : Int32)) (by decide) ?_
  refine Go.icmpYes X3 hx (pc' := 26) (hb hby d21_20) (flt (own_nlt_r (own_rlit (n := 255) (by decide)) R_p1 (by decide))).2.2.2 (by decide) (by decide) ?_
  refine Go.aloadN X3 hx (pc' := 27) rfl (hb hby d21_26) rfl rfl ?_
  refine Go.iloadN X3 hx (pc' := 28) rfl (hb hby d21_27) rfl ?_
  refine Go.iload X3 hx (pc' := 30) rfl (hb hby d21_28) rfl ?_
  refine Go.i2b X3 hx (pc' := 31) rfl (hb hby d21_30) ?_
  generalize hz5 : (p1.toInt8.toInt32) = z5
  have r6 : -128 ≤ z5.toInt ∧ z5.toInt ≤ 127 := own_ri2b hz5
  refine Go.bastore X3 hx hZ e3 V3 z5 (own_nar_byte r6 (by decide) (by decide)) ⟨by decide, by decide⟩ 1 rfl (Nat.le_of_ble_eq_true rfl) (pc' := 32) rfl (hb hby d21_31) ?_
  intro T7 h7 e7 W7 V7 X7
  have N7 := Fr.snoc X7 N3 g_x1
  refine Go.iinc X7 hx (pc' := 35) rfl (hb hby d21_32) rfl (y := (2 : Int32)) (by decide) (Ls' := #[.val (.ref x0), .val (.int 2), .val (.ref x1), .val (.int 1), .val (.int 4), .val (.int 1), .val (.int p1)]) rfl ?_
  refine Go.iinc X7 hx (pc' := 38) rfl (hb hby d21_35) rfl (y := (2 : Int32)) (by decide) (Ls' := #[.val (.ref x0), .val (.int 2), .val (.ref x1), .val (.int 2), .val (.int 4), .val (.int 1), .val (.int p1)]) rfl ?_
  refine Go.iinc X7 hx (pc' := 41) rfl (hb hby d21_38) rfl (y := (2 : Int32)) (by decide) (Ls' := #[.val (.ref x0), .val (.int 2), .val (.ref x1), .val (.int 2), .val (.int 4), .val (.int 2), .val (.int p1)]) rfl ?_
  refine Go.goto X7 hx (pc' := 3) (hb hby d21_41) (by decide) (by decide) ?_
  refine Go.iload X7 hx (pc' := 5) rfl (hb hby d21_3) rfl ?_
  refine Go.iload X7 hx (pc' := 7) rfl (hb hby d21_5) rfl ?_
  refine Go.icmpNo X7 hx (pc' := 10) rfl (hb hby d21_7) (by decide) ?_
  refine Go.aloadN X7 hx (pc' := 11) rfl (hb hby d21_10) rfl rfl ?_
  refine Go.iloadN X7 hx (pc' := 12) rfl (hb hby d21_11) rfl ?_
  have fk8 := (fk4.other W7 ne_x0_x1)
  refine Go.caload X7 hx hZ e7 fk8 (v := (.int p2)) ⟨by decide, by decide⟩ rfl (pc' := 13) rfl (hb hby d21_12) ?_
  refine Go.istore X7 hx (pc' := 15) rfl (hb hby d21_13) (Ls' := #[.val (.ref x0), .val (.int 2), .val (.ref x1), .val (.int 2), .val (.int 4), .val (.int 2), .val (.int p2)]) rfl ?_
  refine Go.iload X7 hx (pc' := 17) rfl (hb hby d21_15) rfl ?_
  refine Go.sipush X7 hx (pc' := 20) rfl (hb hby d21_17) (v := (255 : Int32)) (by decide) ?_
  refine Go.icmpYes X7 hx (pc' := 26) (hb hby d21_20) (flt (own_nlt_r (own_rlit (n := 255) (by decide)) R_p2 (by decide))).2.2.2 (by decide) (by decide) ?_
  refine Go.aloadN X7 hx (pc' := 27) rfl (hb hby d21_26) rfl rfl ?_
  refine Go.iloadN X7 hx (pc' := 28) rfl (hb hby d21_27) rfl ?_
  refine Go.iload X7 hx (pc' := 30) rfl (hb hby d21_28) rfl ?_
  refine Go.i2b X7 hx (pc' := 31) rfl (hb hby d21_30) ?_
  generalize hz9 : (p2.toInt8.toInt32) = z9
  have r10 : -128 ≤ z9.toInt ∧ z9.toInt ≤ 127 := own_ri2b hz9
  refine Go.bastore X7 hx hZ e7 V7 z9 (own_nar_byte r10 (by decide) (by decide)) ⟨by decide, by decide⟩ 2 rfl (Nat.le_of_ble_eq_true rfl) (pc' := 32) rfl (hb hby d21_31) ?_
  intro T11 h11 e11 W11 V11 X11
  have N11 := Fr.snoc X11 N7 g_x1
  refine Go.iinc X11 hx (pc' := 35) rfl (hb hby d21_32) rfl (y := (3 : Int32)) (by decide) (Ls' := #[.val (.ref x0), .val (.int 3), .val (.ref x1), .val (.int 2), .val (.int 4), .val (.int 2), .val (.int p2)]) rfl ?_
  refine Go.iinc X11 hx (pc' := 38) rfl (hb hby d21_35) rfl (y := (3 : Int32)) (by decide) (Ls' := #[.val (.ref x0), .val (.int 3), .val (.ref x1), .val (.int 3), .val (.int 4), .val (.int 2), .val (.int p2)]) rfl ?_
  refine Go.iinc X11 hx (pc' := 41) rfl (hb hby d21_38) rfl (y := (3 : Int32)) (by decide) (Ls' := #[.val (.ref x0), .val (.int 3), .val (.ref x1), .val (.int 3), .val (.int 4), .val (.int 3), .val (.int p2)]) rfl ?_
  refine Go.goto X11 hx (pc' := 3) (hb hby d21_41) (by decide) (by decide) ?_
  refine Go.iload X11 hx (pc' := 5) rfl (hb hby d21_3) rfl ?_
  refine Go.iload X11 hx (pc' := 7) rfl (hb hby d21_5) rfl ?_
  refine Go.icmpNo X11 hx (pc' := 10) rfl (hb hby d21_7) (by decide) ?_
  refine Go.aloadN X11 hx (pc' := 11) rfl (hb hby d21_10) rfl rfl ?_
  refine Go.iloadN X11 hx (pc' := 12) rfl (hb hby d21_11) rfl ?_
  have fk12 := (fk8.other W11 ne_x0_x1)
  refine Go.caload X11 hx hZ e11 fk12 (v := (.int p3)) ⟨by decide, by decide⟩ rfl (pc' := 13) rfl (hb hby d21_12) ?_
  refine Go.istore X11 hx (pc' := 15) rfl (hb hby d21_13) (Ls' := #[.val (.ref x0), .val (.int 3), .val (.ref x1), .val (.int 3), .val (.int 4), .val (.int 3), .val (.int p3)]) rfl ?_
  refine Go.iload X11 hx (pc' := 17) rfl (hb hby d21_15) rfl ?_
  refine Go.sipush X11 hx (pc' := 20) rfl (hb hby d21_17) (v := (255 : Int32)) (by decide) ?_
  refine Go.icmpYes X11 hx (pc' := 26) (hb hby d21_20) (flt (own_nlt_r (own_rlit (n := 255) (by decide)) R_p3 (by decide))).2.2.2 (by decide) (by decide) ?_
  refine Go.aloadN X11 hx (pc' := 27) rfl (hb hby d21_26) rfl rfl ?_
  refine Go.iloadN X11 hx (pc' := 28) rfl (hb hby d21_27) rfl ?_
  refine Go.iload X11 hx (pc' := 30) rfl (hb hby d21_28) rfl ?_
  refine Go.i2b X11 hx (pc' := 31) rfl (hb hby d21_30) ?_
  generalize hz13 : (p3.toInt8.toInt32) = z13
  have V14 : Arv Z h11 x1 kk1 .byte (4 : Int32) [(.int z1), (.int z5), (.int z9), (.int 0)] (.int 0) := V11
  have r15 : -128 ≤ z13.toInt ∧ z13.toInt ≤ 127 := own_ri2b hz13
  refine Go.bastore X11 hx hZ e11 V14 z13 (own_nar_byte r15 (by decide) (by decide)) ⟨by decide, by decide⟩ 3 rfl (Nat.le_of_ble_eq_true rfl) (pc' := 32) rfl (hb hby d21_31) ?_
  intro T16 h16 e16 W16 V16 X16
  have N16 := Fr.snoc X16 N11 g_x1
  refine Go.iinc X16 hx (pc' := 35) rfl (hb hby d21_32) rfl (y := (4 : Int32)) (by decide) (Ls' := #[.val (.ref x0), .val (.int 4), .val (.ref x1), .val (.int 3), .val (.int 4), .val (.int 3), .val (.int p3)]) rfl ?_
  refine Go.iinc X16 hx (pc' := 38) rfl (hb hby d21_35) rfl (y := (4 : Int32)) (by decide) (Ls' := #[.val (.ref x0), .val (.int 4), .val (.ref x1), .val (.int 4), .val (.int 4), .val (.int 3), .val (.int p3)]) rfl ?_
  refine Go.iinc X16 hx (pc' := 41) rfl (hb hby d21_38) rfl (y := (4 : Int32)) (by decide) (Ls' := #[.val (.ref x0), .val (.int 4), .val (.ref x1), .val (.int 4), .val (.int 4), .val (.int 4), .val (.int p3)]) rfl ?_
  refine Go.goto X16 hx (pc' := 3) (hb hby d21_41) (by decide) (by decide) ?_
  refine Go.iload X16 hx (pc' := 5) rfl (hb hby d21_3) rfl ?_
  refine Go.iload X16 hx (pc' := 7) rfl (hb hby d21_5) rfl ?_
  refine Go.icmpYes X16 hx (pc' := 44) (hb hby d21_7) (by decide) (by decide) (by decide) ?_
  refine Go.iload X16 hx (pc' := 46) rfl (hb hby d21_44) rfl ?_
  subst hFF
  refine Go.retI X16 hx hlk hret (hb hby d21_46) (by decide) (by decide) ?_
  rw [e16]
  have V17 : Arv Z h16 x1 kk1 .byte (4 : Int32) [(.int z1), (.int z5), (.int z9), (.int z13)] (.int 0) := V16
  have fk18 : Exa Z h16 x1 "[B" := ((((P3.wr W3).wr W7).wr W11).wr W16)
  have Kp19 : Keep h0 h3 [x1] := ((Keep.refl h0 [x1]).wr W3 (Or.inl (List.mem_of_getElem? (i := 0) rfl)))
  have Kp20 : Keep h0 h7 [x1] := (Kp19.wr W7 (Or.inl (List.mem_of_getElem? (i := 0) rfl)))
  have Kp21 : Keep h0 h11 [x1] := (Kp20.wr W11 (Or.inl (List.mem_of_getElem? (i := 0) rfl)))
  have Kp22 : Keep h0 h16 [x1] := (Kp21.wr W16 (Or.inl (List.mem_of_getElem? (i := 0) rfl)))
  exact ⟨z1, z5, z9, z13, hz1, hz5, hz9, hz13, rfl, N16, Kp22, V17, fk18⟩
-- java/lang/StringUTF16.compress
set_option maxRecDepth 65536 in
set_option maxHeartbeats 4000000 in
theorem au_59 (l : Launch) (Z : State) (a0 : Array Value) (hw : ∀ d ∈ tables_1, d.before a0 Z = true) (x0 : Addr) (kk0 : ClassId) (p0 : Int32) (p1 : Int32) (p2 : Int32) (p3 : Int32) (h0 : Heap) (n0 : Nat) (Z0 : n0 ≤ h0.size) (P0 : Arv Z h0 x0 kk0 .char (4 : Int32) [(.int p0), (.int p1), (.int p2), (.int p3)] (.int 0)) (R_p0 : 0 ≤ p0.toInt ∧ p0.toInt ≤ 255) (R_p1 : 0 ≤ p1.toInt ∧ p1.toInt ≤ 255) (R_p2 : 0 ≤ p2.toInt ∧ p2.toInt ≤ 255) (R_p3 : 0 ≤ p3.toInt ∧ p3.toInt ≤ 255) :
    Ctr l Z (⟨"java/lang/StringUTF16", "compress", "([CII)[B"⟩ : MethodName) jdk_52_method_16_code 6 (some (.array .byte)) ({ frames := 1, cells := 1, slots := 4, locals := 18 } : Room) #[(.ref x0), (.int 0), (.int 4)] h0 (fun v h L => ∃ (z8_0 : Int32) (z8_1 : Int32) (z8_2 : Int32) (z8_3 : Int32) (b1 : Addr) (k1 : ClassId), (p0.toInt8.toInt32) = z8_0 ∧ (p1.toInt8.toInt32) = z8_1 ∧ (p2.toInt8.toInt32) = z8_2 ∧ (p3.toInt8.toInt32) = z8_3 ∧ v = some (.ref b1) ∧ Fr n0 L ∧ Keep h0 h [] ∧ h0.size ≤ b1 ∧ Arv Z h b1 k1 .byte (4 : Int32) [(.int z8_0), (.int z8_1), (.int z8_2), (.int z8_3)] (.int 0) ∧ Exa Z h b1 "[B") := by
  refine Ctr.of (plainFor_of_name pn_c6) ?_
  intro p e s m below meth c T0 hx hZ hby hml hown hnm hret hlk e0 es X0
  refine Go.cast (ef_20_RII m x0 (0 : Int32) (4 : Int32)) ?_
  generalize hFF : EndN s _ _ _ = FF
  refine Go.iloadN X0 hx (pc' := 1) rfl (hb hby d20_0) rfl ?_
  refine Go.newarray X0 hx hZ (ty := .byte) rfl (tw_20 hw) e0 (by decide) (cap := 4) (by decide) (by decide) (by decide) (by decide) (ad := "[B") (by decide) 4 (pc' := 3) rfl (hb hby d20_1) ?_
  intro T1 h1 b1 k1 e1 E1 g1 V1 A1 X1
  have V1' : Arv Z h1 b1 k1 .byte (4 : Int32) [(.int 0), (.int 0), (.int 0), (.int 0)] (.int 0) := V1
  refine Go.astoreN X1 hx (pc' := 4) rfl (hb hby d20_3) (Ls' := #[.val (.ref x0), .val (.int 0), .val (.int 4), .val (.ref b1), .unset, .unset]) rfl rfl ?_
  refine Go.aloadN X1 hx (pc' := 5) rfl (hb hby d20_4) rfl rfl ?_
  refine Go.iloadN X1 hx (pc' := 6) rfl (hb hby d20_5) rfl ?_
  refine Go.aloadN X1 hx (pc' := 7) rfl (hb hby d20_6) rfl rfl ?_
  refine Go.iconst X1 hx (pc' := 8) rfl (hb hby d20_7) (v := (0 : Int32)) rfl ?_
  refine Go.iloadN X1 hx (pc' := 9) rfl (hb hby d20_8) rfl ?_
  have Kp3 : Keep h0 h1 [] := ((Keep.refl h0 []).ext E1)
  have Zn2 : n0 ≤ h1.size := Nat.le_trans Z0 Kp3.1
  have fk4 := (P0.ext E1)
  have sz6 : h0.size ≤ b1 := Nat.le_trans (Keep.refl h0 []).1 (Nat.le_of_eq g1.symm)
  have ge5 : n0 ≤ b1 := Nat.le_trans Z0 sz6
  have ne7 : x0 ≠ b1 := Nat.ne_of_lt (Nat.lt_of_lt_of_le P0.lt (Nat.le_of_eq g1.symm))
  refine Go.callS X1 hx hZ hown (tw_102 hw) (tw_103 hw) (tw_100 hw) (tw_104 hw) (by decide) (tw_104 hw) (tw_100 hw) (au_60 l Z a0 hw x0 b1 kk0 p0 p1 p2 p3 k1 h1 n0 Zn2 fk4 V1' A1 R_p0 R_p1 R_p2 R_p3 ge5 ne7) e1 (argsL := [(.ref x0), (.int 0), (.ref b1), (.int 0), (.int 4)]) (rest := []) (pc' := 12) rfl (by rw [hml]; rfl) (lenOf pd_17 rfl) rfl rfl (W := 0) (Nat.le_of_eq rfl) (by decide) (by decide) (by decide) (by decide) (hb hby d20_9) ?_
  intro v8 T8 L8 q8 X8
  obtain ⟨h8, e8⟩ : ∃ z, T8.heap = z := ⟨_, rfl⟩
  rw [e8] at q8
  obtain ⟨z8_0, z8_1, z8_2, z8_3, d8_0, d8_1, d8_2, d8_3, rfl, N8, K8, F8_0, F8_1⟩ := q8
  show Go _ _ _ _ (T8.setTop (mkF m 12 #[.val (.ref x0), .val (.int 0), .val (.int 4), .val (.ref b1), .unset, .unset] [(.int 4)]))
  refine Go.istore X8 hx (pc' := 14) rfl (hb hby d20_12) (Ls' := #[.val (.ref x0), .val (.int 0), .val (.int 4), .val (.ref b1), .val (.int 4), .unset]) rfl ?_
  refine Go.iload X8 hx (pc' := 16) rfl (hb hby d20_14) rfl ?_
  refine Go.iloadN X8 hx (pc' := 17) rfl (hb hby d20_16) rfl ?_
  refine Go.icmpYes X8 hx (pc' := 57) (hb hby d20_17) (by decide) (by decide) (by decide) ?_
  refine Go.aloadN X8 hx (pc' := 58) rfl (hb hby d20_57) rfl rfl ?_
  subst hFF
  refine Go.retR X8 hx hlk (t := (.array .byte)) hret rfl rfl (hb hby d20_58) (by decide) (by decide) ?_
  rw [e8]
  have Kp9 : Keep h0 h8 [] := (Kp3.trans K8 (allS (Or.inr sz6) all0))
  exact ⟨z8_0, z8_1, z8_2, z8_3, b1, k1, d8_0, d8_1, d8_2, d8_3, rfl, (Fr.app (Fr.nil n0) N8), Kp9, sz6, F8_0, F8_1⟩
-- java/lang/StringUTF16.coderFromArrayLen
set_option maxRecDepth 65536 in
set_option maxHeartbeats 4000000 in
theorem au_61 (l : Launch) (Z : State) (a0 : Array Value) (hw : ∀ d ∈ tables_1, d.before a0 Z = true) (x0 : Addr) (kk0 : ClassId) (p0 : Int32) (p1 : Int32) (p2 : Int32) (p3 : Int32) (h0 : Heap) (n0 : Nat) (Z0 : n0 ≤ h0.size) (P0 : Arv Z h0 x0 kk0 .byte (4 : Int32) [(.int p0), (.int p1), (.int p2), (.int p3)] (.int 0)) :
    Ctr l Z (⟨"java/lang/StringUTF16", "coderFromArrayLen", "([BI)B"⟩ : MethodName) jdk_52_method_15_code 2 (some .byte) ({ frames := 0, cells := 0, slots := 0, locals := 0 } : Room) #[(.ref x0), (.int 4)] h0 (fun v h L => v = some (.int 0) ∧ Fr n0 L ∧ h = h0) := by
  refine Ctr.of (plainFor_of_name pn_c6) ?_
  intro p e s m below meth c T0 hx hZ hby hml hown hnm hret hlk e0 es X0
  refine Go.cast (ef_22_RI m x0 (4 : Int32)) ?_
  generalize hFF : EndN s _ _ _ = FF
  refine Go.iloadN X0 hx (pc' := 1) rfl (hb hby d22_0) rfl ?_
  refine Go.aloadN X0 hx (pc' := 2) rfl (hb hby d22_1) rfl rfl ?_
  refine Go.arraylength X0 hx hZ e0 P0 (pc' := 3) rfl (hb hby d22_2) ?_
  refine Go.isub X0 hx (pc' := 4) rfl (hb hby d22_3) ?_
  rw [show ((4 : Int32) - (4 : Int32)) = (0 : Int32) from by decide]
  refine Go.bipush X0 hx (pc' := 6) rfl (hb hby d22_4) (v := (31 : Int32)) (by decide) ?_
  refine Go.iushr X0 hx (pc' := 7) rfl (hb hby d22_6) ?_
  rw [show (((0 : Int32).toUInt32 >>> ((31 : Int32) &&& 31).toUInt32).toInt32) = (0 : Int32) from by decide]
  refine Go.i2b X0 hx (pc' := 8) rfl (hb hby d22_7) ?_
  rw [show ((0 : Int32).toInt8.toInt32) = (0 : Int32) from by decide]
  subst hFF
  refine Go.retN X0 hx hlk (t := .byte) hret (by simp) (hb hby d22_8) (by decide) (by decide) ?_
  rw [e0]
  exact ⟨(congrArg (fun z => some (Value.int z)) (by decide : nar .byte (0 : Int32) = (0 : Int32))), (Fr.nil n0), rfl⟩
-- java/lang/String.init
set_option maxRecDepth 65536 in
set_option maxHeartbeats 4000000 in
theorem au_58 (l : Launch) (Z : State) (a0 : Array Value) (hw : ∀ d ∈ tables_1, d.before a0 Z = true) (x0 : Addr) (x1 : Addr) (kk0 : ClassId) (p0 : Int32) (p1 : Int32) (p2 : Int32) (p3 : Int32) (gz1 : Int32) (gv5 : Value) (h0 : Heap) (n0 : Nat) (Z0 : n0 ≤ h0.size) (O0 : Old Z n0 h0) (G : Glob Z gz1 gv5) (P0 : Exa Z h0 x0 "java/lang/String") (P1 : Fld Z h0 x0 "java/lang/String" "coder" "B" (.int 0)) (P2 : Fld Z h0 x0 "java/lang/String" "value" "[B" .null) (P3 : Arv Z h0 x1 kk0 .char (4 : Int32) [(.int p0), (.int p1), (.int p2), (.int p3)] (.int 0)) (R_p0 : 0 ≤ p0.toInt ∧ p0.toInt ≤ 255) (R_p1 : 0 ≤ p1.toInt ∧ p1.toInt ≤ 255) (R_p2 : 0 ≤ p2.toInt ∧ p2.toInt ≤ 255) (R_p3 : 0 ≤ p3.toInt ∧ p3.toInt ≤ 255) (g_x0 : n0 ≤ x0) :
    Ctr l Z (⟨"java/lang/String", "<init>", "([CIILjava/lang/Void;)V"⟩ : MethodName) jdk_42_method_149_code 6 none ({ frames := 2, cells := 1, slots := 4, locals := 35 } : Room) #[(.ref x0), (.ref x1), (.int 0), (.int 4), .null] h0 (fun v h L => ∃ (z4_0 : Int32) (z4_1 : Int32) (z4_2 : Int32) (z4_3 : Int32) (b4_0 : Addr) (k4_0 : ClassId), (p0.toInt8.toInt32) = z4_0 ∧ (p1.toInt8.toInt32) = z4_1 ∧ (p2.toInt8.toInt32) = z4_2 ∧ (p3.toInt8.toInt32) = z4_3 ∧ v = none ∧ Fr n0 L ∧ Keep h0 h [x0] ∧ h0.size ≤ b4_0 ∧ Exa Z h x0 "java/lang/String" ∧ Fld Z h x0 "java/lang/String" "coder" "B" (.int 0) ∧ Fld Z h x0 "java/lang/String" "value" "[B" (.ref b4_0) ∧ Arv Z h b4_0 k4_0 .byte (4 : Int32) [(.int z4_0), (.int z4_1), (.int z4_2), (.int z4_3)] (.int 0) ∧ Exa Z h b4_0 "[B") := by
  refine Ctr.of (plainFor_of_name pn_c1) ?_
  intro p e s m below meth c T0 hx hZ hby hml hown hnm hret hlk e0 es X0
  have G' := G
  obtain ⟨G0, -, G2, -⟩ := G'
  refine Go.cast (ef_3_RRIIN m x0 x1 (0 : Int32) (4 : Int32)) ?_
  generalize hFF : EndN s _ _ _ = FF
  refine Go.aloadN X0 hx (pc' := 1) rfl (hb hby d3_0) rfl rfl ?_
  refine Go.initO X0 hx hZ hown (tw_16 hw) (tw_17 hw) (tw_18 hw) e0 (by decide) (W := 0) (by rw [hml]; rfl) (Nat.le_of_eq rfl) (by decide) (pc' := 4) rfl (hb hby d3_1) ?_
  intro T1 e1 X1
  refine Go.iloadN X1 hx (pc' := 5) rfl (hb hby d3_4) rfl ?_
  refine Go.ifYes X1 hx (pc' := 27) (hb hby d3_5) (by decide) (by decide) (by decide) ?_
  have fk2 : Sta Z h0 "java/lang/String" "COMPACT_STRINGS" "Z" (.int gz1) := G0.ext O0.2
  refine Go.getS X1 hx hZ hown (host := "") (Or.inl (tw_38 hw)) Via.refl e1 fk2 (pc' := 30) rfl (hb hby d3_27) ?_
  intro T3 e3 X3
  refine Go.ifNo X3 hx (pc' := 33) rfl (hb hby d3_30) (feq G2).1 ?_
  refine Go.aloadN X3 hx (pc' := 34) rfl (hb hby d3_33) rfl rfl ?_
  refine Go.iloadN X3 hx (pc' := 35) rfl (hb hby d3_34) rfl ?_
  refine Go.iloadN X3 hx (pc' := 36) rfl (hb hby d3_35) rfl ?_
  refine Go.callS X3 hx hZ hown (tw_98 hw) (tw_99 hw) (tw_100 hw) (tw_101 hw) (by decide) (tw_101 hw) (tw_100 hw) (au_59 l Z a0 hw x1 kk0 p0 p1 p2 p3 h0 n0 Z0 P3 R_p0 R_p1 R_p2 R_p3) e3 (argsL := [(.ref x1), (.int 0), (.int 4)]) (rest := []) (pc' := 39) rfl (by rw [hml]; rfl) (lenOf pd_18 rfl) rfl rfl (W := 0) (Nat.le_of_eq rfl) (by decide) (by decide) (by decide) (by decide) (hb hby d3_36) ?_
  intro v4 T4 L4 q4 X4
  obtain ⟨h4, e4⟩ : ∃ z, T4.heap = z := ⟨_, rfl⟩
  rw [e4] at q4
  obtain ⟨z4_0, z4_1, z4_2, z4_3, b4_0, k4_0, d4_0, d4_1, d4_2, d4_3, rfl, N4, K4, s4_0, F4_0, F4_1⟩ := q4
  show Go _ _ _ _ (T4.setTop (mkF m 39 #[.val (.ref x0), .val (.ref x1), .val (.int 0), .val (.int 4), .val .null, .unset] [(.ref b4_0)]))
  refine Go.astore X4 hx (pc' := 41) rfl (hb hby d3_39) (Ls' := #[.val (.ref x0), .val (.ref x1), .val (.int 0), .val (.int 4), .val .null, .val (.ref b4_0)]) rfl rfl ?_
  refine Go.aloadN X4 hx (pc' := 42) rfl (hb hby d3_41) rfl rfl ?_
  refine Go.aload X4 hx (pc' := 44) rfl (hb hby d3_42) rfl rfl ?_
  refine Go.iloadN X4 hx (pc' := 45) rfl (hb hby d3_44) rfl ?_
  have r5 : -128 ≤ z4_0.toInt ∧ z4_0.toInt ≤ 127 := own_ri2b d4_0
  have r6 : -128 ≤ z4_1.toInt ∧ z4_1.toInt ≤ 127 := own_ri2b d4_1
  have r7 : -128 ≤ z4_2.toInt ∧ z4_2.toInt ≤ 127 := own_ri2b d4_2
  have r8 : -128 ≤ z4_3.toInt ∧ z4_3.toInt ≤ 127 := own_ri2b d4_3
  have Kp10 : Keep h0 h4 [x0] := ((Keep.refl h0 [x0]).trans K4 all0)
  have Zn9 : n0 ≤ h4.size := Nat.le_trans Z0 Kp10.1
  refine Go.callS X4 hx hZ hown (tw_105 hw) (tw_106 hw) (tw_100 hw) (tw_107 hw) (by decide) (tw_107 hw) (tw_100 hw) (au_61 l Z a0 hw b4_0 k4_0 z4_0 z4_1 z4_2 z4_3 h4 n0 Zn9 F4_0) e4 (argsL := [(.ref b4_0), (.int 4)]) (rest := [(.ref x0)]) (pc' := 48) rfl (by rw [hml]; rfl) (lenOf pd_19 rfl) rfl rfl (W := 1) (Nat.le_of_eq rfl) (by decide) (by decide) (by decide) (by decide) (hb hby d3_45) ?_
  intro v11 T11 L11 q11 X11
  obtain ⟨rfl, N11, e11⟩ := q11
  show Go _ _ _ _ (T11.setTop (mkF m 48 #[.val (.ref x0), .val (.ref x1), .val (.int 0), .val (.int 4), .val .null, .val (.ref b4_0)] [(.int 0), (.ref x0)]))
  have fk12 : Fld Z h4 x0 "java/lang/String" "coder" "B" (.int 0) := (P1.keep K4 nin0)
  have fk13 : Exa Z h4 x0 "java/lang/String" := (P0.keep K4)
  refine Go.putFN X11 hx hZ hown (tw_26 hw) Via.refl e11 fk12 fk13 (Or.inr ⟨(tw_22 hw), rfl, hnm⟩) (tw_7 hw) (ty := .byte) (v' := (.int 0)) (by decide) (by decide) (by decide) (pc' := 51) rfl (hb hby d3_48) ?_
  intro T14 h14 e14 W14 F14 X14
  have N14 := Fr.snoc X14 (Fr.app (Fr.app (Fr.nil n0) N4) N11) g_x0
  refine Go.aloadN X14 hx (pc' := 52) rfl (hb hby d3_51) rfl rfl ?_
  refine Go.aload X14 hx (pc' := 54) rfl (hb hby d3_52) rfl rfl ?_
  have fk15 : Fld Z h14 x0 "java/lang/String" "value" "[B" .null := ((P2.keep K4 nin0).other W14 (Or.inr (slot_ne (Or.inr (tw_21 hw)) (Or.inr (tw_22 hw)) (by decide) (t := (.array .byte)) (t' := .byte) (by decide) (by decide))))
  have fk16 : Exa Z h14 x0 "java/lang/String" := (fk13.wr W14)
  refine Go.putF X14 hx hZ hown (host := "") (Or.inl (tw_25 hw)) Via.refl e14 fk15 fk16 (Or.inr ⟨(tw_21 hw), rfl, hnm⟩) (tw_7 hw) (ty := (.array .byte)) (by decide) rfl rfl (pc' := 57) rfl (hb hby d3_54) ?_
  intro T17 h17 e17 W17 F17 X17
  have N17 := Fr.snoc X17 N14 g_x0
  subst hFF
  refine Go.ret0 X17 hx hlk hret (hb hby d3_57) (by decide) (by decide) ?_
  rw [e17]
  have fk18 : Exa Z h17 x0 "java/lang/String" := (fk16.wr W17)
  have fk19 : Fld Z h17 x0 "java/lang/String" "coder" "B" (.int 0) := (F14.other W17 (Or.inr (slot_ne (Or.inr (tw_22 hw)) (Or.inr (tw_21 hw)) (by decide) (t := .byte) (t' := (.array .byte)) (by decide) (by decide))))
  have ne20 : x0 ≠ b4_0 := Nat.ne_of_lt (Nat.lt_of_lt_of_le P0.lt s4_0)
  have fk21 := ((F4_0.other W14 (Ne.symm ne20)).other W17 (Ne.symm ne20))
  have fk22 : Exa Z h17 b4_0 "[B" := ((F4_1.wr W14).wr W17)
  have Kp23 : Keep h0 h14 [x0] := (Kp10.wr W14 (Or.inl (List.mem_of_getElem? (i := 0) rfl)))
  have Kp24 : Keep h0 h17 [x0] := (Kp23.wr W17 (Or.inl (List.mem_of_getElem? (i := 0) rfl)))
  have sz25 : h0.size ≤ b4_0 := Nat.le_trans (Keep.refl h0 [x0]).1 s4_0
  exact ⟨z4_0, z4_1, z4_2, z4_3, b4_0, k4_0, d4_0, d4_1, d4_2, d4_3, rfl, N17, Kp24, sz25, fk18, fk19, F17, fk21, fk22⟩
-- java/lang/String.init
set_option maxRecDepth 65536 in
set_option maxHeartbeats 4000000 in
theorem au_57 (l : Launch) (Z : State) (a0 : Array Value) (hw : ∀ d ∈ tables_1, d.before a0 Z = true) (x0 : Addr) (x1 : Addr) (kk0 : ClassId) (p0 : Int32) (p1 : Int32) (p2 : Int32) (p3 : Int32) (gz1 : Int32) (gv5 : Value) (h0 : Heap) (n0 : Nat) (Z0 : n0 ≤ h0.size) (O0 : Old Z n0 h0) (G : Glob Z gz1 gv5) (P0 : Exa Z h0 x0 "java/lang/String") (P1 : Fld Z h0 x0 "java/lang/String" "coder" "B" (.int 0)) (P2 : Fld Z h0 x0 "java/lang/String" "value" "[B" .null) (P3 : Arv Z h0 x1 kk0 .char (4 : Int32) [(.int p0), (.int p1), (.int p2), (.int p3)] (.int 0)) (R_p0 : 0 ≤ p0.toInt ∧ p0.toInt ≤ 255) (R_p1 : 0 ≤ p1.toInt ∧ p1.toInt ≤ 255) (R_p2 : 0 ≤ p2.toInt ∧ p2.toInt ≤ 255) (R_p3 : 0 ≤ p3.toInt ∧ p3.toInt ≤ 255) (g_x0 : n0 ≤ x0) :
    Ctr l Z (⟨"java/lang/String", "<init>", "([C)V"⟩ : MethodName) jdk_42_method_3_code 2 none ({ frames := 3, cells := 1, slots := 4, locals := 52 } : Room) #[(.ref x0), (.ref x1)] h0 (fun v h L => ∃ (z1_0 : Int32) (z1_1 : Int32) (z1_2 : Int32) (z1_3 : Int32) (b1_0 : Addr) (k1_0 : ClassId), (p0.toInt8.toInt32) = z1_0 ∧ (p1.toInt8.toInt32) = z1_1 ∧ (p2.toInt8.toInt32) = z1_2 ∧ (p3.toInt8.toInt32) = z1_3 ∧ v = none ∧ Fr n0 L ∧ Keep h0 h [x0] ∧ h0.size ≤ b1_0 ∧ Exa Z h x0 "java/lang/String" ∧ Fld Z h x0 "java/lang/String" "coder" "B" (.int 0) ∧ Fld Z h x0 "java/lang/String" "value" "[B" (.ref b1_0) ∧ Arv Z h b1_0 k1_0 .byte (4 : Int32) [(.int z1_0), (.int z1_1), (.int z1_2), (.int z1_3)] (.int 0) ∧ Exa Z h b1_0 "[B") := by
  refine Ctr.of (plainFor_of_name pn_c1) ?_
  intro p e s m below meth c T0 hx hZ hby hml hown hnm hret hlk e0 es X0
  refine Go.cast (ef_2_RR m x0 x1) ?_
  generalize hFF : EndN s _ _ _ = FF
  refine Go.aloadN X0 hx (pc' := 1) rfl (hb hby d2_0) rfl rfl ?_
  refine Go.aloadN X0 hx (pc' := 2) rfl (hb hby d2_1) rfl rfl ?_
  refine Go.iconst X0 hx (pc' := 3) rfl (hb hby d2_2) (v := (0 : Int32)) rfl ?_
  refine Go.aloadN X0 hx (pc' := 4) rfl (hb hby d2_3) rfl rfl ?_
  refine Go.arraylength X0 hx hZ e0 P3 (pc' := 5) rfl (hb hby d2_4) ?_
  refine Go.anull X0 hx (pc' := 6) rfl (hb hby d2_5) ?_
  refine Go.callN X0 hx hZ hown rfl (tw_12 hw) (tw_13 hw) (tw_15 hw) (by decide) (tw_15 hw) (tw_8 hw) (au_58 l Z a0 hw x0 x1 kk0 p0 p1 p2 p3 gz1 gv5 h0 n0 Z0 O0 G P0 P1 P2 P3 R_p0 R_p1 R_p2 R_p3 g_x0) e0 (a := x0) (argsL := [(.ref x1), (.int 0), (.int 4), .null]) (rest := []) (pc' := 9) rfl (by rw [hml]; rfl) (lenOf pd_1 rfl) rfl rfl (W := 0) (Nat.le_of_eq rfl) (by decide) (by decide) (by decide) (by decide) (hb hby d2_6) ?_
  intro v1 T1 L1 q1 X1
  obtain ⟨h1, e1⟩ : ∃ z, T1.heap = z := ⟨_, rfl⟩
  rw [e1] at q1
  obtain ⟨z1_0, z1_1, z1_2, z1_3, b1_0, k1_0, d1_0, d1_1, d1_2, d1_3, rfl, N1, K1, s1_0, F1_0, F1_1, F1_2, F1_3, F1_4⟩ := q1
  show Go _ _ _ _ (T1.setTop (mkF m 9 #[.val (.ref x0), .val (.ref x1)] []))
  subst hFF
  refine Go.ret0 X1 hx hlk hret (hb hby d2_9) (by decide) (by decide) ?_
  rw [e1]
  have Kp2 : Keep h0 h1 [x0] := ((Keep.refl h0 [x0]).trans K1 (allS (Or.inl (List.mem_of_getElem? (i := 0) rfl)) all0))
  have sz3 : h0.size ≤ b1_0 := Nat.le_trans (Keep.refl h0 [x0]).1 s1_0
  exact ⟨z1_0, z1_1, z1_2, z1_3, b1_0, k1_0, d1_0, d1_1, d1_2, d1_3, rfl, (Fr.app (Fr.nil n0) N1), Kp2, sz3, F1_0, F1_1, F1_2, F1_3, F1_4⟩
-- java/lang/StringLatin1.equals
set_option maxRecDepth 65536 in
set_option maxHeartbeats 4000000 in
theorem au_65 (l : Launch) (Z : State) (a0 : Array Value) (hw : ∀ d ∈ tables_1, d.before a0 Z = true) (x0 : Addr) (x1 : Addr) (kk0 : ClassId) (p0 : Int32) (p1 : Int32) (p2 : Int32) (p3 : Int32) (kk1 : ClassId) (h0 : Heap) (n0 : Nat) (Z0 : n0 ≤ h0.size) (P0 : Arv Z h0 x0 kk0 .byte (4 : Int32) [(.int p0), (.int p1), (.int p2), (.int p3)] (.int 0)) (P2 : Arv Z h0 x1 kk1 .byte (1 : Int32) [(.int 47)] (.int (0 : Int32))) :
    Ctr l Z (⟨"java/lang/StringLatin1", "equals", "([B[B)Z"⟩ : MethodName) jdk_43_method_13_code 3 (some .boolean) ({ frames := 0, cells := 0, slots := 0, locals := 0 } : Room) #[(.ref x0), (.ref x1)] h0 (fun v h L => v = some (.int 0) ∧ Fr n0 L ∧ h = h0) := by
  refine Ctr.of (plainFor_of_name pn_c2) ?_
  intro p e s m below meth c T0 hx hZ hby hml hown hnm hret hlk e0 es X0
  refine Go.cast (ef_7_RR m x0 x1) ?_
  generalize hFF : EndN s _ _ _ = FF
  refine Go.aloadN X0 hx (pc' := 1) rfl (hb hby d7_0) rfl rfl ?_
  refine Go.arraylength X0 hx hZ e0 P0 (pc' := 2) rfl (hb hby d7_1) ?_
  refine Go.aloadN X0 hx (pc' := 3) rfl (hb hby d7_2) rfl rfl ?_
  refine Go.arraylength X0 hx hZ e0 P2 (pc' := 4) rfl (hb hby d7_3) ?_
  refine Go.icmpYes X0 hx (pc' := 34) (hb hby d7_4) (by decide) (by decide) (by decide) ?_
  refine Go.iconst X0 hx (pc' := 35) rfl (hb hby d7_34) (v := (0 : Int32)) rfl ?_
  subst hFF
  refine Go.retN X0 hx hlk (t := .boolean) hret (by simp) (hb hby d7_35) (by decide) (by decide) ?_
  rw [e0]
  exact ⟨(congrArg (fun z => some (Value.int z)) (by decide : nar .boolean (0 : Int32) = (0 : Int32))), (Fr.nil n0), rfl⟩
-- java/lang/String.equals
set_option maxRecDepth 65536 in
set_option maxHeartbeats 4000000 in
theorem au_64 (l : Launch) (Z : State) (a0 : Array Value) (hw : ∀ d ∈ tables_1, d.before a0 Z = true) (x0 : Addr) (x1 : Addr) (x2 : Addr) (x3 : Addr) (kk0 : ClassId) (p0 : Int32) (p1 : Int32) (p2 : Int32) (p3 : Int32) (kk1 : ClassId) (gz1 : Int32) (gv5 : Value) (h0 : Heap) (n0 : Nat) (Z0 : n0 ≤ h0.size) (O0 : Old Z n0 h0) (G : Glob Z gz1 gv5) (P1 : Fld Z h0 x0 "java/lang/String" "coder" "B" (.int 0)) (P2 : Fld Z h0 x0 "java/lang/String" "value" "[B" (.ref x2)) (P3 : Exa Z h0 x1 "java/lang/String") (P4 : Fld Z h0 x1 "java/lang/String" "coder" "B" (.int 0)) (P5 : Fld Z h0 x1 "java/lang/String" "value" "[B" (.ref x3)) (P6 : Arv Z h0 x2 kk0 .byte (4 : Int32) [(.int p0), (.int p1), (.int p2), (.int p3)] (.int 0)) (P8 : Arv Z h0 x3 kk1 .byte (1 : Int32) [(.int 47)] (.int (0 : Int32))) (ne_x0_x1 : x0 ≠ x1) :
    Ctr l Z (⟨"java/lang/String", "equals", "(Ljava/lang/Object;)Z"⟩ : MethodName) jdk_42_method_66_code 3 (some .boolean) ({ frames := 1, cells := 0, slots := 0, locals := 14 } : Room) #[(.ref x0), (.ref x1)] h0 (fun v h L => v = some (.int 0) ∧ Fr n0 L ∧ h = h0) := by
  refine Ctr.of (plainFor_of_name pn_c1) ?_
  intro p e s m below meth c T0 hx hZ hby hml hown hnm hret hlk e0 es X0
  have G' := G
  obtain ⟨G0, -, G2, -⟩ := G'
  refine Go.cast (ef_6_RR m x0 x1) ?_
  generalize hFF : EndN s _ _ _ = FF
  refine Go.aloadN X0 hx (pc' := 1) rfl (hb hby d6_0) rfl rfl ?_
  refine Go.aloadN X0 hx (pc' := 2) rfl (hb hby d6_1) rfl rfl ?_
  refine Go.acmp X0 hx (pc' := 7) (same := false) (hb hby d6_2) rfl rfl (decide_eq_false (fun q => ne_x0_x1 (Value.ref.inj q))) (by decide) (by decide) ?_
  refine Go.aloadN X0 hx (pc' := 8) rfl (hb hby d6_7) rfl rfl ?_
  refine Go.instY X0 hx hZ hown (tw_37 hw) e0 (Ins.self P3) (pc' := 11) rfl (hb hby d6_8) ?_
  intro T1 e1 X1
  refine Go.ifNo X1 hx (pc' := 14) rfl (hb hby d6_11) (by decide) ?_
  refine Go.aloadN X1 hx (pc' := 15) rfl (hb hby d6_14) rfl rfl ?_
  refine Go.castY X1 hx hZ hown (tw_37 hw) e1 (Ins.self P3) (pc' := 18) rfl (hb hby d6_15) ?_
  intro T2 e2 X2
  refine Go.astoreN X2 hx (pc' := 19) rfl (hb hby d6_18) (Ls' := #[.val (.ref x0), .val (.ref x1), .val (.ref x1)]) rfl rfl ?_
  have fk3 : Sta Z h0 "java/lang/String" "COMPACT_STRINGS" "Z" (.int gz1) := G0.ext O0.2
  refine Go.getS X2 hx hZ hown (host := "") (Or.inl (tw_38 hw)) Via.refl e2 fk3 (pc' := 22) rfl (hb hby d6_19) ?_
  intro T4 e4 X4
  refine Go.ifNo X4 hx (pc' := 25) rfl (hb hby d6_22) (feq G2).1 ?_
  refine Go.aloadN X4 hx (pc' := 26) rfl (hb hby d6_25) rfl rfl ?_
  refine Go.getF X4 hx hZ hown (host := "") (Or.inl (tw_26 hw)) Via.refl e4 P1 (pc' := 29) rfl (hb hby d6_26) ?_
  intro T5 e5 X5
  refine Go.aloadN X5 hx (pc' := 30) rfl (hb hby d6_29) rfl rfl ?_
  refine Go.getF X5 hx hZ hown (host := "") (Or.inl (tw_26 hw)) Via.refl e5 P4 (pc' := 33) rfl (hb hby d6_30) ?_
  intro T6 e6 X6
  refine Go.icmpNo X6 hx (pc' := 36) rfl (hb hby d6_33) (by decide) ?_
  refine Go.aloadN X6 hx (pc' := 37) rfl (hb hby d6_36) rfl rfl ?_
  refine Go.getF X6 hx hZ hown (host := "") (Or.inl (tw_25 hw)) Via.refl e6 P2 (pc' := 40) rfl (hb hby d6_37) ?_
  intro T7 e7 X7
  refine Go.aloadN X7 hx (pc' := 41) rfl (hb hby d6_40) rfl rfl ?_
  refine Go.getF X7 hx hZ hown (host := "") (Or.inl (tw_25 hw)) Via.refl e7 P5 (pc' := 44) rfl (hb hby d6_41) ?_
  intro T8 e8 X8
  refine Go.callS X8 hx hZ hown (tw_39 hw) (tw_40 hw) (tw_41 hw) (tw_42 hw) (by decide) (tw_42 hw) (tw_41 hw) (au_65 l Z a0 hw x2 x3 kk0 p0 p1 p2 p3 kk1 h0 n0 Z0 P6 P8) e8 (argsL := [(.ref x2), (.ref x3)]) (rest := []) (pc' := 47) rfl (by rw [hml]; rfl) (lenOf pd_3 rfl) rfl rfl (W := 0) (Nat.le_of_eq rfl) (by decide) (by decide) (by decide) (by decide) (hb hby d6_44) ?_
  intro v9 T9 L9 q9 X9
  obtain ⟨rfl, N9, e9⟩ := q9
  show Go _ _ _ _ (T9.setTop (mkF m 47 #[.val (.ref x0), .val (.ref x1), .val (.ref x1)] [(.int 0)]))
  refine Go.ifYes X9 hx (pc' := 54) (hb hby d6_47) (by decide) (by decide) (by decide) ?_
  refine Go.iconst X9 hx (pc' := 55) rfl (hb hby d6_54) (v := (0 : Int32)) rfl ?_
  subst hFF
  refine Go.retN X9 hx hlk (t := .boolean) hret (by simp) (hb hby d6_55) (by decide) (by decide) ?_
  rw [e9]
  exact ⟨(congrArg (fun z => some (Value.int z)) (by decide : nar .boolean (0 : Int32) = (0 : Int32))), (Fr.app (Fr.nil n0) N9), rfl⟩
-- java/lang/StringLatin1.equals
set_option maxRecDepth 65536 in
set_option maxHeartbeats 4000000 in
theorem au_67 (l : Launch) (Z : State) (a0 : Array Value) (hw : ∀ d ∈ tables_1, d.before a0 Z = true) (x0 : Addr) (x1 : Addr) (kk0 : ClassId) (p0 : Int32) (p1 : Int32) (p2 : Int32) (p3 : Int32) (kk1 : ClassId) (h0 : Heap) (n0 : Nat) (Z0 : n0 ≤ h0.size) (P0 : Arv Z h0 x0 kk0 .byte (4 : Int32) [(.int p0), (.int p1), (.int p2), (.int p3)] (.int 0)) (P2 : Arv Z h0 x1 kk1 .byte (3 : Int32) [(.int 47), (.int 117), (.int 105)] (.int 0)) :
    Ctr l Z (⟨"java/lang/StringLatin1", "equals", "([B[B)Z"⟩ : MethodName) jdk_43_method_13_code 3 (some .boolean) ({ frames := 0, cells := 0, slots := 0, locals := 0 } : Room) #[(.ref x0), (.ref x1)] h0 (fun v h L => v = some (.int 0) ∧ Fr n0 L ∧ h = h0) := by
  refine Ctr.of (plainFor_of_name pn_c2) ?_
  intro p e s m below meth c T0 hx hZ hby hml hown hnm hret hlk e0 es X0
  refine Go.cast (ef_7_RR m x0 x1) ?_
  generalize hFF : EndN s _ _ _ = FF
  refine Go.aloadN X0 hx (pc' := 1) rfl (hb hby d7_0) rfl rfl ?_
  refine Go.arraylength X0 hx hZ e0 P0 (pc' := 2) rfl (hb hby d7_1) ?_
  refine Go.aloadN X0 hx (pc' := 3) rfl (hb hby d7_2) rfl rfl ?_
  refine Go.arraylength X0 hx hZ e0 P2 (pc' := 4) rfl (hb hby d7_3) ?_
  refine Go.icmpYes X0 hx (pc' := 34) (hb hby d7_4) (by decide) (by decide) (by decide) ?_
  refine Go.iconst X0 hx (pc' := 35) rfl (hb hby d7_34) (v := (0 : Int32)) rfl ?_
  subst hFF
  refine Go.retN X0 hx hlk (t := .boolean) hret (by simp) (hb hby d7_35) (by decide) (by decide) ?_
  rw [e0]
  exact ⟨(congrArg (fun z => some (Value.int z)) (by decide : nar .boolean (0 : Int32) = (0 : Int32))), (Fr.nil n0), rfl⟩
-- java/lang/String.equals
set_option maxRecDepth 65536 in
set_option maxHeartbeats 4000000 in
theorem au_66 (l : Launch) (Z : State) (a0 : Array Value) (hw : ∀ d ∈ tables_1, d.before a0 Z = true) (x0 : Addr) (x1 : Addr) (x2 : Addr) (x3 : Addr) (kk0 : ClassId) (p0 : Int32) (p1 : Int32) (p2 : Int32) (p3 : Int32) (kk1 : ClassId) (gz1 : Int32) (gv5 : Value) (h0 : Heap) (n0 : Nat) (Z0 : n0 ≤ h0.size) (O0 : Old Z n0 h0) (G : Glob Z gz1 gv5) (P1 : Fld Z h0 x0 "java/lang/String" "coder" "B" (.int 0)) (P2 : Fld Z h0 x0 "java/lang/String" "value" "[B" (.ref x2)) (P3 : Exa Z h0 x1 "java/lang/String") (P4 : Fld Z h0 x1 "java/lang/String" "coder" "B" (.int 0)) (P5 : Fld Z h0 x1 "java/lang/String" "value" "[B" (.ref x3)) (P6 : Arv Z h0 x2 kk0 .byte (4 : Int32) [(.int p0), (.int p1), (.int p2), (.int p3)] (.int 0)) (P8 : Arv Z h0 x3 kk1 .byte (3 : Int32) [(.int 47), (.int 117), (.int 105)] (.int 0)) (ne_x0_x1 : x0 ≠ x1) :
    Ctr l Z (⟨"java/lang/String", "equals", "(Ljava/lang/Object;)Z"⟩ : MethodName) jdk_42_method_66_code 3 (some .boolean) ({ frames := 1, cells := 0, slots := 0, locals := 14 } : Room) #[(.ref x0), (.ref x1)] h0 (fun v h L => v = some (.int 0) ∧ Fr n0 L ∧ h = h0) := by
  refine Ctr.of (plainFor_of_name pn_c1) ?_
  intro p e s m below meth c T0 hx hZ hby hml hown hnm hret hlk e0 es X0
  have G' := G
  obtain ⟨G0, -, G2, -⟩ := G'
  refine Go.cast (ef_6_RR m x0 x1) ?_
  generalize hFF : EndN s _ _ _ = FF
  refine Go.aloadN X0 hx (pc' := 1) rfl (hb hby d6_0) rfl rfl ?_
  refine Go.aloadN X0 hx (pc' := 2) rfl (hb hby d6_1) rfl rfl ?_
  refine Go.acmp X0 hx (pc' := 7) (same := false) (hb hby d6_2) rfl rfl (decide_eq_false (fun q => ne_x0_x1 (Value.ref.inj q))) (by decide) (by decide) ?_
  refine Go.aloadN X0 hx (pc' := 8) rfl (hb hby d6_7) rfl rfl ?_
  refine Go.instY X0 hx hZ hown (tw_37 hw) e0 (Ins.self P3) (pc' := 11) rfl (hb hby d6_8) ?_
  intro T1 e1 X1
  refine Go.ifNo X1 hx (pc' := 14) rfl (hb hby d6_11) (by decide) ?_
  refine Go.aloadN X1 hx (pc' := 15) rfl (hb hby d6_14) rfl rfl ?_
  refine Go.castY X1 hx hZ hown (tw_37 hw) e1 (Ins.self P3) (pc' := 18) rfl (hb hby d6_15) ?_
  intro T2 e2 X2
  refine Go.astoreN X2 hx (pc' := 19) rfl (hb hby d6_18) (Ls' := #[.val (.ref x0), .val (.ref x1), .val (.ref x1)]) rfl rfl ?_
  have fk3 : Sta Z h0 "java/lang/String" "COMPACT_STRINGS" "Z" (.int gz1) := G0.ext O0.2
  refine Go.getS X2 hx hZ hown (host := "") (Or.inl (tw_38 hw)) Via.refl e2 fk3 (pc' := 22) rfl (hb hby d6_19) ?_
  intro T4 e4 X4
  refine Go.ifNo X4 hx (pc' := 25) rfl (hb hby d6_22) (feq G2).1 ?_
  refine Go.aloadN X4 hx (pc' := 26) rfl (hb hby d6_25) rfl rfl ?_
  refine Go.getF X4 hx hZ hown (host := "") (Or.inl (tw_26 hw)) Via.refl e4 P1 (pc' := 29) rfl (hb hby d6_26) ?_
  intro T5 e5 X5
  refine Go.aloadN X5 hx (pc' := 30) rfl (hb hby d6_29) rfl rfl ?_
  refine Go.getF X5 hx hZ hown (host := "") (Or.inl (tw_26 hw)) Via.refl e5 P4 (pc' := 33) rfl (hb hby d6_30) ?_
  intro T6 e6 X6
  refine Go.icmpNo X6 hx (pc' := 36) rfl (hb hby d6_33) (by decide) ?_
  refine Go.aloadN X6 hx (pc' := 37) rfl (hb hby d6_36) rfl rfl ?_
  refine Go.getF X6 hx hZ hown (host := "") (Or.inl (tw_25 hw)) Via.refl e6 P2 (pc' := 40) rfl (hb hby d6_37) ?_
  intro T7 e7 X7
  refine Go.aloadN X7 hx (pc' := 41) rfl (hb hby d6_40) rfl rfl ?_
  refine Go.getF X7 hx hZ hown (host := "") (Or.inl (tw_25 hw)) Via.refl e7 P5 (pc' := 44) rfl (hb hby d6_41) ?_
  intro T8 e8 X8
  refine Go.callS X8 hx hZ hown (tw_39 hw) (tw_40 hw) (tw_41 hw) (tw_42 hw) (by decide) (tw_42 hw) (tw_41 hw) (au_67 l Z a0 hw x2 x3 kk0 p0 p1 p2 p3 kk1 h0 n0 Z0 P6 P8) e8 (argsL := [(.ref x2), (.ref x3)]) (rest := []) (pc' := 47) rfl (by rw [hml]; rfl) (lenOf pd_3 rfl) rfl rfl (W := 0) (Nat.le_of_eq rfl) (by decide) (by decide) (by decide) (by decide) (hb hby d6_44) ?_
  intro v9 T9 L9 q9 X9
  obtain ⟨rfl, N9, e9⟩ := q9
  show Go _ _ _ _ (T9.setTop (mkF m 47 #[.val (.ref x0), .val (.ref x1), .val (.ref x1)] [(.int 0)]))
  refine Go.ifYes X9 hx (pc' := 54) (hb hby d6_47) (by decide) (by decide) (by decide) ?_
  refine Go.iconst X9 hx (pc' := 55) rfl (hb hby d6_54) (v := (0 : Int32)) rfl ?_
  subst hFF
  refine Go.retN X9 hx hlk (t := .boolean) hret (by simp) (hb hby d6_55) (by decide) (by decide) ?_
  rw [e9]
  exact ⟨(congrArg (fun z => some (Value.int z)) (by decide : nar .boolean (0 : Int32) = (0 : Int32))), (Fr.app (Fr.nil n0) N9), rfl⟩
-- com/example/roles_over_datacenter/rolesoverdatacenter/Page.redirects
set_option maxRecDepth 65536 in
set_option maxHeartbeats 4000000 in
theorem au_63 (l : Launch) (Z : State) (a0 : Array Value) (hw : ∀ d ∈ tables_1, d.before a0 Z = true) (x0 : Addr) (x1 : Addr) (kk0 : ClassId) (p0 : Int32) (p1 : Int32) (p2 : Int32) (p3 : Int32) (gz1 : Int32) (gv5 : Value) (h0 : Heap) (n0 : Nat) (Z0 : n0 ≤ h0.size) (O0 : Old Z n0 h0) (G : Glob Z gz1 gv5) (P0 : Exa Z h0 x0 "java/lang/String") (P1 : Fld Z h0 x0 "java/lang/String" "coder" "B" (.int 0)) (P2 : Fld Z h0 x0 "java/lang/String" "value" "[B" (.ref x1)) (P3 : Arv Z h0 x1 kk0 .byte (4 : Int32) [(.int p0), (.int p1), (.int p2), (.int p3)] (.int 0)) :
    CtrW l Z EL0 (⟨"com/example/roles_over_datacenter/rolesoverdatacenter/Page", "redirects", "(Ljava/lang/String;)Z"⟩ : MethodName) prog_11_method_4_code 1 (some .boolean) ({ frames := 5, cells := 8, slots := 55, locals := 81 } : Room) #[(.ref x0)] h0 [x0] (fun v vm h L => v = some (.int 0) ∧ Fr n0 L ∧ Keep h0 h []) := by
  refine CtrW.of (plainFor_of_name pn_c5) ?_
  intro p e s m below meth c T0 hx hZ hby hml hown hnm hret hlk e0 es hS0 C0 hsf X0
  have G' := G
  obtain ⟨-, G1, -, -⟩ := G'
  refine Go.cast (ef_5_R m x0) ?_
  generalize hFF : EndW Z EL0 s _ _ _ = FF
  refine Go.aloadN X0 hx (pc' := 1) rfl (hb hby d5_0) rfl rfl ?_
  refine Go.ldcCH X0 hx hZ hown (tw_31 hw) (own_SA hw) e0 hS0 (Nat.le_refl _) (own_EW hw) (List.mem_of_getElem? (i := 1) rfl) C0.1 (vs := [(.int (47 : Int32))]) (z := (1 : Int32)) (by decide) (by decide) rfl (n := 4) (by decide) (by decide) (by decide) (by decide) (pc' := 3) rfl (hb hby d5_1) ?_
  intro a1 T1 h1 j1 b1 k1 e1 E1 S1 i1 Z1 O1 A1 F1 G1 V1 C1 D1 X1
  have Kp3 : Keep h0 h1 [] := ((Keep.refl h0 []).ext E1)
  have Zn2 : n0 ≤ h1.size := Nat.le_trans Z0 Kp3.1
  have O4 := (O0.ext E1)
  have fk5 : Fld Z h1 x0 "java/lang/String" "coder" "B" (.int 0) := (P1.ext E1)
  have fk6 : Fld Z h1 x0 "java/lang/String" "value" "[B" (.ref x1) := (P2.ext E1)
  have fk7 := (P3.ext E1)
  have fk8 : Safe Z EL0 T1.vm h1 x0 := (C1.safe P0.lt (hsf _ (List.mem_of_getElem? (i := 0) rfl)))
  have fk9 : Exa Z h1 x0 "java/lang/String" := (P0.ext E1)
  refine Go.callV X1 hx Z1 O1 (tw_32 hw) (tw_33 hw) (notFace_of_selects (args := #[]) (mvT Z1 (tw_35 hw))) (tw_35 hw) (tw_34 hw) (by decide) (tw_36 hw) (tw_8 hw) (au_64 l Z a0 hw x0 a1 x1 b1 kk0 p0 p1 p2 p3 k1 gz1 gv5 h1 n0 Zn2 O4 G fk5 fk6 A1 F1 G1 fk7 V1 (D1 x0 fk8).1) e1 fk9 (argsL := [(.ref a1)]) (rest := []) (pc' := 6) rfl (by rw [hml]; rfl) (lenOf pd_4 rfl) rfl rfl (W := 0) (Nat.le_of_eq rfl) (by decide) (by decide) (by decide) (by decide) (hb hby d5_3) ?_
  intro v10 T10 L10 q10 X10
  obtain ⟨rfl, N10, e10⟩ := q10
  show Go _ _ _ _ (T10.setTop (mkF m 6 #[.val (.ref x0)] [(.int 0)]))
  refine Go.ifNo X10 hx (pc' := 9) rfl (hb hby d5_6) (by decide) ?_
  refine Go.aloadN X10 hx (pc' := 10) rfl (hb hby d5_9) rfl rfl ?_
  have C11 : CHr Z EL0 s.vm s.heap T1.vm h1 := (C0.trans C1)
  refine Go.ldcCH X10 hx Z1 O1 (tw_43 hw) (own_SA hw) e10 S1 i1 (own_EW hw) (List.mem_of_getElem? (i := 0) rfl) C11.1 (vs := [(.int (47 : Int32)), (.int (117 : Int32)), (.int (105 : Int32)), (.int (47 : Int32))]) (z := (4 : Int32)) (by decide) (by decide) rfl (n := 16) (by decide) (by decide) (by decide) (by decide) (pc' := 12) rfl (hb hby d5_10) ?_
  intro a12 T12 h12 j12 b12 k12 e12 E12 S12 i12 Z12 O12 A12 F12 G12 V12 C12 D12 X12
  refine Go.iconst X12 hx (pc' := 13) rfl (hb hby d5_12) (v := (0 : Int32)) rfl ?_
  have C13 : CHr Z EL0 s.vm s.heap T12.vm h12 := (C11.trans C12)
  refine Go.ldcCH X12 hx Z12 O12 (tw_43 hw) (own_SA hw) e12 S12 i12 (own_EW hw) (List.mem_of_getElem? (i := 0) rfl) C13.1 (vs := [(.int (47 : Int32)), (.int (117 : Int32)), (.int (105 : Int32)), (.int (47 : Int32))]) (z := (4 : Int32)) (by decide) (by decide) rfl (n := 16) (by decide) (by decide) (by decide) (by decide) (pc' := 15) rfl (hb hby d5_13) ?_
  intro a14 T14 h14 j14 b14 k14 e14 E14 S14 i14 Z14 O14 A14 F14 G14 V14 C14 D14 X14
  have Kp16 : Keep h0 h12 [] := (Kp3.ext E12)
  have Kp17 : Keep h0 h14 [] := (Kp16.ext E14)
  have Zn15 : n0 ≤ h14.size := Nat.le_trans Z0 Kp17.1
  have O18 := (O4.ext E12)
  have O19 := (O18.ext E14)
  refine Go.callV X14 hx Z14 O14 (tw_44 hw) (tw_45 hw) (notFace_of_selects (args := #[]) (mvT Z14 (tw_47 hw))) (tw_47 hw) (tw_46 hw) (by decide) (tw_48 hw) (tw_8 hw) (au_10 l Z a0 hw a14 b14 k14 gz1 gv5 h14 n0 Zn15 O19 G A14 F14 G14 V14) e14 A14 (argsL := []) (rest := [(.int 0), (.ref a12), (.ref x0)]) (pc' := 18) rfl (by rw [hml]; rfl) (lenOf pd_6 rfl) rfl rfl (W := 3) (Nat.le_of_eq rfl) (by decide) (by decide) (by decide) (by decide) (hb hby d5_15) ?_
  intro v20 T20 L20 q20 X20
  obtain ⟨rfl, N20, e20⟩ := q20
  show Go _ _ _ _ (T20.setTop (mkF m 18 #[.val (.ref x0)] [(.int 4), (.int 0), (.ref a12), (.ref x0)]))
  refine Go.iconst X20 hx (pc' := 19) rfl (hb hby d5_18) (v := (1 : Int32)) rfl ?_
  refine Go.isub X20 hx (pc' := 20) rfl (hb hby d5_19) ?_
  rw [show ((4 : Int32) - (1 : Int32)) = (3 : Int32) from by decide]
  have fk21 : Exa Z h14 a12 "java/lang/String" := (A12.ext E14)
  have fk22 : Fld Z h14 a12 "java/lang/String" "coder" "B" (.int 0) := (F12.ext E14)
  have fk23 : Fld Z h14 a12 "java/lang/String" "value" "[B" (.ref b12) := (G12.ext E14)
  have fk24 := (V12.ext E14)
  refine Go.callV X20 hx Z14 O14 (tw_54 hw) (tw_55 hw) (notFace_of_selects (args := #[]) (mvT Z14 (tw_57 hw))) (tw_57 hw) (tw_56 hw) (by decide) (tw_58 hw) (tw_8 hw) (au_12 l Z a0 hw a12 b12 k12 gz1 gv5 h14 n0 Zn15 O19 G fk21 fk22 fk23 fk24) e20 fk21 (argsL := [(.int 0), (.int 3)]) (rest := [(.ref x0)]) (pc' := 23) rfl (by rw [hml]; rfl) (lenOf pd_15 rfl) rfl rfl (W := 1) (Nat.le_of_eq rfl) (by decide) (by decide) (by decide) (by decide) (hb hby d5_20) ?_
  intro v25 T25 L25 q25 X25
  obtain ⟨h25, e25⟩ : ∃ z, T25.heap = z := ⟨_, rfl⟩
  rw [e25] at q25
  obtain ⟨b25_0, b25_1, k25_0, rfl, N25, K25, s25_0, s25_1, n25_0, F25_0, F25_1, F25_2, F25_3, F25_4⟩ := q25
  show Go _ _ _ _ (T25.setTop (mkF m 23 #[.val (.ref x0)] [(.ref b25_0), (.ref x0)]))
  have Kp27 : Keep h0 h25 [] := (Kp17.trans K25 all0)
  have Zn26 : n0 ≤ h25.size := Nat.le_trans Z0 Kp27.1
  have O28 := (O19.keep K25 all0)
  have fk29 : Fld Z h25 x0 "java/lang/String" "coder" "B" (.int 0) := (((fk5.ext E12).ext E14).keep K25 nin0)
  have fk30 : Fld Z h25 x0 "java/lang/String" "value" "[B" (.ref x1) := (((fk6.ext E12).ext E14).keep K25 nin0)
  have fk31 := (((fk7.ext E12).ext E14).keep K25 nin0)
  have fk33 : Exa Z h14 x0 "java/lang/String" := ((fk9.ext E12).ext E14)
  have ne32 : x0 ≠ b25_0 := Nat.ne_of_lt (Nat.lt_of_lt_of_le fk33.lt s25_0)
  have fk34 : Exa Z h25 x0 "java/lang/String" := (fk33.keep K25)
  refine Go.callV X25 hx Z14 O14 (tw_32 hw) (tw_33 hw) (notFace_of_selects (args := #[]) (mvT Z14 (tw_35 hw))) (tw_35 hw) (tw_34 hw) (by decide) (tw_36 hw) (tw_8 hw) (au_66 l Z a0 hw x0 b25_0 x1 b25_1 kk0 p0 p1 p2 p3 k25_0 gz1 gv5 h25 n0 Zn26 O28 G fk29 fk30 F25_0 F25_1 F25_2 fk31 F25_3 ne32) e25 fk34 (argsL := [(.ref b25_0)]) (rest := []) (pc' := 26) rfl (by rw [hml]; rfl) (lenOf pd_4 rfl) rfl rfl (W := 0) (Nat.le_of_eq rfl) (by decide) (by decide) (by decide) (by decide) (hb hby d5_23) ?_
  intro v35 T35 L35 q35 X35
  obtain ⟨rfl, N35, e35⟩ := q35
  show Go _ _ _ _ (T35.setTop (mkF m 26 #[.val (.ref x0)] [(.int 0)]))
  refine Go.ifYes X35 hx (pc' := 33) (hb hby d5_26) (by decide) (by decide) (by decide) ?_
  refine Go.iconst X35 hx (pc' := 34) rfl (hb hby d5_33) (v := (0 : Int32)) rfl ?_
  subst hFF
  have C36 : CHr Z EL0 s.vm s.heap T14.vm h14 := (C13.trans C14)
  have C37 : CHr Z EL0 s.vm s.heap T14.vm h25 := (C36.trans (CHr.keep K25 sf0 C36.1))
  have hk38 := (Nat.le_trans i14 K25.1)
  refine Go.retNW X35 hx hlk Z14 (own_EW hw) e35 S14 hk38 C37 (t := .boolean) hret (by simp) (hb hby d5_34) (by decide) (by decide) (fun hat => ?_)
  exact ⟨(congrArg (fun z => some (Value.int z)) (by decide : nar .boolean (0 : Int32) = (0 : Int32))), (Fr.app (Fr.app (Fr.app (Fr.app (Fr.nil n0) N10) N20) N25) N35), Kp27⟩
theorem ef_0_IIIII (m : MethodId) (x0 : Int32) (x1 : Int32) (x2 : Int32) (x3 : Int32) (x4 : Int32) : entryFrame m #[(.int x0), (.int x1), (.int x2), (.int x3), (.int x4)] maxLocals = mkF m 0 #[.val (.int x0), .val (.int x1), .val (.int x2), .val (.int x3), .val (.int x4), .unset, .unset, .unset, .unset, .unset, .unset, .unset, .unset] [] := by first | (simp [entryFrame, mkF, argsToLocals, Value.category, maxLocals]; done) | rfl
set_option maxRecDepth 65536 in
set_option maxHeartbeats 40000000 in
theorem rm0 (l : Launch) (Z : State) (a0 : Array Value) (hw : ∀ d ∈ tables_1, d.before a0 Z = true) (p0 : Int32) (p1 : Int32) (p2 : Int32) (p3 : Int32) (p4 : Int32) (gz1 : Int32) (gv5 : Value) (h0 : Heap) (n0 : Nat) (Z0 : n0 ≤ h0.size) (O0 : Old Z n0 h0) (G : Glob Z gz1 gv5) :
    CtrW l Z EL0 x code maxLocals ret room_1 #[(.int p0), (.int p1), (.int p2), (.int p3), (.int p4)] h0 [] (fun v vm h L => v = some (.int (1 : Int32)) ∧ Fr n0 L) := by
  refine CtrW.of (plainFor_of_name pn_c0) ?_
  intro p e s m below meth c T0 hx hZ hby hml hown hnm hret hlk e0 es hS0 C0 hsf X0
  refine Go.cast (ef_0_IIIII m p0 p1 p2 p3 p4) ?_
  refine Go.iloadN X0 hx (pc' := 1) rfl (hb hby at_0) rfl ?_
  refine Go.ldcI X0 hx hZ hown (tw_0 hw) (pc' := 3) rfl (hb hby at_1) ?_
  refine Go.iand X0 hx (pc' := 4) rfl (hb hby at_3) ?_
  generalize hz1 : (p0 &&& (2147483647 : Int32)) = z1
  refine Go.iconst X0 hx (pc' := 5) rfl (hb hby at_4) (v := (5 : Int32)) rfl ?_
  refine Go.irem X0 hx (pc' := 6) rfl (hb hby at_5) (by decide) ?_
  have r2 : 0 ≤ z1.toInt ∧ z1.toInt ≤ 2147483647 := own_rand hz1 (by decide)
  generalize hz3 : (z1 % (5 : Int32)) = z3
  refine Go.istore X0 hx (pc' := 8) rfl (hb hby at_6) (Ls' := #[.val (.int p0), .val (.int p1), .val (.int p2), .val (.int p3), .val (.int p4), .val (.int z3), .unset, .unset, .unset, .unset, .unset, .unset, .unset]) rfl ?_
  refine Go.iloadN X0 hx (pc' := 9) rfl (hb hby at_8) rfl ?_
  refine Go.callS X0 hx hZ hown (tw_1 hw) (tw_2 hw) (tw_3 hw) (tw_4 hw) (by decide) (tw_4 hw) (tw_3 hw) (au_1 l Z a0 hw p1 h0 n0 Z0) e0 (argsL := [(.int p1)]) (rest := []) (pc' := 12) rfl (by rw [hml]; rfl) (lenOf pd_0 rfl) rfl rfl (W := 0) (Nat.le_of_eq rfl) (by decide) (by decide) (by decide) (by decide) (hb hby at_9) ?_
  intro v4 T4 L4 q4 X4
  obtain ⟨z4_0, w4, rfl, N4, e4⟩ := q4
  show Go _ _ _ _ (T4.setTop (mkF m 12 #[.val (.int p0), .val (.int p1), .val (.int p2), .val (.int p3), .val (.int p4), .val (.int z3), .unset, .unset, .unset, .unset, .unset, .unset, .unset] [(.int z4_0)]))
  refine Go.istore X4 hx (pc' := 14) rfl (hb hby at_12) (Ls' := #[.val (.int p0), .val (.int p1), .val (.int p2), .val (.int p3), .val (.int p4), .val (.int z3), .val (.int z4_0), .unset, .unset, .unset, .unset, .unset, .unset]) rfl ?_
  refine Go.iloadN X4 hx (pc' := 15) rfl (hb hby at_14) rfl ?_
  refine Go.callS X4 hx hZ hown (tw_1 hw) (tw_2 hw) (tw_3 hw) (tw_4 hw) (by decide) (tw_4 hw) (tw_3 hw) (au_1 l Z a0 hw p2 h0 n0 Z0) e4 (argsL := [(.int p2)]) (rest := []) (pc' := 18) rfl (by rw [hml]; rfl) (lenOf pd_0 rfl) rfl rfl (W := 0) (Nat.le_of_eq rfl) (by decide) (by decide) (by decide) (by decide) (hb hby at_15) ?_
  intro v5 T5 L5 q5 X5
  obtain ⟨z5_0, w5, rfl, N5, e5⟩ := q5
  show Go _ _ _ _ (T5.setTop (mkF m 18 #[.val (.int p0), .val (.int p1), .val (.int p2), .val (.int p3), .val (.int p4), .val (.int z3), .val (.int z4_0), .unset, .unset, .unset, .unset, .unset, .unset] [(.int z5_0)]))
  refine Go.istore X5 hx (pc' := 20) rfl (hb hby at_18) (Ls' := #[.val (.int p0), .val (.int p1), .val (.int p2), .val (.int p3), .val (.int p4), .val (.int z3), .val (.int z4_0), .val (.int z5_0), .unset, .unset, .unset, .unset, .unset]) rfl ?_
  refine Go.iloadN X5 hx (pc' := 21) rfl (hb hby at_20) rfl ?_
  refine Go.callS X5 hx hZ hown (tw_1 hw) (tw_2 hw) (tw_3 hw) (tw_4 hw) (by decide) (tw_4 hw) (tw_3 hw) (au_1 l Z a0 hw p3 h0 n0 Z0) e5 (argsL := [(.int p3)]) (rest := []) (pc' := 24) rfl (by rw [hml]; rfl) (lenOf pd_0 rfl) rfl rfl (W := 0) (Nat.le_of_eq rfl) (by decide) (by decide) (by decide) (by decide) (hb hby at_21) ?_
  intro v6 T6 L6 q6 X6
  obtain ⟨z6_0, w6, rfl, N6, e6⟩ := q6
  show Go _ _ _ _ (T6.setTop (mkF m 24 #[.val (.int p0), .val (.int p1), .val (.int p2), .val (.int p3), .val (.int p4), .val (.int z3), .val (.int z4_0), .val (.int z5_0), .unset, .unset, .unset, .unset, .unset] [(.int z6_0)]))
  refine Go.istore X6 hx (pc' := 26) rfl (hb hby at_24) (Ls' := #[.val (.int p0), .val (.int p1), .val (.int p2), .val (.int p3), .val (.int p4), .val (.int z3), .val (.int z4_0), .val (.int z5_0), .val (.int z6_0), .unset, .unset, .unset, .unset]) rfl ?_
  refine Go.iload X6 hx (pc' := 28) rfl (hb hby at_26) rfl ?_
  refine Go.callS X6 hx hZ hown (tw_1 hw) (tw_2 hw) (tw_3 hw) (tw_4 hw) (by decide) (tw_4 hw) (tw_3 hw) (au_1 l Z a0 hw p4 h0 n0 Z0) e6 (argsL := [(.int p4)]) (rest := []) (pc' := 31) rfl (by rw [hml]; rfl) (lenOf pd_0 rfl) rfl rfl (W := 0) (Nat.le_of_eq rfl) (by decide) (by decide) (by decide) (by decide) (hb hby at_28) ?_
  intro v7 T7 L7 q7 X7
  obtain ⟨z7_0, w7, rfl, N7, e7⟩ := q7
  show Go _ _ _ _ (T7.setTop (mkF m 31 #[.val (.int p0), .val (.int p1), .val (.int p2), .val (.int p3), .val (.int p4), .val (.int z3), .val (.int z4_0), .val (.int z5_0), .val (.int z6_0), .unset, .unset, .unset, .unset] [(.int z7_0)]))
  refine Go.istore X7 hx (pc' := 33) rfl (hb hby at_31) (Ls' := #[.val (.int p0), .val (.int p1), .val (.int p2), .val (.int p3), .val (.int p4), .val (.int z3), .val (.int z4_0), .val (.int z5_0), .val (.int z6_0), .val (.int z7_0), .unset, .unset, .unset]) rfl ?_
  have r8 : 0 ≤ z3.toInt ∧ z3.toInt ≤ 4 := own_rrem hz3 (d := 5) (by decide) (by decide) r2 (by decide) (by decide)
  rcases own_cs_0_4 r8 with rfl | rfl | rfl | rfl | rfl
  · refine Go.iload X7 hx (pc' := 35) rfl (hb hby at_33) rfl ?_
    refine Go.ifNo X7 hx (pc' := 38) rfl (hb hby at_35) (by decide) ?_
    refine Go.iconst X7 hx (pc' := 39) rfl (hb hby at_38) (v := (0 : Int32)) rfl ?_
    refine Go.newarray X7 hx hZ (ty := .char) rfl (tw_5 hw) e7 (by decide) (cap := 0) (by decide) (by decide) (by decide) (by decide) (ad := "[C") (by decide) 0 (pc' := 41) rfl (hb hby at_39) ?_
    intro T9 h9 b9 k9 e9 E9 g9 V9 A9 X9
    have V9' : Arv Z h9 b9 k9 .char (0 : Int32) [] (.int 0) := V9
    refine Go.astore X9 hx (pc' := 43) rfl (hb hby at_41) (Ls' := #[.val (.int p0), .val (.int p1), .val (.int p2), .val (.int p3), .val (.int p4), .val (.int 0), .val (.int z4_0), .val (.int z5_0), .val (.int z6_0), .val (.int z7_0), .val (.ref b9), .unset, .unset]) rfl rfl ?_
    refine Go.goto X9 hx (pc' := 143) (hb hby at_43) (by decide) (by decide) ?_
    refine Go.new X9 hx hZ hown (tw_6 hw) (tw_7 hw) (tw_8 hw) e9 (by decide) (by decide) (pc' := 146) rfl (hb hby at_143) ?_
    intro T10 h10 b10 e10 E10 g10 A10 D10 X10
    have b10_value : Fld Z h10 b10 "java/lang/String" "value" "[B" .null := D10 (Or.inr (tw_21 hw)) (ty := (.array .byte)) (by decide)
    have b10_coder : Fld Z h10 b10 "java/lang/String" "coder" "B" (.int 0) := D10 (Or.inr (tw_22 hw)) (ty := .byte) (by decide)
    refine Go.dup X10 hx (pc' := 147) rfl (hb hby at_146) rfl ?_
    refine Go.aload X10 hx (pc' := 149) rfl (hb hby at_147) rfl rfl ?_
    have Kp12 : Keep h0 h9 [] := ((Keep.refl h0 []).ext E9)
    have Kp13 : Keep h0 h10 [] := (Kp12.ext E10)
    have Zn11 : n0 ≤ h10.size := Nat.le_trans Z0 Kp13.1
    have fk14 := (V9'.ext E10)
    have sz16 : h0.size ≤ b10 := Nat.le_trans Kp12.1 (Nat.le_of_eq g10.symm)
    have ge15 : n0 ≤ b10 := Nat.le_trans Z0 sz16
    have C17 : CHr Z EL0 s.vm s.heap s.vm h9 := (C0.trans (CHr.ext E9 C0.1))
    have C18 : CHr Z EL0 s.vm s.heap s.vm h10 := (C17.trans (CHr.ext E10 C17.1))
    have fk19 : Safe Z EL0 s.vm h10 b10 := (Safe.ext E10 C17.1 (Safe.new (Nat.le_of_eq g10.symm) : Safe Z EL0 s.vm h9 b10))
    have hk20 := (Nat.le_trans (Nat.le_trans (Nat.le_refl _) E9.1) E10.1)
    refine Go.callNW X10 hx hZ hown rfl (tw_9 hw) (tw_10 hw) (tw_11 hw) (by decide) (tw_11 hw) (tw_8 hw) (au_5 l Z a0 hw b10 b9 k9 gz1 gv5 h10 n0 Zn11 G A10 b10_coder b10_value fk14 ge15) (own_EW hw) C18.1 (allS ⟨A10.lt, fk19⟩ all0) hS0 hk20 e10 (a := b10) (argsL := [(.ref b9)]) (rest := [(.ref b10)]) (pc' := 152) rfl (by rw [hml]; rfl) (lenOf pd_2 rfl) rfl rfl (W := 1) (Nat.le_of_eq rfl) (by decide) (by decide) (by decide) (by decide) (hb hby at_149) ?_
    intro v21 T21 L21 h21 e21 q21 C21 S21 Z21 O21 X21
    obtain ⟨b21_0, k21_0, rfl, N21, K21, F21_0, F21_1, F21_2, F21_3⟩ := q21
    show Go _ _ _ _ (T21.setTop (mkF m 152 #[.val (.int p0), .val (.int p1), .val (.int p2), .val (.int p3), .val (.int p4), .val (.int 0), .val (.int z4_0), .val (.int z5_0), .val (.int z6_0), .val (.int z7_0), .val (.ref b9), .unset, .unset] [(.ref b10)]))
    refine Go.astore X21 hx (pc' := 154) rfl (hb hby at_152) (Ls' := #[.val (.int p0), .val (.int p1), .val (.int p2), .val (.int p3), .val (.int p4), .val (.int 0), .val (.int z4_0), .val (.int z5_0), .val (.int z6_0), .val (.int z7_0), .val (.ref b9), .val (.ref b10), .unset]) rfl rfl ?_
    refine Go.iload X21 hx (pc' := 156) rfl (hb hby at_154) rfl ?_
    refine Go.iconst X21 hx (pc' := 157) rfl (hb hby at_156) (v := (1 : Int32)) rfl ?_
    refine Go.icmpYes X21 hx (pc' := 167) (hb hby at_157) (by decide) (by decide) (by decide) ?_
    refine Go.iload X21 hx (pc' := 169) rfl (hb hby at_167) rfl ?_
    refine Go.iconst X21 hx (pc' := 170) rfl (hb hby at_169) (v := (3 : Int32)) rfl ?_
    refine Go.icmpYes X21 hx (pc' := 198) (hb hby at_170) (by decide) (by decide) (by decide) ?_
    refine Go.iconst X21 hx (pc' := 199) rfl (hb hby at_198) (v := (0 : Int32)) rfl ?_
    refine Go.istore X21 hx (pc' := 201) rfl (hb hby at_199) (Ls' := #[.val (.int p0), .val (.int p1), .val (.int p2), .val (.int p3), .val (.int p4), .val (.int 0), .val (.int z4_0), .val (.int z5_0), .val (.int z6_0), .val (.int z7_0), .val (.ref b9), .val (.ref b10), .val (.int 0)]) rfl ?_
    refine Go.aload X21 hx (pc' := 203) rfl (hb hby at_201) rfl rfl ?_
    have Kp23 : Keep h0 h21 [] := (Kp13.trans K21 (allS (Or.inr sz16) all0))
    have Zn22 : n0 ≤ h21.size := Nat.le_trans Z0 Kp23.1
    have O24 := (O0.ext E9)
    have O25 := (O24.ext E10)
    have O26 := (O25.keep K21 (allS ge15 all0))
    have C27 : CHr Z EL0 s.vm s.heap T21.vm h21 := (C18.trans C21)
    have fk28 : Safe Z EL0 T21.vm h21 b10 := (C21.safe A10.lt fk19)
    refine Go.callSW X21 hx Z21 O21 (tw_27 hw) (tw_28 hw) (tw_29 hw) (tw_30 hw) (by decide) (tw_30 hw) (tw_29 hw) (au_7 l Z a0 hw b10 b21_0 k21_0 gz1 gv5 h21 n0 Zn22 O26 G F21_0 F21_1 F21_2 F21_3) (own_EW hw) C27.1 (allS ⟨F21_0.lt, fk28⟩ all0) S21 (Nat.le_refl _) e21 (argsL := [(.ref b10)]) (rest := []) (pc' := 206) rfl (by rw [hml]; rfl) (lenOf pd_16 rfl) rfl rfl (W := 0) (Nat.le_of_eq rfl) (by decide) (by decide) (by decide) (by decide) (hb hby at_203) ?_
    intro v29 T29 L29 h29 e29 q29 C29 S29 Z29 O29 X29
    obtain ⟨rfl, N29, K29⟩ := q29
    show Go _ _ _ _ (T29.setTop (mkF m 206 #[.val (.int p0), .val (.int p1), .val (.int p2), .val (.int p3), .val (.int p4), .val (.int 0), .val (.int z4_0), .val (.int z5_0), .val (.int z6_0), .val (.int z7_0), .val (.ref b9), .val (.ref b10), .val (.int 0)] [(.int 0)]))
    refine Go.iload X29 hx (pc' := 208) rfl (hb hby at_206) rfl ?_
    refine Go.icmpNo X29 hx (pc' := 211) rfl (hb hby at_208) (by decide) ?_
    refine Go.iconst X29 hx (pc' := 212) rfl (hb hby at_211) (v := (1 : Int32)) rfl ?_
    refine Go.goto X29 hx (pc' := 216) (hb hby at_212) (by decide) (by decide) ?_
    have C30 : CHr Z EL0 s.vm s.heap T29.vm h29 := (C27.trans C29)
    refine Go.retNW X29 hx hlk Z29 (own_EW hw) e29 S29 (Nat.le_refl _) C30 (t := .boolean) hret (by simp) (hb hby at_216) (by decide) (by decide) (fun hat => ?_)
    exact ⟨rfl, (Fr.app (Fr.app (Fr.app (Fr.app (Fr.app (Fr.app (Fr.nil n0) N4) N5) N6) N7) N21) N29)⟩
  · refine Go.iload X7 hx (pc' := 35) rfl (hb hby at_33) rfl ?_
    refine Go.ifYes X7 hx (pc' := 46) (hb hby at_35) (by decide) (by decide) (by decide) ?_
    refine Go.iload X7 hx (pc' := 48) rfl (hb hby at_46) rfl ?_
    refine Go.iconst X7 hx (pc' := 49) rfl (hb hby at_48) (v := (1 : Int32)) rfl ?_
    refine Go.icmpNo X7 hx (pc' := 52) rfl (hb hby at_49) (by decide) ?_
    refine Go.iconst X7 hx (pc' := 53) rfl (hb hby at_52) (v := (1 : Int32)) rfl ?_
    refine Go.newarray X7 hx hZ (ty := .char) rfl (tw_5 hw) e7 (by decide) (cap := 1) (by decide) (by decide) (by decide) (by decide) (ad := "[C") (by decide) 1 (pc' := 55) rfl (hb hby at_53) ?_
    intro T31 h31 b31 k31 e31 E31 g31 V31 A31 X31
    have V31' : Arv Z h31 b31 k31 .char (1 : Int32) [(.int 0)] (.int 0) := V31
    refine Go.dup X31 hx (pc' := 56) rfl (hb hby at_55) rfl ?_
    refine Go.iconst X31 hx (pc' := 57) rfl (hb hby at_56) (v := (0 : Int32)) rfl ?_
    refine Go.iload X31 hx (pc' := 59) rfl (hb hby at_57) rfl ?_
    have sz33 : h0.size ≤ b31 := Nat.le_trans (Keep.refl h0 []).1 (Nat.le_of_eq g31.symm)
    have ge32 : n0 ≤ b31 := Nat.le_trans Z0 sz33
    refine Go.castore X31 hx hZ e31 V31' z4_0 (own_nar_char w4 (by decide) (by decide)) ⟨by decide, by decide⟩ 0 rfl (Nat.le_of_ble_eq_true rfl) (pc' := 60) rfl (hb hby at_59) ?_
    intro T34 h34 e34 W34 V34 X34
    have N34 := Fr.snoc X34 (Fr.app (Fr.app (Fr.app (Fr.app (Fr.nil n0) N4) N5) N6) N7) ge32
    refine Go.astore X34 hx (pc' := 62) rfl (hb hby at_60) (Ls' := #[.val (.int p0), .val (.int p1), .val (.int p2), .val (.int p3), .val (.int p4), .val (.int 1), .val (.int z4_0), .val (.int z5_0), .val (.int z6_0), .val (.int z7_0), .val (.ref b31), .unset, .unset]) rfl rfl ?_
    refine Go.goto X34 hx (pc' := 143) (hb hby at_62) (by decide) (by decide) ?_
    refine Go.new X34 hx hZ hown (tw_6 hw) (tw_7 hw) (tw_8 hw) e34 (by decide) (by decide) (pc' := 146) rfl (hb hby at_143) ?_
    intro T35 h35 b35 e35 E35 g35 A35 D35 X35
    have b35_value : Fld Z h35 b35 "java/lang/String" "value" "[B" .null := D35 (Or.inr (tw_21 hw)) (ty := (.array .byte)) (by decide)
    have b35_coder : Fld Z h35 b35 "java/lang/String" "coder" "B" (.int 0) := D35 (Or.inr (tw_22 hw)) (ty := .byte) (by decide)
    refine Go.dup X35 hx (pc' := 147) rfl (hb hby at_146) rfl ?_
    refine Go.aload X35 hx (pc' := 149) rfl (hb hby at_147) rfl rfl ?_
    have Kp37 : Keep h0 h31 [] := ((Keep.refl h0 []).ext E31)
    have Kp38 : Keep h0 h34 [] := (Kp37.wr W34 (Or.inr sz33))
    have Kp39 : Keep h0 h35 [] := (Kp38.ext E35)
    have Zn36 : n0 ≤ h35.size := Nat.le_trans Z0 Kp39.1
    have O40 := (O0.ext E31)
    have O41 := (O40.wr W34 ge32)
    have O42 := (O41.ext E35)
    have V43 : Arv Z h34 b31 k31 .char (1 : Int32) [(.int z4_0)] (.int 0) := V34
    have fk44 := (V43.ext E35)
    have sz46 : h0.size ≤ b35 := Nat.le_trans Kp38.1 (Nat.le_of_eq g35.symm)
    have ge45 : n0 ≤ b35 := Nat.le_trans Z0 sz46
    refine Go.callN X35 hx hZ hown rfl (tw_9 hw) (tw_10 hw) (tw_11 hw) (by decide) (tw_11 hw) (tw_8 hw) (au_24 l Z a0 hw b35 b31 k31 z4_0 gz1 gv5 h35 n0 Zn36 O42 G A35 b35_coder b35_value fk44 w4 ge45) e35 (a := b35) (argsL := [(.ref b31)]) (rest := [(.ref b35)]) (pc' := 152) rfl (by rw [hml]; rfl) (lenOf pd_2 rfl) rfl rfl (W := 1) (Nat.le_of_eq rfl) (by decide) (by decide) (by decide) (by decide) (hb hby at_149) ?_
    intro v47 T47 L47 q47 X47
    obtain ⟨h47, e47⟩ : ∃ z, T47.heap = z := ⟨_, rfl⟩
    rw [e47] at q47
    obtain ⟨z47_0, b47_0, k47_0, d47_0, rfl, N47, K47, s47_0, F47_0, F47_1, F47_2, F47_3, F47_4⟩ := q47
    show Go _ _ _ _ (T47.setTop (mkF m 152 #[.val (.int p0), .val (.int p1), .val (.int p2), .val (.int p3), .val (.int p4), .val (.int 1), .val (.int z4_0), .val (.int z5_0), .val (.int z6_0), .val (.int z7_0), .val (.ref b31), .unset, .unset] [(.ref b35)]))
    refine Go.astore X47 hx (pc' := 154) rfl (hb hby at_152) (Ls' := #[.val (.int p0), .val (.int p1), .val (.int p2), .val (.int p3), .val (.int p4), .val (.int 1), .val (.int z4_0), .val (.int z5_0), .val (.int z6_0), .val (.int z7_0), .val (.ref b31), .val (.ref b35), .unset]) rfl rfl ?_
    refine Go.iload X47 hx (pc' := 156) rfl (hb hby at_154) rfl ?_
    refine Go.iconst X47 hx (pc' := 157) rfl (hb hby at_156) (v := (1 : Int32)) rfl ?_
    refine Go.icmpNo X47 hx (pc' := 160) rfl (hb hby at_157) (by decide) ?_
    refine Go.iload X47 hx (pc' := 162) rfl (hb hby at_160) rfl ?_
    refine Go.bipush X47 hx (pc' := 164) rfl (hb hby at_162) (v := (47 : Int32)) (by decide) ?_
    by_cases hc48 : z4_0 = (47 : Int32)
    · refine Go.icmpYes X47 hx (pc' := 194) (hb hby at_164) (teq hc48).1 (by decide) (by decide) ?_
      refine Go.iconst X47 hx (pc' := 195) rfl (hb hby at_194) (v := (1 : Int32)) rfl ?_
      refine Go.goto X47 hx (pc' := 199) (hb hby at_195) (by decide) (by decide) ?_
      refine Go.istore X47 hx (pc' := 201) rfl (hb hby at_199) (Ls' := #[.val (.int p0), .val (.int p1), .val (.int p2), .val (.int p3), .val (.int p4), .val (.int 1), .val (.int z4_0), .val (.int z5_0), .val (.int z6_0), .val (.int z7_0), .val (.ref b31), .val (.ref b35), .val (.int 1)]) rfl ?_
      refine Go.aload X47 hx (pc' := 203) rfl (hb hby at_201) rfl rfl ?_
      have r49 : -128 ≤ z47_0.toInt ∧ z47_0.toInt ≤ 127 := own_ri2b d47_0
      have Kp51 : Keep h0 h47 [] := (Kp39.trans K47 (allS (Or.inr sz46) all0))
      have Zn50 : n0 ≤ h47.size := Nat.le_trans Z0 Kp51.1
      have O52 := (O42.keep K47 (allS ge45 all0))
      have C53 : CHr Z EL0 s.vm s.heap s.vm h31 := (C0.trans (CHr.ext E31 C0.1))
      have fk54 : Safe Z EL0 s.vm h31 b31 := (Safe.ext E31 C0.1 (Safe.new (Nat.le_of_eq g31.symm) : Safe Z EL0 s.vm h0 b31))
      have C55 : CHr Z EL0 s.vm s.heap s.vm h34 := (C53.trans (CHr.wr W34 fk54 C53.1))
      have C56 : CHr Z EL0 s.vm s.heap s.vm h35 := (C55.trans (CHr.ext E35 C55.1))
      have fk57 : Safe Z EL0 s.vm h35 b35 := (Safe.ext E35 C55.1 (Safe.new (Nat.le_of_eq g35.symm) : Safe Z EL0 s.vm h34 b35))
      have C58 : CHr Z EL0 s.vm s.heap s.vm h47 := (C56.trans (CHr.keep K47 (sfS fk57 sf0) C56.1))
      have fk59 : Safe Z EL0 s.vm h47 b35 := (Safe.keep K47 (sfS fk57 sf0) C56.1 fk57)
      have hk60 := (Nat.le_trans (Nat.le_trans (Nat.le_trans (Nat.le_trans (Nat.le_refl _) E31.1) (Keep.of_wr W34).1) E35.1) K47.1)
      refine Go.callSW X47 hx hZ hown (tw_27 hw) (tw_28 hw) (tw_29 hw) (tw_30 hw) (by decide) (tw_30 hw) (tw_29 hw) (au_30 l Z a0 hw b35 b47_0 k47_0 z47_0 z4_0 gz1 gv5 h47 n0 Zn50 O52 G F47_0 F47_1 F47_2 F47_3 w4 d47_0) (own_EW hw) C58.1 (allS ⟨F47_0.lt, fk59⟩ all0) hS0 hk60 e47 (argsL := [(.ref b35)]) (rest := []) (pc' := 206) rfl (by rw [hml]; rfl) (lenOf pd_16 rfl) rfl rfl (W := 0) (Nat.le_of_eq rfl) (by decide) (by decide) (by decide) (by decide) (hb hby at_203) ?_
      intro v61 T61 L61 h61 e61 q61 C61 S61 Z61 O61 X61
      rcases q61 with ⟨c61_0_0, rfl, N61_0, K61_0⟩ | ⟨c61_1_0, rfl, N61_1, K61_1⟩
      · show Go _ _ _ _ (T61.setTop (mkF m 206 #[.val (.int p0), .val (.int p1), .val (.int p2), .val (.int p3), .val (.int p4), .val (.int 1), .val (.int z4_0), .val (.int z5_0), .val (.int z6_0), .val (.int z7_0), .val (.ref b31), .val (.ref b35), .val (.int 1)] [(.int 1)]))
        refine Go.iload X61 hx (pc' := 208) rfl (hb hby at_206) rfl ?_
        refine Go.icmpNo X61 hx (pc' := 211) rfl (hb hby at_208) (by decide) ?_
        refine Go.iconst X61 hx (pc' := 212) rfl (hb hby at_211) (v := (1 : Int32)) rfl ?_
        refine Go.goto X61 hx (pc' := 216) (hb hby at_212) (by decide) (by decide) ?_
        have C62 : CHr Z EL0 s.vm s.heap T61.vm h61 := (C58.trans C61)
        refine Go.retNW X61 hx hlk Z61 (own_EW hw) e61 S61 (Nat.le_refl _) C62 (t := .boolean) hret (by simp) (hb hby at_216) (by decide) (by decide) (fun hat => ?_)
        exact ⟨rfl, (Fr.app (Fr.app N34 N47) N61_0)⟩
      · exact absurd hc48 c61_1_0
    · refine Go.icmpNo X47 hx (pc' := 167) rfl (hb hby at_164) (feq hc48).1 ?_
      refine Go.iload X47 hx (pc' := 169) rfl (hb hby at_167) rfl ?_
      refine Go.iconst X47 hx (pc' := 170) rfl (hb hby at_169) (v := (3 : Int32)) rfl ?_
      refine Go.icmpYes X47 hx (pc' := 198) (hb hby at_170) (by decide) (by decide) (by decide) ?_
      refine Go.iconst X47 hx (pc' := 199) rfl (hb hby at_198) (v := (0 : Int32)) rfl ?_
      refine Go.istore X47 hx (pc' := 201) rfl (hb hby at_199) (Ls' := #[.val (.int p0), .val (.int p1), .val (.int p2), .val (.int p3), .val (.int p4), .val (.int 1), .val (.int z4_0), .val (.int z5_0), .val (.int z6_0), .val (.int z7_0), .val (.ref b31), .val (.ref b35), .val (.int 0)]) rfl ?_
      refine Go.aload X47 hx (pc' := 203) rfl (hb hby at_201) rfl rfl ?_
      have r63 : -128 ≤ z47_0.toInt ∧ z47_0.toInt ≤ 127 := own_ri2b d47_0
      have Kp65 : Keep h0 h47 [] := (Kp39.trans K47 (allS (Or.inr sz46) all0))
      have Zn64 : n0 ≤ h47.size := Nat.le_trans Z0 Kp65.1
      have O66 := (O42.keep K47 (allS ge45 all0))
      have C67 : CHr Z EL0 s.vm s.heap s.vm h31 := (C0.trans (CHr.ext E31 C0.1))
      have fk68 : Safe Z EL0 s.vm h31 b31 := (Safe.ext E31 C0.1 (Safe.new (Nat.le_of_eq g31.symm) : Safe Z EL0 s.vm h0 b31))
      have C69 : CHr Z EL0 s.vm s.heap s.vm h34 := (C67.trans (CHr.wr W34 fk68 C67.1))
      have C70 : CHr Z EL0 s.vm s.heap s.vm h35 := (C69.trans (CHr.ext E35 C69.1))
      have fk71 : Safe Z EL0 s.vm h35 b35 := (Safe.ext E35 C69.1 (Safe.new (Nat.le_of_eq g35.symm) : Safe Z EL0 s.vm h34 b35))
      have C72 : CHr Z EL0 s.vm s.heap s.vm h47 := (C70.trans (CHr.keep K47 (sfS fk71 sf0) C70.1))
      have fk73 : Safe Z EL0 s.vm h47 b35 := (Safe.keep K47 (sfS fk71 sf0) C70.1 fk71)
      have hk74 := (Nat.le_trans (Nat.le_trans (Nat.le_trans (Nat.le_trans (Nat.le_refl _) E31.1) (Keep.of_wr W34).1) E35.1) K47.1)
      refine Go.callSW X47 hx hZ hown (tw_27 hw) (tw_28 hw) (tw_29 hw) (tw_30 hw) (by decide) (tw_30 hw) (tw_29 hw) (au_30 l Z a0 hw b35 b47_0 k47_0 z47_0 z4_0 gz1 gv5 h47 n0 Zn64 O66 G F47_0 F47_1 F47_2 F47_3 w4 d47_0) (own_EW hw) C72.1 (allS ⟨F47_0.lt, fk73⟩ all0) hS0 hk74 e47 (argsL := [(.ref b35)]) (rest := []) (pc' := 206) rfl (by rw [hml]; rfl) (lenOf pd_16 rfl) rfl rfl (W := 0) (Nat.le_of_eq rfl) (by decide) (by decide) (by decide) (by decide) (hb hby at_203) ?_
      intro v75 T75 L75 h75 e75 q75 C75 S75 Z75 O75 X75
      rcases q75 with ⟨c75_0_0, rfl, N75_0, K75_0⟩ | ⟨c75_1_0, rfl, N75_1, K75_1⟩
      · exact absurd c75_0_0 hc48
      · show Go _ _ _ _ (T75.setTop (mkF m 206 #[.val (.int p0), .val (.int p1), .val (.int p2), .val (.int p3), .val (.int p4), .val (.int 1), .val (.int z4_0), .val (.int z5_0), .val (.int z6_0), .val (.int z7_0), .val (.ref b31), .val (.ref b35), .val (.int 0)] [(.int 0)]))
        refine Go.iload X75 hx (pc' := 208) rfl (hb hby at_206) rfl ?_
        refine Go.icmpNo X75 hx (pc' := 211) rfl (hb hby at_208) (by decide) ?_
        refine Go.iconst X75 hx (pc' := 212) rfl (hb hby at_211) (v := (1 : Int32)) rfl ?_
        refine Go.goto X75 hx (pc' := 216) (hb hby at_212) (by decide) (by decide) ?_
        have C76 : CHr Z EL0 s.vm s.heap T75.vm h75 := (C72.trans C75)
        refine Go.retNW X75 hx hlk Z75 (own_EW hw) e75 S75 (Nat.le_refl _) C76 (t := .boolean) hret (by simp) (hb hby at_216) (by decide) (by decide) (fun hat => ?_)
        exact ⟨rfl, (Fr.app (Fr.app N34 N47) N75_1)⟩
  · refine Go.iload X7 hx (pc' := 35) rfl (hb hby at_33) rfl ?_
    refine Go.ifYes X7 hx (pc' := 46) (hb hby at_35) (by decide) (by decide) (by decide) ?_
    refine Go.iload X7 hx (pc' := 48) rfl (hb hby at_46) rfl ?_
    refine Go.iconst X7 hx (pc' := 49) rfl (hb hby at_48) (v := (1 : Int32)) rfl ?_
    refine Go.icmpYes X7 hx (pc' := 65) (hb hby at_49) (by decide) (by decide) (by decide) ?_
    refine Go.iload X7 hx (pc' := 67) rfl (hb hby at_65) rfl ?_
    refine Go.iconst X7 hx (pc' := 68) rfl (hb hby at_67) (v := (2 : Int32)) rfl ?_
    refine Go.icmpNo X7 hx (pc' := 71) rfl (hb hby at_68) (by decide) ?_
    refine Go.iconst X7 hx (pc' := 72) rfl (hb hby at_71) (v := (2 : Int32)) rfl ?_
    refine Go.newarray X7 hx hZ (ty := .char) rfl (tw_5 hw) e7 (by decide) (cap := 2) (by decide) (by decide) (by decide) (by decide) (ad := "[C") (by decide) 2 (pc' := 74) rfl (hb hby at_72) ?_
    intro T77 h77 b77 k77 e77 E77 g77 V77 A77 X77
    have V77' : Arv Z h77 b77 k77 .char (2 : Int32) [(.int 0), (.int 0)] (.int 0) := V77
    refine Go.dup X77 hx (pc' := 75) rfl (hb hby at_74) rfl ?_
    refine Go.iconst X77 hx (pc' := 76) rfl (hb hby at_75) (v := (0 : Int32)) rfl ?_
    refine Go.iload X77 hx (pc' := 78) rfl (hb hby at_76) rfl ?_
    have sz79 : h0.size ≤ b77 := Nat.le_trans (Keep.refl h0 []).1 (Nat.le_of_eq g77.symm)
    have ge78 : n0 ≤ b77 := Nat.le_trans Z0 sz79
    refine Go.castore X77 hx hZ e77 V77' z4_0 (own_nar_char w4 (by decide) (by decide)) ⟨by decide, by decide⟩ 0 rfl (Nat.le_of_ble_eq_true rfl) (pc' := 79) rfl (hb hby at_78) ?_
    intro T80 h80 e80 W80 V80 X80
    have N80 := Fr.snoc X80 (Fr.app (Fr.app (Fr.app (Fr.app (Fr.nil n0) N4) N5) N6) N7) ge78
    refine Go.dup X80 hx (pc' := 80) rfl (hb hby at_79) rfl ?_
    refine Go.iconst X80 hx (pc' := 81) rfl (hb hby at_80) (v := (1 : Int32)) rfl ?_
    refine Go.iload X80 hx (pc' := 83) rfl (hb hby at_81) rfl ?_
    refine Go.castore X80 hx hZ e80 V80 z5_0 (own_nar_char w5 (by decide) (by decide)) ⟨by decide, by decide⟩ 1 rfl (Nat.le_of_ble_eq_true rfl) (pc' := 84) rfl (hb hby at_83) ?_
    intro T81 h81 e81 W81 V81 X81
    have N81 := Fr.snoc X81 N80 ge78
    refine Go.astore X81 hx (pc' := 86) rfl (hb hby at_84) (Ls' := #[.val (.int p0), .val (.int p1), .val (.int p2), .val (.int p3), .val (.int p4), .val (.int 2), .val (.int z4_0), .val (.int z5_0), .val (.int z6_0), .val (.int z7_0), .val (.ref b77), .unset, .unset]) rfl rfl ?_
    refine Go.goto X81 hx (pc' := 143) (hb hby at_86) (by decide) (by decide) ?_
    refine Go.new X81 hx hZ hown (tw_6 hw) (tw_7 hw) (tw_8 hw) e81 (by decide) (by decide) (pc' := 146) rfl (hb hby at_143) ?_
    intro T82 h82 b82 e82 E82 g82 A82 D82 X82
    have b82_value : Fld Z h82 b82 "java/lang/String" "value" "[B" .null := D82 (Or.inr (tw_21 hw)) (ty := (.array .byte)) (by decide)
    have b82_coder : Fld Z h82 b82 "java/lang/String" "coder" "B" (.int 0) := D82 (Or.inr (tw_22 hw)) (ty := .byte) (by decide)
    refine Go.dup X82 hx (pc' := 147) rfl (hb hby at_146) rfl ?_
    refine Go.aload X82 hx (pc' := 149) rfl (hb hby at_147) rfl rfl ?_
    have Kp84 : Keep h0 h77 [] := ((Keep.refl h0 []).ext E77)
    have Kp85 : Keep h0 h80 [] := (Kp84.wr W80 (Or.inr sz79))
    have Kp86 : Keep h0 h81 [] := (Kp85.wr W81 (Or.inr sz79))
    have Kp87 : Keep h0 h82 [] := (Kp86.ext E82)
    have Zn83 : n0 ≤ h82.size := Nat.le_trans Z0 Kp87.1
    have O88 := (O0.ext E77)
    have O89 := (O88.wr W80 ge78)
    have O90 := (O89.wr W81 ge78)
    have O91 := (O90.ext E82)
    have V92 : Arv Z h81 b77 k77 .char (2 : Int32) [(.int z4_0), (.int z5_0)] (.int 0) := V81
    have fk93 := (V92.ext E82)
    have sz95 : h0.size ≤ b82 := Nat.le_trans Kp86.1 (Nat.le_of_eq g82.symm)
    have ge94 : n0 ≤ b82 := Nat.le_trans Z0 sz95
    refine Go.callN X82 hx hZ hown rfl (tw_9 hw) (tw_10 hw) (tw_11 hw) (by decide) (tw_11 hw) (tw_8 hw) (au_35 l Z a0 hw b82 b77 k77 z4_0 z5_0 gz1 gv5 h82 n0 Zn83 O91 G A82 b82_coder b82_value fk93 w4 w5 ge94) e82 (a := b82) (argsL := [(.ref b77)]) (rest := [(.ref b82)]) (pc' := 152) rfl (by rw [hml]; rfl) (lenOf pd_2 rfl) rfl rfl (W := 1) (Nat.le_of_eq rfl) (by decide) (by decide) (by decide) (by decide) (hb hby at_149) ?_
    intro v96 T96 L96 q96 X96
    obtain ⟨h96, e96⟩ : ∃ z, T96.heap = z := ⟨_, rfl⟩
    rw [e96] at q96
    obtain ⟨z96_0, z96_1, b96_0, k96_0, d96_0, d96_1, rfl, N96, K96, s96_0, F96_0, F96_1, F96_2, F96_3, F96_4⟩ := q96
    show Go _ _ _ _ (T96.setTop (mkF m 152 #[.val (.int p0), .val (.int p1), .val (.int p2), .val (.int p3), .val (.int p4), .val (.int 2), .val (.int z4_0), .val (.int z5_0), .val (.int z6_0), .val (.int z7_0), .val (.ref b77), .unset, .unset] [(.ref b82)]))
    refine Go.astore X96 hx (pc' := 154) rfl (hb hby at_152) (Ls' := #[.val (.int p0), .val (.int p1), .val (.int p2), .val (.int p3), .val (.int p4), .val (.int 2), .val (.int z4_0), .val (.int z5_0), .val (.int z6_0), .val (.int z7_0), .val (.ref b77), .val (.ref b82), .unset]) rfl rfl ?_
    refine Go.iload X96 hx (pc' := 156) rfl (hb hby at_154) rfl ?_
    refine Go.iconst X96 hx (pc' := 157) rfl (hb hby at_156) (v := (1 : Int32)) rfl ?_
    refine Go.icmpYes X96 hx (pc' := 167) (hb hby at_157) (by decide) (by decide) (by decide) ?_
    refine Go.iload X96 hx (pc' := 169) rfl (hb hby at_167) rfl ?_
    refine Go.iconst X96 hx (pc' := 170) rfl (hb hby at_169) (v := (3 : Int32)) rfl ?_
    refine Go.icmpYes X96 hx (pc' := 198) (hb hby at_170) (by decide) (by decide) (by decide) ?_
    refine Go.iconst X96 hx (pc' := 199) rfl (hb hby at_198) (v := (0 : Int32)) rfl ?_
    refine Go.istore X96 hx (pc' := 201) rfl (hb hby at_199) (Ls' := #[.val (.int p0), .val (.int p1), .val (.int p2), .val (.int p3), .val (.int p4), .val (.int 2), .val (.int z4_0), .val (.int z5_0), .val (.int z6_0), .val (.int z7_0), .val (.ref b77), .val (.ref b82), .val (.int 0)]) rfl ?_
    refine Go.aload X96 hx (pc' := 203) rfl (hb hby at_201) rfl rfl ?_
    have r97 : -128 ≤ z96_0.toInt ∧ z96_0.toInt ≤ 127 := own_ri2b d96_0
    have r98 : -128 ≤ z96_1.toInt ∧ z96_1.toInt ≤ 127 := own_ri2b d96_1
    have Kp100 : Keep h0 h96 [] := (Kp87.trans K96 (allS (Or.inr sz95) all0))
    have Zn99 : n0 ≤ h96.size := Nat.le_trans Z0 Kp100.1
    have O101 := (O91.keep K96 (allS ge94 all0))
    have C102 : CHr Z EL0 s.vm s.heap s.vm h77 := (C0.trans (CHr.ext E77 C0.1))
    have fk103 : Safe Z EL0 s.vm h77 b77 := (Safe.ext E77 C0.1 (Safe.new (Nat.le_of_eq g77.symm) : Safe Z EL0 s.vm h0 b77))
    have C104 : CHr Z EL0 s.vm s.heap s.vm h80 := (C102.trans (CHr.wr W80 fk103 C102.1))
    have fk105 : Safe Z EL0 s.vm h80 b77 := (Safe.wr W80 fk103 C102.1 fk103)
    have C106 : CHr Z EL0 s.vm s.heap s.vm h81 := (C104.trans (CHr.wr W81 fk105 C104.1))
    have C107 : CHr Z EL0 s.vm s.heap s.vm h82 := (C106.trans (CHr.ext E82 C106.1))
    have fk108 : Safe Z EL0 s.vm h82 b82 := (Safe.ext E82 C106.1 (Safe.new (Nat.le_of_eq g82.symm) : Safe Z EL0 s.vm h81 b82))
    have C109 : CHr Z EL0 s.vm s.heap s.vm h96 := (C107.trans (CHr.keep K96 (sfS fk108 sf0) C107.1))
    have fk110 : Safe Z EL0 s.vm h96 b82 := (Safe.keep K96 (sfS fk108 sf0) C107.1 fk108)
    have hk111 := (Nat.le_trans (Nat.le_trans (Nat.le_trans (Nat.le_trans (Nat.le_trans (Nat.le_refl _) E77.1) (Keep.of_wr W80).1) (Keep.of_wr W81).1) E82.1) K96.1)
    refine Go.callSW X96 hx hZ hown (tw_27 hw) (tw_28 hw) (tw_29 hw) (tw_30 hw) (by decide) (tw_30 hw) (tw_29 hw) (au_41 l Z a0 hw b82 b96_0 k96_0 z96_0 z96_1 gz1 gv5 h96 n0 Zn99 O101 G F96_0 F96_1 F96_2 F96_3) (own_EW hw) C109.1 (allS ⟨F96_0.lt, fk110⟩ all0) hS0 hk111 e96 (argsL := [(.ref b82)]) (rest := []) (pc' := 206) rfl (by rw [hml]; rfl) (lenOf pd_16 rfl) rfl rfl (W := 0) (Nat.le_of_eq rfl) (by decide) (by decide) (by decide) (by decide) (hb hby at_203) ?_
    intro v112 T112 L112 h112 e112 q112 C112 S112 Z112 O112 X112
    obtain ⟨rfl, N112, K112⟩ := q112
    show Go _ _ _ _ (T112.setTop (mkF m 206 #[.val (.int p0), .val (.int p1), .val (.int p2), .val (.int p3), .val (.int p4), .val (.int 2), .val (.int z4_0), .val (.int z5_0), .val (.int z6_0), .val (.int z7_0), .val (.ref b77), .val (.ref b82), .val (.int 0)] [(.int 0)]))
    refine Go.iload X112 hx (pc' := 208) rfl (hb hby at_206) rfl ?_
    refine Go.icmpNo X112 hx (pc' := 211) rfl (hb hby at_208) (by decide) ?_
    refine Go.iconst X112 hx (pc' := 212) rfl (hb hby at_211) (v := (1 : Int32)) rfl ?_
    refine Go.goto X112 hx (pc' := 216) (hb hby at_212) (by decide) (by decide) ?_
    have C113 : CHr Z EL0 s.vm s.heap T112.vm h112 := (C109.trans C112)
    refine Go.retNW X112 hx hlk Z112 (own_EW hw) e112 S112 (Nat.le_refl _) C113 (t := .boolean) hret (by simp) (hb hby at_216) (by decide) (by decide) (fun hat => ?_)
    exact ⟨rfl, (Fr.app (Fr.app N81 N96) N112)⟩
  · refine Go.iload X7 hx (pc' := 35) rfl (hb hby at_33) rfl ?_
    refine Go.ifYes X7 hx (pc' := 46) (hb hby at_35) (by decide) (by decide) (by decide) ?_
    refine Go.iload X7 hx (pc' := 48) rfl (hb hby at_46) rfl ?_
    refine Go.iconst X7 hx (pc' := 49) rfl (hb hby at_48) (v := (1 : Int32)) rfl ?_
    refine Go.icmpYes X7 hx (pc' := 65) (hb hby at_49) (by decide) (by decide) (by decide) ?_
    refine Go.iload X7 hx (pc' := 67) rfl (hb hby at_65) rfl ?_
    refine Go.iconst X7 hx (pc' := 68) rfl (hb hby at_67) (v := (2 : Int32)) rfl ?_
    refine Go.icmpYes X7 hx (pc' := 89) (hb hby at_68) (by decide) (by decide) (by decide) ?_
    refine Go.iload X7 hx (pc' := 91) rfl (hb hby at_89) rfl ?_
    refine Go.iconst X7 hx (pc' := 92) rfl (hb hby at_91) (v := (3 : Int32)) rfl ?_
    refine Go.icmpNo X7 hx (pc' := 95) rfl (hb hby at_92) (by decide) ?_
    refine Go.iconst X7 hx (pc' := 96) rfl (hb hby at_95) (v := (3 : Int32)) rfl ?_
    refine Go.newarray X7 hx hZ (ty := .char) rfl (tw_5 hw) e7 (by decide) (cap := 3) (by decide) (by decide) (by decide) (by decide) (ad := "[C") (by decide) 3 (pc' := 98) rfl (hb hby at_96) ?_
    intro T114 h114 b114 k114 e114 E114 g114 V114 A114 X114
    have V114' : Arv Z h114 b114 k114 .char (3 : Int32) [(.int 0), (.int 0), (.int 0)] (.int 0) := V114
    refine Go.dup X114 hx (pc' := 99) rfl (hb hby at_98) rfl ?_
    refine Go.iconst X114 hx (pc' := 100) rfl (hb hby at_99) (v := (0 : Int32)) rfl ?_
    refine Go.iload X114 hx (pc' := 102) rfl (hb hby at_100) rfl ?_
    have sz116 : h0.size ≤ b114 := Nat.le_trans (Keep.refl h0 []).1 (Nat.le_of_eq g114.symm)
    have ge115 : n0 ≤ b114 := Nat.le_trans Z0 sz116
    refine Go.castore X114 hx hZ e114 V114' z4_0 (own_nar_char w4 (by decide) (by decide)) ⟨by decide, by decide⟩ 0 rfl (Nat.le_of_ble_eq_true rfl) (pc' := 103) rfl (hb hby at_102) ?_
    intro T117 h117 e117 W117 V117 X117
    have N117 := Fr.snoc X117 (Fr.app (Fr.app (Fr.app (Fr.app (Fr.nil n0) N4) N5) N6) N7) ge115
    refine Go.dup X117 hx (pc' := 104) rfl (hb hby at_103) rfl ?_
    refine Go.iconst X117 hx (pc' := 105) rfl (hb hby at_104) (v := (1 : Int32)) rfl ?_
    refine Go.iload X117 hx (pc' := 107) rfl (hb hby at_105) rfl ?_
    refine Go.castore X117 hx hZ e117 V117 z5_0 (own_nar_char w5 (by decide) (by decide)) ⟨by decide, by decide⟩ 1 rfl (Nat.le_of_ble_eq_true rfl) (pc' := 108) rfl (hb hby at_107) ?_
    intro T118 h118 e118 W118 V118 X118
    have N118 := Fr.snoc X118 N117 ge115
    refine Go.dup X118 hx (pc' := 109) rfl (hb hby at_108) rfl ?_
    refine Go.iconst X118 hx (pc' := 110) rfl (hb hby at_109) (v := (2 : Int32)) rfl ?_
    refine Go.iload X118 hx (pc' := 112) rfl (hb hby at_110) rfl ?_
    refine Go.castore X118 hx hZ e118 V118 z6_0 (own_nar_char w6 (by decide) (by decide)) ⟨by decide, by decide⟩ 2 rfl (Nat.le_of_ble_eq_true rfl) (pc' := 113) rfl (hb hby at_112) ?_
    intro T119 h119 e119 W119 V119 X119
    have N119 := Fr.snoc X119 N118 ge115
    refine Go.astore X119 hx (pc' := 115) rfl (hb hby at_113) (Ls' := #[.val (.int p0), .val (.int p1), .val (.int p2), .val (.int p3), .val (.int p4), .val (.int 3), .val (.int z4_0), .val (.int z5_0), .val (.int z6_0), .val (.int z7_0), .val (.ref b114), .unset, .unset]) rfl rfl ?_
    refine Go.goto X119 hx (pc' := 143) (hb hby at_115) (by decide) (by decide) ?_
    refine Go.new X119 hx hZ hown (tw_6 hw) (tw_7 hw) (tw_8 hw) e119 (by decide) (by decide) (pc' := 146) rfl (hb hby at_143) ?_
    intro T120 h120 b120 e120 E120 g120 A120 D120 X120
    have b120_value : Fld Z h120 b120 "java/lang/String" "value" "[B" .null := D120 (Or.inr (tw_21 hw)) (ty := (.array .byte)) (by decide)
    have b120_coder : Fld Z h120 b120 "java/lang/String" "coder" "B" (.int 0) := D120 (Or.inr (tw_22 hw)) (ty := .byte) (by decide)
    refine Go.dup X120 hx (pc' := 147) rfl (hb hby at_146) rfl ?_
    refine Go.aload X120 hx (pc' := 149) rfl (hb hby at_147) rfl rfl ?_
    have Kp122 : Keep h0 h114 [] := ((Keep.refl h0 []).ext E114)
    have Kp123 : Keep h0 h117 [] := (Kp122.wr W117 (Or.inr sz116))
    have Kp124 : Keep h0 h118 [] := (Kp123.wr W118 (Or.inr sz116))
    have Kp125 : Keep h0 h119 [] := (Kp124.wr W119 (Or.inr sz116))
    have Kp126 : Keep h0 h120 [] := (Kp125.ext E120)
    have Zn121 : n0 ≤ h120.size := Nat.le_trans Z0 Kp126.1
    have O127 := (O0.ext E114)
    have O128 := (O127.wr W117 ge115)
    have O129 := (O128.wr W118 ge115)
    have O130 := (O129.wr W119 ge115)
    have O131 := (O130.ext E120)
    have V132 : Arv Z h119 b114 k114 .char (3 : Int32) [(.int z4_0), (.int z5_0), (.int z6_0)] (.int 0) := V119
    have fk133 := (V132.ext E120)
    have sz135 : h0.size ≤ b120 := Nat.le_trans Kp125.1 (Nat.le_of_eq g120.symm)
    have ge134 : n0 ≤ b120 := Nat.le_trans Z0 sz135
    refine Go.callN X120 hx hZ hown rfl (tw_9 hw) (tw_10 hw) (tw_11 hw) (by decide) (tw_11 hw) (tw_8 hw) (au_46 l Z a0 hw b120 b114 k114 z4_0 z5_0 z6_0 gz1 gv5 h120 n0 Zn121 O131 G A120 b120_coder b120_value fk133 w4 w5 w6 ge134) e120 (a := b120) (argsL := [(.ref b114)]) (rest := [(.ref b120)]) (pc' := 152) rfl (by rw [hml]; rfl) (lenOf pd_2 rfl) rfl rfl (W := 1) (Nat.le_of_eq rfl) (by decide) (by decide) (by decide) (by decide) (hb hby at_149) ?_
    intro v136 T136 L136 q136 X136
    obtain ⟨h136, e136⟩ : ∃ z, T136.heap = z := ⟨_, rfl⟩
    rw [e136] at q136
    obtain ⟨z136_0, z136_1, z136_2, b136_0, k136_0, d136_0, d136_1, d136_2, rfl, N136, K136, s136_0, F136_0, F136_1, F136_2, F136_3, F136_4⟩ := q136
    show Go _ _ _ _ (T136.setTop (mkF m 152 #[.val (.int p0), .val (.int p1), .val (.int p2), .val (.int p3), .val (.int p4), .val (.int 3), .val (.int z4_0), .val (.int z5_0), .val (.int z6_0), .val (.int z7_0), .val (.ref b114), .unset, .unset] [(.ref b120)]))
    refine Go.astore X136 hx (pc' := 154) rfl (hb hby at_152) (Ls' := #[.val (.int p0), .val (.int p1), .val (.int p2), .val (.int p3), .val (.int p4), .val (.int 3), .val (.int z4_0), .val (.int z5_0), .val (.int z6_0), .val (.int z7_0), .val (.ref b114), .val (.ref b120), .unset]) rfl rfl ?_
    refine Go.iload X136 hx (pc' := 156) rfl (hb hby at_154) rfl ?_
    refine Go.iconst X136 hx (pc' := 157) rfl (hb hby at_156) (v := (1 : Int32)) rfl ?_
    refine Go.icmpYes X136 hx (pc' := 167) (hb hby at_157) (by decide) (by decide) (by decide) ?_
    refine Go.iload X136 hx (pc' := 169) rfl (hb hby at_167) rfl ?_
    refine Go.iconst X136 hx (pc' := 170) rfl (hb hby at_169) (v := (3 : Int32)) rfl ?_
    refine Go.icmpNo X136 hx (pc' := 173) rfl (hb hby at_170) (by decide) ?_
    refine Go.iload X136 hx (pc' := 175) rfl (hb hby at_173) rfl ?_
    refine Go.bipush X136 hx (pc' := 177) rfl (hb hby at_175) (v := (47 : Int32)) (by decide) ?_
    by_cases hc137 : z4_0 = (47 : Int32)
    · refine Go.icmpNo X136 hx (pc' := 180) rfl (hb hby at_177) (teq hc137).2 ?_
      refine Go.iload X136 hx (pc' := 182) rfl (hb hby at_180) rfl ?_
      refine Go.bipush X136 hx (pc' := 184) rfl (hb hby at_182) (v := (117 : Int32)) (by decide) ?_
      by_cases hc138 : z5_0 = (117 : Int32)
      · refine Go.icmpNo X136 hx (pc' := 187) rfl (hb hby at_184) (teq hc138).2 ?_
        refine Go.iload X136 hx (pc' := 189) rfl (hb hby at_187) rfl ?_
        refine Go.bipush X136 hx (pc' := 191) rfl (hb hby at_189) (v := (105 : Int32)) (by decide) ?_
        by_cases hc139 : z6_0 = (105 : Int32)
        · refine Go.icmpNo X136 hx (pc' := 194) rfl (hb hby at_191) (teq hc139).2 ?_
          refine Go.iconst X136 hx (pc' := 195) rfl (hb hby at_194) (v := (1 : Int32)) rfl ?_
          refine Go.goto X136 hx (pc' := 199) (hb hby at_195) (by decide) (by decide) ?_
          refine Go.istore X136 hx (pc' := 201) rfl (hb hby at_199) (Ls' := #[.val (.int p0), .val (.int p1), .val (.int p2), .val (.int p3), .val (.int p4), .val (.int 3), .val (.int z4_0), .val (.int z5_0), .val (.int z6_0), .val (.int z7_0), .val (.ref b114), .val (.ref b120), .val (.int 1)]) rfl ?_
          refine Go.aload X136 hx (pc' := 203) rfl (hb hby at_201) rfl rfl ?_
          have r140 : -128 ≤ z136_0.toInt ∧ z136_0.toInt ≤ 127 := own_ri2b d136_0
          have r141 : -128 ≤ z136_1.toInt ∧ z136_1.toInt ≤ 127 := own_ri2b d136_1
          have r142 : -128 ≤ z136_2.toInt ∧ z136_2.toInt ≤ 127 := own_ri2b d136_2
          have Kp144 : Keep h0 h136 [] := (Kp126.trans K136 (allS (Or.inr sz135) all0))
          have Zn143 : n0 ≤ h136.size := Nat.le_trans Z0 Kp144.1
          have O145 := (O131.keep K136 (allS ge134 all0))
          have C146 : CHr Z EL0 s.vm s.heap s.vm h114 := (C0.trans (CHr.ext E114 C0.1))
          have fk147 : Safe Z EL0 s.vm h114 b114 := (Safe.ext E114 C0.1 (Safe.new (Nat.le_of_eq g114.symm) : Safe Z EL0 s.vm h0 b114))
          have C148 : CHr Z EL0 s.vm s.heap s.vm h117 := (C146.trans (CHr.wr W117 fk147 C146.1))
          have fk149 : Safe Z EL0 s.vm h117 b114 := (Safe.wr W117 fk147 C146.1 fk147)
          have C150 : CHr Z EL0 s.vm s.heap s.vm h118 := (C148.trans (CHr.wr W118 fk149 C148.1))
          have fk151 : Safe Z EL0 s.vm h118 b114 := (Safe.wr W118 fk149 C148.1 fk149)
          have C152 : CHr Z EL0 s.vm s.heap s.vm h119 := (C150.trans (CHr.wr W119 fk151 C150.1))
          have C153 : CHr Z EL0 s.vm s.heap s.vm h120 := (C152.trans (CHr.ext E120 C152.1))
          have fk154 : Safe Z EL0 s.vm h120 b120 := (Safe.ext E120 C152.1 (Safe.new (Nat.le_of_eq g120.symm) : Safe Z EL0 s.vm h119 b120))
          have C155 : CHr Z EL0 s.vm s.heap s.vm h136 := (C153.trans (CHr.keep K136 (sfS fk154 sf0) C153.1))
          have fk156 : Safe Z EL0 s.vm h136 b120 := (Safe.keep K136 (sfS fk154 sf0) C153.1 fk154)
          have hk157 := (Nat.le_trans (Nat.le_trans (Nat.le_trans (Nat.le_trans (Nat.le_trans (Nat.le_trans (Nat.le_refl _) E114.1) (Keep.of_wr W117).1) (Keep.of_wr W118).1) (Keep.of_wr W119).1) E120.1) K136.1)
          refine Go.callSW X136 hx hZ hown (tw_27 hw) (tw_28 hw) (tw_29 hw) (tw_30 hw) (by decide) (tw_30 hw) (tw_29 hw) (au_52 l Z a0 hw b120 b136_0 k136_0 z136_0 z136_1 z136_2 z4_0 z5_0 z6_0 gz1 gv5 h136 n0 Zn143 O145 G F136_0 F136_1 F136_2 F136_3 w4 w5 w6 d136_0 d136_1 d136_2) (own_EW hw) C155.1 (allS ⟨F136_0.lt, fk156⟩ all0) hS0 hk157 e136 (argsL := [(.ref b120)]) (rest := []) (pc' := 206) rfl (by rw [hml]; rfl) (lenOf pd_16 rfl) rfl rfl (W := 0) (Nat.le_of_eq rfl) (by decide) (by decide) (by decide) (by decide) (hb hby at_203) ?_
          intro v158 T158 L158 h158 e158 q158 C158 S158 Z158 O158 X158
          rcases q158 with ⟨c158_0_0, c158_0_1, c158_0_2, rfl, N158_0, K158_0⟩ | ⟨c158_1_0, c158_1_1, c158_1_2, rfl, N158_1, K158_1⟩ | ⟨c158_2_0, c158_2_1, rfl, N158_2, K158_2⟩ | ⟨c158_3_0, rfl, N158_3, K158_3⟩
          · show Go _ _ _ _ (T158.setTop (mkF m 206 #[.val (.int p0), .val (.int p1), .val (.int p2), .val (.int p3), .val (.int p4), .val (.int 3), .val (.int z4_0), .val (.int z5_0), .val (.int z6_0), .val (.int z7_0), .val (.ref b114), .val (.ref b120), .val (.int 1)] [(.int 1)]))
            refine Go.iload X158 hx (pc' := 208) rfl (hb hby at_206) rfl ?_
            refine Go.icmpNo X158 hx (pc' := 211) rfl (hb hby at_208) (by decide) ?_
            refine Go.iconst X158 hx (pc' := 212) rfl (hb hby at_211) (v := (1 : Int32)) rfl ?_
            refine Go.goto X158 hx (pc' := 216) (hb hby at_212) (by decide) (by decide) ?_
            have C159 : CHr Z EL0 s.vm s.heap T158.vm h158 := (C155.trans C158)
            refine Go.retNW X158 hx hlk Z158 (own_EW hw) e158 S158 (Nat.le_refl _) C159 (t := .boolean) hret (by simp) (hb hby at_216) (by decide) (by decide) (fun hat => ?_)
            exact ⟨rfl, (Fr.app (Fr.app N119 N136) N158_0)⟩
          · exact absurd hc139 c158_1_2
          · exact absurd hc138 c158_2_1
          · exact absurd hc137 c158_3_0
        · refine Go.icmpYes X136 hx (pc' := 198) (hb hby at_191) (feq hc139).2 (by decide) (by decide) ?_
          refine Go.iconst X136 hx (pc' := 199) rfl (hb hby at_198) (v := (0 : Int32)) rfl ?_
          refine Go.istore X136 hx (pc' := 201) rfl (hb hby at_199) (Ls' := #[.val (.int p0), .val (.int p1), .val (.int p2), .val (.int p3), .val (.int p4), .val (.int 3), .val (.int z4_0), .val (.int z5_0), .val (.int z6_0), .val (.int z7_0), .val (.ref b114), .val (.ref b120), .val (.int 0)]) rfl ?_
          refine Go.aload X136 hx (pc' := 203) rfl (hb hby at_201) rfl rfl ?_
          have r160 : -128 ≤ z136_0.toInt ∧ z136_0.toInt ≤ 127 := own_ri2b d136_0
          have r161 : -128 ≤ z136_1.toInt ∧ z136_1.toInt ≤ 127 := own_ri2b d136_1
          have r162 : -128 ≤ z136_2.toInt ∧ z136_2.toInt ≤ 127 := own_ri2b d136_2
          have Kp164 : Keep h0 h136 [] := (Kp126.trans K136 (allS (Or.inr sz135) all0))
          have Zn163 : n0 ≤ h136.size := Nat.le_trans Z0 Kp164.1
          have O165 := (O131.keep K136 (allS ge134 all0))
          have C166 : CHr Z EL0 s.vm s.heap s.vm h114 := (C0.trans (CHr.ext E114 C0.1))
          have fk167 : Safe Z EL0 s.vm h114 b114 := (Safe.ext E114 C0.1 (Safe.new (Nat.le_of_eq g114.symm) : Safe Z EL0 s.vm h0 b114))
          have C168 : CHr Z EL0 s.vm s.heap s.vm h117 := (C166.trans (CHr.wr W117 fk167 C166.1))
          have fk169 : Safe Z EL0 s.vm h117 b114 := (Safe.wr W117 fk167 C166.1 fk167)
          have C170 : CHr Z EL0 s.vm s.heap s.vm h118 := (C168.trans (CHr.wr W118 fk169 C168.1))
          have fk171 : Safe Z EL0 s.vm h118 b114 := (Safe.wr W118 fk169 C168.1 fk169)
          have C172 : CHr Z EL0 s.vm s.heap s.vm h119 := (C170.trans (CHr.wr W119 fk171 C170.1))
          have C173 : CHr Z EL0 s.vm s.heap s.vm h120 := (C172.trans (CHr.ext E120 C172.1))
          have fk174 : Safe Z EL0 s.vm h120 b120 := (Safe.ext E120 C172.1 (Safe.new (Nat.le_of_eq g120.symm) : Safe Z EL0 s.vm h119 b120))
          have C175 : CHr Z EL0 s.vm s.heap s.vm h136 := (C173.trans (CHr.keep K136 (sfS fk174 sf0) C173.1))
          have fk176 : Safe Z EL0 s.vm h136 b120 := (Safe.keep K136 (sfS fk174 sf0) C173.1 fk174)
          have hk177 := (Nat.le_trans (Nat.le_trans (Nat.le_trans (Nat.le_trans (Nat.le_trans (Nat.le_trans (Nat.le_refl _) E114.1) (Keep.of_wr W117).1) (Keep.of_wr W118).1) (Keep.of_wr W119).1) E120.1) K136.1)
          refine Go.callSW X136 hx hZ hown (tw_27 hw) (tw_28 hw) (tw_29 hw) (tw_30 hw) (by decide) (tw_30 hw) (tw_29 hw) (au_52 l Z a0 hw b120 b136_0 k136_0 z136_0 z136_1 z136_2 z4_0 z5_0 z6_0 gz1 gv5 h136 n0 Zn163 O165 G F136_0 F136_1 F136_2 F136_3 w4 w5 w6 d136_0 d136_1 d136_2) (own_EW hw) C175.1 (allS ⟨F136_0.lt, fk176⟩ all0) hS0 hk177 e136 (argsL := [(.ref b120)]) (rest := []) (pc' := 206) rfl (by rw [hml]; rfl) (lenOf pd_16 rfl) rfl rfl (W := 0) (Nat.le_of_eq rfl) (by decide) (by decide) (by decide) (by decide) (hb hby at_203) ?_
          intro v178 T178 L178 h178 e178 q178 C178 S178 Z178 O178 X178
          rcases q178 with ⟨c178_0_0, c178_0_1, c178_0_2, rfl, N178_0, K178_0⟩ | ⟨c178_1_0, c178_1_1, c178_1_2, rfl, N178_1, K178_1⟩ | ⟨c178_2_0, c178_2_1, rfl, N178_2, K178_2⟩ | ⟨c178_3_0, rfl, N178_3, K178_3⟩
          · exact absurd c178_0_2 hc139
          · show Go _ _ _ _ (T178.setTop (mkF m 206 #[.val (.int p0), .val (.int p1), .val (.int p2), .val (.int p3), .val (.int p4), .val (.int 3), .val (.int z4_0), .val (.int z5_0), .val (.int z6_0), .val (.int z7_0), .val (.ref b114), .val (.ref b120), .val (.int 0)] [(.int 0)]))
            refine Go.iload X178 hx (pc' := 208) rfl (hb hby at_206) rfl ?_
            refine Go.icmpNo X178 hx (pc' := 211) rfl (hb hby at_208) (by decide) ?_
            refine Go.iconst X178 hx (pc' := 212) rfl (hb hby at_211) (v := (1 : Int32)) rfl ?_
            refine Go.goto X178 hx (pc' := 216) (hb hby at_212) (by decide) (by decide) ?_
            have C179 : CHr Z EL0 s.vm s.heap T178.vm h178 := (C175.trans C178)
            refine Go.retNW X178 hx hlk Z178 (own_EW hw) e178 S178 (Nat.le_refl _) C179 (t := .boolean) hret (by simp) (hb hby at_216) (by decide) (by decide) (fun hat => ?_)
            exact ⟨rfl, (Fr.app (Fr.app N119 N136) N178_1)⟩
          · exact absurd hc138 c178_2_1
          · exact absurd hc137 c178_3_0
      · refine Go.icmpYes X136 hx (pc' := 198) (hb hby at_184) (feq hc138).2 (by decide) (by decide) ?_
        refine Go.iconst X136 hx (pc' := 199) rfl (hb hby at_198) (v := (0 : Int32)) rfl ?_
        refine Go.istore X136 hx (pc' := 201) rfl (hb hby at_199) (Ls' := #[.val (.int p0), .val (.int p1), .val (.int p2), .val (.int p3), .val (.int p4), .val (.int 3), .val (.int z4_0), .val (.int z5_0), .val (.int z6_0), .val (.int z7_0), .val (.ref b114), .val (.ref b120), .val (.int 0)]) rfl ?_
        refine Go.aload X136 hx (pc' := 203) rfl (hb hby at_201) rfl rfl ?_
        have r180 : -128 ≤ z136_0.toInt ∧ z136_0.toInt ≤ 127 := own_ri2b d136_0
        have r181 : -128 ≤ z136_1.toInt ∧ z136_1.toInt ≤ 127 := own_ri2b d136_1
        have r182 : -128 ≤ z136_2.toInt ∧ z136_2.toInt ≤ 127 := own_ri2b d136_2
        have Kp184 : Keep h0 h136 [] := (Kp126.trans K136 (allS (Or.inr sz135) all0))
        have Zn183 : n0 ≤ h136.size := Nat.le_trans Z0 Kp184.1
        have O185 := (O131.keep K136 (allS ge134 all0))
        have C186 : CHr Z EL0 s.vm s.heap s.vm h114 := (C0.trans (CHr.ext E114 C0.1))
        have fk187 : Safe Z EL0 s.vm h114 b114 := (Safe.ext E114 C0.1 (Safe.new (Nat.le_of_eq g114.symm) : Safe Z EL0 s.vm h0 b114))
        have C188 : CHr Z EL0 s.vm s.heap s.vm h117 := (C186.trans (CHr.wr W117 fk187 C186.1))
        have fk189 : Safe Z EL0 s.vm h117 b114 := (Safe.wr W117 fk187 C186.1 fk187)
        have C190 : CHr Z EL0 s.vm s.heap s.vm h118 := (C188.trans (CHr.wr W118 fk189 C188.1))
        have fk191 : Safe Z EL0 s.vm h118 b114 := (Safe.wr W118 fk189 C188.1 fk189)
        have C192 : CHr Z EL0 s.vm s.heap s.vm h119 := (C190.trans (CHr.wr W119 fk191 C190.1))
        have C193 : CHr Z EL0 s.vm s.heap s.vm h120 := (C192.trans (CHr.ext E120 C192.1))
        have fk194 : Safe Z EL0 s.vm h120 b120 := (Safe.ext E120 C192.1 (Safe.new (Nat.le_of_eq g120.symm) : Safe Z EL0 s.vm h119 b120))
        have C195 : CHr Z EL0 s.vm s.heap s.vm h136 := (C193.trans (CHr.keep K136 (sfS fk194 sf0) C193.1))
        have fk196 : Safe Z EL0 s.vm h136 b120 := (Safe.keep K136 (sfS fk194 sf0) C193.1 fk194)
        have hk197 := (Nat.le_trans (Nat.le_trans (Nat.le_trans (Nat.le_trans (Nat.le_trans (Nat.le_trans (Nat.le_refl _) E114.1) (Keep.of_wr W117).1) (Keep.of_wr W118).1) (Keep.of_wr W119).1) E120.1) K136.1)
        refine Go.callSW X136 hx hZ hown (tw_27 hw) (tw_28 hw) (tw_29 hw) (tw_30 hw) (by decide) (tw_30 hw) (tw_29 hw) (au_52 l Z a0 hw b120 b136_0 k136_0 z136_0 z136_1 z136_2 z4_0 z5_0 z6_0 gz1 gv5 h136 n0 Zn183 O185 G F136_0 F136_1 F136_2 F136_3 w4 w5 w6 d136_0 d136_1 d136_2) (own_EW hw) C195.1 (allS ⟨F136_0.lt, fk196⟩ all0) hS0 hk197 e136 (argsL := [(.ref b120)]) (rest := []) (pc' := 206) rfl (by rw [hml]; rfl) (lenOf pd_16 rfl) rfl rfl (W := 0) (Nat.le_of_eq rfl) (by decide) (by decide) (by decide) (by decide) (hb hby at_203) ?_
        intro v198 T198 L198 h198 e198 q198 C198 S198 Z198 O198 X198
        rcases q198 with ⟨c198_0_0, c198_0_1, c198_0_2, rfl, N198_0, K198_0⟩ | ⟨c198_1_0, c198_1_1, c198_1_2, rfl, N198_1, K198_1⟩ | ⟨c198_2_0, c198_2_1, rfl, N198_2, K198_2⟩ | ⟨c198_3_0, rfl, N198_3, K198_3⟩
        · exact absurd c198_0_1 hc138
        · exact absurd c198_1_1 hc138
        · show Go _ _ _ _ (T198.setTop (mkF m 206 #[.val (.int p0), .val (.int p1), .val (.int p2), .val (.int p3), .val (.int p4), .val (.int 3), .val (.int z4_0), .val (.int z5_0), .val (.int z6_0), .val (.int z7_0), .val (.ref b114), .val (.ref b120), .val (.int 0)] [(.int 0)]))
          refine Go.iload X198 hx (pc' := 208) rfl (hb hby at_206) rfl ?_
          refine Go.icmpNo X198 hx (pc' := 211) rfl (hb hby at_208) (by decide) ?_
          refine Go.iconst X198 hx (pc' := 212) rfl (hb hby at_211) (v := (1 : Int32)) rfl ?_
          refine Go.goto X198 hx (pc' := 216) (hb hby at_212) (by decide) (by decide) ?_
          have C199 : CHr Z EL0 s.vm s.heap T198.vm h198 := (C195.trans C198)
          refine Go.retNW X198 hx hlk Z198 (own_EW hw) e198 S198 (Nat.le_refl _) C199 (t := .boolean) hret (by simp) (hb hby at_216) (by decide) (by decide) (fun hat => ?_)
          exact ⟨rfl, (Fr.app (Fr.app N119 N136) N198_2)⟩
        · exact absurd hc137 c198_3_0
    · refine Go.icmpYes X136 hx (pc' := 198) (hb hby at_177) (feq hc137).2 (by decide) (by decide) ?_
      refine Go.iconst X136 hx (pc' := 199) rfl (hb hby at_198) (v := (0 : Int32)) rfl ?_
      refine Go.istore X136 hx (pc' := 201) rfl (hb hby at_199) (Ls' := #[.val (.int p0), .val (.int p1), .val (.int p2), .val (.int p3), .val (.int p4), .val (.int 3), .val (.int z4_0), .val (.int z5_0), .val (.int z6_0), .val (.int z7_0), .val (.ref b114), .val (.ref b120), .val (.int 0)]) rfl ?_
      refine Go.aload X136 hx (pc' := 203) rfl (hb hby at_201) rfl rfl ?_
      have r200 : -128 ≤ z136_0.toInt ∧ z136_0.toInt ≤ 127 := own_ri2b d136_0
      have r201 : -128 ≤ z136_1.toInt ∧ z136_1.toInt ≤ 127 := own_ri2b d136_1
      have r202 : -128 ≤ z136_2.toInt ∧ z136_2.toInt ≤ 127 := own_ri2b d136_2
      have Kp204 : Keep h0 h136 [] := (Kp126.trans K136 (allS (Or.inr sz135) all0))
      have Zn203 : n0 ≤ h136.size := Nat.le_trans Z0 Kp204.1
      have O205 := (O131.keep K136 (allS ge134 all0))
      have C206 : CHr Z EL0 s.vm s.heap s.vm h114 := (C0.trans (CHr.ext E114 C0.1))
      have fk207 : Safe Z EL0 s.vm h114 b114 := (Safe.ext E114 C0.1 (Safe.new (Nat.le_of_eq g114.symm) : Safe Z EL0 s.vm h0 b114))
      have C208 : CHr Z EL0 s.vm s.heap s.vm h117 := (C206.trans (CHr.wr W117 fk207 C206.1))
      have fk209 : Safe Z EL0 s.vm h117 b114 := (Safe.wr W117 fk207 C206.1 fk207)
      have C210 : CHr Z EL0 s.vm s.heap s.vm h118 := (C208.trans (CHr.wr W118 fk209 C208.1))
      have fk211 : Safe Z EL0 s.vm h118 b114 := (Safe.wr W118 fk209 C208.1 fk209)
      have C212 : CHr Z EL0 s.vm s.heap s.vm h119 := (C210.trans (CHr.wr W119 fk211 C210.1))
      have C213 : CHr Z EL0 s.vm s.heap s.vm h120 := (C212.trans (CHr.ext E120 C212.1))
      have fk214 : Safe Z EL0 s.vm h120 b120 := (Safe.ext E120 C212.1 (Safe.new (Nat.le_of_eq g120.symm) : Safe Z EL0 s.vm h119 b120))
      have C215 : CHr Z EL0 s.vm s.heap s.vm h136 := (C213.trans (CHr.keep K136 (sfS fk214 sf0) C213.1))
      have fk216 : Safe Z EL0 s.vm h136 b120 := (Safe.keep K136 (sfS fk214 sf0) C213.1 fk214)
      have hk217 := (Nat.le_trans (Nat.le_trans (Nat.le_trans (Nat.le_trans (Nat.le_trans (Nat.le_trans (Nat.le_refl _) E114.1) (Keep.of_wr W117).1) (Keep.of_wr W118).1) (Keep.of_wr W119).1) E120.1) K136.1)
      refine Go.callSW X136 hx hZ hown (tw_27 hw) (tw_28 hw) (tw_29 hw) (tw_30 hw) (by decide) (tw_30 hw) (tw_29 hw) (au_52 l Z a0 hw b120 b136_0 k136_0 z136_0 z136_1 z136_2 z4_0 z5_0 z6_0 gz1 gv5 h136 n0 Zn203 O205 G F136_0 F136_1 F136_2 F136_3 w4 w5 w6 d136_0 d136_1 d136_2) (own_EW hw) C215.1 (allS ⟨F136_0.lt, fk216⟩ all0) hS0 hk217 e136 (argsL := [(.ref b120)]) (rest := []) (pc' := 206) rfl (by rw [hml]; rfl) (lenOf pd_16 rfl) rfl rfl (W := 0) (Nat.le_of_eq rfl) (by decide) (by decide) (by decide) (by decide) (hb hby at_203) ?_
      intro v218 T218 L218 h218 e218 q218 C218 S218 Z218 O218 X218
      rcases q218 with ⟨c218_0_0, c218_0_1, c218_0_2, rfl, N218_0, K218_0⟩ | ⟨c218_1_0, c218_1_1, c218_1_2, rfl, N218_1, K218_1⟩ | ⟨c218_2_0, c218_2_1, rfl, N218_2, K218_2⟩ | ⟨c218_3_0, rfl, N218_3, K218_3⟩
      · exact absurd c218_0_0 hc137
      · exact absurd c218_1_0 hc137
      · exact absurd c218_2_0 hc137
      · show Go _ _ _ _ (T218.setTop (mkF m 206 #[.val (.int p0), .val (.int p1), .val (.int p2), .val (.int p3), .val (.int p4), .val (.int 3), .val (.int z4_0), .val (.int z5_0), .val (.int z6_0), .val (.int z7_0), .val (.ref b114), .val (.ref b120), .val (.int 0)] [(.int 0)]))
        refine Go.iload X218 hx (pc' := 208) rfl (hb hby at_206) rfl ?_
        refine Go.icmpNo X218 hx (pc' := 211) rfl (hb hby at_208) (by decide) ?_
        refine Go.iconst X218 hx (pc' := 212) rfl (hb hby at_211) (v := (1 : Int32)) rfl ?_
        refine Go.goto X218 hx (pc' := 216) (hb hby at_212) (by decide) (by decide) ?_
        have C219 : CHr Z EL0 s.vm s.heap T218.vm h218 := (C215.trans C218)
        refine Go.retNW X218 hx hlk Z218 (own_EW hw) e218 S218 (Nat.le_refl _) C219 (t := .boolean) hret (by simp) (hb hby at_216) (by decide) (by decide) (fun hat => ?_)
        exact ⟨rfl, (Fr.app (Fr.app N119 N136) N218_3)⟩
  · refine Go.iload X7 hx (pc' := 35) rfl (hb hby at_33) rfl ?_
    refine Go.ifYes X7 hx (pc' := 46) (hb hby at_35) (by decide) (by decide) (by decide) ?_
    refine Go.iload X7 hx (pc' := 48) rfl (hb hby at_46) rfl ?_
    refine Go.iconst X7 hx (pc' := 49) rfl (hb hby at_48) (v := (1 : Int32)) rfl ?_
    refine Go.icmpYes X7 hx (pc' := 65) (hb hby at_49) (by decide) (by decide) (by decide) ?_
    refine Go.iload X7 hx (pc' := 67) rfl (hb hby at_65) rfl ?_
    refine Go.iconst X7 hx (pc' := 68) rfl (hb hby at_67) (v := (2 : Int32)) rfl ?_
    refine Go.icmpYes X7 hx (pc' := 89) (hb hby at_68) (by decide) (by decide) (by decide) ?_
    refine Go.iload X7 hx (pc' := 91) rfl (hb hby at_89) rfl ?_
    refine Go.iconst X7 hx (pc' := 92) rfl (hb hby at_91) (v := (3 : Int32)) rfl ?_
    refine Go.icmpYes X7 hx (pc' := 118) (hb hby at_92) (by decide) (by decide) (by decide) ?_
    refine Go.iconst X7 hx (pc' := 119) rfl (hb hby at_118) (v := (4 : Int32)) rfl ?_
    refine Go.newarray X7 hx hZ (ty := .char) rfl (tw_5 hw) e7 (by decide) (cap := 4) (by decide) (by decide) (by decide) (by decide) (ad := "[C") (by decide) 4 (pc' := 121) rfl (hb hby at_119) ?_
    intro T220 h220 b220 k220 e220 E220 g220 V220 A220 X220
    have V220' : Arv Z h220 b220 k220 .char (4 : Int32) [(.int 0), (.int 0), (.int 0), (.int 0)] (.int 0) := V220
    refine Go.dup X220 hx (pc' := 122) rfl (hb hby at_121) rfl ?_
    refine Go.iconst X220 hx (pc' := 123) rfl (hb hby at_122) (v := (0 : Int32)) rfl ?_
    refine Go.iload X220 hx (pc' := 125) rfl (hb hby at_123) rfl ?_
    have sz222 : h0.size ≤ b220 := Nat.le_trans (Keep.refl h0 []).1 (Nat.le_of_eq g220.symm)
    have ge221 : n0 ≤ b220 := Nat.le_trans Z0 sz222
    refine Go.castore X220 hx hZ e220 V220' z4_0 (own_nar_char w4 (by decide) (by decide)) ⟨by decide, by decide⟩ 0 rfl (Nat.le_of_ble_eq_true rfl) (pc' := 126) rfl (hb hby at_125) ?_
    intro T223 h223 e223 W223 V223 X223
    have N223 := Fr.snoc X223 (Fr.app (Fr.app (Fr.app (Fr.app (Fr.nil n0) N4) N5) N6) N7) ge221
    refine Go.dup X223 hx (pc' := 127) rfl (hb hby at_126) rfl ?_
    refine Go.iconst X223 hx (pc' := 128) rfl (hb hby at_127) (v := (1 : Int32)) rfl ?_
    refine Go.iload X223 hx (pc' := 130) rfl (hb hby at_128) rfl ?_
    refine Go.castore X223 hx hZ e223 V223 z5_0 (own_nar_char w5 (by decide) (by decide)) ⟨by decide, by decide⟩ 1 rfl (Nat.le_of_ble_eq_true rfl) (pc' := 131) rfl (hb hby at_130) ?_
    intro T224 h224 e224 W224 V224 X224
    have N224 := Fr.snoc X224 N223 ge221
    refine Go.dup X224 hx (pc' := 132) rfl (hb hby at_131) rfl ?_
    refine Go.iconst X224 hx (pc' := 133) rfl (hb hby at_132) (v := (2 : Int32)) rfl ?_
    refine Go.iload X224 hx (pc' := 135) rfl (hb hby at_133) rfl ?_
    refine Go.castore X224 hx hZ e224 V224 z6_0 (own_nar_char w6 (by decide) (by decide)) ⟨by decide, by decide⟩ 2 rfl (Nat.le_of_ble_eq_true rfl) (pc' := 136) rfl (hb hby at_135) ?_
    intro T225 h225 e225 W225 V225 X225
    have N225 := Fr.snoc X225 N224 ge221
    refine Go.dup X225 hx (pc' := 137) rfl (hb hby at_136) rfl ?_
    refine Go.iconst X225 hx (pc' := 138) rfl (hb hby at_137) (v := (3 : Int32)) rfl ?_
    refine Go.iload X225 hx (pc' := 140) rfl (hb hby at_138) rfl ?_
    have V226 : Arv Z h225 b220 k220 .char (4 : Int32) [(.int z4_0), (.int z5_0), (.int z6_0), (.int 0)] (.int 0) := V225
    refine Go.castore X225 hx hZ e225 V226 z7_0 (own_nar_char w7 (by decide) (by decide)) ⟨by decide, by decide⟩ 3 rfl (Nat.le_of_ble_eq_true rfl) (pc' := 141) rfl (hb hby at_140) ?_
    intro T227 h227 e227 W227 V227 X227
    have N227 := Fr.snoc X227 N225 ge221
    refine Go.astore X227 hx (pc' := 143) rfl (hb hby at_141) (Ls' := #[.val (.int p0), .val (.int p1), .val (.int p2), .val (.int p3), .val (.int p4), .val (.int 4), .val (.int z4_0), .val (.int z5_0), .val (.int z6_0), .val (.int z7_0), .val (.ref b220), .unset, .unset]) rfl rfl ?_
    refine Go.new X227 hx hZ hown (tw_6 hw) (tw_7 hw) (tw_8 hw) e227 (by decide) (by decide) (pc' := 146) rfl (hb hby at_143) ?_
    intro T228 h228 b228 e228 E228 g228 A228 D228 X228
    have b228_value : Fld Z h228 b228 "java/lang/String" "value" "[B" .null := D228 (Or.inr (tw_21 hw)) (ty := (.array .byte)) (by decide)
    have b228_coder : Fld Z h228 b228 "java/lang/String" "coder" "B" (.int 0) := D228 (Or.inr (tw_22 hw)) (ty := .byte) (by decide)
    refine Go.dup X228 hx (pc' := 147) rfl (hb hby at_146) rfl ?_
    refine Go.aload X228 hx (pc' := 149) rfl (hb hby at_147) rfl rfl ?_
    have Kp230 : Keep h0 h220 [] := ((Keep.refl h0 []).ext E220)
    have Kp231 : Keep h0 h223 [] := (Kp230.wr W223 (Or.inr sz222))
    have Kp232 : Keep h0 h224 [] := (Kp231.wr W224 (Or.inr sz222))
    have Kp233 : Keep h0 h225 [] := (Kp232.wr W225 (Or.inr sz222))
    have Kp234 : Keep h0 h227 [] := (Kp233.wr W227 (Or.inr sz222))
    have Kp235 : Keep h0 h228 [] := (Kp234.ext E228)
    have Zn229 : n0 ≤ h228.size := Nat.le_trans Z0 Kp235.1
    have O236 := (O0.ext E220)
    have O237 := (O236.wr W223 ge221)
    have O238 := (O237.wr W224 ge221)
    have O239 := (O238.wr W225 ge221)
    have O240 := (O239.wr W227 ge221)
    have O241 := (O240.ext E228)
    have V242 : Arv Z h227 b220 k220 .char (4 : Int32) [(.int z4_0), (.int z5_0), (.int z6_0), (.int z7_0)] (.int 0) := V227
    have fk243 := (V242.ext E228)
    have sz245 : h0.size ≤ b228 := Nat.le_trans Kp234.1 (Nat.le_of_eq g228.symm)
    have ge244 : n0 ≤ b228 := Nat.le_trans Z0 sz245
    refine Go.callN X228 hx hZ hown rfl (tw_9 hw) (tw_10 hw) (tw_11 hw) (by decide) (tw_11 hw) (tw_8 hw) (au_57 l Z a0 hw b228 b220 k220 z4_0 z5_0 z6_0 z7_0 gz1 gv5 h228 n0 Zn229 O241 G A228 b228_coder b228_value fk243 w4 w5 w6 w7 ge244) e228 (a := b228) (argsL := [(.ref b220)]) (rest := [(.ref b228)]) (pc' := 152) rfl (by rw [hml]; rfl) (lenOf pd_2 rfl) rfl rfl (W := 1) (Nat.le_of_eq rfl) (by decide) (by decide) (by decide) (by decide) (hb hby at_149) ?_
    intro v246 T246 L246 q246 X246
    obtain ⟨h246, e246⟩ : ∃ z, T246.heap = z := ⟨_, rfl⟩
    rw [e246] at q246
    obtain ⟨z246_0, z246_1, z246_2, z246_3, b246_0, k246_0, d246_0, d246_1, d246_2, d246_3, rfl, N246, K246, s246_0, F246_0, F246_1, F246_2, F246_3, F246_4⟩ := q246
    show Go _ _ _ _ (T246.setTop (mkF m 152 #[.val (.int p0), .val (.int p1), .val (.int p2), .val (.int p3), .val (.int p4), .val (.int 4), .val (.int z4_0), .val (.int z5_0), .val (.int z6_0), .val (.int z7_0), .val (.ref b220), .unset, .unset] [(.ref b228)]))
    refine Go.astore X246 hx (pc' := 154) rfl (hb hby at_152) (Ls' := #[.val (.int p0), .val (.int p1), .val (.int p2), .val (.int p3), .val (.int p4), .val (.int 4), .val (.int z4_0), .val (.int z5_0), .val (.int z6_0), .val (.int z7_0), .val (.ref b220), .val (.ref b228), .unset]) rfl rfl ?_
    refine Go.iload X246 hx (pc' := 156) rfl (hb hby at_154) rfl ?_
    refine Go.iconst X246 hx (pc' := 157) rfl (hb hby at_156) (v := (1 : Int32)) rfl ?_
    refine Go.icmpYes X246 hx (pc' := 167) (hb hby at_157) (by decide) (by decide) (by decide) ?_
    refine Go.iload X246 hx (pc' := 169) rfl (hb hby at_167) rfl ?_
    refine Go.iconst X246 hx (pc' := 170) rfl (hb hby at_169) (v := (3 : Int32)) rfl ?_
    refine Go.icmpYes X246 hx (pc' := 198) (hb hby at_170) (by decide) (by decide) (by decide) ?_
    refine Go.iconst X246 hx (pc' := 199) rfl (hb hby at_198) (v := (0 : Int32)) rfl ?_
    refine Go.istore X246 hx (pc' := 201) rfl (hb hby at_199) (Ls' := #[.val (.int p0), .val (.int p1), .val (.int p2), .val (.int p3), .val (.int p4), .val (.int 4), .val (.int z4_0), .val (.int z5_0), .val (.int z6_0), .val (.int z7_0), .val (.ref b220), .val (.ref b228), .val (.int 0)]) rfl ?_
    refine Go.aload X246 hx (pc' := 203) rfl (hb hby at_201) rfl rfl ?_
    have r247 : -128 ≤ z246_0.toInt ∧ z246_0.toInt ≤ 127 := own_ri2b d246_0
    have r248 : -128 ≤ z246_1.toInt ∧ z246_1.toInt ≤ 127 := own_ri2b d246_1
    have r249 : -128 ≤ z246_2.toInt ∧ z246_2.toInt ≤ 127 := own_ri2b d246_2
    have r250 : -128 ≤ z246_3.toInt ∧ z246_3.toInt ≤ 127 := own_ri2b d246_3
    have Kp252 : Keep h0 h246 [] := (Kp235.trans K246 (allS (Or.inr sz245) all0))
    have Zn251 : n0 ≤ h246.size := Nat.le_trans Z0 Kp252.1
    have O253 := (O241.keep K246 (allS ge244 all0))
    have C254 : CHr Z EL0 s.vm s.heap s.vm h220 := (C0.trans (CHr.ext E220 C0.1))
    have fk255 : Safe Z EL0 s.vm h220 b220 := (Safe.ext E220 C0.1 (Safe.new (Nat.le_of_eq g220.symm) : Safe Z EL0 s.vm h0 b220))
    have C256 : CHr Z EL0 s.vm s.heap s.vm h223 := (C254.trans (CHr.wr W223 fk255 C254.1))
    have fk257 : Safe Z EL0 s.vm h223 b220 := (Safe.wr W223 fk255 C254.1 fk255)
    have C258 : CHr Z EL0 s.vm s.heap s.vm h224 := (C256.trans (CHr.wr W224 fk257 C256.1))
    have fk259 : Safe Z EL0 s.vm h224 b220 := (Safe.wr W224 fk257 C256.1 fk257)
    have C260 : CHr Z EL0 s.vm s.heap s.vm h225 := (C258.trans (CHr.wr W225 fk259 C258.1))
    have fk261 : Safe Z EL0 s.vm h225 b220 := (Safe.wr W225 fk259 C258.1 fk259)
    have C262 : CHr Z EL0 s.vm s.heap s.vm h227 := (C260.trans (CHr.wr W227 fk261 C260.1))
    have C263 : CHr Z EL0 s.vm s.heap s.vm h228 := (C262.trans (CHr.ext E228 C262.1))
    have fk264 : Safe Z EL0 s.vm h228 b228 := (Safe.ext E228 C262.1 (Safe.new (Nat.le_of_eq g228.symm) : Safe Z EL0 s.vm h227 b228))
    have C265 : CHr Z EL0 s.vm s.heap s.vm h246 := (C263.trans (CHr.keep K246 (sfS fk264 sf0) C263.1))
    have fk266 : Safe Z EL0 s.vm h246 b228 := (Safe.keep K246 (sfS fk264 sf0) C263.1 fk264)
    have hk267 := (Nat.le_trans (Nat.le_trans (Nat.le_trans (Nat.le_trans (Nat.le_trans (Nat.le_trans (Nat.le_trans (Nat.le_refl _) E220.1) (Keep.of_wr W223).1) (Keep.of_wr W224).1) (Keep.of_wr W225).1) (Keep.of_wr W227).1) E228.1) K246.1)
    refine Go.callSW X246 hx hZ hown (tw_27 hw) (tw_28 hw) (tw_29 hw) (tw_30 hw) (by decide) (tw_30 hw) (tw_29 hw) (au_63 l Z a0 hw b228 b246_0 k246_0 z246_0 z246_1 z246_2 z246_3 gz1 gv5 h246 n0 Zn251 O253 G F246_0 F246_1 F246_2 F246_3) (own_EW hw) C265.1 (allS ⟨F246_0.lt, fk266⟩ all0) hS0 hk267 e246 (argsL := [(.ref b228)]) (rest := []) (pc' := 206) rfl (by rw [hml]; rfl) (lenOf pd_16 rfl) rfl rfl (W := 0) (Nat.le_of_eq rfl) (by decide) (by decide) (by decide) (by decide) (hb hby at_203) ?_
    intro v268 T268 L268 h268 e268 q268 C268 S268 Z268 O268 X268
    obtain ⟨rfl, N268, K268⟩ := q268
    show Go _ _ _ _ (T268.setTop (mkF m 206 #[.val (.int p0), .val (.int p1), .val (.int p2), .val (.int p3), .val (.int p4), .val (.int 4), .val (.int z4_0), .val (.int z5_0), .val (.int z6_0), .val (.int z7_0), .val (.ref b220), .val (.ref b228), .val (.int 0)] [(.int 0)]))
    refine Go.iload X268 hx (pc' := 208) rfl (hb hby at_206) rfl ?_
    refine Go.icmpNo X268 hx (pc' := 211) rfl (hb hby at_208) (by decide) ?_
    refine Go.iconst X268 hx (pc' := 212) rfl (hb hby at_211) (v := (1 : Int32)) rfl ?_
    refine Go.goto X268 hx (pc' := 216) (hb hby at_212) (by decide) (by decide) ?_
    have C269 : CHr Z EL0 s.vm s.heap T268.vm h268 := (C265.trans C268)
    refine Go.retNW X268 hx hlk Z268 (own_EW hw) e268 S268 (Nat.le_refl _) C269 (t := .boolean) hret (by simp) (hb hby at_216) (by decide) (by decide) (fun hat => ?_)
    exact ⟨rfl, (Fr.app (Fr.app N227 N246) N268)⟩
set_option maxRecDepth 65536 in
set_option maxHeartbeats 4000000 in
theorem comes_1 {Post : Tables → Env → Array Value → State → Outcome → State → Prop} (hpost : ∀ tb e args s v u, (limb_1_1.after args s (.returned v) u = true ∧ limb_1_2.after args s (.returned v) u = true ∧ True) → ReturnedEndW s (.returned v) u (Jvm.fieldLocs frame_1_writes args s ++ Jvm.arrayLocs frame_1_arrays args s ++ Jvm.staticLocs frame_1_statics s) 24 3200 → Post tb e args s (.returned v) u) :
    ArmFor flags0 classFile x code maxLocals ret World_1 tables_1 room_1 Calls_1 rest_1 Pre_1 Post := by
  intro l hfl _ _ p e ha hc hk s m args below hf hA hF happ hP
  obtain ⟨hcalls, hrest, hpre⟩ := hP
  obtain ⟨-, -, -, hnamed, -, -, -, hat⟩ := (Spec.applies_iff hf).mp happ
  obtain ⟨hg, hn⟩ := and_e (Cond.before_iff.mp (show (Jvm.Cond.and given_1 narrow_1).before args s = true from hpre))
  obtain ⟨g501, g502⟩ := and_e hg
  obtain ⟨g503, g504⟩ := and_e g502
  obtain ⟨g505, g506⟩ := and_e g504
  obtain ⟨g507, g508⟩ := and_e g506
  obtain ⟨g509, g510⟩ := and_e g508
  obtain ⟨w0, w1, w2, w3, w4, rfl⟩ : ∃ w0 w1 w2 w3 w4 : Value, args = #[w0, w1, w2, w3, w4] := by
    have hs : args.size = 5 := by simpa [Cond.value, given_1] using g501
    obtain ⟨L⟩ := args
    match L, hs with
    | [w0, w1, w2, w3, w4], _ => exact ⟨w0, w1, w2, w3, w4, rfl⟩
  have hw := fun d (hd : d ∈ tables_1) => atoms_spec (ws := Jvm.Cond.code x code maxLocals ret :: tables_1) hat d (List.mem_cons_of_mem _ hd)
  have hfit : Fit s := fun {y c} hc i hi => by
    obtain ⟨ha, rfl⟩ := Array.getElem?_eq_some_iff.mp hc
    have q := List.all_eq_true.mp ((Array.all_eq_true_iff_forall_mem.mp hF) _ (Array.getElem_mem ha)) i (List.mem_range.mpr hi)
    simpa [Array.getElem?_eq_getElem hi] using q
  obtain ⟨i0, ei0⟩ := is_v g503
  obtain rfl : w0 = (.int i0) := Option.some.inj ei0
  obtain ⟨i1, ei1⟩ := is_v g505
  obtain rfl : w1 = (.int i1) := Option.some.inj ei1
  obtain ⟨i2, ei2⟩ := is_v g507
  obtain rfl : w2 = (.int i2) := Option.some.inj ei2
  obtain ⟨i3, ei3⟩ := is_v g509
  obtain rfl : w3 = (.int i3) := Option.some.inj ei3
  obtain ⟨i4, ei4⟩ := is_v g510
  obtain rfl : w4 = (.int i4) := Option.some.inj ei4
  obtain ⟨hsets, hown0⟩ := atoms_of _ (rest_1_c_eq ▸ (show rest_1_c.before _ s = true from hrest))
  obtain ⟨gz1, ev2⟩ := is_v (Cond.before_iff.mp (hsets _ (List.mem_of_getElem? (i := 1) rfl)))
  have Sx3 : Sta s s.heap "java/lang/String" "COMPACT_STRINGS" "Z" (.int gz1) := Sta.start ev2 (Or.inl (Cond.before_iff.mpr (Cond.before_iff.mp (hsets _ (List.mem_of_getElem? (i := 0) rfl)))))
  have nz4 : ¬ gz1 = (0 : Int32) := gotF (Cond.eq_ints ev2 (Term.int_eval (0))) (not_v (Cond.before_iff.mp (hsets _ (List.mem_of_getElem? (i := 2) rfl))))
  obtain ⟨gv5, ev6, rv7⟩ := isR_v (Cond.before_iff.mp (hsets _ (List.mem_of_getElem? (i := 8) rfl)))
  have Sx8 : Sta s s.heap "jdk/internal/util/Preconditions" "SIOOBE_FORMATTER" "Ljava/util/function/BiFunction;" gv5 := Sta.start ev6 (Or.inl (Cond.before_iff.mpr (Cond.before_iff.mp (hsets _ (List.mem_of_getElem? (i := 7) rfl)))))
  have G : Glob s gz1 gv5 := ⟨Sx3, Sx8, nz4, rv7⟩
  have hCH : CHv s EL0 s.vm s.heap := CHv.start (own_EW hw) (fun p hp => hcalls.1 p hp) (hsets _ (List.mem_of_getElem? (i := 2) rfl)) (tw_20 hw) (tw_7 hw)
  obtain ⟨n, o, h1, h2, h3, _, L, rfl, ⟨rfl, N⟩, hcr, hq⟩ := (rm0 l s _ hw i0 i1 i2 i3 i4 gz1 gv5 s.heap s.heap.size (Nat.le_refl _) (Old.start s) G) tables_1 p e ha hc hk s m _ below hf ((Spec.applies_iff_loose hf).mp happ).1 ⟨rfl, State.Warmed39.refl s, rfl, hCH, fun _ hx => nomatch hx⟩ trivial
  refine ⟨n, _, h1, h2, h3, hpost _ _ _ _ _ _ ⟨Cond.after_iff.mpr rfl, Cond.after_iff.mpr (eq_i res_at (Term.int_eval (1)) rfl), trivial⟩ ⟨hq.1, hq.2.1, hq.2.2.1, (hq.2.2.2.sift fun y hy => Or.inr (N y hy)).mono (by decide) (by decide)⟩⟩
theorem main_1_1 : Claimed_1_1 := comes_1 fun _ _ _ _ _ _ h hF => ⟨h.1, hF⟩
theorem main_1_2 : Claimed_1_2 := comes_1 fun _ _ _ _ _ _ h hF => ⟨h.2.1, hF⟩
end Jvm.Pilot.@@N@@
namespace Jvm.Pilot.@@N@@
open Jvm Jvm.ClassFile Sem Op Lib Jvm.Free Jvm.Stand Jvm.Pilot.@@N@@.Jvm.D
/-! MADE BY PROGRAM (witnessworld.py) out of the Statement's table words and the real class files: 23 classes; the members and pool entries that the words name. The judged class is class 1, her method 2. -/
namespace start1
open Jvm.ClassFile
def u (s : String) : CpInfo := .utf8 (stringToUtf16 s)
/-- a pool by its gaps: so many unusable entries, then the entry; so many at the end -/
def gap : Nat → List CpInfo → List CpInfo
  | 0, r => r
  | n + 1, r => .unusable :: gap n r
def poolList (es : List (Nat × CpInfo)) (last : Nat) : List CpInfo := es.foldr (fun e r => gap e.1 (e.2 :: r)) (gap last [])
def pool (es : List (Nat × CpInfo)) (last : Nat) : Array CpInfo := ⟨poolList es last⟩
def fileOf (pool : Array CpInfo) (this : Nat) (attrs : Array Attribute := #[]) (ms : Array MethodInfo := #[]) (fl : Nat := 33) (sup : Nat := 0) (ifs : Array Nat := #[]) (fds : Array FieldInfo := #[]) : ClassFile where
  minorVersion := 0
  majorVersion := 65
  constantPool := pool
  accessFlags := fl
  thisClass := this
  superClass := sup
  interfaces := ifs
  fields := fds
  methods := ms
  attributes := attrs
def plain (name : String) (sup : Option ClassId) : Class where
  name := name
  kind := .ordinary
  loader := none
  accessFlags := 33
  super := sup
  interfaces := #[]
  cf := none
  fields := #[]
  methods := #[]
  instanceTypes := #[]
  staticTypes := #[]
  resolved := #[]
  callSites := []
  init := .initialized
  statics := none
  mirror := none

def pool0 : Array CpInfo := pool [(5, u "<init>"), (0, u "()V"), (1, .class_ 10), (1, u "java/lang/Object")] 113

def k0c0 : Code := { maxStack := 0, maxLocals := 1, code := object_method_1_code, exceptionTable := #[], attributes := #[] }
def k0m0 : Method := { name := "<init>", desc := "()V", sig := { parameters := [], returnType := none }, accessFlags := 1, code := some k0c0 }
/-- java/lang/Object -/
def k0 : Class := { plain "java/lang/Object" none with
  accessFlags := 33
  interfaces := #[]
  cf := some (fileOf pool0 8 #[] #[{ accessFlags := 1, nameIndex := 5, descriptorIndex := 6, attributes := #[] }] 33 0 #[] #[])
  fields := #[]
  methods := #[k0m0]
  instanceTypes := #[]
  staticTypes := #[]
  resolved := Array.replicate 124 none
  statics := none }

def pool1 : Array CpInfo := pool [(2, .class_ 4), (1, u "java/lang/Object"), (0, u "<init>"), (0, u "()V"), (0, .integer 2147483647), (0, .methodref 9 10), (0, .class_ 11), (0, .nameAndType 12 13), (0, u "com/example/roles_over_datacenter/rolesoverdatacenter/PageRedirectsPinLaw"), (0, u "draw"), (0, u "(I)C"), (0, .class_ 15), (0, u "java/lang/String"), (0, .methodref 14 17), (0, .nameAndType 5 18), (0, u "([C)V"), (0, .methodref 20 21), (0, .class_ 22), (0, .nameAndType 23 24), (0, u "com/example/roles_over_datacenter/rolesoverdatacenter/Page"), (0, u "redirects"), (0, u "(Ljava/lang/String;)Z"), (3, u "law"), (0, u "(IIIII)Z")] 4

def k1m0 : Method := { name := "<init>", desc := "()V", sig := { parameters := [], returnType := none }, accessFlags := 1, code := none }
def k1c1 : Code := { maxStack := 2, maxLocals := 2, code := method_2_code, exceptionTable := #[], attributes := #[] }
def k1m1 : Method := { name := "draw", desc := "(I)C", sig := { parameters := [.int], returnType := some .char }, accessFlags := 10, code := some k1c1 }
def k1c2 : Code := { maxStack := 4, maxLocals := 13, code := code, exceptionTable := #[], attributes := #[] }
def k1m2 : Method := { name := "law", desc := "(IIIII)Z", sig := { parameters := [.int, .int, .int, .int, .int], returnType := some .boolean }, accessFlags := 9, code := some k1c2 }
/-- com/example/roles_over_datacenter/rolesoverdatacenter/PageRedirectsPinLaw -/
def k1 : Class := { plain "com/example/roles_over_datacenter/rolesoverdatacenter/PageRedirectsPinLaw" (some 0) with
  accessFlags := 49
  interfaces := #[]
  cf := some (fileOf pool1 9 #[] #[{ accessFlags := 1, nameIndex := 5, descriptorIndex := 6, attributes := #[] }, { accessFlags := 10, nameIndex := 12, descriptorIndex := 13, attributes := #[] }, { accessFlags := 9, nameIndex := 28, descriptorIndex := 29, attributes := #[] }] 49 2 #[] #[])
  fields := #[]
  methods := #[k1m0, k1m1, k1m2]
  instanceTypes := #[]
  staticTypes := #[]
  resolved := Array.replicate 34 none
  statics := none }

def pool2 : Array CpInfo := pool [(1, .class_ 2), (0, u "java/io/Serializable"), (0, .class_ 4), (0, u "java/lang/Object")] 2

/-- java/io/Serializable -/
def k2 : Class := { plain "java/io/Serializable" (some 0) with
  accessFlags := 1537
  interfaces := #[]
  cf := some (fileOf pool2 1 #[] #[] 1537 3 #[] #[])
  fields := #[]
  methods := #[]
  instanceTypes := #[]
  staticTypes := #[]
  resolved := Array.replicate 7 none
  statics := none }

def pool3 : Array CpInfo := pool [(1, .class_ 2), (0, u "java/lang/Comparable"), (0, .class_ 4), (0, u "java/lang/Object")] 7

/-- java/lang/Comparable -/
def k3 : Class := { plain "java/lang/Comparable" (some 0) with
  accessFlags := 1537
  interfaces := #[]
  cf := some (fileOf pool3 1 #[] #[] 1537 3 #[] #[])
  fields := #[]
  methods := #[]
  instanceTypes := #[]
  staticTypes := #[]
  resolved := Array.replicate 12 none
  statics := none }

def pool4 : Array CpInfo := pool [(2, .class_ 4), (1, u "java/lang/CharSequence"), (42, .class_ 48), (0, u "java/lang/CharSequence$1CodePointIterator"), (10, .class_ 60), (0, u "java/lang/CharSequence$1CharIterator"), (5, .class_ 67), (0, u "java/lang/Object")] 63

/-- java/lang/CharSequence -/
def k4 : Class := { plain "java/lang/CharSequence" (some 0) with
  accessFlags := 1537
  interfaces := #[]
  cf := some (fileOf pool4 2 #[.nestMembers #[47, 59]] #[] 1537 66 #[] #[])
  fields := #[]
  methods := #[]
  instanceTypes := #[]
  staticTypes := #[]
  resolved := Array.replicate 131 none
  statics := none }

def pool5 : Array CpInfo := pool [(1, .class_ 2), (0, u "java/lang/constant/Constable"), (0, .class_ 4), (0, u "java/lang/Object")] 6

/-- java/lang/constant/Constable -/
def k5 : Class := { plain "java/lang/constant/Constable" (some 0) with
  accessFlags := 1537
  interfaces := #[]
  cf := some (fileOf pool5 1 #[] #[] 1537 3 #[] #[])
  fields := #[]
  methods := #[]
  instanceTypes := #[]
  staticTypes := #[]
  resolved := Array.replicate 11 none
  statics := none }

def pool6 : Array CpInfo := pool [(1, .class_ 2), (0, u "java/lang/constant/ConstantDesc"), (0, .class_ 4), (0, u "java/lang/Object")] 32

/-- java/lang/constant/ConstantDesc -/
def k6 : Class := { plain "java/lang/constant/ConstantDesc" (some 0) with
  accessFlags := 1537
  interfaces := #[]
  cf := some (fileOf pool6 1 #[] #[] 1537 3 #[] #[])
  fields := #[]
  methods := #[]
  instanceTypes := #[]
  staticTypes := #[]
  resolved := Array.replicate 37 none
  statics := none }

def pool7 : Array CpInfo := pool [(1, .methodref 2 3), (0, .class_ 4), (0, .nameAndType 5 6), (0, u "java/lang/Object"), (0, u "<init>"), (0, u "()V"), (0, .string 8), (0, u ""), (0, .fieldref 10 11), (0, .class_ 12), (0, .nameAndType 13 14), (0, u "java/lang/String"), (0, u "value"), (0, u "[B"), (0, .fieldref 10 16), (0, .nameAndType 17 18), (0, u "coder"), (0, u "B"), (2, u "hash"), (0, u "I"), (2, u "hashIsZero"), (0, u "Z"), (0, .methodref 10 28), (0, .nameAndType 5 29), (0, u "([CIILjava/lang/Void;)V"), (8, .fieldref 10 39), (0, .nameAndType 40 26), (0, u "COMPACT_STRINGS"), (1, .class_ 44), (1, u "java/lang/StringUTF16"), (0, u "compress"), (1, .methodref 42 48), (0, .nameAndType 49 50), (0, u "coderFromArrayLen"), (0, u "([BI)B"), (56, .class_ 109), (1, u "java/lang/StringLatin1"), (32, u "()Z"), (34, .methodref 42 178), (0, .nameAndType 45 179), (0, u "([CII)[B"), (31, u "([BB)V"), (122, u "()I"), (0, .methodref 10 336), (0, .nameAndType 17 337), (0, u "()B"), (154, .methodref 10 493), (0, .nameAndType 494 142), (0, u "isLatin1"), (10, .methodref 10 506), (0, .nameAndType 507 334), (0, u "length"), (5, u "checkFromToIndex"), (7, .methodref 10 522), (0, .nameAndType 523 524), (0, u "checkBoundsBeginEnd"), (0, u "(III)V"), (16, .methodref 107 542), (0, .nameAndType 543 544), (0, u "equals"), (0, u "([B[B)Z"), (28, u "(Ljava/lang/Object;)Z"), (1, .class_ 576), (0, u "java/lang/CharSequence"), (22, u "CASE_INSENSITIVE_ORDER"), (0, u "Ljava/util/Comparator;"), (82, u "substring"), (0, u "(II)Ljava/lang/String;"), (0, .methodref 107 686), (0, .nameAndType 687 688), (0, u "newString"), (0, u "([BII)Ljava/lang/String;"), (321, u "([C)V"), (42, .fieldref 1054 1055), (0, .class_ 1056), (0, .nameAndType 1057 1058), (0, u "jdk/internal/util/Preconditions"), (0, u "SIOOBE_FORMATTER"), (0, u "Ljava/util/function/BiFunction;"), (3, .methodref 1054 1063), (0, .nameAndType 513 1064), (0, u "(IIILjava/util/function/BiFunction;)I"), (36, u "serialPersistentFields"), (0, u "[Ljava/io/ObjectStreamField;"), (0, .class_ 1104), (0, u "java/lang/String$CaseInsensitiveComparator"), (1, .class_ 1107), (0, u "java/io/Serializable"), (0, .class_ 1109), (0, u "java/lang/Comparable"), (0, .class_ 1111), (0, u "java/lang/constant/Constable"), (0, .class_ 1113), (0, u "java/lang/constant/ConstantDesc"), (2, u "serialVersionUID"), (0, u "J"), (3, u "REPL"), (0, u "C"), (2, u "LATIN1"), (1, u "UTF16")] 323

def k7m0 : Method := { name := "<init>", desc := "()V", sig := { parameters := [], returnType := none }, accessFlags := 1, code := none }
def k7c1 : Code := { maxStack := 5, maxLocals := 2, code := jdk_42_method_3_code, exceptionTable := #[], attributes := #[] }
def k7m1 : Method := { name := "<init>", desc := "([C)V", sig := { parameters := [(.array .char)], returnType := none }, accessFlags := 1, code := some k7c1 }
def k7c2 : Code := { maxStack := 2, maxLocals := 1, code := jdk_42_method_54_code, exceptionTable := #[], attributes := #[] }
def k7m2 : Method := { name := "length", desc := "()I", sig := { parameters := [], returnType := some .int }, accessFlags := 1, code := some k7c2 }
def k7c3 : Code := { maxStack := 2, maxLocals := 3, code := jdk_42_method_66_code, exceptionTable := #[], attributes := #[] }
def k7m3 : Method := { name := "equals", desc := "(Ljava/lang/Object;)Z", sig := { parameters := [(.object "java/lang/Object")], returnType := some .boolean }, accessFlags := 1, code := some k7c3 }
def k7c4 : Code := { maxStack := 3, maxLocals := 5, code := jdk_42_method_92_code, exceptionTable := #[], attributes := #[] }
def k7m4 : Method := { name := "substring", desc := "(II)Ljava/lang/String;", sig := { parameters := [.int, .int], returnType := some (.object "java/lang/String") }, accessFlags := 1, code := some k7c4 }
def k7c5 : Code := { maxStack := 4, maxLocals := 6, code := jdk_42_method_149_code, exceptionTable := #[], attributes := #[] }
def k7m5 : Method := { name := "<init>", desc := "([CIILjava/lang/Void;)V", sig := { parameters := [(.array .char), .int, .int, (.object "java/lang/Void")], returnType := none }, accessFlags := 2, code := some k7c5 }
def k7c6 : Code := { maxStack := 2, maxLocals := 3, code := jdk_42_method_151_code, exceptionTable := #[], attributes := #[] }
def k7m6 : Method := { name := "<init>", desc := "([BB)V", sig := { parameters := [(.array .byte), .byte], returnType := none }, accessFlags := 0, code := some k7c6 }
def k7c7 : Code := { maxStack := 1, maxLocals := 1, code := jdk_42_method_152_code, exceptionTable := #[], attributes := #[] }
def k7m7 : Method := { name := "coder", desc := "()B", sig := { parameters := [], returnType := some .byte }, accessFlags := 0, code := some k7c7 }
def k7c8 : Code := { maxStack := 1, maxLocals := 1, code := jdk_42_method_154_code, exceptionTable := #[], attributes := #[] }
def k7m8 : Method := { name := "isLatin1", desc := "()Z", sig := { parameters := [], returnType := some .boolean }, accessFlags := 0, code := some k7c8 }
def k7c9 : Code := { maxStack := 4, maxLocals := 3, code := jdk_42_method_158_code, exceptionTable := #[], attributes := #[] }
def k7m9 : Method := { name := "checkBoundsBeginEnd", desc := "(III)V", sig := { parameters := [.int, .int, .int], returnType := none }, accessFlags := 8, code := some k7c9 }
/-- java/lang/String -/
def k7 : Class := { plain "java/lang/String" (some 0) with
  accessFlags := 49
  interfaces := #[2, 3, 4, 5, 6]
  cf := some (fileOf pool7 10 #[.nestMembers #[1103]] #[{ accessFlags := 1, nameIndex := 5, descriptorIndex := 6, attributes := #[] }, { accessFlags := 1, nameIndex := 5, descriptorIndex := 1010, attributes := #[] }, { accessFlags := 1, nameIndex := 507, descriptorIndex := 334, attributes := #[] }, { accessFlags := 1, nameIndex := 543, descriptorIndex := 573, attributes := #[] }, { accessFlags := 1, nameIndex := 683, descriptorIndex := 684, attributes := #[] }, { accessFlags := 2, nameIndex := 5, descriptorIndex := 29, attributes := #[] }, { accessFlags := 0, nameIndex := 5, descriptorIndex := 211, attributes := #[] }, { accessFlags := 0, nameIndex := 17, descriptorIndex := 337, attributes := #[] }, { accessFlags := 0, nameIndex := 494, descriptorIndex := 142, attributes := #[] }, { accessFlags := 8, nameIndex := 523, descriptorIndex := 524, attributes := #[] }] 49 2 #[1106, 1108, 575, 1110, 1112] #[{ accessFlags := 18, nameIndex := 13, descriptorIndex := 14, attributes := #[] }, { accessFlags := 18, nameIndex := 17, descriptorIndex := 18, attributes := #[] }, { accessFlags := 2, nameIndex := 21, descriptorIndex := 22, attributes := #[] }, { accessFlags := 2, nameIndex := 25, descriptorIndex := 26, attributes := #[] }, { accessFlags := 26, nameIndex := 1116, descriptorIndex := 1117, attributes := #[] }, { accessFlags := 24, nameIndex := 40, descriptorIndex := 26, attributes := #[] }, { accessFlags := 26, nameIndex := 1101, descriptorIndex := 1102, attributes := #[] }, { accessFlags := 26, nameIndex := 1121, descriptorIndex := 1122, attributes := #[] }, { accessFlags := 25, nameIndex := 599, descriptorIndex := 600, attributes := #[] }, { accessFlags := 24, nameIndex := 1125, descriptorIndex := 18, attributes := #[] }, { accessFlags := 24, nameIndex := 1127, descriptorIndex := 18, attributes := #[] }])
  fields := #[{ name := "value", type := (.array .byte), accessFlags := 18, slot := 0, constantValue := 0 }, { name := "coder", type := .byte, accessFlags := 18, slot := 1, constantValue := 0 }, { name := "hash", type := .int, accessFlags := 2, slot := 2, constantValue := 0 }, { name := "hashIsZero", type := .boolean, accessFlags := 2, slot := 3, constantValue := 0 }, { name := "serialVersionUID", type := .long, accessFlags := 26, slot := 0, constantValue := 0 }, { name := "COMPACT_STRINGS", type := .boolean, accessFlags := 24, slot := 1, constantValue := 0 }, { name := "serialPersistentFields", type := (.array (.object "java/io/ObjectStreamField")), accessFlags := 26, slot := 2, constantValue := 0 }, { name := "REPL", type := .char, accessFlags := 26, slot := 3, constantValue := 0 }, { name := "CASE_INSENSITIVE_ORDER", type := (.object "java/util/Comparator"), accessFlags := 25, slot := 4, constantValue := 0 }, { name := "LATIN1", type := .byte, accessFlags := 24, slot := 5, constantValue := 0 }, { name := "UTF16", type := .byte, accessFlags := 24, slot := 6, constantValue := 0 }]
  methods := #[k7m0, k7m1, k7m2, k7m3, k7m4, k7m5, k7m6, k7m7, k7m8, k7m9]
  instanceTypes := #[(.array .byte), .byte, .int, .boolean]
  staticTypes := #[.long, .boolean, (.array (.object "java/io/ObjectStreamField")), .char, (.object "java/util/Comparator"), .byte, .byte]
  resolved := Array.replicate 1451 none
  statics := some 0 }

def pool8 : Array CpInfo := pool [(2, .class_ 4), (1, u "java/lang/Object"), (3, .class_ 10), (1, u "com/example/roles_over_datacenter/rolesoverdatacenter/Page"), (0, u "files"), (0, u "Ljava/util/Map;"), (2, u "FILE_NAMES"), (0, u "Ljava/util/List;"), (32, .string 50), (0, u "/ui/"), (1, .class_ 54), (1, u "java/lang/String"), (1, u "(Ljava/lang/String;)Z"), (2, u "redirects"), (0, .string 61), (0, u "/"), (0, .methodref 52 63), (0, .nameAndType 64 65), (0, u "equals"), (0, u "(Ljava/lang/Object;)Z"), (0, .methodref 52 67), (0, .nameAndType 68 69), (0, u "length"), (0, u "()I"), (0, .methodref 52 71), (0, .nameAndType 72 73), (0, u "substring"), (0, u "(II)Ljava/lang/String;"), (19, .class_ 94), (0, u "com/example/roles_over_datacenter/rolesoverdatacenter/Page$File"), (49, u "CONTENT_TYPES"), (26, u "PATH"), (0, u "Ljava/lang/String;"), (1, u "RESOURCES"), (0, u "PAGE_FILE")] 54

def k8c0 : Code := { maxStack := 5, maxLocals := 1, code := prog_11_method_4_code, exceptionTable := #[], attributes := #[] }
def k8m0 : Method := { name := "redirects", desc := "(Ljava/lang/String;)Z", sig := { parameters := [(.object "java/lang/String")], returnType := some .boolean }, accessFlags := 8, code := some k8c0 }
/-- com/example/roles_over_datacenter/rolesoverdatacenter/Page -/
def k8 : Class := { plain "com/example/roles_over_datacenter/rolesoverdatacenter/Page" (some 0) with
  accessFlags := 48
  interfaces := #[]
  cf := some (fileOf pool8 8 #[.nestMembers #[93]] #[{ accessFlags := 8, nameIndex := 59, descriptorIndex := 56, attributes := #[] }] 48 2 #[] #[{ accessFlags := 24, nameIndex := 171, descriptorIndex := 172, attributes := #[] }, { accessFlags := 26, nameIndex := 174, descriptorIndex := 172, attributes := #[] }, { accessFlags := 26, nameIndex := 175, descriptorIndex := 172, attributes := #[] }, { accessFlags := 26, nameIndex := 15, descriptorIndex := 16, attributes := #[] }, { accessFlags := 26, nameIndex := 144, descriptorIndex := 12, attributes := #[] }, { accessFlags := 18, nameIndex := 11, descriptorIndex := 12, attributes := #[] }])
  fields := #[{ name := "PATH", type := (.object "java/lang/String"), accessFlags := 24, slot := 0, constantValue := 0 }, { name := "RESOURCES", type := (.object "java/lang/String"), accessFlags := 26, slot := 1, constantValue := 0 }, { name := "PAGE_FILE", type := (.object "java/lang/String"), accessFlags := 26, slot := 2, constantValue := 0 }, { name := "FILE_NAMES", type := (.object "java/util/List"), accessFlags := 26, slot := 3, constantValue := 0 }, { name := "CONTENT_TYPES", type := (.object "java/util/Map"), accessFlags := 26, slot := 4, constantValue := 0 }, { name := "files", type := (.object "java/util/Map"), accessFlags := 18, slot := 0, constantValue := 0 }]
  methods := #[k8m0]
  instanceTypes := #[(.object "java/util/Map")]
  staticTypes := #[(.object "java/lang/String"), (.object "java/lang/String"), (.object "java/lang/String"), (.object "java/util/List"), (.object "java/util/Map")]
  resolved := Array.replicate 230 none
  statics := none }

def pool9 : Array CpInfo := pool [(1, .class_ 2), (0, u "java/lang/String"), (1, .class_ 6), (1, u "java/lang/Object"), (0, u "<init>"), (0, u "()V"), (5, .class_ 16), (1, u "java/lang/StringLatin1"), (95, .methodref 1 113), (0, .nameAndType 7 114), (0, u "([BB)V"), (6, u "$assertionsDisabled"), (0, u "Z"), (8, .class_ 133), (1, u "java/util/Arrays"), (62, u "newString"), (0, u "([BII)Ljava/lang/String;"), (23, .class_ 223), (1, u "java/lang/StringLatin1$LinesSpliterator"), (8, .methodref 131 233), (0, .nameAndType 234 235), (0, u "copyOfRange"), (0, u "([BII)[B"), (45, u "equals"), (0, u "([B[B)Z"), (107, .class_ 391), (0, u "java/lang/StringLatin1$CharsSpliterator")] 3

def k9m0 : Method := { name := "<init>", desc := "()V", sig := { parameters := [], returnType := none }, accessFlags := 0, code := none }
def k9c1 : Code := { maxStack := 3, maxLocals := 3, code := jdk_43_method_13_code, exceptionTable := #[], attributes := #[] }
def k9m1 : Method := { name := "equals", desc := "([B[B)Z", sig := { parameters := [(.array .byte), (.array .byte)], returnType := some .boolean }, accessFlags := 9, code := some k9c1 }
def k9c2 : Code := { maxStack := 6, maxLocals := 3, code := jdk_43_method_47_code, exceptionTable := #[], attributes := #[] }
def k9m2 : Method := { name := "newString", desc := "([BII)Ljava/lang/String;", sig := { parameters := [(.array .byte), .int, .int], returnType := some (.object "java/lang/String") }, accessFlags := 9, code := some k9c2 }
/-- java/lang/StringLatin1 -/
def k9 : Class := { plain "java/lang/StringLatin1" (some 0) with
  accessFlags := 48
  interfaces := #[]
  cf := some (fileOf pool9 14 #[.nestMembers #[390, 221]] #[{ accessFlags := 0, nameIndex := 7, descriptorIndex := 8, attributes := #[] }, { accessFlags := 9, nameIndex := 281, descriptorIndex := 282, attributes := #[] }, { accessFlags := 9, nameIndex := 196, descriptorIndex := 197, attributes := #[] }] 48 4 #[] #[{ accessFlags := 4120, nameIndex := 121, descriptorIndex := 122, attributes := #[] }])
  fields := #[{ name := "$assertionsDisabled", type := .boolean, accessFlags := 4120, slot := 0, constantValue := 0 }]
  methods := #[k9m0, k9m1, k9m2]
  instanceTypes := #[]
  staticTypes := #[.boolean]
  resolved := Array.replicate 395 none
  statics := none }

def pool10 : Array CpInfo := pool [(2, .class_ 4), (1, u "java/lang/Object"), (0, u "<init>"), (0, u "()V"), (17, .class_ 26), (1, u "jdk/internal/util/Preconditions"), (20, u "checkFromToIndex"), (7, .class_ 56), (0, u "jdk/internal/util/Preconditions$4"), (57, .class_ 115), (0, u "jdk/internal/util/Preconditions$1"), (7, u "SIOOBE_FORMATTER"), (0, u "Ljava/util/function/BiFunction;"), (0, .class_ 126), (0, u "jdk/internal/util/Preconditions$2"), (3, u "AIOOBE_FORMATTER"), (0, .class_ 132), (0, u "jdk/internal/util/Preconditions$3"), (3, u "IOOBE_FORMATTER"), (46, u "(IIILjava/util/function/BiFunction;)I")] 10

def k10m0 : Method := { name := "<init>", desc := "()V", sig := { parameters := [], returnType := none }, accessFlags := 1, code := none }
def k10c1 : Code := { maxStack := 4, maxLocals := 4, code := jdk_41_method_12_code, exceptionTable := #[], attributes := #[] }
def k10m1 : Method := { name := "checkFromToIndex", desc := "(IIILjava/util/function/BiFunction;)I", sig := { parameters := [.int, .int, .int, (.object "java/util/function/BiFunction")], returnType := some .int }, accessFlags := 9, code := some k10c1 }
/-- jdk/internal/util/Preconditions -/
def k10 : Class := { plain "jdk/internal/util/Preconditions" (some 0) with
  accessFlags := 33
  interfaces := #[]
  cf := some (fileOf pool10 24 #[.nestMembers #[55, 131, 125, 114]] #[{ accessFlags := 1, nameIndex := 5, descriptorIndex := 6, attributes := #[] }, { accessFlags := 9, nameIndex := 47, descriptorIndex := 183, attributes := #[] }] 33 2 #[] #[{ accessFlags := 25, nameIndex := 123, descriptorIndex := 124, attributes := #[] }, { accessFlags := 25, nameIndex := 130, descriptorIndex := 124, attributes := #[] }, { accessFlags := 25, nameIndex := 136, descriptorIndex := 124, attributes := #[] }])
  fields := #[{ name := "SIOOBE_FORMATTER", type := (.object "java/util/function/BiFunction"), accessFlags := 25, slot := 0, constantValue := 0 }, { name := "AIOOBE_FORMATTER", type := (.object "java/util/function/BiFunction"), accessFlags := 25, slot := 1, constantValue := 0 }, { name := "IOOBE_FORMATTER", type := (.object "java/util/function/BiFunction"), accessFlags := 25, slot := 2, constantValue := 0 }]
  methods := #[k10m0, k10m1]
  instanceTypes := #[]
  staticTypes := #[(.object "java/util/function/BiFunction"), (.object "java/util/function/BiFunction"), (.object "java/util/function/BiFunction")]
  resolved := Array.replicate 194 none
  statics := some 1 }

def pool11 : Array CpInfo := pool [(2, .class_ 4), (1, u "java/lang/Object"), (0, u "<init>"), (0, u "()V"), (7, .class_ 16), (1, u "java/util/Arrays"), (57, .class_ 76), (1, u "java/util/Arrays$NaturalOrder"), (36, .class_ 115), (1, u "java/util/Arrays$LegacyMergeSort"), (1, u "Z"), (21, u "copyOfRange"), (10, .methodref 151 152), (0, .class_ 153), (0, .nameAndType 154 155), (0, u "java/lang/System"), (0, u "arraycopy"), (0, u "(Ljava/lang/Object;ILjava/lang/Object;II)V"), (148, .methodref 305 306), (0, .class_ 307), (0, .nameAndType 308 309), (0, u "java/lang/Math"), (0, u "min"), (0, u "(II)I"), (29, .methodref 14 340), (0, .nameAndType 341 342), (0, u "copyOfRangeByte"), (0, u "([BII)[B"), (0, .methodref 14 344), (0, .nameAndType 345 346), (0, u "checkLength"), (0, u "(II)V"), (28, .class_ 376), (0, u "java/util/Arrays$ArrayList"), (68, u "$assertionsDisabled"), (269, u "MIN_ARRAY_SORT_GRAN"), (0, u "I"), (2, u "INSERTIONSORT_THRESHOLD"), (255, .class_ 976), (0, u "java/util/Arrays$ArrayItr")] 52

def k11m0 : Method := { name := "<init>", desc := "()V", sig := { parameters := [], returnType := none }, accessFlags := 2, code := none }
def k11c1 : Code := { maxStack := 4, maxLocals := 2, code := jdk_65_method_131_code, exceptionTable := #[], attributes := #[] }
def k11m1 : Method := { name := "checkLength", desc := "(II)V", sig := { parameters := [.int, .int], returnType := none }, accessFlags := 10, code := some k11c1 }
def k11c2 : Code := { maxStack := 3, maxLocals := 3, code := jdk_65_method_132_code, exceptionTable := #[], attributes := #[] }
def k11m2 : Method := { name := "copyOfRange", desc := "([BII)[B", sig := { parameters := [(.array .byte), .int, .int], returnType := some (.array .byte) }, accessFlags := 9, code := some k11c2 }
def k11c3 : Code := { maxStack := 6, maxLocals := 5, code := jdk_65_method_133_code, exceptionTable := #[], attributes := #[] }
def k11m3 : Method := { name := "copyOfRangeByte", desc := "([BII)[B", sig := { parameters := [(.array .byte), .int, .int], returnType := some (.array .byte) }, accessFlags := 10, code := some k11c3 }
/-- java/util/Arrays -/
def k11 : Class := { plain "java/util/Arrays" (some 0) with
  accessFlags := 49
  interfaces := #[]
  cf := some (fileOf pool11 14 #[.nestMembers #[975, 375, 113, 74]] #[{ accessFlags := 2, nameIndex := 5, descriptorIndex := 6, attributes := #[] }, { accessFlags := 10, nameIndex := 345, descriptorIndex := 346, attributes := #[] }, { accessFlags := 9, nameIndex := 139, descriptorIndex := 342, attributes := #[] }, { accessFlags := 10, nameIndex := 341, descriptorIndex := 342, attributes := #[] }] 49 2 #[] #[{ accessFlags := 26, nameIndex := 715, descriptorIndex := 716, attributes := #[] }, { accessFlags := 26, nameIndex := 719, descriptorIndex := 716, attributes := #[] }, { accessFlags := 4120, nameIndex := 445, descriptorIndex := 117, attributes := #[] }])
  fields := #[{ name := "MIN_ARRAY_SORT_GRAN", type := .int, accessFlags := 26, slot := 0, constantValue := 0 }, { name := "INSERTIONSORT_THRESHOLD", type := .int, accessFlags := 26, slot := 1, constantValue := 0 }, { name := "$assertionsDisabled", type := .boolean, accessFlags := 4120, slot := 2, constantValue := 0 }]
  methods := #[k11m0, k11m1, k11m2, k11m3]
  instanceTypes := #[]
  staticTypes := #[.int, .int, .boolean]
  resolved := Array.replicate 1029 none
  statics := none }

def pool12 : Array CpInfo := pool [(1, .class_ 2), (0, u "java/lang/Math"), (1, .class_ 6), (1, u "java/lang/Object"), (0, u "<init>"), (0, u "()V"), (89, .class_ 100), (1, u "java/lang/Math$RandomNumberGeneratorHolder"), (71, u "negativeZeroFloatBits"), (0, u "J"), (2, u "negativeZeroDoubleBits"), (24, u "min"), (43, u "$assertionsDisabled"), (0, u "Z"), (88, u "(II)I"), (2, u "twoToTheDoubleScaleDown"), (0, u "D"), (4, u "twoToTheDoubleScaleUp"), (9, u "E"), (3, u "PI"), (2, u "TAU"), (2, u "DEGREES_TO_RADIANS"), (0, u "RADIANS_TO_DEGREES")] 94

def k12m0 : Method := { name := "<init>", desc := "()V", sig := { parameters := [], returnType := none }, accessFlags := 2, code := none }
def k12c1 : Code := { maxStack := 2, maxLocals := 2, code := jdk_29_method_69_code, exceptionTable := #[], attributes := #[] }
def k12m1 : Method := { name := "min", desc := "(II)I", sig := { parameters := [.int, .int], returnType := some .int }, accessFlags := 9, code := some k12c1 }
/-- java/lang/Math -/
def k12 : Class := { plain "java/lang/Math" (some 0) with
  accessFlags := 49
  interfaces := #[]
  cf := some (fileOf pool12 1 #[.nestMembers #[98]] #[{ accessFlags := 2, nameIndex := 7, descriptorIndex := 8, attributes := #[] }, { accessFlags := 9, nameIndex := 201, descriptorIndex := 335, attributes := #[] }] 49 4 #[] #[{ accessFlags := 25, nameIndex := 354, descriptorIndex := 339, attributes := #[] }, { accessFlags := 25, nameIndex := 358, descriptorIndex := 339, attributes := #[] }, { accessFlags := 25, nameIndex := 361, descriptorIndex := 339, attributes := #[] }, { accessFlags := 26, nameIndex := 364, descriptorIndex := 339, attributes := #[] }, { accessFlags := 26, nameIndex := 365, descriptorIndex := 339, attributes := #[] }, { accessFlags := 26, nameIndex := 172, descriptorIndex := 173, attributes := #[] }, { accessFlags := 26, nameIndex := 176, descriptorIndex := 173, attributes := #[] }, { accessFlags := 8, nameIndex := 344, descriptorIndex := 339, attributes := #[] }, { accessFlags := 8, nameIndex := 338, descriptorIndex := 339, attributes := #[] }, { accessFlags := 4120, nameIndex := 245, descriptorIndex := 246, attributes := #[] }])
  fields := #[{ name := "E", type := .double, accessFlags := 25, slot := 0, constantValue := 0 }, { name := "PI", type := .double, accessFlags := 25, slot := 1, constantValue := 0 }, { name := "TAU", type := .double, accessFlags := 25, slot := 2, constantValue := 0 }, { name := "DEGREES_TO_RADIANS", type := .double, accessFlags := 26, slot := 3, constantValue := 0 }, { name := "RADIANS_TO_DEGREES", type := .double, accessFlags := 26, slot := 4, constantValue := 0 }, { name := "negativeZeroFloatBits", type := .long, accessFlags := 26, slot := 5, constantValue := 0 }, { name := "negativeZeroDoubleBits", type := .long, accessFlags := 26, slot := 6, constantValue := 0 }, { name := "twoToTheDoubleScaleUp", type := .double, accessFlags := 8, slot := 7, constantValue := 0 }, { name := "twoToTheDoubleScaleDown", type := .double, accessFlags := 8, slot := 8, constantValue := 0 }, { name := "$assertionsDisabled", type := .boolean, accessFlags := 4120, slot := 9, constantValue := 0 }]
  methods := #[k12m0, k12m1]
  instanceTypes := #[]
  staticTypes := #[.double, .double, .double, .double, .double, .long, .long, .double, .double, .boolean]
  resolved := Array.replicate 460 none
  statics := none }

def pool13 : Array CpInfo := pool [(2, .class_ 4), (1, u "java/lang/Object"), (0, u "<init>"), (0, u "()V"), (1, .class_ 10), (1, u "java/lang/System"), (0, u "allowSecurityManager"), (0, u "I"), (16, u "cons"), (0, u "Ljava/io/Console;"), (77, .class_ 110), (1, u "java/lang/System$CallersHolder"), (43, u "initialErrStream"), (0, u "Ljava/io/PrintStream;"), (19, u "security"), (0, u "Ljava/lang/SecurityManager;"), (31, .class_ 209), (0, u "java/lang/System$1"), (7, u "props"), (0, u "Ljava/util/Properties;"), (2, u "lineSeparator"), (0, u "Ljava/lang/String;"), (96, .class_ 321), (1, u "java/lang/System$LoggerFinder"), (5, .class_ 328), (0, u "java/lang/System$Logger"), (67, u "err"), (2, u "out"), (91, u "notSupportedJnuEncoding"), (15, u "in"), (17, u "initialIn"), (0, u "Ljava/io/InputStream;"), (35, u "bootLayer"), (0, u "Ljava/lang/ModuleLayer;"), (99, .class_ 664), (0, u "java/lang/System$2"), (9, u "NEVER"), (2, u "MAYBE"), (49, u "arraycopy"), (0, u "(Ljava/lang/Object;ILjava/lang/Object;II)V"), (72, .class_ 802), (0, u "java/lang/System$Logger$Level")] 31

def k13m0 : Method := { name := "<init>", desc := "()V", sig := { parameters := [], returnType := none }, accessFlags := 2, code := none }
def k13m1 : Method := { name := "arraycopy", desc := "(Ljava/lang/Object;ILjava/lang/Object;II)V", sig := { parameters := [(.object "java/lang/Object"), .int, (.object "java/lang/Object"), .int, .int], returnType := none }, accessFlags := 265, code := none }
/-- java/lang/System -/
def k13 : Class := { plain "java/lang/System" (some 0) with
  accessFlags := 49
  interfaces := #[]
  cf := some (fileOf pool13 8 #[.nestMembers #[319, 327, 801, 108, 663, 208]] #[{ accessFlags := 2, nameIndex := 5, descriptorIndex := 6, attributes := #[] }, { accessFlags := 265, nameIndex := 727, descriptorIndex := 728, attributes := #[] }] 49 2 #[] #[{ accessFlags := 25, nameIndex := 507, descriptorIndex := 526, attributes := #[] }, { accessFlags := 25, nameIndex := 399, descriptorIndex := 155, attributes := #[] }, { accessFlags := 25, nameIndex := 396, descriptorIndex := 155, attributes := #[] }, { accessFlags := 10, nameIndex := 525, descriptorIndex := 526, attributes := #[] }, { accessFlags := 26, nameIndex := 674, descriptorIndex := 12, attributes := #[] }, { accessFlags := 26, nameIndex := 677, descriptorIndex := 12, attributes := #[] }, { accessFlags := 10, nameIndex := 11, descriptorIndex := 12, attributes := #[] }, { accessFlags := 74, nameIndex := 175, descriptorIndex := 176, attributes := #[] }, { accessFlags := 10, nameIndex := 491, descriptorIndex := 222, attributes := #[] }, { accessFlags := 74, nameIndex := 29, descriptorIndex := 30, attributes := #[] }, { accessFlags := 74, nameIndex := 154, descriptorIndex := 155, attributes := #[] }, { accessFlags := 10, nameIndex := 217, descriptorIndex := 218, attributes := #[] }, { accessFlags := 10, nameIndex := 221, descriptorIndex := 222, attributes := #[] }, { accessFlags := 8, nameIndex := 562, descriptorIndex := 563, attributes := #[] }])
  fields := #[{ name := "in", type := (.object "java/io/InputStream"), accessFlags := 25, slot := 0, constantValue := 0 }, { name := "out", type := (.object "java/io/PrintStream"), accessFlags := 25, slot := 1, constantValue := 0 }, { name := "err", type := (.object "java/io/PrintStream"), accessFlags := 25, slot := 2, constantValue := 0 }, { name := "initialIn", type := (.object "java/io/InputStream"), accessFlags := 10, slot := 3, constantValue := 0 }, { name := "NEVER", type := .int, accessFlags := 26, slot := 4, constantValue := 0 }, { name := "MAYBE", type := .int, accessFlags := 26, slot := 5, constantValue := 0 }, { name := "allowSecurityManager", type := .int, accessFlags := 10, slot := 6, constantValue := 0 }, { name := "security", type := (.object "java/lang/SecurityManager"), accessFlags := 74, slot := 7, constantValue := 0 }, { name := "notSupportedJnuEncoding", type := (.object "java/lang/String"), accessFlags := 10, slot := 8, constantValue := 0 }, { name := "cons", type := (.object "java/io/Console"), accessFlags := 74, slot := 9, constantValue := 0 }, { name := "initialErrStream", type := (.object "java/io/PrintStream"), accessFlags := 74, slot := 10, constantValue := 0 }, { name := "props", type := (.object "java/util/Properties"), accessFlags := 10, slot := 11, constantValue := 0 }, { name := "lineSeparator", type := (.object "java/lang/String"), accessFlags := 10, slot := 12, constantValue := 0 }, { name := "bootLayer", type := (.object "java/lang/ModuleLayer"), accessFlags := 8, slot := 13, constantValue := 0 }]
  methods := #[k13m0, k13m1]
  instanceTypes := #[]
  staticTypes := #[(.object "java/io/InputStream"), (.object "java/io/PrintStream"), (.object "java/io/PrintStream"), (.object "java/io/InputStream"), .int, .int, .int, (.object "java/lang/SecurityManager"), (.object "java/lang/String"), (.object "java/io/Console"), (.object "java/io/PrintStream"), (.object "java/util/Properties"), (.object "java/lang/String"), (.object "java/lang/ModuleLayer")]
  resolved := Array.replicate 834 none
  statics := none }

def pool14 : Array CpInfo := pool [(6, .class_ 8), (1, u "java/lang/Object"), (0, u "<init>"), (0, u "()V"), (1, .class_ 14), (1, u "java/lang/StringUTF16"), (31, u "$assertionsDisabled"), (0, u "Z"), (13, u "HI_BYTE_SHIFT"), (0, u "I"), (2, u "LO_BYTE_SHIFT"), (49, .methodref 12 116), (0, .nameAndType 117 118), (0, u "compress"), (0, u "([CI[BII)I"), (3, u "([CII)[B"), (138, u "coderFromArrayLen"), (0, u "([BI)B"), (106, .class_ 371), (1, u "java/lang/StringUTF16$LinesSpliterator"), (58, u "MAX_LENGTH"), (196, .class_ 628), (0, u "java/lang/StringUTF16$CodePointsSpliterator"), (0, .class_ 630), (0, u "java/lang/StringUTF16$CharsSpliterator")] 4

def k14m0 : Method := { name := "<init>", desc := "()V", sig := { parameters := [], returnType := none }, accessFlags := 0, code := none }
def k14c1 : Code := { maxStack := 2, maxLocals := 2, code := jdk_52_method_15_code, exceptionTable := #[], attributes := #[] }
def k14m1 : Method := { name := "coderFromArrayLen", desc := "([BI)B", sig := { parameters := [(.array .byte), .int], returnType := some .byte }, accessFlags := 8, code := some k14c1 }
def k14c2 : Code := { maxStack := 5, maxLocals := 6, code := jdk_52_method_16_code, exceptionTable := #[], attributes := #[] }
def k14m2 : Method := { name := "compress", desc := "([CII)[B", sig := { parameters := [(.array .char), .int, .int], returnType := some (.array .byte) }, accessFlags := 9, code := some k14c2 }
def k14c3 : Code := { maxStack := 3, maxLocals := 7, code := jdk_52_method_21_code, exceptionTable := #[], attributes := #[] }
def k14m3 : Method := { name := "compress", desc := "([CI[BII)I", sig := { parameters := [(.array .char), .int, (.array .byte), .int, .int], returnType := some .int }, accessFlags := 9, code := some k14c3 }
/-- java/lang/StringUTF16 -/
def k14 : Class := { plain "java/lang/StringUTF16" (some 0) with
  accessFlags := 48
  interfaces := #[]
  cf := some (fileOf pool14 12 #[.nestMembers #[627, 629, 369]] #[{ accessFlags := 0, nameIndex := 9, descriptorIndex := 10, attributes := #[] }, { accessFlags := 8, nameIndex := 261, descriptorIndex := 262, attributes := #[] }, { accessFlags := 9, nameIndex := 117, descriptorIndex := 122, attributes := #[] }, { accessFlags := 9, nameIndex := 117, descriptorIndex := 118, attributes := #[] }] 48 6 #[] #[{ accessFlags := 26, nameIndex := 61, descriptorIndex := 62, attributes := #[] }, { accessFlags := 26, nameIndex := 65, descriptorIndex := 62, attributes := #[] }, { accessFlags := 24, nameIndex := 430, descriptorIndex := 62, attributes := #[] }, { accessFlags := 4120, nameIndex := 46, descriptorIndex := 47, attributes := #[] }])
  fields := #[{ name := "HI_BYTE_SHIFT", type := .int, accessFlags := 26, slot := 0, constantValue := 0 }, { name := "LO_BYTE_SHIFT", type := .int, accessFlags := 26, slot := 1, constantValue := 0 }, { name := "MAX_LENGTH", type := .int, accessFlags := 24, slot := 2, constantValue := 0 }, { name := "$assertionsDisabled", type := .boolean, accessFlags := 4120, slot := 3, constantValue := 0 }]
  methods := #[k14m0, k14m1, k14m2, k14m3]
  instanceTypes := #[]
  staticTypes := #[.int, .int, .int, .boolean]
  resolved := Array.replicate 635 none
  statics := none }

def pool15 : Array CpInfo := pool [(9, u "<init>"), (6, .class_ 18), (1, u "java/lang/Object"), (0, u "()V"), (1, .class_ 23), (1, u "jdk/internal/util/ArraysSupport"), (0, u "LOG2_ARRAY_LONG_INDEX_SCALE"), (0, u "I"), (2, u "U"), (0, u "Ljdk/internal/misc/Unsafe;"), (8, u "BIG_ENDIAN"), (0, u "Z"), (8, u "LOG2_BYTE_BIT_SIZE"), (4, u "LOG2_ARRAY_INT_INDEX_SCALE"), (54, u "JLA"), (0, u "Ljdk/internal/access/JavaLangAccess;"), (11, u "LOG2_ARRAY_BOOLEAN_INDEX_SCALE"), (9, u "LOG2_ARRAY_BYTE_INDEX_SCALE"), (5, u "LOG2_ARRAY_CHAR_INDEX_SCALE"), (5, u "LOG2_ARRAY_SHORT_INDEX_SCALE"), (18, u "LOG2_ARRAY_FLOAT_INDEX_SCALE"), (24, u "LOG2_ARRAY_DOUBLE_INDEX_SCALE"), (89, u "T_BOOLEAN"), (2, u "T_CHAR"), (1, u "T_FLOAT"), (1, u "T_DOUBLE"), (1, u "T_BYTE"), (1, u "T_SHORT"), (1, u "T_INT"), (1, u "T_LONG"), (1, u "SOFT_MAX_ARRAY_LENGTH")] 83

def k15m0 : Method := { name := "<init>", desc := "()V", sig := { parameters := [], returnType := none }, accessFlags := 2, code := none }
/-- jdk/internal/util/ArraysSupport -/
def k15 : Class := { plain "jdk/internal/util/ArraysSupport" (some 0) with
  accessFlags := 33
  interfaces := #[]
  cf := some (fileOf pool15 21 #[] #[{ accessFlags := 2, nameIndex := 9, descriptorIndex := 19, attributes := #[] }] 33 16 #[] #[{ accessFlags := 24, nameIndex := 28, descriptorIndex := 29, attributes := #[] }, { accessFlags := 26, nameIndex := 38, descriptorIndex := 39, attributes := #[] }, { accessFlags := 25, nameIndex := 121, descriptorIndex := 25, attributes := #[] }, { accessFlags := 25, nameIndex := 131, descriptorIndex := 25, attributes := #[] }, { accessFlags := 25, nameIndex := 137, descriptorIndex := 25, attributes := #[] }, { accessFlags := 25, nameIndex := 143, descriptorIndex := 25, attributes := #[] }, { accessFlags := 25, nameIndex := 53, descriptorIndex := 25, attributes := #[] }, { accessFlags := 25, nameIndex := 24, descriptorIndex := 25, attributes := #[] }, { accessFlags := 25, nameIndex := 162, descriptorIndex := 25, attributes := #[] }, { accessFlags := 25, nameIndex := 187, descriptorIndex := 25, attributes := #[] }, { accessFlags := 26, nameIndex := 48, descriptorIndex := 25, attributes := #[] }, { accessFlags := 25, nameIndex := 277, descriptorIndex := 25, attributes := #[] }, { accessFlags := 25, nameIndex := 280, descriptorIndex := 25, attributes := #[] }, { accessFlags := 25, nameIndex := 282, descriptorIndex := 25, attributes := #[] }, { accessFlags := 25, nameIndex := 284, descriptorIndex := 25, attributes := #[] }, { accessFlags := 25, nameIndex := 286, descriptorIndex := 25, attributes := #[] }, { accessFlags := 25, nameIndex := 288, descriptorIndex := 25, attributes := #[] }, { accessFlags := 25, nameIndex := 290, descriptorIndex := 25, attributes := #[] }, { accessFlags := 25, nameIndex := 292, descriptorIndex := 25, attributes := #[] }, { accessFlags := 26, nameIndex := 108, descriptorIndex := 109, attributes := #[] }, { accessFlags := 25, nameIndex := 294, descriptorIndex := 25, attributes := #[] }])
  fields := #[{ name := "U", type := (.object "jdk/internal/misc/Unsafe"), accessFlags := 24, slot := 0, constantValue := 0 }, { name := "BIG_ENDIAN", type := .boolean, accessFlags := 26, slot := 1, constantValue := 0 }, { name := "LOG2_ARRAY_BOOLEAN_INDEX_SCALE", type := .int, accessFlags := 25, slot := 2, constantValue := 0 }, { name := "LOG2_ARRAY_BYTE_INDEX_SCALE", type := .int, accessFlags := 25, slot := 3, constantValue := 0 }, { name := "LOG2_ARRAY_CHAR_INDEX_SCALE", type := .int, accessFlags := 25, slot := 4, constantValue := 0 }, { name := "LOG2_ARRAY_SHORT_INDEX_SCALE", type := .int, accessFlags := 25, slot := 5, constantValue := 0 }, { name := "LOG2_ARRAY_INT_INDEX_SCALE", type := .int, accessFlags := 25, slot := 6, constantValue := 0 }, { name := "LOG2_ARRAY_LONG_INDEX_SCALE", type := .int, accessFlags := 25, slot := 7, constantValue := 0 }, { name := "LOG2_ARRAY_FLOAT_INDEX_SCALE", type := .int, accessFlags := 25, slot := 8, constantValue := 0 }, { name := "LOG2_ARRAY_DOUBLE_INDEX_SCALE", type := .int, accessFlags := 25, slot := 9, constantValue := 0 }, { name := "LOG2_BYTE_BIT_SIZE", type := .int, accessFlags := 26, slot := 10, constantValue := 0 }, { name := "T_BOOLEAN", type := .int, accessFlags := 25, slot := 11, constantValue := 0 }, { name := "T_CHAR", type := .int, accessFlags := 25, slot := 12, constantValue := 0 }, { name := "T_FLOAT", type := .int, accessFlags := 25, slot := 13, constantValue := 0 }, { name := "T_DOUBLE", type := .int, accessFlags := 25, slot := 14, constantValue := 0 }, { name := "T_BYTE", type := .int, accessFlags := 25, slot := 15, constantValue := 0 }, { name := "T_SHORT", type := .int, accessFlags := 25, slot := 16, constantValue := 0 }, { name := "T_INT", type := .int, accessFlags := 25, slot := 17, constantValue := 0 }, { name := "T_LONG", type := .int, accessFlags := 25, slot := 18, constantValue := 0 }, { name := "JLA", type := (.object "jdk/internal/access/JavaLangAccess"), accessFlags := 26, slot := 19, constantValue := 0 }, { name := "SOFT_MAX_ARRAY_LENGTH", type := .int, accessFlags := 25, slot := 20, constantValue := 0 }]
  methods := #[k15m0]
  instanceTypes := #[]
  staticTypes := #[(.object "jdk/internal/misc/Unsafe"), .boolean, .int, .int, .int, .int, .int, .int, .int, .int, .int, .int, .int, .int, .int, .int, .int, .int, .int, (.object "jdk/internal/access/JavaLangAccess"), .int]
  resolved := Array.replicate 378 none
  statics := none }

def pool16 : Array CpInfo := pool [(1, u "java/lang/Cloneable"), (0, .class_ 1), (0, u "java/lang/Object"), (0, .class_ 3)] 3

/-- java/lang/Cloneable -/
def k16 : Class := { plain "java/lang/Cloneable" (some 0) with
  accessFlags := 1537
  interfaces := #[]
  cf := some (fileOf pool16 2 #[] #[] 1537 4 #[] #[])
  fields := #[]
  methods := #[]
  instanceTypes := #[]
  staticTypes := #[]
  resolved := Array.replicate 8 none
  statics := none }

/-- the primitive byte -/
def k17 : Class := { plain "byte" none with kind := .primitive 'B', accessFlags := 0x411 }
/-- [B -/
def k18 : Class := { plain "[B" (some 0) with kind := .array 17 .byte, interfaces := #[16, 2], accessFlags := 1041 }

/-- the primitive char -/
def k19 : Class := { plain "char" none with kind := .primitive 'C', accessFlags := 0x411 }
/-- [C -/
def k20 : Class := { plain "[C" (some 0) with kind := .array 19 .char, interfaces := #[16, 2], accessFlags := 1041 }

/-- the primitive int -/
def k21 : Class := { plain "int" none with kind := .primitive 'I', accessFlags := 0x411 }
/-- [I -/
def k22 : Class := { plain "[I" (some 0) with kind := .array 21 .int, interfaces := #[16, 2], accessFlags := 1041 }

def heap : Heap := #[{ cls := 7, slots := #[.long 0, .int 1, .null, .int 0, .null, .int 0, .int 0], vm := .statics 7 },
  { cls := 10, slots := #[.null, .null, .null], vm := .statics 10 }]
def classes : Array Class := #[k0, k1, k2, k3, k4, k5, k6, k7, k8, k9, k10, k11, k12, k13, k14, k15, k16, k17, k18, k19, k20, k21, k22]
def interned : List (Array UInt16 × Addr) := []
def slotsUsed : Nat := 10
def theMethod : MethodId := ⟨1, 2⟩
def args0 : Array Value := #[.int 5, .int 5, .int 5, .int 5, .int 5]
def aboutOver (below : List Frame) : State where
  vm := { classes := classes, interned := interned.toArray }
  heap := heap
  slotsUsed := slotsUsed
  threads := #[{ frames := .invoking theMethod args0 :: below }]
def below0 : List Frame := [.native { method := ⟨0, 0⟩, args := #[] }]
def about1 : State := aboutOver below0
def p0 : Program := .bare "" "" ""
def e0 : Env := launch0.env 0 0 0
theorem w_frames : about1.frames = Frame.invoking theMethod args0 :: below0 := rfl
set_option maxRecDepth 65536 in
theorem w_args : argsFit about1.vm theMethod args0 = true := by decide +kernel
set_option maxRecDepth 65536 in
theorem w_heap : heapFits about1 = true := by decide +kernel
set_option maxRecDepth 65536 in
theorem w_runnable : about1.curStatus? = some .runnable := by decide +kernel
set_option maxRecDepth 65536 in
theorem w_alone : about1.alone = true := by decide +kernel
set_option maxRecDepth 65536 in
theorem w_named : about1.methodNamed? x = some theMethod := by decide +kernel
set_option maxRecDepth 65536 in
theorem w_hears : about1.hears theMethod below0 = true := by decide +kernel
set_option maxRecDepth 65536 in
theorem w_ripe : about1.ripe theMethod args0 below0 = true := by decide +kernel
theorem w_running : about1.status = .running := rfl
set_option maxRecDepth 65536 in
theorem w_room : about1.hasRoom e0.platform room_1 = true :=
  launch0.hasRoom_least _ room_1 (by decide +kernel) (by decide +kernel) (by decide +kernel) (by decide +kernel) (by decide +kernel) (by decide +kernel)
theorem allAtoms_all (ts : List Jvm.Cond) (a : Array Jvm.Value) (st : Jvm.State) : (allAtoms ts).before a st = ts.all (fun c => c.before a st) := by
  induction ts with
  | nil => rfl
  | cons c t ih =>
    show (Jvm.Cond.and c (allAtoms t)).before a st = _
    rw [Jvm.Cond.before_and, ih, List.all_cons]
def words1 : List Jvm.Cond := Jvm.Cond.code x code maxLocals ret :: tables_1
/-- a 'code' word, met by the world's own term for the bytes: nothing is compared byte by byte -/
theorem code_word {y : MethodName} {bytes : ByteArray} {mx : Nat} {rt : Option FieldType} {a : Array Value} {s : State} {m : MethodId} {meth : Method} {c : Code} (h1 : s.methodNamed? y = some m) (h2 : s.vm.method? m = some meth) (h3 : meth.code = some c) (h4 : c.code = bytes)
    (h5 : (c.maxLocals == mx && c.exceptionTable.isEmpty && decide (c.maxStack ≤ mostOperands) && decide (meth.sig.returnType = rt) && !meth.locks && decide (parseMethodDescriptor y.desc = some meth.sig)) = true) : (Jvm.Cond.code y bytes mx rt).before a s = true := by
  simp only [Bool.and_eq_true, beq_iff_eq, Bool.not_eq_true', decide_eq_true_eq] at h5
  obtain ⟨⟨⟨⟨⟨g1, g2⟩, g3⟩, g4⟩, g5⟩, g6⟩ := h5
  simp [Cond.before, Cond.holds, Cond.value, h1, h2, h3, h4, g1, g2, g3, g4, g5, g6]
def isCode : Jvm.Cond → Bool
  | .code _ _ _ _ => true
  | _ => false
theorem all_split {L : List Jvm.Cond} {P : Jvm.Cond → Bool} (h1 : L.all (fun c => isCode c || P c) = true) (h2 : ∀ c ∈ L.filter isCode, P c = true) : L.all P = true := by
  refine List.all_eq_true.mpr fun c hc => ?_
  have h := List.all_eq_true.mp h1 c hc
  rcases Bool.eq_false_or_eq_true (isCode c) with hi | hi
  · exact h2 c (List.mem_filter.mpr ⟨hc, hi⟩)
  · simpa [hi] using h
set_option maxRecDepth 65536 in
theorem w_c0 : (Jvm.Cond.code x code maxLocals ret).before args0 about1 = true := code_word (m := ⟨1, 2⟩) (meth := k1m2) (c := k1c2) (by decide +kernel) rfl rfl rfl (by decide +kernel)
set_option maxRecDepth 65536 in
theorem w_c1 : (Jvm.Cond.code ({ cls := "com/example/roles_over_datacenter/rolesoverdatacenter/PageRedirectsPinLaw", name := "draw", desc := "(I)C" } : Jvm.MethodName) method_2_code (2 : Nat) (Option.some Jvm.ClassFile.FieldType.char)).before args0 about1 = true := code_word (m := ⟨1, 1⟩) (meth := k1m1) (c := k1c1) (by decide +kernel) rfl rfl rfl (by decide +kernel)
set_option maxRecDepth 65536 in
theorem w_c2 : (Jvm.Cond.code ({ cls := "java/lang/String", name := "<init>", desc := "([C)V" } : Jvm.MethodName) jdk_42_method_3_code (2 : Nat) (Option.none : Option Jvm.ClassFile.FieldType)).before args0 about1 = true := code_word (m := ⟨7, 1⟩) (meth := k7m1) (c := k7c1) (by decide +kernel) rfl rfl rfl (by decide +kernel)
set_option maxRecDepth 65536 in
theorem w_c3 : (Jvm.Cond.code ({ cls := "java/lang/String", name := "<init>", desc := "([CIILjava/lang/Void;)V" } : Jvm.MethodName) jdk_42_method_149_code (6 : Nat) (Option.none : Option Jvm.ClassFile.FieldType)).before args0 about1 = true := code_word (m := ⟨7, 5⟩) (meth := k7m5) (c := k7c5) (by decide +kernel) rfl rfl rfl (by decide +kernel)
set_option maxRecDepth 65536 in
theorem w_c4 : (Jvm.Cond.code ({ cls := "java/lang/Object", name := "<init>", desc := "()V" } : Jvm.MethodName) object_method_1_code (1 : Nat) (Option.none : Option Jvm.ClassFile.FieldType)).before args0 about1 = true := code_word (m := ⟨0, 0⟩) (meth := k0m0) (c := k0c0) (by decide +kernel) rfl rfl rfl (by decide +kernel)
set_option maxRecDepth 65536 in
theorem w_c5 : (Jvm.Cond.code ({ cls := "com/example/roles_over_datacenter/rolesoverdatacenter/Page", name := "redirects", desc := "(Ljava/lang/String;)Z" } : Jvm.MethodName) prog_11_method_4_code (1 : Nat) (Option.some Jvm.ClassFile.FieldType.boolean)).before args0 about1 = true := code_word (m := ⟨8, 0⟩) (meth := k8m0) (c := k8c0) (by decide +kernel) rfl rfl rfl (by decide +kernel)
set_option maxRecDepth 65536 in
theorem w_c6 : (Jvm.Cond.code ({ cls := "java/lang/String", name := "equals", desc := "(Ljava/lang/Object;)Z" } : Jvm.MethodName) jdk_42_method_66_code (3 : Nat) (Option.some Jvm.ClassFile.FieldType.boolean)).before args0 about1 = true := code_word (m := ⟨7, 3⟩) (meth := k7m3) (c := k7c3) (by decide +kernel) rfl rfl rfl (by decide +kernel)
set_option maxRecDepth 65536 in
theorem w_c7 : (Jvm.Cond.code ({ cls := "java/lang/StringLatin1", name := "equals", desc := "([B[B)Z" } : Jvm.MethodName) jdk_43_method_13_code (3 : Nat) (Option.some Jvm.ClassFile.FieldType.boolean)).before args0 about1 = true := code_word (m := ⟨9, 1⟩) (meth := k9m1) (c := k9c1) (by decide +kernel) rfl rfl rfl (by decide +kernel)
set_option maxRecDepth 65536 in
theorem w_c8 : (Jvm.Cond.code ({ cls := "java/lang/String", name := "length", desc := "()I" } : Jvm.MethodName) jdk_42_method_54_code (1 : Nat) (Option.some Jvm.ClassFile.FieldType.int)).before args0 about1 = true := code_word (m := ⟨7, 2⟩) (meth := k7m2) (c := k7c2) (by decide +kernel) rfl rfl rfl (by decide +kernel)
set_option maxRecDepth 65536 in
theorem w_c9 : (Jvm.Cond.code ({ cls := "java/lang/String", name := "coder", desc := "()B" } : Jvm.MethodName) jdk_42_method_152_code (1 : Nat) (Option.some Jvm.ClassFile.FieldType.byte)).before args0 about1 = true := code_word (m := ⟨7, 7⟩) (meth := k7m7) (c := k7c7) (by decide +kernel) rfl rfl rfl (by decide +kernel)
set_option maxRecDepth 65536 in
theorem w_c10 : (Jvm.Cond.code ({ cls := "java/lang/String", name := "substring", desc := "(II)Ljava/lang/String;" } : Jvm.MethodName) jdk_42_method_92_code (5 : Nat) (Option.some (Jvm.ClassFile.FieldType.object "java/lang/String"))).before args0 about1 = true := code_word (m := ⟨7, 4⟩) (meth := k7m4) (c := k7c4) (by decide +kernel) rfl rfl rfl (by decide +kernel)
set_option maxRecDepth 65536 in
theorem w_c11 : (Jvm.Cond.code ({ cls := "java/lang/String", name := "checkBoundsBeginEnd", desc := "(III)V" } : Jvm.MethodName) jdk_42_method_158_code (3 : Nat) (Option.none : Option Jvm.ClassFile.FieldType)).before args0 about1 = true := code_word (m := ⟨7, 9⟩) (meth := k7m9) (c := k7c9) (by decide +kernel) rfl rfl rfl (by decide +kernel)
set_option maxRecDepth 65536 in
theorem w_c12 : (Jvm.Cond.code ({ cls := "jdk/internal/util/Preconditions", name := "checkFromToIndex", desc := "(IIILjava/util/function/BiFunction;)I" } : Jvm.MethodName) jdk_41_method_12_code (4 : Nat) (Option.some Jvm.ClassFile.FieldType.int)).before args0 about1 = true := code_word (m := ⟨10, 1⟩) (meth := k10m1) (c := k10c1) (by decide +kernel) rfl rfl rfl (by decide +kernel)
set_option maxRecDepth 65536 in
theorem w_c13 : (Jvm.Cond.code ({ cls := "java/lang/String", name := "isLatin1", desc := "()Z" } : Jvm.MethodName) jdk_42_method_154_code (1 : Nat) (Option.some Jvm.ClassFile.FieldType.boolean)).before args0 about1 = true := code_word (m := ⟨7, 8⟩) (meth := k7m8) (c := k7c8) (by decide +kernel) rfl rfl rfl (by decide +kernel)
set_option maxRecDepth 65536 in
theorem w_c14 : (Jvm.Cond.code ({ cls := "java/lang/StringLatin1", name := "newString", desc := "([BII)Ljava/lang/String;" } : Jvm.MethodName) jdk_43_method_47_code (3 : Nat) (Option.some (Jvm.ClassFile.FieldType.object "java/lang/String"))).before args0 about1 = true := code_word (m := ⟨9, 2⟩) (meth := k9m2) (c := k9c2) (by decide +kernel) rfl rfl rfl (by decide +kernel)
set_option maxRecDepth 65536 in
theorem w_c15 : (Jvm.Cond.code ({ cls := "java/util/Arrays", name := "copyOfRange", desc := "([BII)[B" } : Jvm.MethodName) jdk_65_method_132_code (3 : Nat) (Option.some (Jvm.ClassFile.FieldType.array Jvm.ClassFile.FieldType.byte))).before args0 about1 = true := code_word (m := ⟨11, 2⟩) (meth := k11m2) (c := k11c2) (by decide +kernel) rfl rfl rfl (by decide +kernel)
set_option maxRecDepth 65536 in
theorem w_c16 : (Jvm.Cond.code ({ cls := "java/util/Arrays", name := "copyOfRangeByte", desc := "([BII)[B" } : Jvm.MethodName) jdk_65_method_133_code (5 : Nat) (Option.some (Jvm.ClassFile.FieldType.array Jvm.ClassFile.FieldType.byte))).before args0 about1 = true := code_word (m := ⟨11, 3⟩) (meth := k11m3) (c := k11c3) (by decide +kernel) rfl rfl rfl (by decide +kernel)
set_option maxRecDepth 65536 in
theorem w_c17 : (Jvm.Cond.code ({ cls := "java/util/Arrays", name := "checkLength", desc := "(II)V" } : Jvm.MethodName) jdk_65_method_131_code (2 : Nat) (Option.none : Option Jvm.ClassFile.FieldType)).before args0 about1 = true := code_word (m := ⟨11, 1⟩) (meth := k11m1) (c := k11c1) (by decide +kernel) rfl rfl rfl (by decide +kernel)
set_option maxRecDepth 65536 in
theorem w_c18 : (Jvm.Cond.code ({ cls := "java/lang/Math", name := "min", desc := "(II)I" } : Jvm.MethodName) jdk_29_method_69_code (2 : Nat) (Option.some Jvm.ClassFile.FieldType.int)).before args0 about1 = true := code_word (m := ⟨12, 1⟩) (meth := k12m1) (c := k12c1) (by decide +kernel) rfl rfl rfl (by decide +kernel)
set_option maxRecDepth 65536 in
theorem w_c19 : (Jvm.Cond.code ({ cls := "java/lang/String", name := "<init>", desc := "([BB)V" } : Jvm.MethodName) jdk_42_method_151_code (3 : Nat) (Option.none : Option Jvm.ClassFile.FieldType)).before args0 about1 = true := code_word (m := ⟨7, 6⟩) (meth := k7m6) (c := k7c6) (by decide +kernel) rfl rfl rfl (by decide +kernel)
set_option maxRecDepth 65536 in
theorem w_c20 : (Jvm.Cond.code ({ cls := "java/lang/StringUTF16", name := "compress", desc := "([CII)[B" } : Jvm.MethodName) jdk_52_method_16_code (6 : Nat) (Option.some (Jvm.ClassFile.FieldType.array Jvm.ClassFile.FieldType.byte))).before args0 about1 = true := code_word (m := ⟨14, 2⟩) (meth := k14m2) (c := k14c2) (by decide +kernel) rfl rfl rfl (by decide +kernel)
set_option maxRecDepth 65536 in
theorem w_c21 : (Jvm.Cond.code ({ cls := "java/lang/StringUTF16", name := "compress", desc := "([CI[BII)I" } : Jvm.MethodName) jdk_52_method_21_code (7 : Nat) (Option.some Jvm.ClassFile.FieldType.int)).before args0 about1 = true := code_word (m := ⟨14, 3⟩) (meth := k14m3) (c := k14c3) (by decide +kernel) rfl rfl rfl (by decide +kernel)
set_option maxRecDepth 65536 in
theorem w_c22 : (Jvm.Cond.code ({ cls := "java/lang/StringUTF16", name := "coderFromArrayLen", desc := "([BI)B" } : Jvm.MethodName) jdk_52_method_15_code (2 : Nat) (Option.some Jvm.ClassFile.FieldType.byte)).before args0 about1 = true := code_word (m := ⟨14, 1⟩) (meth := k14m1) (c := k14c1) (by decide +kernel) rfl rfl rfl (by decide +kernel)
def codes1 : List Jvm.Cond := [Jvm.Cond.code x code maxLocals ret, Jvm.Cond.code ({ cls := "com/example/roles_over_datacenter/rolesoverdatacenter/PageRedirectsPinLaw", name := "draw", desc := "(I)C" } : Jvm.MethodName) method_2_code (2 : Nat) (Option.some Jvm.ClassFile.FieldType.char), Jvm.Cond.code ({ cls := "java/lang/String", name := "<init>", desc := "([C)V" } : Jvm.MethodName) jdk_42_method_3_code (2 : Nat) (Option.none : Option Jvm.ClassFile.FieldType), Jvm.Cond.code ({ cls := "java/lang/String", name := "<init>", desc := "([CIILjava/lang/Void;)V" } : Jvm.MethodName) jdk_42_method_149_code (6 : Nat) (Option.none : Option Jvm.ClassFile.FieldType), Jvm.Cond.code ({ cls := "java/lang/Object", name := "<init>", desc := "()V" } : Jvm.MethodName) object_method_1_code (1 : Nat) (Option.none : Option Jvm.ClassFile.FieldType), Jvm.Cond.code ({ cls := "com/example/roles_over_datacenter/rolesoverdatacenter/Page", name := "redirects", desc := "(Ljava/lang/String;)Z" } : Jvm.MethodName) prog_11_method_4_code (1 : Nat) (Option.some Jvm.ClassFile.FieldType.boolean), Jvm.Cond.code ({ cls := "java/lang/String", name := "equals", desc := "(Ljava/lang/Object;)Z" } : Jvm.MethodName) jdk_42_method_66_code (3 : Nat) (Option.some Jvm.ClassFile.FieldType.boolean), Jvm.Cond.code ({ cls := "java/lang/StringLatin1", name := "equals", desc := "([B[B)Z" } : Jvm.MethodName) jdk_43_method_13_code (3 : Nat) (Option.some Jvm.ClassFile.FieldType.boolean), Jvm.Cond.code ({ cls := "java/lang/String", name := "length", desc := "()I" } : Jvm.MethodName) jdk_42_method_54_code (1 : Nat) (Option.some Jvm.ClassFile.FieldType.int), Jvm.Cond.code ({ cls := "java/lang/String", name := "coder", desc := "()B" } : Jvm.MethodName) jdk_42_method_152_code (1 : Nat) (Option.some Jvm.ClassFile.FieldType.byte), Jvm.Cond.code ({ cls := "java/lang/String", name := "substring", desc := "(II)Ljava/lang/String;" } : Jvm.MethodName) jdk_42_method_92_code (5 : Nat) (Option.some (Jvm.ClassFile.FieldType.object "java/lang/String")), Jvm.Cond.code ({ cls := "java/lang/String", name := "checkBoundsBeginEnd", desc := "(III)V" } : Jvm.MethodName) jdk_42_method_158_code (3 : Nat) (Option.none : Option Jvm.ClassFile.FieldType), Jvm.Cond.code ({ cls := "jdk/internal/util/Preconditions", name := "checkFromToIndex", desc := "(IIILjava/util/function/BiFunction;)I" } : Jvm.MethodName) jdk_41_method_12_code (4 : Nat) (Option.some Jvm.ClassFile.FieldType.int), Jvm.Cond.code ({ cls := "java/lang/String", name := "isLatin1", desc := "()Z" } : Jvm.MethodName) jdk_42_method_154_code (1 : Nat) (Option.some Jvm.ClassFile.FieldType.boolean), Jvm.Cond.code ({ cls := "java/lang/StringLatin1", name := "newString", desc := "([BII)Ljava/lang/String;" } : Jvm.MethodName) jdk_43_method_47_code (3 : Nat) (Option.some (Jvm.ClassFile.FieldType.object "java/lang/String")), Jvm.Cond.code ({ cls := "java/util/Arrays", name := "copyOfRange", desc := "([BII)[B" } : Jvm.MethodName) jdk_65_method_132_code (3 : Nat) (Option.some (Jvm.ClassFile.FieldType.array Jvm.ClassFile.FieldType.byte)), Jvm.Cond.code ({ cls := "java/util/Arrays", name := "copyOfRangeByte", desc := "([BII)[B" } : Jvm.MethodName) jdk_65_method_133_code (5 : Nat) (Option.some (Jvm.ClassFile.FieldType.array Jvm.ClassFile.FieldType.byte)), Jvm.Cond.code ({ cls := "java/util/Arrays", name := "checkLength", desc := "(II)V" } : Jvm.MethodName) jdk_65_method_131_code (2 : Nat) (Option.none : Option Jvm.ClassFile.FieldType), Jvm.Cond.code ({ cls := "java/lang/Math", name := "min", desc := "(II)I" } : Jvm.MethodName) jdk_29_method_69_code (2 : Nat) (Option.some Jvm.ClassFile.FieldType.int), Jvm.Cond.code ({ cls := "java/lang/String", name := "<init>", desc := "([BB)V" } : Jvm.MethodName) jdk_42_method_151_code (3 : Nat) (Option.none : Option Jvm.ClassFile.FieldType), Jvm.Cond.code ({ cls := "java/lang/StringUTF16", name := "compress", desc := "([CII)[B" } : Jvm.MethodName) jdk_52_method_16_code (6 : Nat) (Option.some (Jvm.ClassFile.FieldType.array Jvm.ClassFile.FieldType.byte)), Jvm.Cond.code ({ cls := "java/lang/StringUTF16", name := "compress", desc := "([CI[BII)I" } : Jvm.MethodName) jdk_52_method_21_code (7 : Nat) (Option.some Jvm.ClassFile.FieldType.int), Jvm.Cond.code ({ cls := "java/lang/StringUTF16", name := "coderFromArrayLen", desc := "([BI)B" } : Jvm.MethodName) jdk_52_method_15_code (2 : Nat) (Option.some Jvm.ClassFile.FieldType.byte)]
set_option maxRecDepth 65536 in
theorem codes_eq : words1.filter isCode = codes1 := rfl
theorem w_codes : ∀ c ∈ words1.filter isCode, c.before args0 about1 = true := by
  rw [codes_eq]
  intro c hc
  simp only [codes1, List.mem_cons, List.not_mem_nil, or_false] at hc
  rcases hc with rfl | rfl | rfl | rfl | rfl | rfl | rfl | rfl | rfl | rfl | rfl | rfl | rfl | rfl | rfl | rfl | rfl | rfl | rfl | rfl | rfl | rfl | rfl
  · exact w_c0
  · exact w_c1
  · exact w_c2
  · exact w_c3
  · exact w_c4
  · exact w_c5
  · exact w_c6
  · exact w_c7
  · exact w_c8
  · exact w_c9
  · exact w_c10
  · exact w_c11
  · exact w_c12
  · exact w_c13
  · exact w_c14
  · exact w_c15
  · exact w_c16
  · exact w_c17
  · exact w_c18
  · exact w_c19
  · exact w_c20
  · exact w_c21
  · exact w_c22
set_option maxRecDepth 65536 in
theorem w_t1 : (words1.take 24).all (fun c => isCode c || c.before args0 about1) = true := by decide +kernel
set_option maxRecDepth 65536 in
theorem w_t2 : ((words1.drop 24).take 24).all (fun c => isCode c || c.before args0 about1) = true := by decide +kernel
set_option maxRecDepth 65536 in
theorem w_t3 : (((words1.drop 24).drop 24).take 24).all (fun c => isCode c || c.before args0 about1) = true := by decide +kernel
set_option maxRecDepth 65536 in
theorem w_t4 : ((((words1.drop 24).drop 24).drop 24).take 24).all (fun c => isCode c || c.before args0 about1) = true := by decide +kernel
set_option maxRecDepth 65536 in
theorem w_t5 : ((((words1.drop 24).drop 24).drop 24).drop 24).all (fun c => isCode c || c.before args0 about1) = true := by decide +kernel
theorem w_tables : (allAtoms (Jvm.Cond.code x code maxLocals ret :: tables_1)).before args0 about1 = true := by
  rw [allAtoms_all]
  show words1.all (fun c => c.before args0 about1) = true
  refine all_split ?_ w_codes
  rw [← List.take_append_drop 24 words1, List.all_append, w_t1, ← List.take_append_drop 24 (words1.drop 24), List.all_append, w_t2, ← List.take_append_drop 24 ((words1.drop 24).drop 24), List.all_append, w_t3, ← List.take_append_drop 24 (((words1.drop 24).drop 24).drop 24), List.all_append, w_t4, w_t5]
  rfl
set_option maxRecDepth 65536 in
theorem w_rest : rest_1_c.before args0 about1 = true := by decide +kernel
set_option maxRecDepth 65536 in
theorem w_case : (Jvm.Cond.and given_1 narrow_1).before args0 about1 = true := by decide +kernel
set_option maxRecDepth 65536 in
theorem w_consts : constsHeld consts_1 about1 := Jvm.Lit.constsHeldB_iff.mp (by decide +kernel)
theorem w_applies : (headSpec (Jvm.Cond.code x code maxLocals ret :: tables_1) room_1).applies x e0.platform about1 = true :=
  (Spec.applies_iff w_frames).mpr ⟨w_running, w_runnable, w_alone, w_named, w_hears, w_ripe, w_room, w_tables⟩
theorem atStart : AtStart classFile x code maxLocals ret World_1 tables_1 room_1 Calls_1 rest_1 Pre_1 launch0 p0 e0 about1 theMethod args0 below0 :=
  ⟨lists_1, trivial, launch0.admits_env _ _ _, launch0.least_env, fairChoices_fair.cas, fairChoices_fair.clock, w_frames, w_args, w_heap, w_applies, ⟨w_consts, trivial⟩, w_rest, w_case⟩
end start1
theorem witness_1 : WitnessClaimed_1 := ⟨start1.p0, start1.e0, start1.about1, start1.theMethod, start1.args0, start1.below0, start1.atStart⟩
end Jvm.Pilot.@@N@@
