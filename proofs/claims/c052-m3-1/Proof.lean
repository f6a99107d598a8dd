
import JvmDerived
import JvmDerived.Pilot.@@N@@Statement
import JvmDerived.Pilot.@@N@@Code
set_option linter.unusedVariables false
set_option linter.unusedSimpArgs false
namespace Jvm.RoadKit
open Sem ClassFile Op Lib Jvm.Stand Jvm.Free Jvm.LawKit
section OwnGo
variable {p : Program} {l : Launch} {e : Env} {R : Room} {s : State} {m : MethodId} {args : Array Value} {below : List Frame} {meth : Method} {c : Code} {T : State} {locs : List Loc} {cells slots kc ks : Nat} {Z : State} {a0 : Array Value} {h : Heap} {Q : Option Value → Heap → List Loc → Prop} {F0 : State → Outcome → Prop}
/-- what is left of a run from T: it ends, and F0 holds of its end -/
def Go (p : Program) (e : Env) (below : List Frame) (F0 : State → Outcome → Prop) (T : State) : Prop :=
  ∃ (U : State) (o : Outcome), Steps p.tables e below T U ∧ U.status = .running ∧ Ended U below o ∧ F0 U o
def EndN (s : State) (Q : Option Value → Heap → List Loc → Prop) (kc ks : Nat) (U : State) (o : Outcome) : Prop := ∃ v L, o = .returned v ∧ Q v U.heap L ∧ FrameEnd s o U L kc ks
theorem Go.step {T' : State} (g : ∀ t, Steps p.tables e below T' t → Steps p.tables e below T t) (k : Go p e below F0 T') : Go p e below F0 T := by
  obtain ⟨U, o, h1, r⟩ := k
  exact ⟨U, o, g _ h1, r⟩
theorem Go.cast {g g' : JFrame} (q : g = g') (k : Go p e below F0 (T.setTop g')) : Go p e below F0 (T.setTop g) := by rw [q]; exact k
/-- a body's contract: from these arguments and this heap it returns, and Q holds -/
def Ctr (l : Launch) (Z : State) (y : MethodName) (bytes : ByteArray) (maxL : Nat) (ret : Option FieldType) (rm : Room) (as : Array Value) (h : Heap) (Q : Option Value → Heap → List Loc → Prop) : Prop :=
  ∀ ws : List Jvm.Cond, MetFree l y (head1 (Jvm.Cond.code y bytes maxL ret :: ws) rm) (fun a U => a = as ∧ Z.Warmed39 U.vm ∧ U.heap = h) (fun _ _ _ _ _ => True) (fun _ U o U' => ∃ v L, o = .returned v ∧ Q v U'.heap L ∧ FrameEnd U o U' L rm.cells rm.slots)
theorem Ctr.of {y : MethodName} {bytes : ByteArray} {maxL : Nat} {ret : Option FieldType} {rm : Room} {as : Array Value} (hp : plainFor y = true)
    (body : ∀ (p : Program) (e : Env) (s : State) (m : MethodId) (below : List Frame) (meth : Method) (c : Code) (T : State), p.tables.exec = Jvm.exec → Z.Warmed39 s.vm → c.code = bytes → c.maxLocals = maxL → s.vm.findClass y.cls = some m.cls → meth.name = y.name → meth.sig.returnType = ret → meth.locks = false → T.heap = h → s.heap = h → Stand p l e rm s m as below meth c T [] 0 0 →
      Go p e below (EndN s Q rm.cells rm.slots) (T.setTop (entryFrame m as maxL))) : Ctr l Z y bytes maxL ret rm as h Q := by
  intro ws
  refine MetFree.of_bodySF hp hisR ?_
  intro p e s m args below meth c s₁ Bd hml0 hP hK
  obtain ⟨rfl, hZ, hh⟩ := hP
  exact body p e s m below meth c s₁ Bd.exec hZ Bd.bytes hml0 (findClass_of_methodNamed Bd.named) (name_of_methodNamed Bd.named Bd.method).1 Bd.returns Bd.notSynchronized (by rw [← hh, Bd.state]; rfl) hh (Stand.of_body Bd)
theorem Go.ret0 (X : Stand p l e R s m args below meth c T locs cells slots) (hx : p.tables.exec = Jvm.exec) (hlk : meth.locks = false) (hret : meth.sig.returnType = none) {pc : Nat} {Ls : Array Slot} (hd : decode c.code pc = .ok (.return_, 1)) (hc : cells ≤ kc) (hs : slots ≤ ks) (q : Q none T.heap locs) : Go p e below (EndN s Q kc ks) (T.setTop (mkF m pc Ls [])) := by
  obtain ⟨fs, hr, hrun, hended, hW, hsame⟩ := X.leave (v := none) (fun _ => rfl) hlk
  exact ⟨_, _, X.returnOut hx hret hd hr, hrun, hended, _, _, rfl, q, ⟨_, rfl⟩, hW, hsame.mono hc hs⟩
theorem Go.retV (X : Stand p l e R s m args below meth c T locs cells slots) (hx : p.tables.exec = Jvm.exec) (hlk : meth.locks = false) {t : FieldType} (hret : meth.sig.returnType = some t) {pc : Nat} {Ls : Array Slot} {v : Value} {i : Instr} {rest : List Value} (hn : narrow t v = v)
    (hi : (i = .ireturn ∧ (t = .int ∨ t = .boolean ∨ t = .byte ∨ t = .char ∨ t = .short) ∧ ∃ z, v = .int z) ∨ (i = .lreturn ∧ t = .long ∧ ∃ z, v = .long z) ∨ (i = .dreturn ∧ t = .double ∧ ∃ z, v = .double z) ∨ (i = .freturn ∧ t = .float ∧ ∃ z, v = .float z) ∨ (i = .areturn ∧ t.isReference = true ∧ v.isRef = true))
    (hd : decode c.code pc = .ok (i, 1)) (hc : cells ≤ kc) (hs : slots ≤ ks) (q : Q (some v) T.heap locs) : Go p e below (EndN s Q kc ks) (T.setTop (mkF m pc Ls (v :: rest))) := by
  obtain ⟨fs, hr, hrun, hended, hW, hsame⟩ := X.leave (v := some v) (fun h => by rw [hret] at h; cases h) hlk
  exact ⟨_, _, retOut X hx hret hn hi hd hr, hrun, hended, _, _, rfl, q, ⟨_, rfl⟩, hW, hsame.mono hc hs⟩
theorem Go.retI (X : Stand p l e R s m args below meth c T locs cells slots) (hx : p.tables.exec = Jvm.exec) (hlk : meth.locks = false) (hret : meth.sig.returnType = some .int) {pc : Nat} {Ls : Array Slot} {z : Int32} {rest : List Value} (hd : decode c.code pc = .ok (.ireturn, 1)) (hc : cells ≤ kc) (hs : slots ≤ ks) (q : Q (some (.int z)) T.heap locs) : Go p e below (EndN s Q kc ks) (T.setTop (mkF m pc Ls (.int z :: rest))) :=
  Go.retV X hx hlk hret rfl (Or.inl ⟨rfl, Or.inl rfl, _, rfl⟩) hd hc hs q
theorem Go.retR (X : Stand p l e R s m args below meth c T locs cells slots) (hx : p.tables.exec = Jvm.exec) (hlk : meth.locks = false) {t : FieldType} (hret : meth.sig.returnType = some t) (ht : t.isReference = true) {pc : Nat} {Ls : Array Slot} {v : Value} (hv : v.isRef = true) {rest : List Value} (hd : decode c.code pc = .ok (.areturn, 1)) (hc : cells ≤ kc) (hs : slots ≤ ks) (q : Q (some v) T.heap locs) : Go p e below (EndN s Q kc ks) (T.setTop (mkF m pc Ls (v :: rest))) :=
  Go.retV X hx hlk hret (by rcases ref_cases hv with rfl | ⟨z, rfl⟩ <;> cases t <;> simp [FieldType.isReference] at ht <;> rfl) (Or.inr (Or.inr (Or.inr (Or.inr ⟨rfl, ht, hv⟩)))) hd hc hs q
theorem Go.retN (X : Stand p l e R s m args below meth c T locs cells slots) (hx : p.tables.exec = Jvm.exec) (hlk : meth.locks = false) {t : FieldType} (hret : meth.sig.returnType = some t) (ht : t = .boolean ∨ t = .byte ∨ t = .char ∨ t = .short) {pc : Nat} {Ls : Array Slot} {z : Int32} {rest : List Value} (hd : decode c.code pc = .ok (.ireturn, 1)) (hc : cells ≤ kc) (hs : slots ≤ ks) (q : Q (some (.int (nar t z))) T.heap locs) : Go p e below (EndN s Q kc ks) (T.setTop (mkF m pc Ls (.int z :: rest))) := by
  obtain ⟨fs, hr, hrun, hended, hW, hsame⟩ := X.leave (v := some (.int (nar t z))) (fun h => by rw [hret] at h; cases h) hlk
  exact ⟨_, _, Jvm.RoadKit.retN X hx hret ht hd hr, hrun, hended, _, _, rfl, q, ⟨_, rfl⟩, hW, hsame.mono hc hs⟩
theorem Go.iloadN (X : Stand p l e R s m args below meth c T locs cells slots) (hx : p.tables.exec = Jvm.exec) {pc pc' : Nat} {Ls : Array Slot} {st : List Value} {k : Fin 4} {v : Int32} (hp : pc' = pc + 1) (hd : decode c.code pc = .ok (.iload_n k, 1)) (hl : Ls[k.val]? = some (.val (.int v))) (k : Go p e below F0 (T.setTop (mkF m pc' Ls (.int v :: st)))) : Go p e below F0 (T.setTop (mkF m pc Ls st)) := by
  subst hp
  exact Go.step (fun t kt => XS.iloadN X.here hx (g := mkF m pc Ls _) rfl hd hl kt) k
theorem Go.iload (X : Stand p l e R s m args below meth c T locs cells slots) (hx : p.tables.exec = Jvm.exec) {pc pc' : Nat} {Ls : Array Slot} {st : List Value} {k : Nat} {v : Int32} (hp : pc' = pc + 2) (hd : decode c.code pc = .ok (.iload k, 2)) (hl : Ls[k]? = some (.val (.int v))) (k : Go p e below F0 (T.setTop (mkF m pc' Ls (.int v :: st)))) : Go p e below F0 (T.setTop (mkF m pc Ls st)) := by
  subst hp
  exact Go.step (fun t kt => XS.iload X.here hx (g := mkF m pc Ls _) rfl hd hl kt) k
theorem Go.aloadN (X : Stand p l e R s m args below meth c T locs cells slots) (hx : p.tables.exec = Jvm.exec) {pc pc' : Nat} {Ls : Array Slot} {st : List Value} {k : Fin 4} {v : Value} (hp : pc' = pc + 1) (hd : decode c.code pc = .ok (.aload_n k, 1)) (hl : Ls[k.val]? = some (.val v)) (hv : v.isRef = true) (k : Go p e below F0 (T.setTop (mkF m pc' Ls (v :: st)))) : Go p e below F0 (T.setTop (mkF m pc Ls st)) := by
  subst hp
  exact Go.step (fun t kt => XS.aloadN X.here hx (g := mkF m pc Ls _) rfl hd hl hv kt) k
theorem Go.aload (X : Stand p l e R s m args below meth c T locs cells slots) (hx : p.tables.exec = Jvm.exec) {pc pc' : Nat} {Ls : Array Slot} {st : List Value} {k : Nat} {v : Value} (hp : pc' = pc + 2) (hd : decode c.code pc = .ok (.aload k, 2)) (hl : Ls[k]? = some (.val v)) (hv : v.isRef = true) (k : Go p e below F0 (T.setTop (mkF m pc' Ls (v :: st)))) : Go p e below F0 (T.setTop (mkF m pc Ls st)) := by
  subst hp
  exact Go.step (fun t kt => XS.aload X.here hx (g := mkF m pc Ls _) rfl hd hl hv kt) k
theorem Go.iconst (X : Stand p l e R s m args below meth c T locs cells slots) (hx : p.tables.exec = Jvm.exec) {pc pc' : Nat} {Ls : Array Slot} {st : List Value} {i : Int} {v : Int32} (hp : pc' = pc + 1) (hd : decode c.code pc = .ok (.iconst i, 1)) (hv : Int32.ofInt i = v) (k : Go p e below F0 (T.setTop (mkF m pc' Ls (.int v :: st)))) : Go p e below F0 (T.setTop (mkF m pc Ls st)) := by
  subst hp
  exact Go.step (fun t kt => XS.iconst X.here hx (g := mkF m pc Ls _) rfl hd (by rw [hv]; exact kt)) k
theorem Go.bipush (X : Stand p l e R s m args below meth c T locs cells slots) (hx : p.tables.exec = Jvm.exec) {pc pc' : Nat} {Ls : Array Slot} {st : List Value} {i : Int} {v : Int32} (hp : pc' = pc + 2) (hd : decode c.code pc = .ok (.bipush i, 2)) (hv : (Int8.ofInt i).toInt32 = v) (k : Go p e below F0 (T.setTop (mkF m pc' Ls (.int v :: st)))) : Go p e below F0 (T.setTop (mkF m pc Ls st)) := by
  subst hp
  exact Go.step (fun t kt => XS.bipush X.here hx (g := mkF m pc Ls _) rfl hd (by rw [hv]; exact kt)) k
theorem Go.sipush (X : Stand p l e R s m args below meth c T locs cells slots) (hx : p.tables.exec = Jvm.exec) {pc pc' : Nat} {Ls : Array Slot} {st : List Value} {i : Int} {v : Int32} (hp : pc' = pc + 3) (hd : decode c.code pc = .ok (.sipush i, 3)) (hv : (Int16.ofInt i).toInt32 = v) (k : Go p e below F0 (T.setTop (mkF m pc' Ls (.int v :: st)))) : Go p e below F0 (T.setTop (mkF m pc Ls st)) := by
  subst hp
  exact Go.step (fun t kt => XS.sipush X.here hx (g := mkF m pc Ls _) rfl hd (by rw [hv]; exact kt)) k
theorem Go.anull (X : Stand p l e R s m args below meth c T locs cells slots) (hx : p.tables.exec = Jvm.exec) {pc pc' : Nat} {Ls : Array Slot} {st : List Value} (hp : pc' = pc + 1) (hd : decode c.code pc = .ok (.aconst_null, 1))  (k : Go p e below F0 (T.setTop (mkF m pc' Ls (.null :: st)))) : Go p e below F0 (T.setTop (mkF m pc Ls st)) := by
  subst hp
  exact Go.step (fun t kt => XS.aconstNull X.here hx (g := mkF m pc Ls _) rfl hd kt) k
theorem Go.iadd (X : Stand p l e R s m args below meth c T locs cells slots) (hx : p.tables.exec = Jvm.exec) {pc pc' : Nat} {Ls : Array Slot} {x y : Int32} {rest : List Value} (hp : pc' = pc + 1) (hd : decode c.code pc = .ok (.iadd, 1))  (k : Go p e below F0 (T.setTop (mkF m pc' Ls (.int (x + y) :: rest)))) : Go p e below F0 (T.setTop (mkF m pc Ls (.int y :: .int x :: rest))) := by
  subst hp
  exact Go.step (fun t kt => XS.iadd X.here hx (g := mkF m pc Ls _) rfl hd rfl kt) k
theorem Go.isub (X : Stand p l e R s m args below meth c T locs cells slots) (hx : p.tables.exec = Jvm.exec) {pc pc' : Nat} {Ls : Array Slot} {x y : Int32} {rest : List Value} (hp : pc' = pc + 1) (hd : decode c.code pc = .ok (.isub, 1))  (k : Go p e below F0 (T.setTop (mkF m pc' Ls (.int (x - y) :: rest)))) : Go p e below F0 (T.setTop (mkF m pc Ls (.int y :: .int x :: rest))) := by
  subst hp
  exact Go.step (fun t kt => XS.isub X.here hx (g := mkF m pc Ls _) rfl hd rfl kt) k
theorem Go.iand (X : Stand p l e R s m args below meth c T locs cells slots) (hx : p.tables.exec = Jvm.exec) {pc pc' : Nat} {Ls : Array Slot} {x y : Int32} {rest : List Value} (hp : pc' = pc + 1) (hd : decode c.code pc = .ok (.iand, 1))  (k : Go p e below F0 (T.setTop (mkF m pc' Ls (.int (x &&& y) :: rest)))) : Go p e below F0 (T.setTop (mkF m pc Ls (.int y :: .int x :: rest))) := by
  subst hp
  exact Go.step (fun t kt => XS.iand X.here hx (g := mkF m pc Ls _) rfl hd rfl kt) k
theorem Go.ishr (X : Stand p l e R s m args below meth c T locs cells slots) (hx : p.tables.exec = Jvm.exec) {pc pc' : Nat} {Ls : Array Slot} {x y : Int32} {rest : List Value} (hp : pc' = pc + 1) (hd : decode c.code pc = .ok (.ishr, 1))  (k : Go p e below F0 (T.setTop (mkF m pc' Ls (.int (x >>> (y &&& 31)) :: rest)))) : Go p e below F0 (T.setTop (mkF m pc Ls (.int y :: .int x :: rest))) := by
  subst hp
  exact Go.step (fun t kt => XT.ishr X.here hx (g := mkF m pc Ls _) rfl hd rfl kt) k
theorem Go.iushr (X : Stand p l e R s m args below meth c T locs cells slots) (hx : p.tables.exec = Jvm.exec) {pc pc' : Nat} {Ls : Array Slot} {x y : Int32} {rest : List Value} (hp : pc' = pc + 1) (hd : decode c.code pc = .ok (.iushr, 1))  (k : Go p e below F0 (T.setTop (mkF m pc' Ls (.int ((x.toUInt32 >>> (y &&& 31).toUInt32).toInt32) :: rest)))) : Go p e below F0 (T.setTop (mkF m pc Ls (.int y :: .int x :: rest))) := by
  subst hp
  exact Go.step (fun t kt => XT.iushr X.here hx (g := mkF m pc Ls _) rfl hd rfl kt) k
theorem Go.irem (X : Stand p l e R s m args below meth c T locs cells slots) (hx : p.tables.exec = Jvm.exec) {pc pc' : Nat} {Ls : Array Slot} {x y : Int32} {rest : List Value} (hp : pc' = pc + 1) (hd : decode c.code pc = .ok (.irem, 1)) (hy : y ≠ 0) (k : Go p e below F0 (T.setTop (mkF m pc' Ls (.int (x % y) :: rest)))) : Go p e below F0 (T.setTop (mkF m pc Ls (.int y :: .int x :: rest))) := by
  subst hp
  exact Go.step (fun t kt => iremM X hx (g := mkF m pc Ls _) rfl hd rfl hy kt) k
theorem Go.i2b (X : Stand p l e R s m args below meth c T locs cells slots) (hx : p.tables.exec = Jvm.exec) {pc pc' : Nat} {Ls : Array Slot} {x : Int32} {rest : List Value} (hp : pc' = pc + 1) (hd : decode c.code pc = .ok (.i2b, 1))  (k : Go p e below F0 (T.setTop (mkF m pc' Ls (.int (x.toInt8.toInt32) :: rest)))) : Go p e below F0 (T.setTop (mkF m pc Ls (.int x :: rest))) := by
  subst hp
  exact Go.step (fun t kt => XT.i2b X.here hx (g := mkF m pc Ls _) rfl hd rfl kt) k
theorem Go.i2c (X : Stand p l e R s m args below meth c T locs cells slots) (hx : p.tables.exec = Jvm.exec) {pc pc' : Nat} {Ls : Array Slot} {x : Int32} {rest : List Value} (hp : pc' = pc + 1) (hd : decode c.code pc = .ok (.i2c, 1))  (k : Go p e below F0 (T.setTop (mkF m pc' Ls (.int (x.toUInt32.toUInt16.toUInt32.toInt32) :: rest)))) : Go p e below F0 (T.setTop (mkF m pc Ls (.int x :: rest))) := by
  subst hp
  exact Go.step (fun t kt => XT.i2c X.here hx (g := mkF m pc Ls _) rfl hd rfl kt) k
theorem Go.dup (X : Stand p l e R s m args below meth c T locs cells slots) (hx : p.tables.exec = Jvm.exec) {pc pc' : Nat} {Ls : Array Slot} {x : Value} {rest : List Value} (hp : pc' = pc + 1) (hd : decode c.code pc = .ok (.dup, 1)) (hc : x.category = 1) (k : Go p e below F0 (T.setTop (mkF m pc' Ls (x :: x :: rest)))) : Go p e below F0 (T.setTop (mkF m pc Ls (x :: rest))) := by
  subst hp
  exact Go.step (fun t kt => XS.dup X.here hx (g := mkF m pc Ls _) rfl hd rfl hc kt) k
theorem Go.pop (X : Stand p l e R s m args below meth c T locs cells slots) (hx : p.tables.exec = Jvm.exec) {pc pc' : Nat} {Ls : Array Slot} {x : Value} {rest : List Value} (hp : pc' = pc + 1) (hd : decode c.code pc = .ok (.pop, 1)) (hc : x.category = 1) (k : Go p e below F0 (T.setTop (mkF m pc' Ls rest))) : Go p e below F0 (T.setTop (mkF m pc Ls (x :: rest))) := by
  subst hp
  exact Go.step (fun t kt => XT.pop X.here hx (g := mkF m pc Ls _) rfl hd rfl hc kt) k
theorem Go.istoreN (X : Stand p l e R s m args below meth c T locs cells slots) (hx : p.tables.exec = Jvm.exec) {pc pc' : Nat} {Ls : Array Slot} {k : Fin 4} {x : Int32} {rest : List Value} {Ls' : Array Slot} (hp : pc' = pc + 1) (hd : decode c.code pc = .ok (.istore_n k, 1)) (hl : storeLocals Ls k.val (.int x) = some Ls') (k : Go p e below F0 (T.setTop (mkF m pc' Ls' rest))) : Go p e below F0 (T.setTop (mkF m pc Ls (.int x :: rest))) := by
  subst hp
  exact Go.step (fun t kt => XS.istoreN X.here hx (g := mkF m pc Ls _) rfl hd rfl hl kt) k
theorem Go.istore (X : Stand p l e R s m args below meth c T locs cells slots) (hx : p.tables.exec = Jvm.exec) {pc pc' : Nat} {Ls : Array Slot} {k : Nat} {x : Int32} {rest : List Value} {Ls' : Array Slot} (hp : pc' = pc + 2) (hd : decode c.code pc = .ok (.istore k, 2)) (hl : storeLocals Ls k (.int x) = some Ls') (k : Go p e below F0 (T.setTop (mkF m pc' Ls' rest))) : Go p e below F0 (T.setTop (mkF m pc Ls (.int x :: rest))) := by
  subst hp
  exact Go.step (fun t kt => XS.istore X.here hx (g := mkF m pc Ls _) rfl hd rfl hl kt) k
theorem Go.astoreN (X : Stand p l e R s m args below meth c T locs cells slots) (hx : p.tables.exec = Jvm.exec) {pc pc' : Nat} {Ls : Array Slot} {k : Fin 4} {x : Value} {rest : List Value} {Ls' : Array Slot} (hp : pc' = pc + 1) (hd : decode c.code pc = .ok (.astore_n k, 1)) (hv : x.isRef = true) (hl : storeLocals Ls k.val x = some Ls') (k : Go p e below F0 (T.setTop (mkF m pc' Ls' rest))) : Go p e below F0 (T.setTop (mkF m pc Ls (x :: rest))) := by
  subst hp
  exact Go.step (fun t kt => XS.astoreN X.here hx (g := mkF m pc Ls _) rfl hd rfl hv hl kt) k
theorem Go.astore (X : Stand p l e R s m args below meth c T locs cells slots) (hx : p.tables.exec = Jvm.exec) {pc pc' : Nat} {Ls : Array Slot} {k : Nat} {x : Value} {rest : List Value} {Ls' : Array Slot} (hp : pc' = pc + 2) (hd : decode c.code pc = .ok (.astore k, 2)) (hv : x.isRef = true) (hl : storeLocals Ls k x = some Ls') (k : Go p e below F0 (T.setTop (mkF m pc' Ls' rest))) : Go p e below F0 (T.setTop (mkF m pc Ls (x :: rest))) := by
  subst hp
  exact Go.step (fun t kt => XS.astore X.here hx (g := mkF m pc Ls _) rfl hd rfl hv hl kt) k
theorem Go.iinc (X : Stand p l e R s m args below meth c T locs cells slots) (hx : p.tables.exec = Jvm.exec) {pc pc' : Nat} {Ls : Array Slot} {st : List Value} {k : Nat} {cst : Int} {x y : Int32} {Ls' : Array Slot} (hp : pc' = pc + 3) (hd : decode c.code pc = .ok (.iinc k cst, 3)) (hl : Ls[k]? = some (.val (.int x))) (hy : x + Int32.ofInt cst = y) (hl' : storeLocals Ls k (.int y) = some Ls') (k : Go p e below F0 (T.setTop (mkF m pc' Ls' st))) : Go p e below F0 (T.setTop (mkF m pc Ls st)) := by
  subst hp
  exact Go.step (fun t kt => XS.iinc X.here hx (g := mkF m pc Ls _) rfl hd hl (by rw [hy]; exact hl') kt) k
theorem Go.goto (X : Stand p l e R s m args below meth c T locs cells slots) (hx : p.tables.exec = Jvm.exec) {pc pc' : Nat} {Ls : Array Slot} {o : Int} {st : List Value} (hd : decode c.code pc = .ok (.goto o, 3))  (ho : 0 ≤ (pc : Int) + o) (hp : ((pc : Int) + o).toNat = pc') (k : Go p e below F0 (T.setTop (mkF m pc' Ls st))) : Go p e below F0 (T.setTop (mkF m pc Ls st)) :=
  Go.step (fun t kt => XS.goto X.here hx (g := mkF m pc Ls _) rfl rfl hd ho hp kt) k
theorem Go.ifYes (X : Stand p l e R s m args below meth c T locs cells slots) (hx : p.tables.exec = Jvm.exec) {pc pc' : Nat} {Ls : Array Slot} {o : Int} {cd : ClassFile.Cond} {x : Int32} {rest : List Value} (hd : decode c.code pc = .ok (.ifCond cd o, 3)) (hc : if_icmp.holds cd x 0 = true) (ho : 0 ≤ (pc : Int) + o) (hp : ((pc : Int) + o).toNat = pc') (k : Go p e below F0 (T.setTop (mkF m pc' Ls rest))) : Go p e below F0 (T.setTop (mkF m pc Ls (.int x :: rest))) :=
  Go.step (fun t kt => XS.ifYes X.here hx (g := mkF m pc Ls _) rfl rfl hd rfl ((if0 _ _).trans hc) ho hp kt) k
theorem Go.icmpYes (X : Stand p l e R s m args below meth c T locs cells slots) (hx : p.tables.exec = Jvm.exec) {pc pc' : Nat} {Ls : Array Slot} {o : Int} {cd : ClassFile.Cond} {x y : Int32} {rest : List Value} (hd : decode c.code pc = .ok (.if_icmp cd o, 3)) (hc : if_icmp.holds cd x y = true) (ho : 0 ≤ (pc : Int) + o) (hp : ((pc : Int) + o).toNat = pc') (k : Go p e below F0 (T.setTop (mkF m pc' Ls rest))) : Go p e below F0 (T.setTop (mkF m pc Ls (.int y :: .int x :: rest))) :=
  Go.step (fun t kt => XS.icmpYes X.here hx (g := mkF m pc Ls _) rfl rfl hd rfl hc ho hp kt) k
theorem Go.ifNo (X : Stand p l e R s m args below meth c T locs cells slots) (hx : p.tables.exec = Jvm.exec) {pc pc' : Nat} {Ls : Array Slot} {o : Int} {cd : ClassFile.Cond} {x : Int32} {rest : List Value} (hp : pc' = pc + 3) (hd : decode c.code pc = .ok (.ifCond cd o, 3)) (hc : if_icmp.holds cd x 0 = false) (k : Go p e below F0 (T.setTop (mkF m pc' Ls rest))) : Go p e below F0 (T.setTop (mkF m pc Ls (.int x :: rest))) := by
  subst hp
  exact Go.step (fun t kt => XS.ifNo X.here hx (g := mkF m pc Ls _) rfl hd rfl ((if0 _ _).trans hc) kt) k
theorem Go.icmpNo (X : Stand p l e R s m args below meth c T locs cells slots) (hx : p.tables.exec = Jvm.exec) {pc pc' : Nat} {Ls : Array Slot} {o : Int} {cd : ClassFile.Cond} {x y : Int32} {rest : List Value} (hp : pc' = pc + 3) (hd : decode c.code pc = .ok (.if_icmp cd o, 3)) (hc : if_icmp.holds cd x y = false) (k : Go p e below F0 (T.setTop (mkF m pc' Ls rest))) : Go p e below F0 (T.setTop (mkF m pc Ls (.int y :: .int x :: rest))) := by
  subst hp
  exact Go.step (fun t kt => XS.icmpNo X.here hx (g := mkF m pc Ls _) rfl hd rfl hc kt) k
theorem Go.acmp (X : Stand p l e R s m args below meth c T locs cells slots) (hx : p.tables.exec = Jvm.exec) {pc pc' : Nat} {Ls : Array Slot} {cd : ACond} {x y : Value} {rest : List Value} {o : Int} {same : Bool} (hd : decode c.code pc = .ok (.if_acmp cd o, 3)) (h1 : x.isRef = true) (h2 : y.isRef = true) (hq : decide (x = y) = same) (ho : 0 ≤ (pc : Int) + o) (hp : pc' = if acV cd same = true then ((pc : Int) + o).toNat else pc + 3) (k : Go p e below F0 (T.setTop (mkF m pc' Ls rest))) : Go p e below F0 (T.setTop (mkF m pc Ls (y :: x :: rest))) :=
  Go.step (fun t kt => Jvm.RoadKit.acmp (g := mkF m pc Ls _) X hx rfl h1 h2 rfl hd rfl hq ho hp kt) k
theorem Go.getF (X : Stand p l e R s m args below meth c T locs cells slots) (hx : p.tables.exec = Jvm.exec) (hZ : Z.Warmed39 s.vm) {own : String} {index : Nat} (hown : s.vm.findClass own = some m.cls) {R0 O n d host : String} (wl : (Jvm.Cond.fieldLink own index R0 n d).before a0 Z = true ∨ (Jvm.Cond.fieldLinkNest own index R0 n d host).before a0 Z = true) (via : Via Z R0 O n d) (eT : T.heap = h) {a : Addr} {v : Value} (F : Fld Z h a O n d v) {pc pc' : Nat} {Ls : Array Slot} {rest : List Value} (hp : pc' = pc + 3) (hd : decode c.code pc = .ok (.getfield index, 3))
    (k : ∀ T', T'.heap = h → Stand p l e R s m args below meth c T' locs cells slots → Go p e below F0 (T'.setTop (mkF m pc' Ls (v :: rest)))) : Go p e below F0 (T.setTop (mkF m pc Ls (.ref a :: rest))) := by
  subst hp
  obtain ⟨T', X', e', st⟩ := Jvm.RoadKit.getF X hx hZ hown wl via eT F (g := mkF m pc Ls (.ref a :: rest)) rfl rfl hd
  exact Go.step st (k T' e' X')
theorem Go.getS (X : Stand p l e R s m args below meth c T locs cells slots) (hx : p.tables.exec = Jvm.exec) (hZ : Z.Warmed39 s.vm) {own : String} {index : Nat} (hown : s.vm.findClass own = some m.cls) {R0 O n d host : String} (wl : (Jvm.Cond.fieldLink own index R0 n d).before a0 Z = true ∨ (Jvm.Cond.fieldLinkNest own index R0 n d host).before a0 Z = true) (via : Via Z R0 O n d) (eT : T.heap = h) {v : Value} (F : Sta Z h O n d v) {pc pc' : Nat} {Ls : Array Slot} {rest : List Value} (hp : pc' = pc + 3) (hd : decode c.code pc = .ok (.getstatic index, 3))
    (k : ∀ T', T'.heap = h → Stand p l e R s m args below meth c T' locs cells slots → Go p e below F0 (T'.setTop (mkF m pc' Ls (v :: rest)))) : Go p e below F0 (T.setTop (mkF m pc Ls rest)) := by
  subst hp
  obtain ⟨T', X', e', st⟩ := Jvm.RoadKit.getS2 X hx hZ hown wl via eT F (g := mkF m pc Ls rest) rfl hd
  exact Go.step st (k T' e' X')
theorem Go.putF (X : Stand p l e R s m args below meth c T locs cells slots) (hx : p.tables.exec = Jvm.exec) (hZ : Z.Warmed39 s.vm) {own : String} {index : Nat} (hown : s.vm.findClass own = some m.cls) {R0 O n d host C : String} {kk : Nat} {ty : FieldType} (wl : (Jvm.Cond.fieldLink own index R0 n d).before a0 Z = true ∨ (Jvm.Cond.fieldLinkNest own index R0 n d host).before a0 Z = true) (via : Via Z R0 O n d) (eT : T.heap = h) {a : Addr} {v old : Value} (F : Fld Z h a O n d old) (E : Exa Z h a C) (L : (Jvm.Cond.lays C O n d).before a0 Z = true ∨ ((Jvm.Cond.laysFinal C O n d).before a0 Z = true ∧ own = O ∧ meth.name = "<init>")) (wi : (Jvm.Cond.instantiable C kk).before a0 Z = true) (hty : parseFieldDescriptor d = some ty) (hn : narrow ty v = v) (hf : fits ty v = true) {pc pc' : Nat} {Ls : Array Slot} {rest : List Value} (hp : pc' = pc + 3) (hd : decode c.code pc = .ok (.putfield index, 3))
    (k : ∀ T' h', T'.heap = h' → Wr h h' a (slotOf Z O n d) v → Fld Z h' a O n d v → Stand p l e R s m args below meth c T' (locs ++ [⟨a, slotOf Z O n d⟩]) cells slots → Go p e below F0 (T'.setTop (mkF m pc' Ls rest))) : Go p e below F0 (T.setTop (mkF m pc Ls (v :: .ref a :: rest))) := by
  subst hp
  obtain ⟨T', h', X', e', W, st⟩ := Jvm.RoadKit.putF X hx hZ hown wl via eT F E L wi hty hn hf (g := mkF m pc Ls (v :: .ref a :: rest)) rfl rfl hd
  exact Go.step st (k T' h' e' W (F.same W) X')
theorem Go.putFN (X : Stand p l e R s m args below meth c T locs cells slots) (hx : p.tables.exec = Jvm.exec) (hZ : Z.Warmed39 s.vm) {own : String} {index : Nat} (hown : s.vm.findClass own = some m.cls) {R0 O n d C : String} {kk : Nat} {ty : FieldType} (wl : (Jvm.Cond.fieldLink own index R0 n d).before a0 Z = true) (via : Via Z R0 O n d) (eT : T.heap = h) {a : Addr} {v v' old : Value} (F : Fld Z h a O n d old) (E : Exa Z h a C) (L : (Jvm.Cond.lays C O n d).before a0 Z = true ∨ ((Jvm.Cond.laysFinal C O n d).before a0 Z = true ∧ own = O ∧ meth.name = "<init>")) (wi : (Jvm.Cond.instantiable C kk).before a0 Z = true) (hty : parseFieldDescriptor d = some ty) (hn : narrow ty v = v') (hf : fits ty v' = true) {pc pc' : Nat} {Ls : Array Slot} {rest : List Value} (hp : pc' = pc + 3) (hd : decode c.code pc = .ok (.putfield index, 3))
    (k : ∀ T' h', T'.heap = h' → Wr h h' a (slotOf Z O n d) v' → Fld Z h' a O n d v' → Stand p l e R s m args below meth c T' (locs ++ [⟨a, slotOf Z O n d⟩]) cells slots → Go p e below F0 (T'.setTop (mkF m pc' Ls rest))) : Go p e below F0 (T.setTop (mkF m pc Ls (v :: .ref a :: rest))) := by
  subst hp
  obtain ⟨T', h', X', e', W, st⟩ := Jvm.RoadKit.putFN X hx hZ hown wl via eT F E L wi hty hn hf (g := mkF m pc Ls (v :: .ref a :: rest)) rfl rfl hd
  exact Go.step st (k T' h' e' W (F.same W) X')
theorem Go.new (X : Stand p l e R s m args below meth c T locs cells slots) (hx : p.tables.exec = Jvm.exec) (hZ : Z.Warmed39 s.vm) {own : String} {index : Nat} (hown : s.vm.findClass own = some m.cls) {C : String} {n : Nat} (wl : (Jvm.Cond.classLink own index C).before a0 Z = true) (wi : (Jvm.Cond.instantiable C n).before a0 Z = true) (wz : (Jvm.Cond.initialized C).before a0 Z = true) (eT : T.heap = h) (hc : cells + 1 ≤ R.cells) (hl : slots + n ≤ R.slots) {pc pc' : Nat} {Ls : Array Slot} {rest : List Value} (hp : pc' = pc + 3) (hd : decode c.code pc = .ok (.new index, 3))
    (k : ∀ T' h' a, T'.heap = h' → Ext h h' → a = h.size → Exa Z h' a C → (∀ {O nm d : String} {ty : FieldType}, Laid Z a0 C O nm d → parseFieldDescriptor d = some ty → Fld Z h' a O nm d (defaultValue ty)) → Stand p l e R s m args below meth c T' locs (cells + 1) (slots + n) → Go p e below F0 (T'.setTop (mkF m pc' Ls (.ref a :: rest)))) : Go p e below F0 (T.setTop (mkF m pc Ls rest)) := by
  subst hp
  obtain ⟨T', h', X', e', E, A, D, -, st⟩ := newO X hx hZ hown wl wi wz eT (g := mkF m pc Ls rest) rfl hd hc hl
  exact Go.step st (k T' h' h.size e' E rfl A D X')
theorem Go.newarray (X : Stand p l e R s m args below meth c T locs cells slots) (hx : p.tables.exec = Jvm.exec) (hZ : Z.Warmed39 s.vm) {aty : ArrayType} {ty : FieldType} (hty : newarray.typeOf aty = ty) (wa : (Jvm.Cond.arrayClass ty).before a0 Z = true) (eT : T.heap = h) {n : Int32} (hn : ¬ n < 0) {cap : Nat} (hcap : n.toNatClampNeg ≤ cap) (hb : cap * 8 ≤ 536870912) (hc : cells + 1 ≤ R.cells) (hl : slots + cap ≤ R.slots) {ad : String} (had : "[" ++ ty.toString = ad) (N : Nat) {pc pc' : Nat} {Ls : Array Slot} {rest : List Value} (hp : pc' = pc + 2) (hd : decode c.code pc = .ok (.newarray aty, 2))
    (k : ∀ T' h' a kk, T'.heap = h' → Ext h h' → a = h.size → Arv Z h' a kk ty n (List.replicate N (defaultValue ty)) (defaultValue ty) → Exa Z h' a ad → Stand p l e R s m args below meth c T' locs (cells + 1) (slots + cap) → Go p e below F0 (T'.setTop (mkF m pc' Ls (.ref a :: rest)))) : Go p e below F0 (T.setTop (mkF m pc Ls (.int n :: rest))) := by
  subst hp hty
  obtain ⟨T', h', cA, X', e', E, A, Ex, st⟩ := newPE X hx hZ wa eT (g := mkF m pc Ls (.int n :: rest)) rfl hd rfl hn hcap hb hc hl had
  exact Go.step st (k T' h' h.size cA e' E rfl ((Arv.new A hn).pad (pad_rep [] _ N)) Ex X')
theorem Go.castore (X : Stand p l e R s m args below meth c T locs cells slots) (hx : p.tables.exec = Jvm.exec) (hZ : Z.Warmed39 s.vm) (eT : T.heap = h) {a : Addr} {kk : ClassId} {z : Int32} {vs : List Value} {dv : Value} (V : Arv Z h a kk .char z vs dv) {j : Int32} {x : Int32} (x' : Int32) (hn : nar .char x = x') (hj : ¬ j < 0 ∧ j < z) (i : Nat) (hi : j.toNatClampNeg = i) (hl : i < vs.length) {pc pc' : Nat} {Ls : Array Slot} {rest : List Value} (hp : pc' = pc + 1) (hd : decode c.code pc = .ok (.castore, 1))
    (k : ∀ T' h', T'.heap = h' → Wr h h' a j.toNatClampNeg (.int x') → Arv Z h' a kk .char z (vs.set i (.int x')) dv → Stand p l e R s m args below meth c T' (locs ++ [⟨a, j.toNatClampNeg⟩]) cells slots → Go p e below F0 (T'.setTop (mkF m pc' Ls rest))) : Go p e below F0 (T.setTop (mkF m pc Ls (.int x :: .int j :: .ref a :: rest))) := by
  subst hp hn
  obtain ⟨cl, A, q1, S, q3, H, G⟩ := V
  obtain ⟨T', h', X', e', W, st⟩ := stC X hx hZ eT A (j := j) (x := x) (inb_of S hj) (g := mkF m pc Ls (.int x :: .int j :: .ref a :: rest)) rfl rfl hd
  exact Go.step st (k T' h' e' W (Arv.set A q1 S q3 H G (fits_nar_char x) W i hi hl) X')
theorem Go.bastore (X : Stand p l e R s m args below meth c T locs cells slots) (hx : p.tables.exec = Jvm.exec) (hZ : Z.Warmed39 s.vm) (eT : T.heap = h) {a : Addr} {kk : ClassId} {z : Int32} {vs : List Value} {dv : Value} (V : Arv Z h a kk .byte z vs dv) {j : Int32} {x : Int32} (x' : Int32) (hn : nar .byte x = x') (hj : ¬ j < 0 ∧ j < z) (i : Nat) (hi : j.toNatClampNeg = i) (hl : i < vs.length) {pc pc' : Nat} {Ls : Array Slot} {rest : List Value} (hp : pc' = pc + 1) (hd : decode c.code pc = .ok (.bastore, 1))
    (k : ∀ T' h', T'.heap = h' → Wr h h' a j.toNatClampNeg (.int x') → Arv Z h' a kk .byte z (vs.set i (.int x')) dv → Stand p l e R s m args below meth c T' (locs ++ [⟨a, j.toNatClampNeg⟩]) cells slots → Go p e below F0 (T'.setTop (mkF m pc' Ls rest))) : Go p e below F0 (T.setTop (mkF m pc Ls (.int x :: .int j :: .ref a :: rest))) := by
  subst hp hn
  obtain ⟨cl, A, q1, S, q3, H, G⟩ := V
  obtain ⟨T', h', X', e', W, st⟩ := stB X hx hZ eT A (j := j) (x := x) (inb_of S hj) (g := mkF m pc Ls (.int x :: .int j :: .ref a :: rest)) rfl rfl hd
  exact Go.step st (k T' h' e' W (Arv.set A q1 S q3 H G (fits_nar_byte x) W i hi hl) X')
theorem Go.caload (X : Stand p l e R s m args below meth c T locs cells slots) (hx : p.tables.exec = Jvm.exec) (hZ : Z.Warmed39 s.vm) (eT : T.heap = h) {a : Addr} {kk : ClassId} {z : Int32} {vs : List Value} {dv : Value} (V : Arv Z h a kk .char z vs dv) {j : Int32} {v : Value} (hj : ¬ j < 0 ∧ j < z) (hv : vs.getD j.toNatClampNeg dv = v) {pc pc' : Nat} {Ls : Array Slot} {rest : List Value} (hp : pc' = pc + 1) (hd : decode c.code pc = .ok (.caload, 1)) (k : Go p e below F0 (T.setTop (mkF m pc' Ls (v :: rest)))) : Go p e below F0 (T.setTop (mkF m pc Ls (.int j :: .ref a :: rest))) := by
  subst hp
  obtain ⟨cl, A, q1, S, q3, H, G⟩ := V
  exact Go.step (fun t kt => X.caload hx (j := j) (v := v) (by rw [eT]; exact A.1) (State.isArrayOf_alike hZ.alike A.2.1) A.2.2 (inb_of S hj) (H.at (inb_of S hj) hv) (g := mkF m pc Ls (.int j :: .ref a :: rest)) rfl rfl hd t kt) k
theorem Go.baload (X : Stand p l e R s m args below meth c T locs cells slots) (hx : p.tables.exec = Jvm.exec) (hZ : Z.Warmed39 s.vm) (eT : T.heap = h) {a : Addr} {kk : ClassId} {z : Int32} {vs : List Value} {dv : Value} (V : Arv Z h a kk .byte z vs dv) {j : Int32} {v : Value} (hj : ¬ j < 0 ∧ j < z) (hv : vs.getD j.toNatClampNeg dv = v) {pc pc' : Nat} {Ls : Array Slot} {rest : List Value} (hp : pc' = pc + 1) (hd : decode c.code pc = .ok (.baload, 1)) (k : Go p e below F0 (T.setTop (mkF m pc' Ls (v :: rest)))) : Go p e below F0 (T.setTop (mkF m pc Ls (.int j :: .ref a :: rest))) := by
  subst hp
  obtain ⟨cl, A, q1, S, q3, H, G⟩ := V
  exact Go.step (fun t kt => X.baloadBytes hx (j := j) (v := v) (by rw [eT]; exact A.1) (State.isArrayOf_alike hZ.alike A.2.1) A.2.2 (inb_of S hj) (H.at (inb_of S hj) hv) (g := mkF m pc Ls (.int j :: .ref a :: rest)) rfl rfl hd t kt) k
theorem Go.arraylength (X : Stand p l e R s m args below meth c T locs cells slots) (hx : p.tables.exec = Jvm.exec) (hZ : Z.Warmed39 s.vm) (eT : T.heap = h) {a : Addr} {kk : ClassId} {ty : FieldType} {z : Int32} {vs : List Value} {dv : Value} (V : Arv Z h a kk ty z vs dv) {pc pc' : Nat} {Ls : Array Slot} {rest : List Value} (hp : pc' = pc + 1) (hd : decode c.code pc = .ok (.arraylength, 1)) (k : Go p e below F0 (T.setTop (mkF m pc' Ls (.int z :: rest)))) : Go p e below F0 (T.setTop (mkF m pc Ls (.ref a :: rest))) := by
  subst hp
  obtain ⟨cl, A, q1, S, q3, H, G⟩ := V
  refine Go.step (fun t kt => X.arraylength hx (by rw [eT]; exact A.1) (State.isArrayOf_alike hZ.alike A.2.1) (g := mkF m pc Ls (.ref a :: rest)) rfl rfl hd t kt) ?_
  rw [len_of S q3]
  exact k
theorem Go.castY (X : Stand p l e R s m args below meth c T locs cells slots) (hx : p.tables.exec = Jvm.exec) (hZ : Z.Warmed39 s.vm) {own : String} {index : Nat} (hown : s.vm.findClass own = some m.cls) {K : String} (wl : (Jvm.Cond.classLink own index K).before a0 Z = true) (eT : T.heap = h) {a : Addr} (F : Ins Z h a K true) {pc pc' : Nat} {Ls : Array Slot} {rest : List Value} (hp : pc' = pc + 3) (hd : decode c.code pc = .ok (.checkcast index, 3))
    (k : ∀ T', T'.heap = h → Stand p l e R s m args below meth c T' locs cells slots → Go p e below F0 (T'.setTop (mkF m pc' Ls (.ref a :: rest)))) : Go p e below F0 (T.setTop (mkF m pc Ls (.ref a :: rest))) := by
  subst hp
  obtain ⟨T', X', e', st⟩ := Jvm.RoadKit.castY X hx hZ hown wl eT F (g := mkF m pc Ls (.ref a :: rest)) rfl rfl hd
  exact Go.step st (k T' e' X')
theorem Go.instY (X : Stand p l e R s m args below meth c T locs cells slots) (hx : p.tables.exec = Jvm.exec) (hZ : Z.Warmed39 s.vm) {own : String} {index : Nat} (hown : s.vm.findClass own = some m.cls) {K : String} (wl : (Jvm.Cond.classLink own index K).before a0 Z = true) (eT : T.heap = h) {a : Addr} (F : Ins Z h a K true) {pc pc' : Nat} {Ls : Array Slot} {rest : List Value} (hp : pc' = pc + 3) (hd : decode c.code pc = .ok (.instanceof index, 3))
    (k : ∀ T', T'.heap = h → Stand p l e R s m args below meth c T' locs cells slots → Go p e below F0 (T'.setTop (mkF m pc' Ls (.int 1 :: rest)))) : Go p e below F0 (T.setTop (mkF m pc Ls (.ref a :: rest))) := by
  subst hp
  obtain ⟨T', X', e', st⟩ := Jvm.RoadKit.instY X hx hZ hown wl eT F (g := mkF m pc Ls (.ref a :: rest)) rfl rfl hd
  exact Go.step st (k T' e' X')
theorem Go.initO (X : Stand p l e R s m args below meth c T locs cells slots) (hx : p.tables.exec = Jvm.exec) (hZ : Z.Warmed39 s.vm) {own : String} {index : Nat} (hown : s.vm.findClass own = some m.cls) (w1 : (Jvm.Cond.methodLink own index Lib.objectInit).before a0 Z = true) (w2 : (Jvm.Cond.instanceMethod Lib.objectInit).before a0 Z = true) (w3 : (Jvm.Cond.code Lib.objectInit ⟨#[0xb1]⟩ 1 none).before a0 Z = true) (eT : T.heap = h) {a : Addr} (hf : 1 ≤ R.frames) {W : Nat} {pc pc' : Nat} {Ls : Array Slot} {rest : List Value} (hsz : Ls.size = c.maxLocals) (hW : (rest.map fun v => v.category).sum ≤ W) (hl : W + 12 ≤ R.locals) (hp : pc' = pc + 3) (hd : decode c.code pc = .ok (.invokespecial index, 3))
    (k : ∀ T', T'.heap = h → Stand p l e R s m args below meth c T' locs cells slots → Go p e below F0 (T'.setTop (mkF m pc' Ls rest))) : Go p e below F0 (T.setTop (mkF m pc Ls (.ref a :: rest))) := by
  subst hp
  obtain ⟨T', X', e', st⟩ := Jvm.RoadKit.initO X hx hZ hown w1 w2 w3 eT (g := mkF m pc Ls (.ref a :: rest)) rfl hsz rfl hd hf (W := W) (by show 2 * 0 + _ ≤ _; rw [Nat.mul_zero, Nat.zero_add]; exact hW) hl
  exact Go.step st (k T' e' X')
theorem Go.ldcI (X : Stand p l e R s m args below meth c T locs cells slots) (hx : p.tables.exec = Jvm.exec) (hZ : Z.Warmed39 s.vm) {own : String} {index : Nat} (hown : s.vm.findClass own = some m.cls) {v : Int32} (wl : (Jvm.Cond.constant own index v).before a0 Z = true) {pc pc' : Nat} {Ls : Array Slot} {rest : List Value} (hp : pc' = pc + 2) (hd : decode c.code pc = .ok (.ldc index, 2)) (k : Go p e below F0 (T.setTop (mkF m pc' Ls (.int v :: rest)))) : Go p e below F0 (T.setTop (mkF m pc Ls rest)) := by
  subst hp
  exact Go.step (fun t kt => X.ldcInt hx hown (mvT hZ wl) (g := mkF m pc Ls rest) rfl hd t kt) k
theorem Go.callSB (X : Stand p l e R s m args below meth c T locs cells slots) (hx : p.tables.exec = Jvm.exec) (hZ : Z.Warmed39 s.vm) {own : String} {index : Nat} (hown : s.vm.findClass own = some m.cls) {y : MethodName} {bytes : ByteArray} {maxL : Nat} {ret : Option FieldType} (w1 : (Jvm.Cond.methodLink own index y).before a0 Z = true) (w2 : (Jvm.Cond.static y).before a0 Z = true) (w3 : (Jvm.Cond.initialized y.cls).before a0 Z = true) (w4 : (Jvm.Cond.code y bytes maxL ret).before a0 Z = true) (hy : y.cls ≠ "java/lang/invoke/MethodHandle" ∧ y.cls ≠ "java/lang/invoke/VarHandle") {W : Nat} {Pre : Pt → Array Value → Prop} {Post : Pt → Array Value → Option Value → Pt → Prop} (hK : Back l R p e below s args y 3 W Pre Post) (eT : T.heap = h)  {pc pc' : Nat} {Ls : Array Slot} {stk argsL rest : List Value} (hp : pc' = pc + 3) (hsz : Ls.size = c.maxLocals) (hlen : ∀ sig, parseMethodDescriptor y.desc = some sig → argsL.length = sig.parameters.length) (hst : stk = argsL.reverse ++ rest) (hW : (rest.map fun v => v.category).sum ≤ W) (hd : decode c.code pc = .ok (.invokestatic index, 3)) (hpre : ∀ vm₁, s.WarmedH vm₁ → Pre ⟨T.setVm vm₁, locs, cells, slots⟩ argsL.toArray)
    (k : ∀ (v : Option Value) (vm₁ : Vm) (T' : State) (locs' : List Loc) (cells' slots' : Nat), Stand p l e R s m args below meth c T' locs' cells' slots' → Post ⟨T.setVm vm₁, locs, cells, slots⟩ argsL.toArray v ⟨T', locs', cells', slots'⟩ → Go p e below F0 (T'.setTop (mkF m pc' Ls (v.toList ++ rest)))) : Go p e below F0 (T.setTop (mkF m pc Ls stk)) := by
  subst hp
  obtain ⟨v, vm₁, ⟨T', L', c', n'⟩, -, X', hP, st⟩ := Jvm.LawKit.callS X hx hown (mvT hZ w1) (mvT hZ w2) (mvT hZ w3) (mvT hZ w4) hy hK (g := mkF m pc Ls stk) rfl hsz hlen hst (by show 2 * 0 + _ ≤ _; rw [Nat.mul_zero, Nat.zero_add]; exact hW) hd hpre
  exact Go.step st (k v vm₁ T' L' c' n' X' hP)
theorem Go.callS (X : Stand p l e R s m args below meth c T locs cells slots) (hx : p.tables.exec = Jvm.exec) (hZ : Z.Warmed39 s.vm) {own : String} {index : Nat} (hown : s.vm.findClass own = some m.cls) {y : MethodName} {bytes : ByteArray} {maxL : Nat} {ret : Option FieldType} (w1 : (Jvm.Cond.methodLink own index y).before a0 Z = true) (w2 : (Jvm.Cond.static y).before a0 Z = true) (w3 : (Jvm.Cond.initialized y.cls).before a0 Z = true) (w4 : (Jvm.Cond.code y bytes maxL ret).before a0 Z = true) (hy : y.cls ≠ "java/lang/invoke/MethodHandle" ∧ y.cls ≠ "java/lang/invoke/VarHandle") {rm : Room} {Qc : Option Value → Heap → List Loc → Prop}  (wc : (Jvm.Cond.code y bytes maxL ret).before a0 Z = true) (wz : (Jvm.Cond.initialized y.cls).before a0 Z = true) {as : Array Value} (hC : Ctr l Z y bytes maxL ret rm as h Qc) (eT : T.heap = h)  {pc pc' : Nat} {Ls : Array Slot} {stk argsL rest : List Value} (hp : pc' = pc + 3) (hsz : Ls.size = c.maxLocals) (hlen : ∀ sig, parseMethodDescriptor y.desc = some sig → argsL.length = sig.parameters.length) (hst : stk = argsL.reverse ++ rest) (has : argsL.toArray = as) {W : Nat} (hW : (rest.map fun v => v.category).sum ≤ W) (hf : rm.frames + 1 ≤ R.frames) (hl : W + (maxL + 11) + rm.locals ≤ R.locals) (hc : cells + rm.cells ≤ R.cells) (hs : slots + rm.slots ≤ R.slots) (hd : decode c.code pc = .ok (.invokestatic index, 3))
    (k : ∀ (v : Option Value) (T' : State) (L : List Loc), Qc v T'.heap L → Stand p l e R s m args below meth c T' (locs ++ L) (cells + rm.cells) (slots + rm.slots) → Go p e below F0 (T'.setTop (mkF m pc' Ls (v.toList ++ rest)))) : Go p e below F0 (T.setTop (mkF m pc Ls stk)) :=
  Go.callSB X hx hZ hown w1 w2 w3 w4 hy (backOf (W := W) (hC []) hZ wc wz hf hl) eT  hp hsz hlen hst hW hd (fun _ _ => ⟨has, eT, hc, hs⟩) (fun v vm₁ T' locs' cells' slots' X' ⟨L, hq, h1, h2, h3⟩ => by
    try dsimp only at h1 h2 h3
    subst h1 h2 h3
    exact k v T' L hq X')
theorem Go.callVB (X : Stand p l e R s m args below meth c T locs cells slots) (hx : p.tables.exec = Jvm.exec) (hZ : Z.Warmed39 s.vm) {own : String} {index : Nat} (hown : s.vm.findClass own = some m.cls) {x y : MethodName} {C : String} (w1 : (Jvm.Cond.methodLink own index x).before a0 Z = true) (w2 : (Jvm.Cond.declares x).before a0 Z = true) (nf : NotFace s x) (w3 : (Jvm.Cond.selects C x y).before a0 Z = true) (w4 : (Jvm.Cond.instanceMethod y).before a0 Z = true) (hy : x.cls ≠ "java/lang/invoke/MethodHandle" ∧ x.cls ≠ "java/lang/invoke/VarHandle") {W : Nat} {Pre : Pt → Array Value → Prop} {Post : Pt → Array Value → Option Value → Pt → Prop} (hK : Back l R p e below s args y 3 W Pre Post) (eT : T.heap = h) {a : Addr} (F : Exa Z h a C) {pc pc' : Nat} {Ls : Array Slot} {stk argsL rest : List Value} (hp : pc' = pc + 3) (hsz : Ls.size = c.maxLocals) (hlen : ∀ sig, parseMethodDescriptor x.desc = some sig → argsL.length = sig.parameters.length) (hst : stk = argsL.reverse ++ .ref a :: rest) (hW : (rest.map fun v => v.category).sum ≤ W) (hd : decode c.code pc = .ok (.invokevirtual index, 3)) (hpre : ∀ vm₁, s.WarmedH vm₁ → Pre ⟨T.setVm vm₁, locs, cells, slots⟩ (.ref a :: argsL).toArray)
    (k : ∀ (v : Option Value) (vm₁ : Vm) (T' : State) (locs' : List Loc) (cells' slots' : Nat), Stand p l e R s m args below meth c T' locs' cells' slots' → Post ⟨T.setVm vm₁, locs, cells, slots⟩ (.ref a :: argsL).toArray v ⟨T', locs', cells', slots'⟩ → Go p e below F0 (T'.setTop (mkF m pc' Ls (v.toList ++ rest)))) : Go p e below F0 (T.setTop (mkF m pc Ls stk)) := by
  subst hp
  obtain ⟨cB, kB, q1, q2, q3⟩ := isOf hZ eT F
  obtain ⟨v, vm₁, ⟨T', L', c', n'⟩, -, X', hP, st⟩ := X.virtualBack hx (y := x) (z := y) hown (mvT hZ w1) (mvT hZ w2) nf (mvT hZ w3) (mvT hZ w4) hy hK q1 q3 (g := mkF m pc Ls stk) rfl hsz (Steps.refl _) hlen hst (by show 2 * 0 + _ ≤ _; rw [Nat.mul_zero, Nat.zero_add]; exact hW) hd hpre
  exact Go.step (fun t kt => st.trans kt) (k v vm₁ T' L' c' n' X' hP)
theorem Go.callV (X : Stand p l e R s m args below meth c T locs cells slots) (hx : p.tables.exec = Jvm.exec) (hZ : Z.Warmed39 s.vm) {own : String} {index : Nat} (hown : s.vm.findClass own = some m.cls) {x y : MethodName} {C : String} (w1 : (Jvm.Cond.methodLink own index x).before a0 Z = true) (w2 : (Jvm.Cond.declares x).before a0 Z = true) (nf : NotFace s x) (w3 : (Jvm.Cond.selects C x y).before a0 Z = true) (w4 : (Jvm.Cond.instanceMethod y).before a0 Z = true) (hy : x.cls ≠ "java/lang/invoke/MethodHandle" ∧ x.cls ≠ "java/lang/invoke/VarHandle") {bytes : ByteArray} {maxL : Nat} {ret : Option FieldType} {rm : Room} {Qc : Option Value → Heap → List Loc → Prop}  (wc : (Jvm.Cond.code y bytes maxL ret).before a0 Z = true) (wz : (Jvm.Cond.initialized y.cls).before a0 Z = true) {as : Array Value} (hC : Ctr l Z y bytes maxL ret rm as h Qc) (eT : T.heap = h) {a : Addr} (F : Exa Z h a C) {pc pc' : Nat} {Ls : Array Slot} {stk argsL rest : List Value} (hp : pc' = pc + 3) (hsz : Ls.size = c.maxLocals) (hlen : ∀ sig, parseMethodDescriptor x.desc = some sig → argsL.length = sig.parameters.length) (hst : stk = argsL.reverse ++ .ref a :: rest) (has : (.ref a :: argsL).toArray = as) {W : Nat} (hW : (rest.map fun v => v.category).sum ≤ W) (hf : rm.frames + 1 ≤ R.frames) (hl : W + (maxL + 11) + rm.locals ≤ R.locals) (hc : cells + rm.cells ≤ R.cells) (hs : slots + rm.slots ≤ R.slots) (hd : decode c.code pc = .ok (.invokevirtual index, 3))
    (k : ∀ (v : Option Value) (T' : State) (L : List Loc), Qc v T'.heap L → Stand p l e R s m args below meth c T' (locs ++ L) (cells + rm.cells) (slots + rm.slots) → Go p e below F0 (T'.setTop (mkF m pc' Ls (v.toList ++ rest)))) : Go p e below F0 (T.setTop (mkF m pc Ls stk)) :=
  Go.callVB X hx hZ hown w1 w2 nf w3 w4 hy (backOf (W := W) (hC []) hZ wc wz hf hl) eT F hp hsz hlen hst hW hd (fun _ _ => ⟨has, eT, hc, hs⟩) (fun v vm₁ T' locs' cells' slots' X' ⟨L, hq, h1, h2, h3⟩ => by
    try dsimp only at h1 h2 h3
    subst h1 h2 h3
    exact k v T' L hq X')
theorem Go.callNB (X : Stand p l e R s m args below meth c T locs cells slots) (hx : p.tables.exec = Jvm.exec) (hZ : Z.Warmed39 s.vm) {own : String} {index : Nat} (hown : s.vm.findClass own = some m.cls) {y : MethodName} {bytes : ByteArray} {maxL : Nat} (hn : y.name = "<init>") (w1 : (Jvm.Cond.methodLink own index y).before a0 Z = true) (w2 : (Jvm.Cond.instanceMethod y).before a0 Z = true) (w4 : (Jvm.Cond.code y bytes maxL none).before a0 Z = true) (hy : y.cls ≠ "java/lang/invoke/MethodHandle" ∧ y.cls ≠ "java/lang/invoke/VarHandle") {W : Nat} {Pre : Pt → Array Value → Prop} {Post : Pt → Array Value → Option Value → Pt → Prop} (hK : Back l R p e below s args y 3 W Pre Post) (eT : T.heap = h) {a : Addr} {pc pc' : Nat} {Ls : Array Slot} {stk argsL rest : List Value} (hp : pc' = pc + 3) (hsz : Ls.size = c.maxLocals) (hlen : ∀ sig, parseMethodDescriptor y.desc = some sig → argsL.length = sig.parameters.length) (hst : stk = argsL.reverse ++ .ref a :: rest) (hW : (rest.map fun v => v.category).sum ≤ W) (hd : decode c.code pc = .ok (.invokespecial index, 3)) (hpre : ∀ vm₁, s.WarmedH vm₁ → Pre ⟨T.setVm vm₁, locs, cells, slots⟩ (.ref a :: argsL).toArray)
    (k : ∀ (v : Option Value) (vm₁ : Vm) (T' : State) (locs' : List Loc) (cells' slots' : Nat), Stand p l e R s m args below meth c T' locs' cells' slots' → Post ⟨T.setVm vm₁, locs, cells, slots⟩ (.ref a :: argsL).toArray v ⟨T', locs', cells', slots'⟩ → Go p e below F0 (T'.setTop (mkF m pc' Ls (v.toList ++ rest)))) : Go p e below F0 (T.setTop (mkF m pc Ls stk)) := by
  subst hp
  obtain ⟨v, vm₁, ⟨T', L', c', n'⟩, -, X', hP, st⟩ := X.specialBack hx (y := y) hn hown (mvT hZ w1) (mvT hZ w2) (mvT hZ w4) hy hK (g := mkF m pc Ls stk) rfl hsz (Steps.refl _) (a := a) hlen hst (by show 2 * 0 + _ ≤ _; rw [Nat.mul_zero, Nat.zero_add]; exact hW) hd hpre
  exact Go.step (fun t kt => st.trans kt) (k v vm₁ T' L' c' n' X' hP)
theorem Go.callN (X : Stand p l e R s m args below meth c T locs cells slots) (hx : p.tables.exec = Jvm.exec) (hZ : Z.Warmed39 s.vm) {own : String} {index : Nat} (hown : s.vm.findClass own = some m.cls) {y : MethodName} {bytes : ByteArray} {maxL : Nat} (hn : y.name = "<init>") (w1 : (Jvm.Cond.methodLink own index y).before a0 Z = true) (w2 : (Jvm.Cond.instanceMethod y).before a0 Z = true) (w4 : (Jvm.Cond.code y bytes maxL none).before a0 Z = true) (hy : y.cls ≠ "java/lang/invoke/MethodHandle" ∧ y.cls ≠ "java/lang/invoke/VarHandle") {rm : Room} {Qc : Option Value → Heap → List Loc → Prop}  (wc : (Jvm.Cond.code y bytes maxL none).before a0 Z = true) (wz : (Jvm.Cond.initialized y.cls).before a0 Z = true) {as : Array Value} (hC : Ctr l Z y bytes maxL none rm as h Qc) (eT : T.heap = h) {a : Addr} {pc pc' : Nat} {Ls : Array Slot} {stk argsL rest : List Value} (hp : pc' = pc + 3) (hsz : Ls.size = c.maxLocals) (hlen : ∀ sig, parseMethodDescriptor y.desc = some sig → argsL.length = sig.parameters.length) (hst : stk = argsL.reverse ++ .ref a :: rest) (has : (.ref a :: argsL).toArray = as) {W : Nat} (hW : (rest.map fun v => v.category).sum ≤ W) (hf : rm.frames + 1 ≤ R.frames) (hl : W + (maxL + 11) + rm.locals ≤ R.locals) (hc : cells + rm.cells ≤ R.cells) (hs : slots + rm.slots ≤ R.slots) (hd : decode c.code pc = .ok (.invokespecial index, 3))
    (k : ∀ (v : Option Value) (T' : State) (L : List Loc), Qc v T'.heap L → Stand p l e R s m args below meth c T' (locs ++ L) (cells + rm.cells) (slots + rm.slots) → Go p e below F0 (T'.setTop (mkF m pc' Ls (v.toList ++ rest)))) : Go p e below F0 (T.setTop (mkF m pc Ls stk)) :=
  Go.callNB X hx hZ hown hn w1 w2 w4 hy (backOf (W := W) (hC []) hZ wc wz hf hl) eT  hp hsz hlen hst hW hd (fun _ _ => ⟨has, eT, hc, hs⟩) (fun v vm₁ T' locs' cells' slots' X' ⟨L, hq, h1, h2, h3⟩ => by
    try dsimp only at h1 h2 h3
    subst h1 h2 h3
    exact k v T' L hq X')
theorem Go.arraycopy (X : Stand p l e R s m args below meth c T locs cells slots) (hx : p.tables.exec = Jvm.exec) (hZ : Z.Warmed39 s.vm) {own : String} {index : Nat} (hown : s.vm.findClass own = some m.cls) (w1 : (Jvm.Cond.methodLink own index Jvm.Stand.acN).before a0 Z = true) (w2 : (Jvm.Cond.native Jvm.Stand.acN).before a0 Z = true) (w3 : (Jvm.Cond.static Jvm.Stand.acN).before a0 Z = true) (w4 : (Jvm.Cond.initialized "java/lang/System").before a0 Z = true) (eT : T.heap = h) {a b : Addr} {k1 k2 : ClassId} {ty : FieldType} {z z' sp dp nn : Int32} {vs vd us : List Value} {dv dd : Value} (A : Arv Z h a k1 ty z vs dv) (B : Arv Z h b k2 ty z' vd dd) (hty : refKind ty = false) (h1 : ¬ sp < 0) (h2 : ¬ dp < 0) (h3 : ¬ nn < 0) (h4 : sp.toNatClampNeg + nn.toNatClampNeg ≤ z.toNatClampNeg) (h5 : dp.toNatClampNeg + nn.toNatClampNeg ≤ z'.toNatClampNeg) (hus : us = (List.range nn.toNatClampNeg).map fun i => vs.getD (sp.toNatClampNeg + i) dv) (hl : dp.toNatClampNeg + nn.toNatClampNeg ≤ vd.length) {n0 : Nat} (N : Fr n0 locs) (ge : n0 ≤ b) (hf : 1 ≤ R.frames) {W : Nat} {pc pc' : Nat} {Ls : Array Slot} {rest : List Value} (hsz : Ls.size = c.maxLocals) (hW : (rest.map fun v => v.category).sum ≤ W) (hlo : W + (nativeFrameWords "java/lang/System" "arraycopy" 5 + 11) ≤ R.locals) (hp : pc' = pc + 3) (hd : decode c.code pc = .ok (.invokestatic index, 3))
    (k : ∀ T' h' L, T'.heap = h' → Fr n0 L → Keep h h' [b] → Arv Z h' b k2 ty z' (vd.take dp.toNatClampNeg ++ us ++ vd.drop (dp.toNatClampNeg + nn.toNatClampNeg)) dd → Stand p l e R s m args below meth c T' L cells slots → Go p e below F0 (T'.setTop (mkF m pc' Ls rest))) : Go p e below F0 (T.setTop (mkF m pc Ls (.int nn :: .int dp :: .ref b :: .int sp :: .ref a :: rest))) := by
  subst hp
  obtain ⟨T', h', L, X', e', N', K', V', st⟩ := cpA X hx hZ hown w1 w2 w3 w4 eT A B (Or.inl ⟨rfl, hty⟩) h1 h2 h3 h4 h5 hus hl N ge (g := mkF m pc Ls (.int nn :: .int dp :: .ref b :: .int sp :: .ref a :: rest)) rfl hsz rfl hd hf (W := W) (by show 2 * 0 + _ ≤ _; rw [Nat.mul_zero, Nat.zero_add]; exact hW) hlo
  exact Go.step st (k T' h' L e' N' K' V' X')
end OwnGo
end Jvm.RoadKit
namespace Jvm.RoadKit
open Sem ClassFile Op Lib Jvm.Stand Jvm.Free Jvm.LawKit
section OwnWide
variable {p : Program} {l : Launch} {e : Env} {R : Room} {s : State} {m : MethodId} {args : Array Value} {below : List Frame} {meth : Method} {c : Code} {T : State} {locs : List Loc} {cells slots kc ks : Nat} {Z : State} {a0 : Array Value} {h : Heap} {Q : Option Value → Heap → List Loc → Prop} {F0 : State → Outcome → Prop} {EL : List (String × Nat)} {vm0 : Vm} {sf : List Addr} {QW : Option Value → Vm → Heap → List Loc → Prop}
/-- the wide end: constants may have been resolved meanwhile -/
def EndW (Z : State) (EL : List (String × Nat)) (s : State) (QW : Option Value → Vm → Heap → List Loc → Prop) (kc ks : Nat) (U : State) (o : Outcome) : Prop :=
  ∃ v L, o = .returned v ∧ QW v U.vm U.heap L ∧ CHr Z EL s.vm s.heap U.vm U.heap ∧ ReturnedEndW s o U L kc ks
def CtrW (l : Launch) (Z : State) (EL : List (String × Nat)) (y : MethodName) (bytes : ByteArray) (maxL : Nat) (ret : Option FieldType) (rm : Room) (as : Array Value) (h : Heap) (sf : List Addr) (QW : Option Value → Vm → Heap → List Loc → Prop) : Prop :=
  ∀ ws : List Jvm.Cond, MetFree l y (head1 (Jvm.Cond.code y bytes maxL ret :: ws) rm) (fun a U => a = as ∧ Z.Warmed39 U.vm ∧ U.heap = h ∧ CHv Z EL U.vm h ∧ ∀ x ∈ sf, Safe Z EL U.vm h x) (fun _ _ _ _ _ => True) (fun _ U o U' => EndW Z EL U QW rm.cells rm.slots U' o)
theorem since0 (s : State) (n : Nat) : s.Since s.vm n := State.WarmedH.since (State.WarmedH.refl s) n
theorem CtrW.of {y : MethodName} {bytes : ByteArray} {maxL : Nat} {ret : Option FieldType} {rm : Room} {as : Array Value} (hp : plainFor y = true)
    (body : ∀ (p : Program) (e : Env) (s : State) (m : MethodId) (below : List Frame) (meth : Method) (c : Code) (T : State), p.tables.exec = Jvm.exec → Z.Warmed39 s.vm → c.code = bytes → c.maxLocals = maxL → s.vm.findClass y.cls = some m.cls → meth.name = y.name → meth.sig.returnType = ret → meth.locks = false → T.heap = h → s.heap = h → s.Since s.vm h.size → CHr Z EL s.vm s.heap s.vm h → (∀ x ∈ sf, Safe Z EL s.vm h x) → Stand p l e rm (s.setVm s.vm) m as below meth c T [] 0 0 →
      Go p e below (EndW Z EL s QW rm.cells rm.slots) (T.setTop (entryFrame m as maxL))) : CtrW l Z EL y bytes maxL ret rm as h sf QW := by
  intro ws
  refine MetFree.of_bodySF hp hisR ?_
  intro p e s m args below meth c s₁ Bd hml0 hP hK
  obtain ⟨rfl, hZ, hh, hC, hs⟩ := hP
  exact body p e s m below meth c s₁ Bd.exec hZ Bd.bytes hml0 (findClass_of_methodNamed Bd.named) (name_of_methodNamed Bd.named Bd.method).1 Bd.returns Bd.notSynchronized (by rw [← hh, Bd.state]; rfl) hh (since0 s _) (by rw [hh]; exact CHr.refl hC) hs (Stand.of_body Bd)
theorem Go.endW (X : Stand p l e R (s.setVm vm0) m args below meth c T locs cells slots) (hx : p.tables.exec = Jvm.exec) {v : Option Value} (hv : meth.sig.returnType = none → v = none) (hlk : meth.locks = false) (hc : cells ≤ kc) (hs : slots ≤ ks) (hZ : Z.Warmed39 vm0) (hEL : EW Z a0 EL) (eT : T.heap = h) {k0 : Nat} (hS : s.Since vm0 k0) (hk : k0 ≤ h.size) (hC : CHr Z EL s.vm s.heap vm0 h) (q : CHr Z EL vm0 h T.vm h → QW v T.vm h locs) {g : JFrame}
    (st : ∀ fs, (∀ (f : JFrame) (acts : List Action), f.method = m → f.locked = none → f.entered = [] → (doReturn e (T.setTop f) acts v).1 = T.setFrames fs) → Steps p.tables e below (T.setTop g) (T.setFrames fs)) : Go p e below (EndW Z EL s QW kc ks) (T.setTop g) := by
  obtain ⟨fs, hr, hrun, hended, hE⟩ := X.leaveW hS (by rw [eT]; exact hk) (v := v) hv hlk
  have hat := CHv.at X hZ hEL hC.1
  refine ⟨_, _, st fs hr, hrun, hended, v, locs, rfl, ?_, ?_, hE.1, hE.2.1, hE.2.2.1, hE.2.2.2.mono hc hs⟩
  · show QW v T.vm T.heap locs
    rw [eT]; exact q hat
  · show CHr Z EL s.vm s.heap T.vm T.heap
    rw [eT]; exact hC.trans hat
theorem Go.ret0W (X : Stand p l e R (s.setVm vm0) m args below meth c T locs cells slots) (hx : p.tables.exec = Jvm.exec) (hlk : meth.locks = false) (hZ : Z.Warmed39 vm0) (hEL : EW Z a0 EL) (eT : T.heap = h) {k0 : Nat} (hS : s.Since vm0 k0) (hk : k0 ≤ h.size) (hC : CHr Z EL s.vm s.heap vm0 h) (hret : meth.sig.returnType = none) {pc : Nat} {Ls : Array Slot} (hd : decode c.code pc = .ok (.return_, 1)) (hc : cells ≤ kc) (hs : slots ≤ ks) (q : CHr Z EL vm0 h T.vm h → QW none T.vm h locs) : Go p e below (EndW Z EL s QW kc ks) (T.setTop (mkF m pc Ls [])) :=
  Go.endW X hx (fun _ => rfl) hlk hc hs hZ hEL eT hS hk hC q (fun fs hr => X.returnOut hx hret hd hr)
theorem Go.retNW (X : Stand p l e R (s.setVm vm0) m args below meth c T locs cells slots) (hx : p.tables.exec = Jvm.exec) (hlk : meth.locks = false) (hZ : Z.Warmed39 vm0) (hEL : EW Z a0 EL) (eT : T.heap = h) {k0 : Nat} (hS : s.Since vm0 k0) (hk : k0 ≤ h.size) (hC : CHr Z EL s.vm s.heap vm0 h) {t : FieldType} (hret : meth.sig.returnType = some t) (ht : t = .boolean ∨ t = .byte ∨ t = .char ∨ t = .short) {pc : Nat} {Ls : Array Slot} {z : Int32} {rest : List Value} (hd : decode c.code pc = .ok (.ireturn, 1)) (hc : cells ≤ kc) (hs : slots ≤ ks) (q : CHr Z EL vm0 h T.vm h → QW (some (.int (nar t z))) T.vm h locs) : Go p e below (EndW Z EL s QW kc ks) (T.setTop (mkF m pc Ls (.int z :: rest))) :=
  Go.endW X hx (fun h => by rw [hret] at h; cases h) hlk hc hs hZ hEL eT hS hk hC q (fun fs hr => Jvm.RoadKit.retN X hx hret ht hd hr)
theorem Go.retRW (X : Stand p l e R (s.setVm vm0) m args below meth c T locs cells slots) (hx : p.tables.exec = Jvm.exec) (hlk : meth.locks = false) (hZ : Z.Warmed39 vm0) (hEL : EW Z a0 EL) (eT : T.heap = h) {k0 : Nat} (hS : s.Since vm0 k0) (hk : k0 ≤ h.size) (hC : CHr Z EL s.vm s.heap vm0 h) {t : FieldType} (hret : meth.sig.returnType = some t) (ht : t.isReference = true) {pc : Nat} {Ls : Array Slot} {v : Value} (hv : v.isRef = true) {rest : List Value} (hd : decode c.code pc = .ok (.areturn, 1)) (hc : cells ≤ kc) (hs : slots ≤ ks) (q : CHr Z EL vm0 h T.vm h → QW (some v) T.vm h locs) : Go p e below (EndW Z EL s QW kc ks) (T.setTop (mkF m pc Ls (v :: rest))) :=
  Go.endW X hx (fun h => by rw [hret] at h; cases h) hlk hc hs hZ hEL eT hS hk hC q (fun fs hr => retOut X hx hret (by rcases ref_cases hv with rfl | ⟨z, rfl⟩ <;> cases t <;> simp [FieldType.isReference] at ht <;> rfl) (Or.inr (Or.inr (Or.inr (Or.inr ⟨rfl, ht, hv⟩)))) hd hr)
theorem CtrW.back {y : MethodName} {bytes : ByteArray} {maxL : Nat} {ret : Option FieldType} {rm : Room} {len W : Nat} {as : Array Value} (hM : CtrW l Z EL y bytes maxL ret rm as h sf QW)
    (hZ : Z.Warmed39 vm0) (wc : (Jvm.Cond.code y bytes maxL ret).before a0 Z = true) (wz : (Jvm.Cond.initialized y.cls).before a0 Z = true) (hf : rm.frames + 1 ≤ R.frames) (hl : W + (maxL + 11) + rm.locals ≤ R.locals) (hEL : EW Z a0 EL) (H : CHv Z EL vm0 h) (hsf : ∀ x ∈ sf, x < h.size ∧ Safe Z EL vm0 h x) :
    BackS l R p e below (s.setVm vm0) args y len W (fun A a => a = as ∧ A.U.heap = h ∧ A.cells + rm.cells ≤ R.cells ∧ A.slots + rm.slots ≤ R.slots)
      (fun A _ v B => ∃ L, QW v B.U.vm B.U.heap L ∧ B.locs = A.locs ++ L ∧ B.cells = A.cells + rm.cells ∧ B.slots = A.slots + rm.slots ∧ CHr Z EL vm0 h B.U.vm B.U.heap) :=
  BackS.of_freeW (bytes := bytes) (maxL := maxL) (ret := ret) (E := fun _ first o t L k n => k = rm.cells ∧ n = rm.slots ∧ (∃ v, o = .returned v ∧ QW v t.vm t.heap L) ∧ CHr Z EL first.vm first.heap t.vm t.heap) (hM []) hf hl
    (fun m meth c A a Y hp => have hU : Z.Warmed39 A.U.vm := wtrans (s := s.setVm vm0) hZ Y.warmed
      ⟨by show (Jvm.Cond.and _ .tt).before a A.U = true; rw [Cond.before_and, mv hU wc]; rfl, mv hU wc, mv hU wz, hp.2.2.1, hp.2.2.2⟩)
    (fun m meth c A a g mk Y hp => have hA := CHv.at Y hZ hEL H
      ⟨hp.1, wtrans (s := s.setVm vm0) hZ Y.warmed, hp.2.1, hA.1, fun x hx => hA.safe (hsf x hx).1 (hsf x hx).2⟩) (fun _ _ _ _ _ _ _ _ _ => trivial)
    (fun _ _ _ _ ⟨v, L, h1, h2, h3, h4⟩ => ⟨L, _, _, h4, rfl, rfl, ⟨v, h1, h2⟩, h3⟩)
    (fun m meth c A a g mk v t L k n Y hp _ _ ⟨e1, e2, ⟨v', e3, e4⟩, e5⟩ => by
      cases e3; subst e1 e2
      refine ⟨L, e4, rfl, rfl, rfl, (CHv.at Y hZ hEL H).trans ?_⟩
      rw [← hp.2.1]; exact e5)
theorem Go.callSW (X : Stand p l e R (s.setVm vm0) m args below meth c T locs cells slots) (hx : p.tables.exec = Jvm.exec) (hZ : Z.Warmed39 vm0) {own : String} {index : Nat} (hown : vm0.findClass own = some m.cls) {y : MethodName} {bytes : ByteArray} {maxL : Nat} {ret : Option FieldType} {rm : Room} (w1 : (Jvm.Cond.methodLink own index y).before a0 Z = true) (w2 : (Jvm.Cond.static y).before a0 Z = true) (w3 : (Jvm.Cond.initialized y.cls).before a0 Z = true) (w4 : (Jvm.Cond.code y bytes maxL ret).before a0 Z = true) (hy : y.cls ≠ "java/lang/invoke/MethodHandle" ∧ y.cls ≠ "java/lang/invoke/VarHandle") (wc : (Jvm.Cond.code y bytes maxL ret).before a0 Z = true) (wz : (Jvm.Cond.initialized y.cls).before a0 Z = true) {as : Array Value} (hM : CtrW l Z EL y bytes maxL ret rm as h sf QW) (hEL : EW Z a0 EL) (H : CHv Z EL vm0 h) (hsf : ∀ x ∈ sf, x < h.size ∧ Safe Z EL vm0 h x) {k0 : Nat} (hS : s.Since vm0 k0) (hk : k0 ≤ h.size) (eT : T.heap = h)  {pc pc' : Nat} {Ls : Array Slot} {stk argsL rest : List Value} (hp : pc' = pc + 3) (hsz : Ls.size = c.maxLocals) (hlen : ∀ sig, parseMethodDescriptor y.desc = some sig → argsL.length = sig.parameters.length) (hst : stk = argsL.reverse ++ rest) (has : argsL.toArray = as) {W : Nat} (hW : (rest.map fun v => v.category).sum ≤ W) (hf : rm.frames + 1 ≤ R.frames) (hl : W + (maxL + 11) + rm.locals ≤ R.locals) (hc : cells + rm.cells ≤ R.cells) (hs : slots + rm.slots ≤ R.slots) (hd : decode c.code pc = .ok (.invokestatic index, 3))
    (k : ∀ (v : Option Value) (T' : State) (L : List Loc) (h' : Heap), T'.heap = h' → QW v T'.vm h' L → CHr Z EL vm0 h T'.vm h' → s.Since T'.vm h'.size → Z.Warmed39 T'.vm → T'.vm.findClass own = some m.cls → Stand p l e R (s.setVm T'.vm) m args below meth c T' (locs ++ L) (cells + rm.cells) (slots + rm.slots) → Go p e below F0 (T'.setTop (mkF m pc' Ls (v.toList ++ rest)))) : Go p e below F0 (T.setTop (mkF m pc Ls stk)) := by
  subst hp
  obtain ⟨v, vm₁, ⟨T', L', c', n'⟩, -, X', h2, hg, ⟨L, hq, h1, h3, h4, h5⟩, st⟩ := callSS X hx hown (mvT (s := s.setVm vm0) hZ w1) (mvT (s := s.setVm vm0) hZ w2) (mvT (s := s.setVm vm0) hZ w3) (mvT (s := s.setVm vm0) hZ w4) hy (hM.back (W := W) hZ wc wz hf hl hEL H hsf) (g := mkF m pc Ls stk) rfl hsz hlen hst (by show 2 * 0 + _ ≤ _; rw [Nat.mul_zero, Nat.zero_add]; exact hW) hd (fun _ _ => ⟨has, eT, hc, hs⟩)
  obtain ⟨X2, hS2, hZ2, hown2⟩ := rebS hS (by rw [eT]; exact hk) X' h2 hg hZ hown
  try dsimp only at h1 h3 h4
  subst h1 h3 h4
  exact Go.step (fun t kt => st.trans kt) (k v T' L T'.heap rfl hq h5 hS2 hZ2 hown2 X2)
theorem Go.callNW (X : Stand p l e R (s.setVm vm0) m args below meth c T locs cells slots) (hx : p.tables.exec = Jvm.exec) (hZ : Z.Warmed39 vm0) {own : String} {index : Nat} (hown : vm0.findClass own = some m.cls) {y : MethodName} {bytes : ByteArray} {maxL : Nat} {rm : Room} (hn : y.name = "<init>") (w1 : (Jvm.Cond.methodLink own index y).before a0 Z = true) (w2 : (Jvm.Cond.instanceMethod y).before a0 Z = true) (w4 : (Jvm.Cond.code y bytes maxL none).before a0 Z = true) (hy : y.cls ≠ "java/lang/invoke/MethodHandle" ∧ y.cls ≠ "java/lang/invoke/VarHandle") (wc : (Jvm.Cond.code y bytes maxL none).before a0 Z = true) (wz : (Jvm.Cond.initialized y.cls).before a0 Z = true) {as : Array Value} (hM : CtrW l Z EL y bytes maxL none rm as h sf QW) (hEL : EW Z a0 EL) (H : CHv Z EL vm0 h) (hsf : ∀ x ∈ sf, x < h.size ∧ Safe Z EL vm0 h x) {k0 : Nat} (hS : s.Since vm0 k0) (hk : k0 ≤ h.size) (eT : T.heap = h) {a : Addr} {pc pc' : Nat} {Ls : Array Slot} {stk argsL rest : List Value} (hp : pc' = pc + 3) (hsz : Ls.size = c.maxLocals) (hlen : ∀ sig, parseMethodDescriptor y.desc = some sig → argsL.length = sig.parameters.length) (hst : stk = argsL.reverse ++ .ref a :: rest) (has : (.ref a :: argsL).toArray = as) {W : Nat} (hW : (rest.map fun v => v.category).sum ≤ W) (hf : rm.frames + 1 ≤ R.frames) (hl : W + (maxL + 11) + rm.locals ≤ R.locals) (hc : cells + rm.cells ≤ R.cells) (hs : slots + rm.slots ≤ R.slots) (hd : decode c.code pc = .ok (.invokespecial index, 3))
    (k : ∀ (v : Option Value) (T' : State) (L : List Loc) (h' : Heap), T'.heap = h' → QW v T'.vm h' L → CHr Z EL vm0 h T'.vm h' → s.Since T'.vm h'.size → Z.Warmed39 T'.vm → T'.vm.findClass own = some m.cls → Stand p l e R (s.setVm T'.vm) m args below meth c T' (locs ++ L) (cells + rm.cells) (slots + rm.slots) → Go p e below F0 (T'.setTop (mkF m pc' Ls (v.toList ++ rest)))) : Go p e below F0 (T.setTop (mkF m pc Ls stk)) := by
  subst hp
  obtain ⟨v, vm₁, ⟨T', L', c', n'⟩, -, X', h2, hg, ⟨L, hq, h1, h3, h4, h5⟩, st⟩ := X.specialBackS hx (y := y) hn hown (mvT (s := s.setVm vm0) hZ w1) (mvT (s := s.setVm vm0) hZ w2) (mvT (s := s.setVm vm0) hZ w4) hy (hM.back (W := W) hZ wc wz hf hl hEL H hsf) (g := mkF m pc Ls stk) rfl hsz (Steps.refl _) (a := a) hlen hst (by show 2 * 0 + _ ≤ _; rw [Nat.mul_zero, Nat.zero_add]; exact hW) hd (fun _ _ => ⟨has, eT, hc, hs⟩)
  obtain ⟨X2, hS2, hZ2, hown2⟩ := rebS hS (by rw [eT]; exact hk) X' h2 hg hZ hown
  try dsimp only at h1 h3 h4
  subst h1 h3 h4
  exact Go.step (fun t kt => st.trans kt) (k v T' L T'.heap rfl hq h5 hS2 hZ2 hown2 X2)
theorem Go.ldcCH (X : Stand p l e R (s.setVm vm0) m args below meth c T locs cells slots) (hx : p.tables.exec = Jvm.exec) (hZ : Z.Warmed39 vm0) {own text : String} {index : Nat} (hown : vm0.findClass own = some m.cls) (wl : (Jvm.Cond.stringLink own index text).before a0 Z = true) (wS : ∀ a ∈ Bundle.stringAtoms, a.before a0 Z = true) (eT : T.heap = h) {k0 : Nat} (hS : s.Since vm0 k0) (hk : k0 ≤ h.size) (hEL : EW Z a0 EL) (hmem : (own, index) ∈ EL) (H : CHv Z EL vm0 h) {vs : List Value} {z : Int32} (ht : (∀ c ∈ text.toList, c.toNat < 256) ∧ text.toList.map (fun c => Value.int (Jvm.Lit.byteI c.toNat.toUInt16)) = vs) (hz : ¬ z < 0) (hl : z.toNatClampNeg = vs.length) {n : Nat} (hn : 4 * text.toList.length ≤ n) (hbig : n ≤ 536870912) (hc : cells + 2 ≤ R.cells) (hl' : slots + (n + 4) ≤ R.slots) {pc pc' : Nat} {Ls : Array Slot} {rest : List Value} (hp : pc' = pc + 2) (hd : decode c.code pc = .ok (.ldc index, 2))
    (k : ∀ (a : Addr) (T' : State) (h' : Heap) (k1 : Nat) (b : Addr) (kk : ClassId), T'.heap = h' → Ext h h' → s.Since T'.vm k1 → k1 ≤ h'.size → Z.Warmed39 T'.vm → T'.vm.findClass own = some m.cls → Exa Z h' a "java/lang/String" → Fld Z h' a "java/lang/String" "coder" "B" (.int 0) → Fld Z h' a "java/lang/String" "value" "[B" (.ref b) → Arv Z h' b kk .byte z vs (.int 0) → CHr Z EL vm0 h T'.vm h' → (∀ x, Safe Z EL T'.vm h' x → x ≠ a ∧ x ≠ b) → Stand p l e R (s.setVm T'.vm) m args below meth c T' locs (cells + 2) (slots + (n + 4)) → Go p e below F0 (T'.setTop (mkF m pc' Ls (.ref a :: rest)))) : Go p e below F0 (T.setTop (mkF m pc Ls rest)) := by
  subst hp
  obtain ⟨a, T', h', k1, b, kk, X', e', E, hS', hk', hZ', hown', F1, F2, F3, F4, -, -, C, -, hne, st⟩ := Jvm.RoadKit.ldcCH X hx hZ hown wl wS eT hS hk hEL hmem H ht hz hl (g := mkF m pc Ls rest) rfl hd hn hbig hc hl'
  exact Go.step st (k a T' h' k1 b kk e' E hS' hk' hZ' hown' F1 F2 F3 F4 C hne X')
end OwnWide
end Jvm.RoadKit
namespace Jvm.Pilot.@@N@@
open Jvm Jvm.ClassFile Sem Op Lib Jvm.Free Jvm.Stand Jvm.LawKit Jvm.RoadKit Bundle Jvm.Pilot.@@N@@.Jvm.D
theorem tw_0 {Z : State} {a0 : Array Value} (hw : ∀ d ∈ tables_1, d.before a0 Z = true) : (Jvm.Cond.constant "com/example/roles_over_datacenter/rolesoverdatacenter/PageServesPinLaw" (12 : Nat) (2147483647 : Int32)).before a0 Z = true := hw _ (List.mem_of_getElem? (i := 0) rfl)
theorem tw_1 {Z : State} {a0 : Array Value} (hw : ∀ d ∈ tables_1, d.before a0 Z = true) : (Jvm.Cond.methodLink "com/example/roles_over_datacenter/rolesoverdatacenter/PageServesPinLaw" (13 : Nat) ({ cls := "com/example/roles_over_datacenter/rolesoverdatacenter/PageServesPinLaw", name := "pick", desc := "(I)C" } : Jvm.MethodName)).before a0 Z = true := hw _ (List.mem_of_getElem? (i := 1) rfl)
theorem tw_2 {Z : State} {a0 : Array Value} (hw : ∀ d ∈ tables_1, d.before a0 Z = true) : (Jvm.Cond.static ({ cls := "com/example/roles_over_datacenter/rolesoverdatacenter/PageServesPinLaw", name := "pick", desc := "(I)C" } : Jvm.MethodName)).before a0 Z = true := hw _ (List.mem_of_getElem? (i := 2) rfl)
theorem tw_3 {Z : State} {a0 : Array Value} (hw : ∀ d ∈ tables_1, d.before a0 Z = true) : (Jvm.Cond.initialized "com/example/roles_over_datacenter/rolesoverdatacenter/PageServesPinLaw").before a0 Z = true := hw _ (List.mem_of_getElem? (i := 3) rfl)
theorem tw_4 {Z : State} {a0 : Array Value} (hw : ∀ d ∈ tables_1, d.before a0 Z = true) : (Jvm.Cond.code ({ cls := "com/example/roles_over_datacenter/rolesoverdatacenter/PageServesPinLaw", name := "pick", desc := "(I)C" } : Jvm.MethodName) method_2_code (2 : Nat) (Option.some Jvm.ClassFile.FieldType.char)).before a0 Z = true := hw _ (List.mem_of_getElem? (i := 4) rfl)
theorem tw_5 {Z : State} {a0 : Array Value} (hw : ∀ d ∈ tables_1, d.before a0 Z = true) : (Jvm.Cond.methodLink "com/example/roles_over_datacenter/rolesoverdatacenter/PageServesPinLaw" (19 : Nat) ({ cls := "com/example/roles_over_datacenter/rolesoverdatacenter/PageServesPinLaw", name := "make", desc := "(ICCCCC)Ljava/lang/String;" } : Jvm.MethodName)).before a0 Z = true := hw _ (List.mem_of_getElem? (i := 5) rfl)
theorem tw_6 {Z : State} {a0 : Array Value} (hw : ∀ d ∈ tables_1, d.before a0 Z = true) : (Jvm.Cond.static ({ cls := "com/example/roles_over_datacenter/rolesoverdatacenter/PageServesPinLaw", name := "make", desc := "(ICCCCC)Ljava/lang/String;" } : Jvm.MethodName)).before a0 Z = true := hw _ (List.mem_of_getElem? (i := 6) rfl)
theorem tw_7 {Z : State} {a0 : Array Value} (hw : ∀ d ∈ tables_1, d.before a0 Z = true) : (Jvm.Cond.code ({ cls := "com/example/roles_over_datacenter/rolesoverdatacenter/PageServesPinLaw", name := "make", desc := "(ICCCCC)Ljava/lang/String;" } : Jvm.MethodName) method_3_code (6 : Nat) (Option.some (Jvm.ClassFile.FieldType.object "java/lang/String"))).before a0 Z = true := hw _ (List.mem_of_getElem? (i := 7) rfl)
theorem tw_8 {Z : State} {a0 : Array Value} (hw : ∀ d ∈ tables_1, d.before a0 Z = true) : (Jvm.Cond.classLink "com/example/roles_over_datacenter/rolesoverdatacenter/PageServesPinLaw" (7 : Nat) "java/lang/String").before a0 Z = true := hw _ (List.mem_of_getElem? (i := 8) rfl)
theorem tw_9 {Z : State} {a0 : Array Value} (hw : ∀ d ∈ tables_1, d.before a0 Z = true) : (Jvm.Cond.instantiable "java/lang/String" (4 : Nat)).before a0 Z = true := hw _ (List.mem_of_getElem? (i := 9) rfl)
theorem tw_10 {Z : State} {a0 : Array Value} (hw : ∀ d ∈ tables_1, d.before a0 Z = true) : (Jvm.Cond.initialized "java/lang/String").before a0 Z = true := hw _ (List.mem_of_getElem? (i := 10) rfl)
theorem tw_11 {Z : State} {a0 : Array Value} (hw : ∀ d ∈ tables_1, d.before a0 Z = true) : (Jvm.Cond.arrayClass Jvm.ClassFile.FieldType.char).before a0 Z = true := hw _ (List.mem_of_getElem? (i := 11) rfl)
theorem tw_12 {Z : State} {a0 : Array Value} (hw : ∀ d ∈ tables_1, d.before a0 Z = true) : (Jvm.Cond.methodLink "com/example/roles_over_datacenter/rolesoverdatacenter/PageServesPinLaw" (9 : Nat) ({ cls := "java/lang/String", name := "<init>", desc := "([C)V" } : Jvm.MethodName)).before a0 Z = true := hw _ (List.mem_of_getElem? (i := 12) rfl)
theorem tw_13 {Z : State} {a0 : Array Value} (hw : ∀ d ∈ tables_1, d.before a0 Z = true) : (Jvm.Cond.instanceMethod ({ cls := "java/lang/String", name := "<init>", desc := "([C)V" } : Jvm.MethodName)).before a0 Z = true := hw _ (List.mem_of_getElem? (i := 13) rfl)
theorem tw_14 {Z : State} {a0 : Array Value} (hw : ∀ d ∈ tables_1, d.before a0 Z = true) : (Jvm.Cond.code ({ cls := "java/lang/String", name := "<init>", desc := "([C)V" } : Jvm.MethodName) jdk_42_method_3_code (2 : Nat) (Option.none : Option Jvm.ClassFile.FieldType)).before a0 Z = true := hw _ (List.mem_of_getElem? (i := 14) rfl)
theorem tw_15 {Z : State} {a0 : Array Value} (hw : ∀ d ∈ tables_1, d.before a0 Z = true) : (Jvm.Cond.methodLink "java/lang/String" (27 : Nat) ({ cls := "java/lang/String", name := "<init>", desc := "([CIILjava/lang/Void;)V" } : Jvm.MethodName)).before a0 Z = true := hw _ (List.mem_of_getElem? (i := 15) rfl)
theorem tw_16 {Z : State} {a0 : Array Value} (hw : ∀ d ∈ tables_1, d.before a0 Z = true) : (Jvm.Cond.instanceMethod ({ cls := "java/lang/String", name := "<init>", desc := "([CIILjava/lang/Void;)V" } : Jvm.MethodName)).before a0 Z = true := hw _ (List.mem_of_getElem? (i := 16) rfl)
theorem tw_18 {Z : State} {a0 : Array Value} (hw : ∀ d ∈ tables_1, d.before a0 Z = true) : (Jvm.Cond.code ({ cls := "java/lang/String", name := "<init>", desc := "([CIILjava/lang/Void;)V" } : Jvm.MethodName) jdk_42_method_149_code (6 : Nat) (Option.none : Option Jvm.ClassFile.FieldType)).before a0 Z = true := hw _ (List.mem_of_getElem? (i := 18) rfl)
theorem tw_19 {Z : State} {a0 : Array Value} (hw : ∀ d ∈ tables_1, d.before a0 Z = true) : (Jvm.Cond.methodLink "java/lang/String" (1 : Nat) ({ cls := "java/lang/Object", name := "<init>", desc := "()V" } : Jvm.MethodName)).before a0 Z = true := hw _ (List.mem_of_getElem? (i := 19) rfl)
theorem tw_20 {Z : State} {a0 : Array Value} (hw : ∀ d ∈ tables_1, d.before a0 Z = true) : (Jvm.Cond.instanceMethod ({ cls := "java/lang/Object", name := "<init>", desc := "()V" } : Jvm.MethodName)).before a0 Z = true := hw _ (List.mem_of_getElem? (i := 20) rfl)
theorem tw_21 {Z : State} {a0 : Array Value} (hw : ∀ d ∈ tables_1, d.before a0 Z = true) : (Jvm.Cond.code ({ cls := "java/lang/Object", name := "<init>", desc := "()V" } : Jvm.MethodName) object_method_1_code (1 : Nat) (Option.none : Option Jvm.ClassFile.FieldType)).before a0 Z = true := hw _ (List.mem_of_getElem? (i := 21) rfl)
theorem tw_22 {Z : State} {a0 : Array Value} (hw : ∀ d ∈ tables_1, d.before a0 Z = true) : (Jvm.Cond.stringLink "java/lang/String" (7 : Nat) "").before a0 Z = true := hw _ (List.mem_of_getElem? (i := 22) rfl)
theorem tw_23 {Z : State} {a0 : Array Value} (hw : ∀ d ∈ tables_1, d.before a0 Z = true) : (Jvm.Cond.arrayClass Jvm.ClassFile.FieldType.byte).before a0 Z = true := hw _ (List.mem_of_getElem? (i := 23) rfl)
theorem tw_24 {Z : State} {a0 : Array Value} (hw : ∀ d ∈ tables_1, d.before a0 Z = true) : (Jvm.Cond.laysFinal "java/lang/String" "java/lang/String" "value" "[B").before a0 Z = true := hw _ (List.mem_of_getElem? (i := 24) rfl)
theorem tw_25 {Z : State} {a0 : Array Value} (hw : ∀ d ∈ tables_1, d.before a0 Z = true) : (Jvm.Cond.laysFinal "java/lang/String" "java/lang/String" "coder" "B").before a0 Z = true := hw _ (List.mem_of_getElem? (i := 25) rfl)
theorem tw_28 {Z : State} {a0 : Array Value} (hw : ∀ d ∈ tables_1, d.before a0 Z = true) : (Jvm.Cond.fieldLink "java/lang/String" (9 : Nat) "java/lang/String" "value" "[B").before a0 Z = true := hw _ (List.mem_of_getElem? (i := 28) rfl)
theorem tw_29 {Z : State} {a0 : Array Value} (hw : ∀ d ∈ tables_1, d.before a0 Z = true) : (Jvm.Cond.fieldLink "java/lang/String" (15 : Nat) "java/lang/String" "coder" "B").before a0 Z = true := hw _ (List.mem_of_getElem? (i := 29) rfl)
theorem tw_30 {Z : State} {a0 : Array Value} (hw : ∀ d ∈ tables_1, d.before a0 Z = true) : (Jvm.Cond.methodLink "com/example/roles_over_datacenter/rolesoverdatacenter/PageServesPinLaw" (23 : Nat) ({ cls := "com/example/roles_over_datacenter/rolesoverdatacenter/Page", name := "serves", desc := "(Ljava/lang/String;)Z" } : Jvm.MethodName)).before a0 Z = true := hw _ (List.mem_of_getElem? (i := 30) rfl)
theorem tw_31 {Z : State} {a0 : Array Value} (hw : ∀ d ∈ tables_1, d.before a0 Z = true) : (Jvm.Cond.static ({ cls := "com/example/roles_over_datacenter/rolesoverdatacenter/Page", name := "serves", desc := "(Ljava/lang/String;)Z" } : Jvm.MethodName)).before a0 Z = true := hw _ (List.mem_of_getElem? (i := 31) rfl)
theorem tw_32 {Z : State} {a0 : Array Value} (hw : ∀ d ∈ tables_1, d.before a0 Z = true) : (Jvm.Cond.initialized "com/example/roles_over_datacenter/rolesoverdatacenter/Page").before a0 Z = true := hw _ (List.mem_of_getElem? (i := 32) rfl)
theorem tw_33 {Z : State} {a0 : Array Value} (hw : ∀ d ∈ tables_1, d.before a0 Z = true) : (Jvm.Cond.code ({ cls := "com/example/roles_over_datacenter/rolesoverdatacenter/Page", name := "serves", desc := "(Ljava/lang/String;)Z" } : Jvm.MethodName) prog_11_method_3_code (1 : Nat) (Option.some Jvm.ClassFile.FieldType.boolean)).before a0 Z = true := hw _ (List.mem_of_getElem? (i := 33) rfl)
theorem tw_34 {Z : State} {a0 : Array Value} (hw : ∀ d ∈ tables_1, d.before a0 Z = true) : (Jvm.Cond.stringLink "com/example/roles_over_datacenter/rolesoverdatacenter/Page" (49 : Nat) "/ui/").before a0 Z = true := hw _ (List.mem_of_getElem? (i := 34) rfl)
theorem tw_35 {Z : State} {a0 : Array Value} (hw : ∀ d ∈ tables_1, d.before a0 Z = true) : (Jvm.Cond.methodLink "com/example/roles_over_datacenter/rolesoverdatacenter/Page" (51 : Nat) ({ cls := "java/lang/String", name := "startsWith", desc := "(Ljava/lang/String;)Z" } : Jvm.MethodName)).before a0 Z = true := hw _ (List.mem_of_getElem? (i := 35) rfl)
theorem tw_36 {Z : State} {a0 : Array Value} (hw : ∀ d ∈ tables_1, d.before a0 Z = true) : (Jvm.Cond.declares ({ cls := "java/lang/String", name := "startsWith", desc := "(Ljava/lang/String;)Z" } : Jvm.MethodName)).before a0 Z = true := hw _ (List.mem_of_getElem? (i := 36) rfl)
theorem tw_37 {Z : State} {a0 : Array Value} (hw : ∀ d ∈ tables_1, d.before a0 Z = true) : (Jvm.Cond.instanceMethod ({ cls := "java/lang/String", name := "startsWith", desc := "(Ljava/lang/String;)Z" } : Jvm.MethodName)).before a0 Z = true := hw _ (List.mem_of_getElem? (i := 37) rfl)
theorem tw_38 {Z : State} {a0 : Array Value} (hw : ∀ d ∈ tables_1, d.before a0 Z = true) : (Jvm.Cond.selects "java/lang/String" ({ cls := "java/lang/String", name := "startsWith", desc := "(Ljava/lang/String;)Z" } : Jvm.MethodName) ({ cls := "java/lang/String", name := "startsWith", desc := "(Ljava/lang/String;)Z" } : Jvm.MethodName)).before a0 Z = true := hw _ (List.mem_of_getElem? (i := 38) rfl)
theorem tw_39 {Z : State} {a0 : Array Value} (hw : ∀ d ∈ tables_1, d.before a0 Z = true) : (Jvm.Cond.code ({ cls := "java/lang/String", name := "startsWith", desc := "(Ljava/lang/String;)Z" } : Jvm.MethodName) jdk_42_method_76_code (2 : Nat) (Option.some Jvm.ClassFile.FieldType.boolean)).before a0 Z = true := hw _ (List.mem_of_getElem? (i := 39) rfl)
theorem tw_40 {Z : State} {a0 : Array Value} (hw : ∀ d ∈ tables_1, d.before a0 Z = true) : (Jvm.Cond.methodLink "java/lang/String" (624 : Nat) ({ cls := "java/lang/String", name := "startsWith", desc := "(Ljava/lang/String;I)Z" } : Jvm.MethodName)).before a0 Z = true := hw _ (List.mem_of_getElem? (i := 40) rfl)
theorem tw_41 {Z : State} {a0 : Array Value} (hw : ∀ d ∈ tables_1, d.before a0 Z = true) : (Jvm.Cond.declares ({ cls := "java/lang/String", name := "startsWith", desc := "(Ljava/lang/String;I)Z" } : Jvm.MethodName)).before a0 Z = true := hw _ (List.mem_of_getElem? (i := 41) rfl)
theorem tw_42 {Z : State} {a0 : Array Value} (hw : ∀ d ∈ tables_1, d.before a0 Z = true) : (Jvm.Cond.instanceMethod ({ cls := "java/lang/String", name := "startsWith", desc := "(Ljava/lang/String;I)Z" } : Jvm.MethodName)).before a0 Z = true := hw _ (List.mem_of_getElem? (i := 42) rfl)
theorem tw_43 {Z : State} {a0 : Array Value} (hw : ∀ d ∈ tables_1, d.before a0 Z = true) : (Jvm.Cond.selects "java/lang/String" ({ cls := "java/lang/String", name := "startsWith", desc := "(Ljava/lang/String;I)Z" } : Jvm.MethodName) ({ cls := "java/lang/String", name := "startsWith", desc := "(Ljava/lang/String;I)Z" } : Jvm.MethodName)).before a0 Z = true := hw _ (List.mem_of_getElem? (i := 43) rfl)
theorem tw_44 {Z : State} {a0 : Array Value} (hw : ∀ d ∈ tables_1, d.before a0 Z = true) : (Jvm.Cond.code ({ cls := "java/lang/String", name := "startsWith", desc := "(Ljava/lang/String;I)Z" } : Jvm.MethodName) jdk_42_method_75_code (8 : Nat) (Option.some Jvm.ClassFile.FieldType.boolean)).before a0 Z = true := hw _ (List.mem_of_getElem? (i := 44) rfl)
theorem tw_45 {Z : State} {a0 : Array Value} (hw : ∀ d ∈ tables_1, d.before a0 Z = true) : (Jvm.Cond.methodLink "java/lang/String" (505 : Nat) ({ cls := "java/lang/String", name := "length", desc := "()I" } : Jvm.MethodName)).before a0 Z = true := hw _ (List.mem_of_getElem? (i := 45) rfl)
theorem tw_46 {Z : State} {a0 : Array Value} (hw : ∀ d ∈ tables_1, d.before a0 Z = true) : (Jvm.Cond.declares ({ cls := "java/lang/String", name := "length", desc := "()I" } : Jvm.MethodName)).before a0 Z = true := hw _ (List.mem_of_getElem? (i := 46) rfl)
theorem tw_47 {Z : State} {a0 : Array Value} (hw : ∀ d ∈ tables_1, d.before a0 Z = true) : (Jvm.Cond.instanceMethod ({ cls := "java/lang/String", name := "length", desc := "()I" } : Jvm.MethodName)).before a0 Z = true := hw _ (List.mem_of_getElem? (i := 47) rfl)
theorem tw_48 {Z : State} {a0 : Array Value} (hw : ∀ d ∈ tables_1, d.before a0 Z = true) : (Jvm.Cond.selects "java/lang/String" ({ cls := "java/lang/String", name := "length", desc := "()I" } : Jvm.MethodName) ({ cls := "java/lang/String", name := "length", desc := "()I" } : Jvm.MethodName)).before a0 Z = true := hw _ (List.mem_of_getElem? (i := 48) rfl)
theorem tw_49 {Z : State} {a0 : Array Value} (hw : ∀ d ∈ tables_1, d.before a0 Z = true) : (Jvm.Cond.code ({ cls := "java/lang/String", name := "length", desc := "()I" } : Jvm.MethodName) jdk_42_method_54_code (1 : Nat) (Option.some Jvm.ClassFile.FieldType.int)).before a0 Z = true := hw _ (List.mem_of_getElem? (i := 49) rfl)
theorem tw_50 {Z : State} {a0 : Array Value} (hw : ∀ d ∈ tables_1, d.before a0 Z = true) : (Jvm.Cond.methodLink "java/lang/String" (335 : Nat) ({ cls := "java/lang/String", name := "coder", desc := "()B" } : Jvm.MethodName)).before a0 Z = true := hw _ (List.mem_of_getElem? (i := 50) rfl)
theorem tw_51 {Z : State} {a0 : Array Value} (hw : ∀ d ∈ tables_1, d.before a0 Z = true) : (Jvm.Cond.declares ({ cls := "java/lang/String", name := "coder", desc := "()B" } : Jvm.MethodName)).before a0 Z = true := hw _ (List.mem_of_getElem? (i := 51) rfl)
theorem tw_52 {Z : State} {a0 : Array Value} (hw : ∀ d ∈ tables_1, d.before a0 Z = true) : (Jvm.Cond.instanceMethod ({ cls := "java/lang/String", name := "coder", desc := "()B" } : Jvm.MethodName)).before a0 Z = true := hw _ (List.mem_of_getElem? (i := 52) rfl)
theorem tw_53 {Z : State} {a0 : Array Value} (hw : ∀ d ∈ tables_1, d.before a0 Z = true) : (Jvm.Cond.selects "java/lang/String" ({ cls := "java/lang/String", name := "coder", desc := "()B" } : Jvm.MethodName) ({ cls := "java/lang/String", name := "coder", desc := "()B" } : Jvm.MethodName)).before a0 Z = true := hw _ (List.mem_of_getElem? (i := 53) rfl)
theorem tw_54 {Z : State} {a0 : Array Value} (hw : ∀ d ∈ tables_1, d.before a0 Z = true) : (Jvm.Cond.code ({ cls := "java/lang/String", name := "coder", desc := "()B" } : Jvm.MethodName) jdk_42_method_152_code (1 : Nat) (Option.some Jvm.ClassFile.FieldType.byte)).before a0 Z = true := hw _ (List.mem_of_getElem? (i := 54) rfl)
theorem tw_55 {Z : State} {a0 : Array Value} (hw : ∀ d ∈ tables_1, d.before a0 Z = true) : (Jvm.Cond.fieldLink "java/lang/String" (38 : Nat) "java/lang/String" "COMPACT_STRINGS" "Z").before a0 Z = true := hw _ (List.mem_of_getElem? (i := 55) rfl)
theorem tw_56 {Z : State} {a0 : Array Value} (hw : ∀ d ∈ tables_1, d.before a0 Z = true) : (Jvm.Cond.methodLink "com/example/roles_over_datacenter/rolesoverdatacenter/Page" (57 : Nat) ({ cls := "com/example/roles_over_datacenter/rolesoverdatacenter/Page", name := "redirects", desc := "(Ljava/lang/String;)Z" } : Jvm.MethodName)).before a0 Z = true := hw _ (List.mem_of_getElem? (i := 56) rfl)
theorem tw_57 {Z : State} {a0 : Array Value} (hw : ∀ d ∈ tables_1, d.before a0 Z = true) : (Jvm.Cond.static ({ cls := "com/example/roles_over_datacenter/rolesoverdatacenter/Page", name := "redirects", desc := "(Ljava/lang/String;)Z" } : Jvm.MethodName)).before a0 Z = true := hw _ (List.mem_of_getElem? (i := 57) rfl)
theorem tw_58 {Z : State} {a0 : Array Value} (hw : ∀ d ∈ tables_1, d.before a0 Z = true) : (Jvm.Cond.code ({ cls := "com/example/roles_over_datacenter/rolesoverdatacenter/Page", name := "redirects", desc := "(Ljava/lang/String;)Z" } : Jvm.MethodName) prog_11_method_4_code (1 : Nat) (Option.some Jvm.ClassFile.FieldType.boolean)).before a0 Z = true := hw _ (List.mem_of_getElem? (i := 58) rfl)
theorem tw_59 {Z : State} {a0 : Array Value} (hw : ∀ d ∈ tables_1, d.before a0 Z = true) : (Jvm.Cond.stringLink "com/example/roles_over_datacenter/rolesoverdatacenter/Page" (60 : Nat) "/").before a0 Z = true := hw _ (List.mem_of_getElem? (i := 59) rfl)
theorem tw_60 {Z : State} {a0 : Array Value} (hw : ∀ d ∈ tables_1, d.before a0 Z = true) : (Jvm.Cond.methodLink "com/example/roles_over_datacenter/rolesoverdatacenter/Page" (62 : Nat) ({ cls := "java/lang/String", name := "equals", desc := "(Ljava/lang/Object;)Z" } : Jvm.MethodName)).before a0 Z = true := hw _ (List.mem_of_getElem? (i := 60) rfl)
theorem tw_61 {Z : State} {a0 : Array Value} (hw : ∀ d ∈ tables_1, d.before a0 Z = true) : (Jvm.Cond.declares ({ cls := "java/lang/String", name := "equals", desc := "(Ljava/lang/Object;)Z" } : Jvm.MethodName)).before a0 Z = true := hw _ (List.mem_of_getElem? (i := 61) rfl)
theorem tw_62 {Z : State} {a0 : Array Value} (hw : ∀ d ∈ tables_1, d.before a0 Z = true) : (Jvm.Cond.instanceMethod ({ cls := "java/lang/String", name := "equals", desc := "(Ljava/lang/Object;)Z" } : Jvm.MethodName)).before a0 Z = true := hw _ (List.mem_of_getElem? (i := 62) rfl)
theorem tw_63 {Z : State} {a0 : Array Value} (hw : ∀ d ∈ tables_1, d.before a0 Z = true) : (Jvm.Cond.selects "java/lang/String" ({ cls := "java/lang/String", name := "equals", desc := "(Ljava/lang/Object;)Z" } : Jvm.MethodName) ({ cls := "java/lang/String", name := "equals", desc := "(Ljava/lang/Object;)Z" } : Jvm.MethodName)).before a0 Z = true := hw _ (List.mem_of_getElem? (i := 63) rfl)
theorem tw_64 {Z : State} {a0 : Array Value} (hw : ∀ d ∈ tables_1, d.before a0 Z = true) : (Jvm.Cond.code ({ cls := "java/lang/String", name := "equals", desc := "(Ljava/lang/Object;)Z" } : Jvm.MethodName) jdk_42_method_66_code (3 : Nat) (Option.some Jvm.ClassFile.FieldType.boolean)).before a0 Z = true := hw _ (List.mem_of_getElem? (i := 64) rfl)
theorem tw_65 {Z : State} {a0 : Array Value} (hw : ∀ d ∈ tables_1, d.before a0 Z = true) : (Jvm.Cond.classLink "java/lang/String" (10 : Nat) "java/lang/String").before a0 Z = true := hw _ (List.mem_of_getElem? (i := 65) rfl)
theorem tw_66 {Z : State} {a0 : Array Value} (hw : ∀ d ∈ tables_1, d.before a0 Z = true) : (Jvm.Cond.methodLink "java/lang/String" (541 : Nat) ({ cls := "java/lang/StringLatin1", name := "equals", desc := "([B[B)Z" } : Jvm.MethodName)).before a0 Z = true := hw _ (List.mem_of_getElem? (i := 66) rfl)
theorem tw_67 {Z : State} {a0 : Array Value} (hw : ∀ d ∈ tables_1, d.before a0 Z = true) : (Jvm.Cond.static ({ cls := "java/lang/StringLatin1", name := "equals", desc := "([B[B)Z" } : Jvm.MethodName)).before a0 Z = true := hw _ (List.mem_of_getElem? (i := 67) rfl)
theorem tw_68 {Z : State} {a0 : Array Value} (hw : ∀ d ∈ tables_1, d.before a0 Z = true) : (Jvm.Cond.initialized "java/lang/StringLatin1").before a0 Z = true := hw _ (List.mem_of_getElem? (i := 68) rfl)
theorem tw_69 {Z : State} {a0 : Array Value} (hw : ∀ d ∈ tables_1, d.before a0 Z = true) : (Jvm.Cond.code ({ cls := "java/lang/StringLatin1", name := "equals", desc := "([B[B)Z" } : Jvm.MethodName) jdk_43_method_13_code (3 : Nat) (Option.some Jvm.ClassFile.FieldType.boolean)).before a0 Z = true := hw _ (List.mem_of_getElem? (i := 69) rfl)
theorem tw_70 {Z : State} {a0 : Array Value} (hw : ∀ d ∈ tables_1, d.before a0 Z = true) : (Jvm.Cond.methodLink "com/example/roles_over_datacenter/rolesoverdatacenter/Page" (66 : Nat) ({ cls := "java/lang/String", name := "length", desc := "()I" } : Jvm.MethodName)).before a0 Z = true := hw _ (List.mem_of_getElem? (i := 70) rfl)
theorem tw_71 {Z : State} {a0 : Array Value} (hw : ∀ d ∈ tables_1, d.before a0 Z = true) : (Jvm.Cond.methodLink "com/example/roles_over_datacenter/rolesoverdatacenter/Page" (70 : Nat) ({ cls := "java/lang/String", name := "substring", desc := "(II)Ljava/lang/String;" } : Jvm.MethodName)).before a0 Z = true := hw _ (List.mem_of_getElem? (i := 71) rfl)
theorem tw_72 {Z : State} {a0 : Array Value} (hw : ∀ d ∈ tables_1, d.before a0 Z = true) : (Jvm.Cond.declares ({ cls := "java/lang/String", name := "substring", desc := "(II)Ljava/lang/String;" } : Jvm.MethodName)).before a0 Z = true := hw _ (List.mem_of_getElem? (i := 72) rfl)
theorem tw_73 {Z : State} {a0 : Array Value} (hw : ∀ d ∈ tables_1, d.before a0 Z = true) : (Jvm.Cond.instanceMethod ({ cls := "java/lang/String", name := "substring", desc := "(II)Ljava/lang/String;" } : Jvm.MethodName)).before a0 Z = true := hw _ (List.mem_of_getElem? (i := 73) rfl)
theorem tw_74 {Z : State} {a0 : Array Value} (hw : ∀ d ∈ tables_1, d.before a0 Z = true) : (Jvm.Cond.selects "java/lang/String" ({ cls := "java/lang/String", name := "substring", desc := "(II)Ljava/lang/String;" } : Jvm.MethodName) ({ cls := "java/lang/String", name := "substring", desc := "(II)Ljava/lang/String;" } : Jvm.MethodName)).before a0 Z = true := hw _ (List.mem_of_getElem? (i := 74) rfl)
theorem tw_75 {Z : State} {a0 : Array Value} (hw : ∀ d ∈ tables_1, d.before a0 Z = true) : (Jvm.Cond.code ({ cls := "java/lang/String", name := "substring", desc := "(II)Ljava/lang/String;" } : Jvm.MethodName) jdk_42_method_92_code (5 : Nat) (Option.some (Jvm.ClassFile.FieldType.object "java/lang/String"))).before a0 Z = true := hw _ (List.mem_of_getElem? (i := 75) rfl)
theorem tw_76 {Z : State} {a0 : Array Value} (hw : ∀ d ∈ tables_1, d.before a0 Z = true) : (Jvm.Cond.methodLink "java/lang/String" (521 : Nat) ({ cls := "java/lang/String", name := "checkBoundsBeginEnd", desc := "(III)V" } : Jvm.MethodName)).before a0 Z = true := hw _ (List.mem_of_getElem? (i := 76) rfl)
theorem tw_77 {Z : State} {a0 : Array Value} (hw : ∀ d ∈ tables_1, d.before a0 Z = true) : (Jvm.Cond.static ({ cls := "java/lang/String", name := "checkBoundsBeginEnd", desc := "(III)V" } : Jvm.MethodName)).before a0 Z = true := hw _ (List.mem_of_getElem? (i := 77) rfl)
theorem tw_78 {Z : State} {a0 : Array Value} (hw : ∀ d ∈ tables_1, d.before a0 Z = true) : (Jvm.Cond.code ({ cls := "java/lang/String", name := "checkBoundsBeginEnd", desc := "(III)V" } : Jvm.MethodName) jdk_42_method_158_code (3 : Nat) (Option.none : Option Jvm.ClassFile.FieldType)).before a0 Z = true := hw _ (List.mem_of_getElem? (i := 78) rfl)
theorem tw_79 {Z : State} {a0 : Array Value} (hw : ∀ d ∈ tables_1, d.before a0 Z = true) : (Jvm.Cond.fieldLink "java/lang/String" (1053 : Nat) "jdk/internal/util/Preconditions" "SIOOBE_FORMATTER" "Ljava/util/function/BiFunction;").before a0 Z = true := hw _ (List.mem_of_getElem? (i := 79) rfl)
theorem tw_80 {Z : State} {a0 : Array Value} (hw : ∀ d ∈ tables_1, d.before a0 Z = true) : (Jvm.Cond.initialized "jdk/internal/util/Preconditions").before a0 Z = true := hw _ (List.mem_of_getElem? (i := 80) rfl)
theorem tw_81 {Z : State} {a0 : Array Value} (hw : ∀ d ∈ tables_1, d.before a0 Z = true) : (Jvm.Cond.methodLink "java/lang/String" (1062 : Nat) ({ cls := "jdk/internal/util/Preconditions", name := "checkFromToIndex", desc := "(IIILjava/util/function/BiFunction;)I" } : Jvm.MethodName)).before a0 Z = true := hw _ (List.mem_of_getElem? (i := 81) rfl)
theorem tw_82 {Z : State} {a0 : Array Value} (hw : ∀ d ∈ tables_1, d.before a0 Z = true) : (Jvm.Cond.static ({ cls := "jdk/internal/util/Preconditions", name := "checkFromToIndex", desc := "(IIILjava/util/function/BiFunction;)I" } : Jvm.MethodName)).before a0 Z = true := hw _ (List.mem_of_getElem? (i := 82) rfl)
theorem tw_83 {Z : State} {a0 : Array Value} (hw : ∀ d ∈ tables_1, d.before a0 Z = true) : (Jvm.Cond.code ({ cls := "jdk/internal/util/Preconditions", name := "checkFromToIndex", desc := "(IIILjava/util/function/BiFunction;)I" } : Jvm.MethodName) jdk_41_method_12_code (4 : Nat) (Option.some Jvm.ClassFile.FieldType.int)).before a0 Z = true := hw _ (List.mem_of_getElem? (i := 83) rfl)
theorem tw_84 {Z : State} {a0 : Array Value} (hw : ∀ d ∈ tables_1, d.before a0 Z = true) : (Jvm.Cond.methodLink "java/lang/String" (492 : Nat) ({ cls := "java/lang/String", name := "isLatin1", desc := "()Z" } : Jvm.MethodName)).before a0 Z = true := hw _ (List.mem_of_getElem? (i := 84) rfl)
theorem tw_85 {Z : State} {a0 : Array Value} (hw : ∀ d ∈ tables_1, d.before a0 Z = true) : (Jvm.Cond.declares ({ cls := "java/lang/String", name := "isLatin1", desc := "()Z" } : Jvm.MethodName)).before a0 Z = true := hw _ (List.mem_of_getElem? (i := 85) rfl)
theorem tw_86 {Z : State} {a0 : Array Value} (hw : ∀ d ∈ tables_1, d.before a0 Z = true) : (Jvm.Cond.instanceMethod ({ cls := "java/lang/String", name := "isLatin1", desc := "()Z" } : Jvm.MethodName)).before a0 Z = true := hw _ (List.mem_of_getElem? (i := 86) rfl)
theorem tw_87 {Z : State} {a0 : Array Value} (hw : ∀ d ∈ tables_1, d.before a0 Z = true) : (Jvm.Cond.selects "java/lang/String" ({ cls := "java/lang/String", name := "isLatin1", desc := "()Z" } : Jvm.MethodName) ({ cls := "java/lang/String", name := "isLatin1", desc := "()Z" } : Jvm.MethodName)).before a0 Z = true := hw _ (List.mem_of_getElem? (i := 87) rfl)
theorem tw_88 {Z : State} {a0 : Array Value} (hw : ∀ d ∈ tables_1, d.before a0 Z = true) : (Jvm.Cond.code ({ cls := "java/lang/String", name := "isLatin1", desc := "()Z" } : Jvm.MethodName) jdk_42_method_154_code (1 : Nat) (Option.some Jvm.ClassFile.FieldType.boolean)).before a0 Z = true := hw _ (List.mem_of_getElem? (i := 88) rfl)
theorem tw_89 {Z : State} {a0 : Array Value} (hw : ∀ d ∈ tables_1, d.before a0 Z = true) : (Jvm.Cond.methodLink "java/lang/String" (685 : Nat) ({ cls := "java/lang/StringLatin1", name := "newString", desc := "([BII)Ljava/lang/String;" } : Jvm.MethodName)).before a0 Z = true := hw _ (List.mem_of_getElem? (i := 89) rfl)
theorem tw_90 {Z : State} {a0 : Array Value} (hw : ∀ d ∈ tables_1, d.before a0 Z = true) : (Jvm.Cond.static ({ cls := "java/lang/StringLatin1", name := "newString", desc := "([BII)Ljava/lang/String;" } : Jvm.MethodName)).before a0 Z = true := hw _ (List.mem_of_getElem? (i := 90) rfl)
theorem tw_91 {Z : State} {a0 : Array Value} (hw : ∀ d ∈ tables_1, d.before a0 Z = true) : (Jvm.Cond.code ({ cls := "java/lang/StringLatin1", name := "newString", desc := "([BII)Ljava/lang/String;" } : Jvm.MethodName) jdk_43_method_47_code (3 : Nat) (Option.some (Jvm.ClassFile.FieldType.object "java/lang/String"))).before a0 Z = true := hw _ (List.mem_of_getElem? (i := 91) rfl)
theorem tw_92 {Z : State} {a0 : Array Value} (hw : ∀ d ∈ tables_1, d.before a0 Z = true) : (Jvm.Cond.classLink "java/lang/StringLatin1" (1 : Nat) "java/lang/String").before a0 Z = true := hw _ (List.mem_of_getElem? (i := 92) rfl)
theorem tw_93 {Z : State} {a0 : Array Value} (hw : ∀ d ∈ tables_1, d.before a0 Z = true) : (Jvm.Cond.methodLink "java/lang/StringLatin1" (232 : Nat) ({ cls := "java/util/Arrays", name := "copyOfRange", desc := "([BII)[B" } : Jvm.MethodName)).before a0 Z = true := hw _ (List.mem_of_getElem? (i := 93) rfl)
theorem tw_94 {Z : State} {a0 : Array Value} (hw : ∀ d ∈ tables_1, d.before a0 Z = true) : (Jvm.Cond.static ({ cls := "java/util/Arrays", name := "copyOfRange", desc := "([BII)[B" } : Jvm.MethodName)).before a0 Z = true := hw _ (List.mem_of_getElem? (i := 94) rfl)
theorem tw_95 {Z : State} {a0 : Array Value} (hw : ∀ d ∈ tables_1, d.before a0 Z = true) : (Jvm.Cond.initialized "java/util/Arrays").before a0 Z = true := hw _ (List.mem_of_getElem? (i := 95) rfl)
theorem tw_96 {Z : State} {a0 : Array Value} (hw : ∀ d ∈ tables_1, d.before a0 Z = true) : (Jvm.Cond.code ({ cls := "java/util/Arrays", name := "copyOfRange", desc := "([BII)[B" } : Jvm.MethodName) jdk_65_method_132_code (3 : Nat) (Option.some (Jvm.ClassFile.FieldType.array Jvm.ClassFile.FieldType.byte))).before a0 Z = true := hw _ (List.mem_of_getElem? (i := 96) rfl)
theorem tw_97 {Z : State} {a0 : Array Value} (hw : ∀ d ∈ tables_1, d.before a0 Z = true) : (Jvm.Cond.methodLink "java/util/Arrays" (339 : Nat) ({ cls := "java/util/Arrays", name := "copyOfRangeByte", desc := "([BII)[B" } : Jvm.MethodName)).before a0 Z = true := hw _ (List.mem_of_getElem? (i := 97) rfl)
theorem tw_98 {Z : State} {a0 : Array Value} (hw : ∀ d ∈ tables_1, d.before a0 Z = true) : (Jvm.Cond.static ({ cls := "java/util/Arrays", name := "copyOfRangeByte", desc := "([BII)[B" } : Jvm.MethodName)).before a0 Z = true := hw _ (List.mem_of_getElem? (i := 98) rfl)
theorem tw_99 {Z : State} {a0 : Array Value} (hw : ∀ d ∈ tables_1, d.before a0 Z = true) : (Jvm.Cond.code ({ cls := "java/util/Arrays", name := "copyOfRangeByte", desc := "([BII)[B" } : Jvm.MethodName) jdk_65_method_133_code (5 : Nat) (Option.some (Jvm.ClassFile.FieldType.array Jvm.ClassFile.FieldType.byte))).before a0 Z = true := hw _ (List.mem_of_getElem? (i := 99) rfl)
theorem tw_100 {Z : State} {a0 : Array Value} (hw : ∀ d ∈ tables_1, d.before a0 Z = true) : (Jvm.Cond.methodLink "java/util/Arrays" (343 : Nat) ({ cls := "java/util/Arrays", name := "checkLength", desc := "(II)V" } : Jvm.MethodName)).before a0 Z = true := hw _ (List.mem_of_getElem? (i := 100) rfl)
theorem tw_101 {Z : State} {a0 : Array Value} (hw : ∀ d ∈ tables_1, d.before a0 Z = true) : (Jvm.Cond.static ({ cls := "java/util/Arrays", name := "checkLength", desc := "(II)V" } : Jvm.MethodName)).before a0 Z = true := hw _ (List.mem_of_getElem? (i := 101) rfl)
theorem tw_102 {Z : State} {a0 : Array Value} (hw : ∀ d ∈ tables_1, d.before a0 Z = true) : (Jvm.Cond.code ({ cls := "java/util/Arrays", name := "checkLength", desc := "(II)V" } : Jvm.MethodName) jdk_65_method_131_code (2 : Nat) (Option.none : Option Jvm.ClassFile.FieldType)).before a0 Z = true := hw _ (List.mem_of_getElem? (i := 102) rfl)
theorem tw_103 {Z : State} {a0 : Array Value} (hw : ∀ d ∈ tables_1, d.before a0 Z = true) : (Jvm.Cond.methodLink "java/util/Arrays" (304 : Nat) ({ cls := "java/lang/Math", name := "min", desc := "(II)I" } : Jvm.MethodName)).before a0 Z = true := hw _ (List.mem_of_getElem? (i := 103) rfl)
theorem tw_104 {Z : State} {a0 : Array Value} (hw : ∀ d ∈ tables_1, d.before a0 Z = true) : (Jvm.Cond.static ({ cls := "java/lang/Math", name := "min", desc := "(II)I" } : Jvm.MethodName)).before a0 Z = true := hw _ (List.mem_of_getElem? (i := 104) rfl)
theorem tw_105 {Z : State} {a0 : Array Value} (hw : ∀ d ∈ tables_1, d.before a0 Z = true) : (Jvm.Cond.initialized "java/lang/Math").before a0 Z = true := hw _ (List.mem_of_getElem? (i := 105) rfl)
theorem tw_106 {Z : State} {a0 : Array Value} (hw : ∀ d ∈ tables_1, d.before a0 Z = true) : (Jvm.Cond.code ({ cls := "java/lang/Math", name := "min", desc := "(II)I" } : Jvm.MethodName) jdk_29_method_69_code (2 : Nat) (Option.some Jvm.ClassFile.FieldType.int)).before a0 Z = true := hw _ (List.mem_of_getElem? (i := 106) rfl)
theorem tw_107 {Z : State} {a0 : Array Value} (hw : ∀ d ∈ tables_1, d.before a0 Z = true) : (Jvm.Cond.methodLink "java/util/Arrays" (150 : Nat) ({ cls := "java/lang/System", name := "arraycopy", desc := "(Ljava/lang/Object;ILjava/lang/Object;II)V" } : Jvm.MethodName)).before a0 Z = true := hw _ (List.mem_of_getElem? (i := 107) rfl)
theorem tw_108 {Z : State} {a0 : Array Value} (hw : ∀ d ∈ tables_1, d.before a0 Z = true) : (Jvm.Cond.static ({ cls := "java/lang/System", name := "arraycopy", desc := "(Ljava/lang/Object;ILjava/lang/Object;II)V" } : Jvm.MethodName)).before a0 Z = true := hw _ (List.mem_of_getElem? (i := 108) rfl)
theorem tw_109 {Z : State} {a0 : Array Value} (hw : ∀ d ∈ tables_1, d.before a0 Z = true) : (Jvm.Cond.initialized "java/lang/System").before a0 Z = true := hw _ (List.mem_of_getElem? (i := 109) rfl)
theorem tw_110 {Z : State} {a0 : Array Value} (hw : ∀ d ∈ tables_1, d.before a0 Z = true) : (Jvm.Cond.native ({ cls := "java/lang/System", name := "arraycopy", desc := "(Ljava/lang/Object;ILjava/lang/Object;II)V" } : Jvm.MethodName)).before a0 Z = true := hw _ (List.mem_of_getElem? (i := 110) rfl)
theorem tw_111 {Z : State} {a0 : Array Value} (hw : ∀ d ∈ tables_1, d.before a0 Z = true) : (Jvm.Cond.methodLink "java/lang/StringLatin1" (112 : Nat) ({ cls := "java/lang/String", name := "<init>", desc := "([BB)V" } : Jvm.MethodName)).before a0 Z = true := hw _ (List.mem_of_getElem? (i := 111) rfl)
theorem tw_112 {Z : State} {a0 : Array Value} (hw : ∀ d ∈ tables_1, d.before a0 Z = true) : (Jvm.Cond.instanceMethod ({ cls := "java/lang/String", name := "<init>", desc := "([BB)V" } : Jvm.MethodName)).before a0 Z = true := hw _ (List.mem_of_getElem? (i := 112) rfl)
theorem tw_113 {Z : State} {a0 : Array Value} (hw : ∀ d ∈ tables_1, d.before a0 Z = true) : (Jvm.Cond.code ({ cls := "java/lang/String", name := "<init>", desc := "([BB)V" } : Jvm.MethodName) jdk_42_method_151_code (3 : Nat) (Option.none : Option Jvm.ClassFile.FieldType)).before a0 Z = true := hw _ (List.mem_of_getElem? (i := 113) rfl)
theorem tw_114 {Z : State} {a0 : Array Value} (hw : ∀ d ∈ tables_1, d.before a0 Z = true) : (Jvm.Cond.methodLink "java/lang/String" (177 : Nat) ({ cls := "java/lang/StringUTF16", name := "compress", desc := "([CII)[B" } : Jvm.MethodName)).before a0 Z = true := hw _ (List.mem_of_getElem? (i := 114) rfl)
theorem tw_115 {Z : State} {a0 : Array Value} (hw : ∀ d ∈ tables_1, d.before a0 Z = true) : (Jvm.Cond.static ({ cls := "java/lang/StringUTF16", name := "compress", desc := "([CII)[B" } : Jvm.MethodName)).before a0 Z = true := hw _ (List.mem_of_getElem? (i := 115) rfl)
theorem tw_116 {Z : State} {a0 : Array Value} (hw : ∀ d ∈ tables_1, d.before a0 Z = true) : (Jvm.Cond.initialized "java/lang/StringUTF16").before a0 Z = true := hw _ (List.mem_of_getElem? (i := 116) rfl)
theorem tw_117 {Z : State} {a0 : Array Value} (hw : ∀ d ∈ tables_1, d.before a0 Z = true) : (Jvm.Cond.code ({ cls := "java/lang/StringUTF16", name := "compress", desc := "([CII)[B" } : Jvm.MethodName) jdk_52_method_16_code (6 : Nat) (Option.some (Jvm.ClassFile.FieldType.array Jvm.ClassFile.FieldType.byte))).before a0 Z = true := hw _ (List.mem_of_getElem? (i := 117) rfl)
theorem tw_118 {Z : State} {a0 : Array Value} (hw : ∀ d ∈ tables_1, d.before a0 Z = true) : (Jvm.Cond.methodLink "java/lang/StringUTF16" (115 : Nat) ({ cls := "java/lang/StringUTF16", name := "compress", desc := "([CI[BII)I" } : Jvm.MethodName)).before a0 Z = true := hw _ (List.mem_of_getElem? (i := 118) rfl)
theorem tw_119 {Z : State} {a0 : Array Value} (hw : ∀ d ∈ tables_1, d.before a0 Z = true) : (Jvm.Cond.static ({ cls := "java/lang/StringUTF16", name := "compress", desc := "([CI[BII)I" } : Jvm.MethodName)).before a0 Z = true := hw _ (List.mem_of_getElem? (i := 119) rfl)
theorem tw_120 {Z : State} {a0 : Array Value} (hw : ∀ d ∈ tables_1, d.before a0 Z = true) : (Jvm.Cond.code ({ cls := "java/lang/StringUTF16", name := "compress", desc := "([CI[BII)I" } : Jvm.MethodName) jdk_52_method_21_code (7 : Nat) (Option.some Jvm.ClassFile.FieldType.int)).before a0 Z = true := hw _ (List.mem_of_getElem? (i := 120) rfl)
theorem tw_121 {Z : State} {a0 : Array Value} (hw : ∀ d ∈ tables_1, d.before a0 Z = true) : (Jvm.Cond.methodLink "java/lang/String" (47 : Nat) ({ cls := "java/lang/StringUTF16", name := "coderFromArrayLen", desc := "([BI)B" } : Jvm.MethodName)).before a0 Z = true := hw _ (List.mem_of_getElem? (i := 121) rfl)
theorem tw_122 {Z : State} {a0 : Array Value} (hw : ∀ d ∈ tables_1, d.before a0 Z = true) : (Jvm.Cond.static ({ cls := "java/lang/StringUTF16", name := "coderFromArrayLen", desc := "([BI)B" } : Jvm.MethodName)).before a0 Z = true := hw _ (List.mem_of_getElem? (i := 122) rfl)
theorem tw_123 {Z : State} {a0 : Array Value} (hw : ∀ d ∈ tables_1, d.before a0 Z = true) : (Jvm.Cond.code ({ cls := "java/lang/StringUTF16", name := "coderFromArrayLen", desc := "([BI)B" } : Jvm.MethodName) jdk_52_method_15_code (2 : Nat) (Option.some Jvm.ClassFile.FieldType.byte)).before a0 Z = true := hw _ (List.mem_of_getElem? (i := 123) rfl)
theorem tw_124 {Z : State} {a0 : Array Value} (hw : ∀ d ∈ tables_1, d.before a0 Z = true) : (Jvm.Cond.methodLink "java/lang/String" (607 : Nat) ({ cls := "jdk/internal/util/ArraysSupport", name := "mismatch", desc := "([BI[BII)I" } : Jvm.MethodName)).before a0 Z = true := hw _ (List.mem_of_getElem? (i := 124) rfl)
theorem tw_125 {Z : State} {a0 : Array Value} (hw : ∀ d ∈ tables_1, d.before a0 Z = true) : (Jvm.Cond.static ({ cls := "jdk/internal/util/ArraysSupport", name := "mismatch", desc := "([BI[BII)I" } : Jvm.MethodName)).before a0 Z = true := hw _ (List.mem_of_getElem? (i := 125) rfl)
theorem tw_126 {Z : State} {a0 : Array Value} (hw : ∀ d ∈ tables_1, d.before a0 Z = true) : (Jvm.Cond.initialized "jdk/internal/util/ArraysSupport").before a0 Z = true := hw _ (List.mem_of_getElem? (i := 126) rfl)
theorem tw_127 {Z : State} {a0 : Array Value} (hw : ∀ d ∈ tables_1, d.before a0 Z = true) : (Jvm.Cond.code ({ cls := "jdk/internal/util/ArraysSupport", name := "mismatch", desc := "([BI[BII)I" } : Jvm.MethodName) jdk_48_method_14_code (8 : Nat) (Option.some Jvm.ClassFile.FieldType.int)).before a0 Z = true := hw _ (List.mem_of_getElem? (i := 127) rfl)
section OwnStart
variable {args : Array Value} {first s : State} {o : Option Outcome} {idx : List Nat} {t : Term}
end OwnStart

section OwnAuto
theorem own_rlit {k : Int32} {n : Int} (h : k.toInt = n) : n ≤ k.toInt ∧ k.toInt ≤ n := by omega
theorem own_rw {x : Int32} {a b c d : Int} (h : a ≤ x.toInt ∧ x.toInt ≤ b) (h1 : c ≤ a) (h2 : b ≤ d) : c ≤ x.toInt ∧ x.toInt ≤ d := by omega
theorem own_rand {x m z : Int32} {k : Int} (h : (x &&& m) = z) (hm : 0 ≤ m.toInt ∧ m.toInt = k) : 0 ≤ z.toInt ∧ z.toInt ≤ k := by subst h; have := c_and x m hm.1; omega
theorem own_ri2b {x z : Int32} (h : (x.toInt8.toInt32) = z) : -128 ≤ z.toInt ∧ z.toInt ≤ 127 := by subst h; have := c_i2b x; omega
theorem own_rushr {x q z : Int32} {k : Nat} {B : Int} (h : ((x.toUInt32 >>> (q &&& 31).toUInt32).toInt32) = z) (hk : q.toBitVec.toNat % 32 = k) (h0 : 0 < k) (hB : (4294967295 : Int) / ((2 ^ k : Nat) : Int) ≤ B) : 0 ≤ z.toInt ∧ z.toInt ≤ B := by
  subst h
  rw [c_iushr x q k hk h0]
  have h1 : 0 ≤ x.toInt % 4294967296 := Int.emod_nonneg _ (by decide)
  have h2 : x.toInt % 4294967296 ≤ 4294967295 := by have := Int.emod_lt_of_pos x.toInt (by decide : (0 : Int) < 4294967296); omega
  have hp : (0 : Int) < ((2 ^ k : Nat) : Int) := Int.ofNat_lt.mpr (Nat.two_pow_pos k)
  exact ⟨Int.ediv_nonneg h1 (Int.le_of_lt hp), Int.le_trans (Int.ediv_le_ediv hp h2) hB⟩
theorem own_rrem {x y z : Int32} {d a b B : Int} (h : (x % y) = z) (hy : y.toInt = d) (hd : 0 < d) (hr : a ≤ x.toInt ∧ x.toInt ≤ b) (ha : 0 ≤ a) (hB : d = B + 1) : 0 ≤ z.toInt ∧ z.toInt ≤ B := by
  subst h
  have e := (c_irem x y d hy).1 (by omega)
  rw [e]
  have h1 := Int.emod_nonneg x.toInt (by omega : d ≠ 0)
  have h2 := Int.emod_lt_of_pos x.toInt hd
  omega
theorem own_i2c_id {x : Int32} {a b : Int} (hr : a ≤ x.toInt ∧ x.toInt ≤ b) (ha : 0 ≤ a) (hb : b ≤ 65535) : (x.toUInt32.toUInt16.toUInt32.toInt32) = x := by apply Int32.toInt_inj.mp; have := c_i2c x; omega
theorem own_i2b_id {x : Int32} {a b : Int} (hr : a ≤ x.toInt ∧ x.toInt ≤ b) (ha : -128 ≤ a) (hb : b ≤ 127) : (x.toInt8.toInt32) = x := by apply Int32.toInt_inj.mp; have := c_i2b x; omega
theorem own_nar_byte {x : Int32} {a b : Int} (hr : a ≤ x.toInt ∧ x.toInt ≤ b) (ha : -128 ≤ a) (hb : b ≤ 127) : nar .byte x = x := own_i2b_id hr ha hb
theorem own_nar_char {x : Int32} {a b : Int} (hr : a ≤ x.toInt ∧ x.toInt ≤ b) (ha : 0 ≤ a) (hb : b ≤ 65535) : nar .char x = x := own_i2c_id hr ha hb
theorem own_nlt_r {x y : Int32} {a b c d : Int} (hx : a ≤ x.toInt ∧ x.toInt ≤ b) (hy : c ≤ y.toInt ∧ y.toInt ≤ d) (h : d ≤ a) : ¬ x < y := by rw [Int32.lt_iff_toInt_lt]; omega
theorem own_lat_eq {c d b e : Int32} (hb : c.toInt8.toInt32 = b) (he : d.toInt8.toInt32 = e) (h : c = d) : b = e := by subst hb he h; rfl
theorem own_lat_ne {c d b e : Int32} {l1 h1 l2 h2 : Int} (hb : c.toInt8.toInt32 = b) (he : d.toInt8.toInt32 = e) (rc : l1 ≤ c.toInt ∧ c.toInt ≤ h1) (rd : l2 ≤ d.toInt ∧ d.toInt ≤ h2) (hh : 0 ≤ l1 ∧ h1 ≤ 255 ∧ 0 ≤ l2 ∧ h2 ≤ 255) (h : ¬ c = d) : ¬ b = e := fun q => h (by
  subst hb he
  apply Int32.toInt_inj.mp
  have q' := congrArg Int32.toInt q
  have e1 := c_i2b c; have e2 := c_i2b d
  omega)
end OwnAuto

def EL0 : List (String × Nat) := [("com/example/roles_over_datacenter/rolesoverdatacenter/Page", 49), ("com/example/roles_over_datacenter/rolesoverdatacenter/Page", 60), ("java/lang/String", 7)]
theorem own_EW {Z : State} {a0 : Array Value} (hw : ∀ d ∈ tables_1, d.before a0 Z = true) : EW Z a0 EL0 := (EW.cons (tw_34 hw) (by decide) (EW.cons (tw_59 hw) (by decide) (EW.cons (tw_22 hw) (by decide) EW.nil)))
theorem own_SA {Z : State} {a0 : Array Value} (hw : ∀ d ∈ tables_1, d.before a0 Z = true) : ∀ a ∈ Bundle.stringAtoms, a.before a0 Z = true := fun a ha => hw a ((by decide +kernel : ∀ w ∈ Bundle.stringAtoms, w ∈ tables_1) a ha)
def Glob (Z : State) (gz1 : Int32) (gv5 : Value) : Prop := Sta Z Z.heap "java/lang/String" "COMPACT_STRINGS" "Z" (.int gz1) ∧ Sta Z Z.heap "jdk/internal/util/Preconditions" "SIOOBE_FORMATTER" "Ljava/util/function/BiFunction;" gv5 ∧ ¬ gz1 = (0 : Int32) ∧ gv5.isRef = true
theorem d1_0 : decode method_2_code 0 = .ok (.iload_n 0, 1) := by decide +kernel
theorem d1_1 : decode method_2_code 1 = .ok (.iconst 3, 1) := by decide +kernel
theorem d1_2 : decode method_2_code 2 = .ok (.iand, 1) := by decide +kernel
theorem d1_3 : decode method_2_code 3 = .ok (.istore_n 1, 1) := by decide +kernel
theorem d1_4 : decode method_2_code 4 = .ok (.iload_n 1, 1) := by decide +kernel
theorem d1_5 : decode method_2_code 5 = .ok (.ifCond .ne 6, 3) := by decide +kernel
theorem d1_8 : decode method_2_code 8 = .ok (.bipush 47, 2) := by decide +kernel
theorem d1_10 : decode method_2_code 10 = .ok (.ireturn, 1) := by decide +kernel
theorem d1_11 : decode method_2_code 11 = .ok (.iload_n 1, 1) := by decide +kernel
theorem d1_12 : decode method_2_code 12 = .ok (.iconst 1, 1) := by decide +kernel
theorem d1_13 : decode method_2_code 13 = .ok (.if_icmp .ne 6, 3) := by decide +kernel
theorem d1_16 : decode method_2_code 16 = .ok (.bipush 117, 2) := by decide +kernel
theorem d1_18 : decode method_2_code 18 = .ok (.ireturn, 1) := by decide +kernel
theorem d1_19 : decode method_2_code 19 = .ok (.iload_n 1, 1) := by decide +kernel
theorem d1_20 : decode method_2_code 20 = .ok (.iconst 2, 1) := by decide +kernel
theorem d1_21 : decode method_2_code 21 = .ok (.if_icmp .ne 6, 3) := by decide +kernel
theorem d1_24 : decode method_2_code 24 = .ok (.bipush 105, 2) := by decide +kernel
theorem d1_26 : decode method_2_code 26 = .ok (.ireturn, 1) := by decide +kernel
theorem d1_27 : decode method_2_code 27 = .ok (.iload_n 0, 1) := by decide +kernel
theorem d1_28 : decode method_2_code 28 = .ok (.iconst 2, 1) := by decide +kernel
theorem d1_29 : decode method_2_code 29 = .ok (.iushr, 1) := by decide +kernel
theorem d1_30 : decode method_2_code 30 = .ok (.sipush 255, 3) := by decide +kernel
theorem d1_33 : decode method_2_code 33 = .ok (.iand, 1) := by decide +kernel
theorem d1_34 : decode method_2_code 34 = .ok (.i2c, 1) := by decide +kernel
theorem d1_35 : decode method_2_code 35 = .ok (.ireturn, 1) := by decide +kernel
theorem ef_1_I (m : MethodId) (x0 : Int32) : entryFrame m #[(.int x0)] 2 = mkF m 0 #[.val (.int x0), .unset] [] := by first | (simp [entryFrame, mkF, argsToLocals, Value.category]; done) | rfl
theorem pn_c0 : plainName "com/example/roles_over_datacenter/rolesoverdatacenter/PageServesPinLaw" = true := by first | (simp [plainName, overriddenIn]; done) | decide +kernel
-- com/example/roles_over_datacenter/rolesoverdatacenter/PageServesPinLaw.pick
set_option maxRecDepth 65536 in
set_option maxHeartbeats 4000000 in
theorem au_1 (l : Launch) (Z : State) (a0 : Array Value) (hw : ∀ d ∈ tables_1, d.before a0 Z = true) (p0 : Int32) (h0 : Heap) (n0 : Nat) (Z0 : n0 ≤ h0.size) :
    Ctr l Z (⟨"com/example/roles_over_datacenter/rolesoverdatacenter/PageServesPinLaw", "pick", "(I)C"⟩ : MethodName) method_2_code 2 (some .char) ({ frames := 0, cells := 0, slots := 0, locals := 0 } : Room) #[(.int p0)] h0 (fun v h L => ∃ cz : Int32, (0 ≤ cz.toInt ∧ cz.toInt ≤ 255) ∧ v = some (.int cz) ∧ Fr n0 L ∧ h = h0) := by
  refine Ctr.of (plainFor_of_name pn_c0) ?_
  intro p e s m below meth c T0 hx hZ hby hml hown hnm hret hlk e0 es X0
  refine Go.cast (ef_1_I m p0) ?_
  generalize hFF : EndN s _ _ _ = FF
  refine Go.iloadN X0 hx (pc' := 1) rfl (hb hby d1_0) rfl ?_
  refine Go.iconst X0 hx (pc' := 2) rfl (hb hby d1_1) (v := (3 : Int32)) rfl ?_
  refine Go.iand X0 hx (pc' := 3) rfl (hb hby d1_2) ?_
  generalize hz1 : (p0 &&& (3 : Int32)) = z1
  refine Go.istoreN X0 hx (pc' := 4) rfl (hb hby d1_3) (Ls' := #[.val (.int p0), .val (.int z1)]) rfl ?_
  refine Go.iloadN X0 hx (pc' := 5) rfl (hb hby d1_4) rfl ?_
  have r2 : 0 ≤ z1.toInt ∧ z1.toInt ≤ 3 := own_rand hz1 (by decide)
  by_cases hc3 : z1 = (0 : Int32)
  · refine Go.ifNo X0 hx (pc' := 8) rfl (hb hby d1_5) (teq hc3).2 ?_
    refine Go.bipush X0 hx (pc' := 10) rfl (hb hby d1_8) (v := (47 : Int32)) (by decide) ?_
    subst hFF
    refine Go.retN X0 hx hlk (t := .char) hret (by simp) (hb hby d1_10) (by decide) (by decide) ?_
    rw [e0]
    exact ⟨(47 : Int32), (own_rw (own_rlit (n := 47) (by decide)) (by decide) (by decide)), (congrArg (fun z => some (Value.int z)) (by decide : nar .char (47 : Int32) = (47 : Int32))), (Fr.nil n0), rfl⟩
  · refine Go.ifYes X0 hx (pc' := 11) (hb hby d1_5) (feq hc3).2 (by decide) (by decide) ?_
    refine Go.iloadN X0 hx (pc' := 12) rfl (hb hby d1_11) rfl ?_
    refine Go.iconst X0 hx (pc' := 13) rfl (hb hby d1_12) (v := (1 : Int32)) rfl ?_
    by_cases hc4 : z1 = (1 : Int32)
    · refine Go.icmpNo X0 hx (pc' := 16) rfl (hb hby d1_13) (teq hc4).2 ?_
      refine Go.bipush X0 hx (pc' := 18) rfl (hb hby d1_16) (v := (117 : Int32)) (by decide) ?_
      subst hFF
      refine Go.retN X0 hx hlk (t := .char) hret (by simp) (hb hby d1_18) (by decide) (by decide) ?_
      rw [e0]
      exact ⟨(117 : Int32), (own_rw (own_rlit (n := 117) (by decide)) (by decide) (by decide)), (congrArg (fun z => some (Value.int z)) (by decide : nar .char (117 : Int32) = (117 : Int32))), (Fr.nil n0), rfl⟩
    · refine Go.icmpYes X0 hx (pc' := 19) (hb hby d1_13) (feq hc4).2 (by decide) (by decide) ?_
      refine Go.iloadN X0 hx (pc' := 20) rfl (hb hby d1_19) rfl ?_
      refine Go.iconst X0 hx (pc' := 21) rfl (hb hby d1_20) (v := (2 : Int32)) rfl ?_
      by_cases hc5 : z1 = (2 : Int32)
      · refine Go.icmpNo X0 hx (pc' := 24) rfl (hb hby d1_21) (teq hc5).2 ?_
        refine Go.bipush X0 hx (pc' := 26) rfl (hb hby d1_24) (v := (105 : Int32)) (by decide) ?_
        subst hFF
        refine Go.retN X0 hx hlk (t := .char) hret (by simp) (hb hby d1_26) (by decide) (by decide) ?_
        rw [e0]
        exact ⟨(105 : Int32), (own_rw (own_rlit (n := 105) (by decide)) (by decide) (by decide)), (congrArg (fun z => some (Value.int z)) (by decide : nar .char (105 : Int32) = (105 : Int32))), (Fr.nil n0), rfl⟩
      · refine Go.icmpYes X0 hx (pc' := 27) (hb hby d1_21) (feq hc5).2 (by decide) (by decide) ?_
        refine Go.iloadN X0 hx (pc' := 28) rfl (hb hby d1_27) rfl ?_
        refine Go.iconst X0 hx (pc' := 29) rfl (hb hby d1_28) (v := (2 : Int32)) rfl ?_
        refine Go.iushr X0 hx (pc' := 30) rfl (hb hby d1_29) ?_
        generalize hz6 : ((p0.toUInt32 >>> ((2 : Int32) &&& 31).toUInt32).toInt32) = z6
        refine Go.sipush X0 hx (pc' := 33) rfl (hb hby d1_30) (v := (255 : Int32)) (by decide) ?_
        refine Go.iand X0 hx (pc' := 34) rfl (hb hby d1_33) ?_
        have r7 : 0 ≤ z6.toInt ∧ z6.toInt ≤ 1073741823 := own_rushr hz6 (k := 2) (by decide) (by decide) (by decide)
        generalize hz8 : (z6 &&& (255 : Int32)) = z8
        refine Go.i2c X0 hx (pc' := 35) rfl (hb hby d1_34) ?_
        have r9 : 0 ≤ z8.toInt ∧ z8.toInt ≤ 255 := own_rand hz8 (by decide)
        rw [show (z8.toUInt32.toUInt16.toUInt32.toInt32) = z8 from (own_i2c_id r9 (by decide) (by decide))]
        subst hFF
        refine Go.retN X0 hx hlk (t := .char) hret (by simp) (hb hby d1_35) (by decide) (by decide) ?_
        rw [e0]
        exact ⟨z8, (own_rw r9 (by decide) (by decide)), (congrArg (fun z => some (Value.int z)) (own_nar_char r9 (by decide) (by decide))), (Fr.nil n0), rfl⟩
theorem pd_0 : parseMethodDescriptor "(I)C" = some ⟨[.int], some .char⟩ := by decide +kernel
theorem own_cs_0_5 {z : Int32} (h : 0 ≤ z.toInt ∧ z.toInt ≤ 5) : z = (0 : Int32) ∨ z = (1 : Int32) ∨ z = (2 : Int32) ∨ z = (3 : Int32) ∨ z = (4 : Int32) ∨ z = (5 : Int32) := by
  have q : z.toInt = 0 ∨ z.toInt = 1 ∨ z.toInt = 2 ∨ z.toInt = 3 ∨ z.toInt = 4 ∨ z.toInt = 5 := by omega
  rcases q with h | h | h | h | h | h <;> simp [← Int32.toInt_inj, h]
theorem d2_0 : decode method_3_code 0 = .ok (.iload_n 0, 1) := by decide +kernel
theorem d2_1 : decode method_3_code 1 = .ok (.ifCond .ne 14, 3) := by decide +kernel
theorem d2_4 : decode method_3_code 4 = .ok (.new 7, 3) := by decide +kernel
theorem d2_7 : decode method_3_code 7 = .ok (.dup, 1) := by decide +kernel
theorem d2_8 : decode method_3_code 8 = .ok (.iconst 0, 1) := by decide +kernel
theorem d2_9 : decode method_3_code 9 = .ok (.newarray .char, 2) := by decide +kernel
theorem d3_0 : decode jdk_42_method_3_code 0 = .ok (.aload_n 0, 1) := by decide +kernel
theorem d3_1 : decode jdk_42_method_3_code 1 = .ok (.aload_n 1, 1) := by decide +kernel
theorem d3_2 : decode jdk_42_method_3_code 2 = .ok (.iconst 0, 1) := by decide +kernel
theorem d3_3 : decode jdk_42_method_3_code 3 = .ok (.aload_n 1, 1) := by decide +kernel
theorem d3_4 : decode jdk_42_method_3_code 4 = .ok (.arraylength, 1) := by decide +kernel
theorem d3_5 : decode jdk_42_method_3_code 5 = .ok (.aconst_null, 1) := by decide +kernel
theorem d4_0 : decode jdk_42_method_149_code 0 = .ok (.aload_n 0, 1) := by decide +kernel
theorem d4_1 : decode jdk_42_method_149_code 1 = .ok (.invokespecial 1, 3) := by decide +kernel
theorem d4_4 : decode jdk_42_method_149_code 4 = .ok (.iload_n 3, 1) := by decide +kernel
theorem d4_5 : decode jdk_42_method_149_code 5 = .ok (.ifCond .ne 22, 3) := by decide +kernel
theorem d4_8 : decode jdk_42_method_149_code 8 = .ok (.aload_n 0, 1) := by decide +kernel
theorem d4_9 : decode jdk_42_method_149_code 9 = .ok (.ldc 7, 2) := by decide +kernel
theorem d4_11 : decode jdk_42_method_149_code 11 = .ok (.getfield 9, 3) := by decide +kernel
theorem d4_14 : decode jdk_42_method_149_code 14 = .ok (.putfield 9, 3) := by decide +kernel
theorem d4_17 : decode jdk_42_method_149_code 17 = .ok (.aload_n 0, 1) := by decide +kernel
theorem d4_18 : decode jdk_42_method_149_code 18 = .ok (.ldc 7, 2) := by decide +kernel
theorem d4_20 : decode jdk_42_method_149_code 20 = .ok (.getfield 15, 3) := by decide +kernel
theorem d4_23 : decode jdk_42_method_149_code 23 = .ok (.putfield 15, 3) := by decide +kernel
theorem d4_26 : decode jdk_42_method_149_code 26 = .ok (.return_, 1) := by decide +kernel
theorem ef_4_RRIIN (m : MethodId) (x0 : Addr) (x1 : Addr) (x2 : Int32) (x3 : Int32)  : entryFrame m #[(.ref x0), (.ref x1), (.int x2), (.int x3), .null] 6 = mkF m 0 #[.val (.ref x0), .val (.ref x1), .val (.int x2), .val (.int x3), .val .null, .unset] [] := by first | (simp [entryFrame, mkF, argsToLocals, Value.category]; done) | rfl
theorem pn_c1 : plainName "java/lang/String" = true := by first | (simp [plainName, overriddenIn]; done) | decide +kernel
-- java/lang/String.init
set_option maxRecDepth 65536 in
set_option maxHeartbeats 4000000 in
theorem au_5 (l : Launch) (Z : State) (a0 : Array Value) (hw : ∀ d ∈ tables_1, d.before a0 Z = true) (x0 : Addr) (x1 : Addr) (gz1 : Int32) (gv5 : Value) (h0 : Heap) (n0 : Nat) (Z0 : n0 ≤ h0.size) (G : Glob Z gz1 gv5) (P0 : Exa Z h0 x0 "java/lang/String") (P1 : Fld Z h0 x0 "java/lang/String" "coder" "B" (.int 0)) (P2 : Fld Z h0 x0 "java/lang/String" "value" "[B" .null) (g_x0 : n0 ≤ x0) :
    CtrW l Z EL0 (⟨"java/lang/String", "<init>", "([CIILjava/lang/Void;)V"⟩ : MethodName) jdk_42_method_149_code 6 none ({ frames := 1, cells := 4, slots := 8, locals := 12 } : Room) #[(.ref x0), (.ref x1), (.int 0), (.int 0), .null] h0 [x0] (fun v vm h L => ∃ (b2 : Addr) (k2 : ClassId), v = none ∧ Fr n0 L ∧ Keep h0 h [x0] ∧ Exa Z h x0 "java/lang/String" ∧ Fld Z h x0 "java/lang/String" "coder" "B" (.int 0) ∧ Fld Z h x0 "java/lang/String" "value" "[B" (.ref b2) ∧ Arv Z h b2 k2 .byte (0 : Int32) [] (.int (0 : Int32))) := by
  refine CtrW.of (plainFor_of_name pn_c1) ?_
  intro p e s m below meth c T0 hx hZ hby hml hown hnm hret hlk e0 es hS0 C0 hsf X0
  have G' := G
  obtain ⟨-, -, G2, -⟩ := G'
  refine Go.cast (ef_4_RRIIN m x0 x1 (0 : Int32) (0 : Int32)) ?_
  generalize hFF : EndW Z EL0 s _ _ _ = FF
  refine Go.aloadN X0 hx (pc' := 1) rfl (hb hby d4_0) rfl rfl ?_
  refine Go.initO X0 hx hZ hown (tw_19 hw) (tw_20 hw) (tw_21 hw) e0 (by decide) (W := 0) (by rw [hml]; rfl) (Nat.le_of_eq rfl) (by decide) (pc' := 4) rfl (hb hby d4_1) ?_
  intro T1 e1 X1
  refine Go.iloadN X1 hx (pc' := 5) rfl (hb hby d4_4) rfl ?_
  refine Go.ifNo X1 hx (pc' := 8) rfl (hb hby d4_5) (by decide) ?_
  refine Go.aloadN X1 hx (pc' := 9) rfl (hb hby d4_8) rfl rfl ?_
  refine Go.ldcCH X1 hx hZ hown (tw_22 hw) (own_SA hw) e1 hS0 (Nat.le_refl _) (own_EW hw) (List.mem_of_getElem? (i := 2) rfl) C0.1 (vs := []) (z := (0 : Int32)) (by decide) (by decide) rfl (n := 0) (by decide) (by decide) (by decide) (by decide) (pc' := 11) rfl (hb hby d4_9) ?_
  intro a2 T2 h2 j2 b2 k2 e2 E2 S2 i2 Z2 O2 A2 F2 G2 V2 C2 D2 X2
  refine Go.getF X2 hx Z2 O2 (host := "") (Or.inl (tw_28 hw)) Via.refl e2 G2 (pc' := 14) rfl (hb hby d4_11) ?_
  intro T3 e3 X3
  have fk4 : Fld Z h2 x0 "java/lang/String" "value" "[B" .null := (P2.ext E2)
  have fk5 : Exa Z h2 x0 "java/lang/String" := (P0.ext E2)
  refine Go.putF X3 hx Z2 O2 (host := "") (Or.inl (tw_28 hw)) Via.refl e3 fk4 fk5 (Or.inr ⟨(tw_24 hw), rfl, hnm⟩) (tw_9 hw) (ty := (.array .byte)) (by decide) rfl rfl (pc' := 17) rfl (hb hby d4_14) ?_
  intro T6 h6 e6 W6 F6 X6
  have N6 := Fr.snoc X6 (Fr.nil n0) g_x0
  refine Go.aloadN X6 hx (pc' := 18) rfl (hb hby d4_17) rfl rfl ?_
  have C7 : CHr Z EL0 s.vm s.heap T2.vm h2 := (C0.trans C2)
  have fk8 : Safe Z EL0 T2.vm h2 x0 := (C2.safe P0.lt (hsf _ (List.mem_of_getElem? (i := 0) rfl)))
  have C9 : CHr Z EL0 s.vm s.heap T2.vm h6 := (C7.trans (CHr.wr W6 fk8 C7.1))
  have hk10 := (Nat.le_trans i2 (Keep.of_wr W6).1)
  refine Go.ldcCH X6 hx Z2 O2 (tw_22 hw) (own_SA hw) e6 S2 hk10 (own_EW hw) (List.mem_of_getElem? (i := 2) rfl) C9.1 (vs := []) (z := (0 : Int32)) (by decide) (by decide) rfl (n := 0) (by decide) (by decide) (by decide) (by decide) (pc' := 20) rfl (hb hby d4_18) ?_
  intro a11 T11 h11 j11 b11 k11 e11 E11 S11 i11 Z11 O11 A11 F11 G11 V11 C11 D11 X11
  refine Go.getF X11 hx Z11 O11 (host := "") (Or.inl (tw_29 hw)) Via.refl e11 F11 (pc' := 23) rfl (hb hby d4_20) ?_
  intro T12 e12 X12
  have fk13 : Fld Z h11 x0 "java/lang/String" "coder" "B" (.int 0) := (((P1.ext E2).other W6 (Or.inr (slot_ne (Or.inr (tw_25 hw)) (Or.inr (tw_24 hw)) (by decide) (t := .byte) (t' := (.array .byte)) (by decide) (by decide)))).ext E11)
  have fk14 : Exa Z h11 x0 "java/lang/String" := ((fk5.wr W6).ext E11)
  refine Go.putFN X12 hx Z11 O11 (tw_29 hw) Via.refl e12 fk13 fk14 (Or.inr ⟨(tw_25 hw), rfl, hnm⟩) (tw_9 hw) (ty := .byte) (v' := (.int 0)) (by decide) (by decide) (by decide) (pc' := 26) rfl (hb hby d4_23) ?_
  intro T15 h15 e15 W15 F15 X15
  have N15 := Fr.snoc X15 N6 g_x0
  subst hFF
  have C16 : CHr Z EL0 s.vm s.heap T11.vm h11 := (C9.trans C11)
  have fk17 : Safe Z EL0 T2.vm h6 x0 := (Safe.wr W6 fk8 C7.1 fk8)
  have fk18 : Exa Z h6 x0 "java/lang/String" := (fk5.wr W6)
  have fk19 : Safe Z EL0 T11.vm h11 x0 := (C11.safe fk18.lt fk17)
  have C20 : CHr Z EL0 s.vm s.heap T11.vm h15 := (C16.trans (CHr.wr W15 fk19 C16.1))
  have hk21 := (Nat.le_trans i11 (Keep.of_wr W15).1)
  refine Go.ret0W X15 hx hlk Z11 (own_EW hw) e15 S11 hk21 C20 hret (hb hby d4_26) (by decide) (by decide) (fun hat => ?_)
  have fk22 : Exa Z h15 x0 "java/lang/String" := (fk14.wr W15)
  have fk23 : Fld Z h15 x0 "java/lang/String" "value" "[B" (.ref b2) := ((F6.ext E11).other W15 (Or.inr (slot_ne (Or.inr (tw_24 hw)) (Or.inr (tw_25 hw)) (by decide) (t := (.array .byte)) (t' := .byte) (by decide) (by decide))))
  have fk24 := (((V2.other W6 (Ne.symm (D2 x0 fk8).2)).ext E11).other W15 (Ne.symm (D2 x0 fk8).2))
  have Kp25 : Keep h0 h2 [x0] := ((Keep.refl h0 [x0]).ext E2)
  have Kp26 : Keep h0 h6 [x0] := (Kp25.wr W6 (Or.inl (List.mem_of_getElem? (i := 0) rfl)))
  have Kp27 : Keep h0 h11 [x0] := (Kp26.ext E11)
  have Kp28 : Keep h0 h15 [x0] := (Kp27.wr W15 (Or.inl (List.mem_of_getElem? (i := 0) rfl)))
  exact ⟨b2, k2, rfl, N15, Kp28, fk22, F15, fk23, fk24⟩
theorem pd_1 : parseMethodDescriptor "([CIILjava/lang/Void;)V" = some ⟨[(.array .char), .int, .int, (.object "java/lang/Void")], none⟩ := by decide +kernel
theorem d3_6 : decode jdk_42_method_3_code 6 = .ok (.invokespecial 27, 3) := by decide +kernel
theorem d3_9 : decode jdk_42_method_3_code 9 = .ok (.return_, 1) := by decide +kernel
theorem ef_3_RR (m : MethodId) (x0 : Addr) (x1 : Addr) : entryFrame m #[(.ref x0), (.ref x1)] 2 = mkF m 0 #[.val (.ref x0), .val (.ref x1)] [] := by first | (simp [entryFrame, mkF, argsToLocals, Value.category]; done) | rfl
-- java/lang/String.init
set_option maxRecDepth 65536 in
set_option maxHeartbeats 4000000 in
theorem au_6 (l : Launch) (Z : State) (a0 : Array Value) (hw : ∀ d ∈ tables_1, d.before a0 Z = true) (x0 : Addr) (x1 : Addr) (kk0 : ClassId) (gz1 : Int32) (gv5 : Value) (h0 : Heap) (n0 : Nat) (Z0 : n0 ≤ h0.size) (G : Glob Z gz1 gv5) (P0 : Exa Z h0 x0 "java/lang/String") (P1 : Fld Z h0 x0 "java/lang/String" "coder" "B" (.int 0)) (P2 : Fld Z h0 x0 "java/lang/String" "value" "[B" .null) (P3 : Arv Z h0 x1 kk0 .char (0 : Int32) [] (.int 0)) (g_x0 : n0 ≤ x0) :
    CtrW l Z EL0 (⟨"java/lang/String", "<init>", "([C)V"⟩ : MethodName) jdk_42_method_3_code 2 none ({ frames := 2, cells := 4, slots := 8, locals := 29 } : Room) #[(.ref x0), (.ref x1)] h0 [x0] (fun v vm h L => ∃ (b1_0 : Addr) (k1_0 : ClassId), v = none ∧ Fr n0 L ∧ Keep h0 h [x0] ∧ Exa Z h x0 "java/lang/String" ∧ Fld Z h x0 "java/lang/String" "coder" "B" (.int 0) ∧ Fld Z h x0 "java/lang/String" "value" "[B" (.ref b1_0) ∧ Arv Z h b1_0 k1_0 .byte (0 : Int32) [] (.int (0 : Int32))) := by
  refine CtrW.of (plainFor_of_name pn_c1) ?_
  intro p e s m below meth c T0 hx hZ hby hml hown hnm hret hlk e0 es hS0 C0 hsf X0
  refine Go.cast (ef_3_RR m x0 x1) ?_
  generalize hFF : EndW Z EL0 s _ _ _ = FF
  refine Go.aloadN X0 hx (pc' := 1) rfl (hb hby d3_0) rfl rfl ?_
  refine Go.aloadN X0 hx (pc' := 2) rfl (hb hby d3_1) rfl rfl ?_
  refine Go.iconst X0 hx (pc' := 3) rfl (hb hby d3_2) (v := (0 : Int32)) rfl ?_
  refine Go.aloadN X0 hx (pc' := 4) rfl (hb hby d3_3) rfl rfl ?_
  refine Go.arraylength X0 hx hZ e0 P3 (pc' := 5) rfl (hb hby d3_4) ?_
  refine Go.anull X0 hx (pc' := 6) rfl (hb hby d3_5) ?_
  refine Go.callNW X0 hx hZ hown rfl (tw_15 hw) (tw_16 hw) (tw_18 hw) (by decide) (tw_18 hw) (tw_10 hw) (au_5 l Z a0 hw x0 x1 gz1 gv5 h0 n0 Z0 G P0 P1 P2 g_x0) (own_EW hw) C0.1 (allS ⟨P0.lt, (hsf _ (List.mem_of_getElem? (i := 0) rfl))⟩ all0) hS0 (Nat.le_refl _) e0 (a := x0) (argsL := [(.ref x1), (.int 0), (.int 0), .null]) (rest := []) (pc' := 9) rfl (by rw [hml]; rfl) (lenOf pd_1 rfl) rfl rfl (W := 0) (Nat.le_of_eq rfl) (by decide) (by decide) (by decide) (by decide) (hb hby d3_6) ?_
  intro v1 T1 L1 h1 e1 q1 C1 S1 Z1 O1 X1
  obtain ⟨b1_0, k1_0, rfl, N1, K1, F1_0, F1_1, F1_2, F1_3⟩ := q1
  show Go _ _ _ _ (T1.setTop (mkF m 9 #[.val (.ref x0), .val (.ref x1)] []))
  subst hFF
  have C2 : CHr Z EL0 s.vm s.heap T1.vm h1 := (C0.trans C1)
  refine Go.ret0W X1 hx hlk Z1 (own_EW hw) e1 S1 (Nat.le_refl _) C2 hret (hb hby d3_9) (by decide) (by decide) (fun hat => ?_)
  have Kp3 : Keep h0 h1 [x0] := ((Keep.refl h0 [x0]).trans K1 (allS (Or.inl (List.mem_of_getElem? (i := 0) rfl)) all0))
  exact ⟨b1_0, k1_0, rfl, (Fr.app (Fr.nil n0) N1), Kp3, F1_0, F1_1, F1_2, F1_3⟩
theorem pd_2 : parseMethodDescriptor "([C)V" = some ⟨[(.array .char)], none⟩ := by decide +kernel
theorem d2_11 : decode method_3_code 11 = .ok (.invokespecial 9, 3) := by decide +kernel
theorem d2_14 : decode method_3_code 14 = .ok (.areturn, 1) := by decide +kernel
theorem ef_2_IIIIII (m : MethodId) (x0 : Int32) (x1 : Int32) (x2 : Int32) (x3 : Int32) (x4 : Int32) (x5 : Int32) : entryFrame m #[(.int x0), (.int x1), (.int x2), (.int x3), (.int x4), (.int x5)] 6 = mkF m 0 #[.val (.int x0), .val (.int x1), .val (.int x2), .val (.int x3), .val (.int x4), .val (.int x5)] [] := by first | (simp [entryFrame, mkF, argsToLocals, Value.category]; done) | rfl
-- com/example/roles_over_datacenter/rolesoverdatacenter/PageServesPinLaw.make
set_option maxRecDepth 65536 in
set_option maxHeartbeats 4000000 in
theorem au_7 (l : Launch) (Z : State) (a0 : Array Value) (hw : ∀ d ∈ tables_1, d.before a0 Z = true) (p0 : Int32) (p1 : Int32) (p2 : Int32) (p3 : Int32) (p4 : Int32) (gz1 : Int32) (gv5 : Value) (h0 : Heap) (n0 : Nat) (Z0 : n0 ≤ h0.size) (G : Glob Z gz1 gv5) :
    CtrW l Z EL0 (⟨"com/example/roles_over_datacenter/rolesoverdatacenter/PageServesPinLaw", "make", "(ICCCCC)Ljava/lang/String;"⟩ : MethodName) method_3_code 6 (some (.object "java/lang/String")) ({ frames := 3, cells := 6, slots := 12, locals := 43 } : Room) #[(.int 0), (.int p0), (.int p1), (.int p2), (.int p3), (.int p4)] h0 [] (fun v vm h L => ∃ (b1 : Addr) (b16_0 : Addr) (k16_0 : ClassId), v = some (.ref b1) ∧ Fr n0 L ∧ Keep h0 h [] ∧ h0.size ≤ b1 ∧ Safe Z EL0 vm h b1 ∧ Exa Z h b1 "java/lang/String" ∧ Fld Z h b1 "java/lang/String" "coder" "B" (.int 0) ∧ Fld Z h b1 "java/lang/String" "value" "[B" (.ref b16_0) ∧ Arv Z h b16_0 k16_0 .byte (0 : Int32) [] (.int (0 : Int32))) := by
  refine CtrW.of (plainFor_of_name pn_c0) ?_
  intro p e s m below meth c T0 hx hZ hby hml hown hnm hret hlk e0 es hS0 C0 hsf X0
  refine Go.cast (ef_2_IIIIII m (0 : Int32) p0 p1 p2 p3 p4) ?_
  generalize hFF : EndW Z EL0 s _ _ _ = FF
  refine Go.iloadN X0 hx (pc' := 1) rfl (hb hby d2_0) rfl ?_
  refine Go.ifNo X0 hx (pc' := 4) rfl (hb hby d2_1) (by decide) ?_
  refine Go.new X0 hx hZ hown (tw_8 hw) (tw_9 hw) (tw_10 hw) e0 (by decide) (by decide) (pc' := 7) rfl (hb hby d2_4) ?_
  intro T1 h1 b1 e1 E1 g1 A1 D1 X1
  have b1_value : Fld Z h1 b1 "java/lang/String" "value" "[B" .null := D1 (Or.inr (tw_24 hw)) (ty := (.array .byte)) (by decide)
  have b1_coder : Fld Z h1 b1 "java/lang/String" "coder" "B" (.int 0) := D1 (Or.inr (tw_25 hw)) (ty := .byte) (by decide)
  refine Go.dup X1 hx (pc' := 8) rfl (hb hby d2_7) rfl ?_
  refine Go.iconst X1 hx (pc' := 9) rfl (hb hby d2_8) (v := (0 : Int32)) rfl ?_
  refine Go.newarray X1 hx hZ (ty := .char) rfl (tw_11 hw) e1 (by decide) (cap := 0) (by decide) (by decide) (by decide) (by decide) (ad := "[C") (by decide) 0 (pc' := 11) rfl (hb hby d2_9) ?_
  intro T2 h2 b2 k2 e2 E2 g2 V2 A2 X2
  have V2' : Arv Z h2 b2 k2 .char (0 : Int32) [] (.int 0) := V2
  have Kp4 : Keep h0 h1 [] := ((Keep.refl h0 []).ext E1)
  have Kp5 : Keep h0 h2 [] := (Kp4.ext E2)
  have Zn3 : n0 ≤ h2.size := Nat.le_trans Z0 Kp5.1
  have fk6 : Exa Z h2 b1 "java/lang/String" := (A1.ext E2)
  have fk7 : Fld Z h2 b1 "java/lang/String" "coder" "B" (.int 0) := (b1_coder.ext E2)
  have fk8 : Fld Z h2 b1 "java/lang/String" "value" "[B" .null := (b1_value.ext E2)
  have sz10 : h0.size ≤ b1 := Nat.le_trans (Keep.refl h0 []).1 (Nat.le_of_eq g1.symm)
  have ge9 : n0 ≤ b1 := Nat.le_trans Z0 sz10
  have C11 : CHr Z EL0 s.vm s.heap s.vm h1 := (C0.trans (CHr.ext E1 C0.1))
  have C12 : CHr Z EL0 s.vm s.heap s.vm h2 := (C11.trans (CHr.ext E2 C11.1))
  have fk13 : Safe Z EL0 s.vm h1 b1 := (Safe.ext E1 C0.1 (Safe.new (Nat.le_of_eq g1.symm) : Safe Z EL0 s.vm h0 b1))
  have fk14 : Safe Z EL0 s.vm h2 b1 := (Safe.ext E2 C11.1 fk13)
  have hk15 := (Nat.le_trans (Nat.le_trans (Nat.le_refl _) E1.1) E2.1)
  refine Go.callNW X2 hx hZ hown rfl (tw_12 hw) (tw_13 hw) (tw_14 hw) (by decide) (tw_14 hw) (tw_10 hw) (au_6 l Z a0 hw b1 b2 k2 gz1 gv5 h2 n0 Zn3 G fk6 fk7 fk8 V2' ge9) (own_EW hw) C12.1 (allS ⟨fk6.lt, fk14⟩ all0) hS0 hk15 e2 (a := b1) (argsL := [(.ref b2)]) (rest := [(.ref b1)]) (pc' := 14) rfl (by rw [hml]; rfl) (lenOf pd_2 rfl) rfl rfl (W := 1) (Nat.le_of_eq rfl) (by decide) (by decide) (by decide) (by decide) (hb hby d2_11) ?_
  intro v16 T16 L16 h16 e16 q16 C16 S16 Z16 O16 X16
  obtain ⟨b16_0, k16_0, rfl, N16, K16, F16_0, F16_1, F16_2, F16_3⟩ := q16
  show Go _ _ _ _ (T16.setTop (mkF m 14 #[.val (.int 0), .val (.int p0), .val (.int p1), .val (.int p2), .val (.int p3), .val (.int p4)] [(.ref b1)]))
  subst hFF
  have C17 : CHr Z EL0 s.vm s.heap T16.vm h16 := (C12.trans C16)
  refine Go.retRW X16 hx hlk Z16 (own_EW hw) e16 S16 (Nat.le_refl _) C17 (t := (.object "java/lang/String")) hret rfl rfl (hb hby d2_14) (by decide) (by decide) (fun hat => ?_)
  have Kp18 : Keep h0 h16 [] := (Kp5.trans K16 (allS (Or.inr sz10) all0))
  have fk19 : Safe Z EL0 T16.vm h16 b1 := (C16.safe fk6.lt fk14)
  exact ⟨b1, b16_0, k16_0, rfl, (Fr.app (Fr.nil n0) N16), Kp18, sz10, (hat.safe F16_0.lt fk19), F16_0, F16_1, F16_2, F16_3⟩
theorem pd_3 : parseMethodDescriptor "(ICCCCC)Ljava/lang/String;" = some ⟨[.int, .char, .char, .char, .char, .char], some (.object "java/lang/String")⟩ := by decide +kernel
theorem d6_0 : decode prog_11_method_3_code 0 = .ok (.aload_n 0, 1) := by decide +kernel
theorem d6_1 : decode prog_11_method_3_code 1 = .ok (.ldc 49, 2) := by decide +kernel
theorem d7_0 : decode jdk_42_method_76_code 0 = .ok (.aload_n 0, 1) := by decide +kernel
theorem d7_1 : decode jdk_42_method_76_code 1 = .ok (.aload_n 1, 1) := by decide +kernel
theorem d7_2 : decode jdk_42_method_76_code 2 = .ok (.iconst 0, 1) := by decide +kernel
theorem d8_0 : decode jdk_42_method_75_code 0 = .ok (.iload_n 2, 1) := by decide +kernel
theorem d8_1 : decode jdk_42_method_75_code 1 = .ok (.ifCond .lt 16, 3) := by decide +kernel
theorem d8_4 : decode jdk_42_method_75_code 4 = .ok (.iload_n 2, 1) := by decide +kernel
theorem d8_5 : decode jdk_42_method_75_code 5 = .ok (.aload_n 0, 1) := by decide +kernel
theorem d9_0 : decode jdk_42_method_54_code 0 = .ok (.aload_n 0, 1) := by decide +kernel
theorem d9_1 : decode jdk_42_method_54_code 1 = .ok (.getfield 9, 3) := by decide +kernel
theorem d9_4 : decode jdk_42_method_54_code 4 = .ok (.arraylength, 1) := by decide +kernel
theorem d9_5 : decode jdk_42_method_54_code 5 = .ok (.aload_n 0, 1) := by decide +kernel
theorem d10_0 : decode jdk_42_method_152_code 0 = .ok (.getstatic 38, 3) := by decide +kernel
theorem d10_3 : decode jdk_42_method_152_code 3 = .ok (.ifCond .eq 10, 3) := by decide +kernel
theorem d10_6 : decode jdk_42_method_152_code 6 = .ok (.aload_n 0, 1) := by decide +kernel
theorem d10_7 : decode jdk_42_method_152_code 7 = .ok (.getfield 15, 3) := by decide +kernel
theorem d10_10 : decode jdk_42_method_152_code 10 = .ok (.goto 4, 3) := by decide +kernel
theorem d10_14 : decode jdk_42_method_152_code 14 = .ok (.ireturn, 1) := by decide +kernel
theorem ef_10_R (m : MethodId) (x0 : Addr) : entryFrame m #[(.ref x0)] 1 = mkF m 0 #[.val (.ref x0)] [] := by first | (simp [entryFrame, mkF, argsToLocals, Value.category]; done) | rfl
-- java/lang/String.coder
set_option maxRecDepth 65536 in
set_option maxHeartbeats 4000000 in
theorem au_13 (l : Launch) (Z : State) (a0 : Array Value) (hw : ∀ d ∈ tables_1, d.before a0 Z = true) (x0 : Addr) (gz1 : Int32) (gv5 : Value) (h0 : Heap) (n0 : Nat) (Z0 : n0 ≤ h0.size) (O0 : Old Z n0 h0) (G : Glob Z gz1 gv5) (P1 : Fld Z h0 x0 "java/lang/String" "coder" "B" (.int 0)) :
    Ctr l Z (⟨"java/lang/String", "coder", "()B"⟩ : MethodName) jdk_42_method_152_code 1 (some .byte) ({ frames := 0, cells := 0, slots := 0, locals := 0 } : Room) #[(.ref x0)] h0 (fun v h L => v = some (.int 0) ∧ Fr n0 L ∧ h = h0) := by
  refine Ctr.of (plainFor_of_name pn_c1) ?_
  intro p e s m below meth c T0 hx hZ hby hml hown hnm hret hlk e0 es X0
  have G' := G
  obtain ⟨G0, -, G2, -⟩ := G'
  refine Go.cast (ef_10_R m x0) ?_
  generalize hFF : EndN s _ _ _ = FF
  have fk1 : Sta Z h0 "java/lang/String" "COMPACT_STRINGS" "Z" (.int gz1) := G0.ext O0.2
  refine Go.getS X0 hx hZ hown (host := "") (Or.inl (tw_55 hw)) Via.refl e0 fk1 (pc' := 3) rfl (hb hby d10_0) ?_
  intro T2 e2 X2
  refine Go.ifNo X2 hx (pc' := 6) rfl (hb hby d10_3) (feq G2).1 ?_
  refine Go.aloadN X2 hx (pc' := 7) rfl (hb hby d10_6) rfl rfl ?_
  refine Go.getF X2 hx hZ hown (host := "") (Or.inl (tw_29 hw)) Via.refl e2 P1 (pc' := 10) rfl (hb hby d10_7) ?_
  intro T3 e3 X3
  refine Go.goto X3 hx (pc' := 14) (hb hby d10_10) (by decide) (by decide) ?_
  subst hFF
  refine Go.retN X3 hx hlk (t := .byte) hret (by simp) (hb hby d10_14) (by decide) (by decide) ?_
  rw [e3]
  exact ⟨(congrArg (fun z => some (Value.int z)) (by decide : nar .byte (0 : Int32) = (0 : Int32))), (Fr.nil n0), rfl⟩
theorem pd_4 : parseMethodDescriptor "()B" = some ⟨[], some .byte⟩ := by decide +kernel
theorem d9_6 : decode jdk_42_method_54_code 6 = .ok (.invokevirtual 335, 3) := by decide +kernel
theorem d9_9 : decode jdk_42_method_54_code 9 = .ok (.ishr, 1) := by decide +kernel
theorem d9_10 : decode jdk_42_method_54_code 10 = .ok (.ireturn, 1) := by decide +kernel
theorem ef_9_R (m : MethodId) (x0 : Addr) : entryFrame m #[(.ref x0)] 1 = mkF m 0 #[.val (.ref x0)] [] := by first | (simp [entryFrame, mkF, argsToLocals, Value.category]; done) | rfl
-- java/lang/String.length
set_option maxRecDepth 65536 in
set_option maxHeartbeats 4000000 in
theorem au_12 (l : Launch) (Z : State) (a0 : Array Value) (hw : ∀ d ∈ tables_1, d.before a0 Z = true) (x0 : Addr) (x1 : Addr) (kk0 : ClassId) (gz1 : Int32) (gv5 : Value) (h0 : Heap) (n0 : Nat) (Z0 : n0 ≤ h0.size) (O0 : Old Z n0 h0) (G : Glob Z gz1 gv5) (P0 : Exa Z h0 x0 "java/lang/String") (P1 : Fld Z h0 x0 "java/lang/String" "coder" "B" (.int 0)) (P2 : Fld Z h0 x0 "java/lang/String" "value" "[B" (.ref x1)) (P3 : Arv Z h0 x1 kk0 .byte (0 : Int32) [] (.int (0 : Int32))) :
    Ctr l Z (⟨"java/lang/String", "length", "()I"⟩ : MethodName) jdk_42_method_54_code 1 (some .int) ({ frames := 1, cells := 0, slots := 0, locals := 13 } : Room) #[(.ref x0)] h0 (fun v h L => v = some (.int 0) ∧ Fr n0 L ∧ h = h0) := by
  refine Ctr.of (plainFor_of_name pn_c1) ?_
  intro p e s m below meth c T0 hx hZ hby hml hown hnm hret hlk e0 es X0
  refine Go.cast (ef_9_R m x0) ?_
  generalize hFF : EndN s _ _ _ = FF
  refine Go.aloadN X0 hx (pc' := 1) rfl (hb hby d9_0) rfl rfl ?_
  refine Go.getF X0 hx hZ hown (host := "") (Or.inl (tw_28 hw)) Via.refl e0 P2 (pc' := 4) rfl (hb hby d9_1) ?_
  intro T1 e1 X1
  refine Go.arraylength X1 hx hZ e1 P3 (pc' := 5) rfl (hb hby d9_4) ?_
  refine Go.aloadN X1 hx (pc' := 6) rfl (hb hby d9_5) rfl rfl ?_
  refine Go.callV X1 hx hZ hown (tw_50 hw) (tw_51 hw) (notFace_of_selects (args := #[]) (mvT hZ (tw_53 hw))) (tw_53 hw) (tw_52 hw) (by decide) (tw_54 hw) (tw_10 hw) (au_13 l Z a0 hw x0 gz1 gv5 h0 n0 Z0 O0 G P1) e1 P0 (argsL := []) (rest := [(.int 0)]) (pc' := 9) rfl (by rw [hml]; rfl) (lenOf pd_4 rfl) rfl rfl (W := 1) (Nat.le_of_eq rfl) (by decide) (by decide) (by decide) (by decide) (hb hby d9_6) ?_
  intro v2 T2 L2 q2 X2
  obtain ⟨rfl, N2, e2⟩ := q2
  show Go _ _ _ _ (T2.setTop (mkF m 9 #[.val (.ref x0)] [(.int 0), (.int 0)]))
  refine Go.ishr X2 hx (pc' := 10) rfl (hb hby d9_9) ?_
  rw [show ((0 : Int32) >>> ((0 : Int32) &&& 31)) = (0 : Int32) from by decide]
  subst hFF
  refine Go.retI X2 hx hlk hret (hb hby d9_10) (by decide) (by decide) ?_
  rw [e2]
  exact ⟨rfl, (Fr.app (Fr.nil n0) N2), rfl⟩
theorem pd_5 : parseMethodDescriptor "()I" = some ⟨[], some .int⟩ := by decide +kernel
theorem d8_6 : decode jdk_42_method_75_code 6 = .ok (.invokevirtual 505, 3) := by decide +kernel
theorem d8_9 : decode jdk_42_method_75_code 9 = .ok (.aload_n 1, 1) := by decide +kernel
-- java/lang/String.coder
set_option maxRecDepth 65536 in
set_option maxHeartbeats 4000000 in
theorem au_15 (l : Launch) (Z : State) (a0 : Array Value) (hw : ∀ d ∈ tables_1, d.before a0 Z = true) (x0 : Addr) (gz1 : Int32) (gv5 : Value) (h0 : Heap) (n0 : Nat) (Z0 : n0 ≤ h0.size) (O0 : Old Z n0 h0) (G : Glob Z gz1 gv5) (P1 : Fld Z h0 x0 "java/lang/String" "coder" "B" (.int 0)) :
    Ctr l Z (⟨"java/lang/String", "coder", "()B"⟩ : MethodName) jdk_42_method_152_code 1 (some .byte) ({ frames := 0, cells := 0, slots := 0, locals := 0 } : Room) #[(.ref x0)] h0 (fun v h L => v = some (.int 0) ∧ Fr n0 L ∧ h = h0) := by
  refine Ctr.of (plainFor_of_name pn_c1) ?_
  intro p e s m below meth c T0 hx hZ hby hml hown hnm hret hlk e0 es X0
  have G' := G
  obtain ⟨G0, -, G2, -⟩ := G'
  refine Go.cast (ef_10_R m x0) ?_
  generalize hFF : EndN s _ _ _ = FF
  have fk1 : Sta Z h0 "java/lang/String" "COMPACT_STRINGS" "Z" (.int gz1) := G0.ext O0.2
  refine Go.getS X0 hx hZ hown (host := "") (Or.inl (tw_55 hw)) Via.refl e0 fk1 (pc' := 3) rfl (hb hby d10_0) ?_
  intro T2 e2 X2
  refine Go.ifNo X2 hx (pc' := 6) rfl (hb hby d10_3) (feq G2).1 ?_
  refine Go.aloadN X2 hx (pc' := 7) rfl (hb hby d10_6) rfl rfl ?_
  refine Go.getF X2 hx hZ hown (host := "") (Or.inl (tw_29 hw)) Via.refl e2 P1 (pc' := 10) rfl (hb hby d10_7) ?_
  intro T3 e3 X3
  refine Go.goto X3 hx (pc' := 14) (hb hby d10_10) (by decide) (by decide) ?_
  subst hFF
  refine Go.retN X3 hx hlk (t := .byte) hret (by simp) (hb hby d10_14) (by decide) (by decide) ?_
  rw [e3]
  exact ⟨(congrArg (fun z => some (Value.int z)) (by decide : nar .byte (0 : Int32) = (0 : Int32))), (Fr.nil n0), rfl⟩
-- java/lang/String.length
set_option maxRecDepth 65536 in
set_option maxHeartbeats 4000000 in
theorem au_14 (l : Launch) (Z : State) (a0 : Array Value) (hw : ∀ d ∈ tables_1, d.before a0 Z = true) (x0 : Addr) (x1 : Addr) (kk0 : ClassId) (gz1 : Int32) (gv5 : Value) (h0 : Heap) (n0 : Nat) (Z0 : n0 ≤ h0.size) (O0 : Old Z n0 h0) (G : Glob Z gz1 gv5) (P0 : Exa Z h0 x0 "java/lang/String") (P1 : Fld Z h0 x0 "java/lang/String" "coder" "B" (.int 0)) (P2 : Fld Z h0 x0 "java/lang/String" "value" "[B" (.ref x1)) (P3 : Arv Z h0 x1 kk0 .byte (4 : Int32) [(.int 47), (.int 117), (.int 105), (.int 47)] (.int (0 : Int32))) :
    Ctr l Z (⟨"java/lang/String", "length", "()I"⟩ : MethodName) jdk_42_method_54_code 1 (some .int) ({ frames := 1, cells := 0, slots := 0, locals := 13 } : Room) #[(.ref x0)] h0 (fun v h L => v = some (.int 4) ∧ Fr n0 L ∧ h = h0) := by
  refine Ctr.of (plainFor_of_name pn_c1) ?_
  intro p e s m below meth c T0 hx hZ hby hml hown hnm hret hlk e0 es X0
  refine Go.cast (ef_9_R m x0) ?_
  generalize hFF : EndN s _ _ _ = FF
  refine Go.aloadN X0 hx (pc' := 1) rfl (hb hby d9_0) rfl rfl ?_
  refine Go.getF X0 hx hZ hown (host := "") (Or.inl (tw_28 hw)) Via.refl e0 P2 (pc' := 4) rfl (hb hby d9_1) ?_
  intro T1 e1 X1
  refine Go.arraylength X1 hx hZ e1 P3 (pc' := 5) rfl (hb hby d9_4) ?_
  refine Go.aloadN X1 hx (pc' := 6) rfl (hb hby d9_5) rfl rfl ?_
  refine Go.callV X1 hx hZ hown (tw_50 hw) (tw_51 hw) (notFace_of_selects (args := #[]) (mvT hZ (tw_53 hw))) (tw_53 hw) (tw_52 hw) (by decide) (tw_54 hw) (tw_10 hw) (au_15 l Z a0 hw x0 gz1 gv5 h0 n0 Z0 O0 G P1) e1 P0 (argsL := []) (rest := [(.int 4)]) (pc' := 9) rfl (by rw [hml]; rfl) (lenOf pd_4 rfl) rfl rfl (W := 1) (Nat.le_of_eq rfl) (by decide) (by decide) (by decide) (by decide) (hb hby d9_6) ?_
  intro v2 T2 L2 q2 X2
  obtain ⟨rfl, N2, e2⟩ := q2
  show Go _ _ _ _ (T2.setTop (mkF m 9 #[.val (.ref x0)] [(.int 0), (.int 4)]))
  refine Go.ishr X2 hx (pc' := 10) rfl (hb hby d9_9) ?_
  rw [show ((4 : Int32) >>> ((0 : Int32) &&& 31)) = (4 : Int32) from by decide]
  subst hFF
  refine Go.retI X2 hx hlk hret (hb hby d9_10) (by decide) (by decide) ?_
  rw [e2]
  exact ⟨rfl, (Fr.app (Fr.nil n0) N2), rfl⟩
theorem d8_10 : decode jdk_42_method_75_code 10 = .ok (.invokevirtual 505, 3) := by decide +kernel
theorem d8_13 : decode jdk_42_method_75_code 13 = .ok (.isub, 1) := by decide +kernel
theorem d8_14 : decode jdk_42_method_75_code 14 = .ok (.if_icmp .le 5, 3) := by decide +kernel
theorem d8_17 : decode jdk_42_method_75_code 17 = .ok (.iconst 0, 1) := by decide +kernel
theorem d8_18 : decode jdk_42_method_75_code 18 = .ok (.ireturn, 1) := by decide +kernel
theorem ef_8_RRI (m : MethodId) (x0 : Addr) (x1 : Addr) (x2 : Int32) : entryFrame m #[(.ref x0), (.ref x1), (.int x2)] 8 = mkF m 0 #[.val (.ref x0), .val (.ref x1), .val (.int x2), .unset, .unset, .unset, .unset, .unset] [] := by first | (simp [entryFrame, mkF, argsToLocals, Value.category]; done) | rfl
-- java/lang/String.startsWith
set_option maxRecDepth 65536 in
set_option maxHeartbeats 4000000 in
theorem au_11 (l : Launch) (Z : State) (a0 : Array Value) (hw : ∀ d ∈ tables_1, d.before a0 Z = true) (x0 : Addr) (x1 : Addr) (x2 : Addr) (x3 : Addr) (kk0 : ClassId) (kk1 : ClassId) (gz1 : Int32) (gv5 : Value) (h0 : Heap) (n0 : Nat) (Z0 : n0 ≤ h0.size) (O0 : Old Z n0 h0) (G : Glob Z gz1 gv5) (P0 : Exa Z h0 x0 "java/lang/String") (P1 : Fld Z h0 x0 "java/lang/String" "coder" "B" (.int 0)) (P2 : Fld Z h0 x0 "java/lang/String" "value" "[B" (.ref x2)) (P3 : Exa Z h0 x1 "java/lang/String") (P4 : Fld Z h0 x1 "java/lang/String" "coder" "B" (.int 0)) (P5 : Fld Z h0 x1 "java/lang/String" "value" "[B" (.ref x3)) (P6 : Arv Z h0 x2 kk0 .byte (0 : Int32) [] (.int (0 : Int32))) (P7 : Arv Z h0 x3 kk1 .byte (4 : Int32) [(.int 47), (.int 117), (.int 105), (.int 47)] (.int (0 : Int32))) :
    Ctr l Z (⟨"java/lang/String", "startsWith", "(Ljava/lang/String;I)Z"⟩ : MethodName) jdk_42_method_75_code 8 (some .boolean) ({ frames := 2, cells := 0, slots := 0, locals := 27 } : Room) #[(.ref x0), (.ref x1), (.int 0)] h0 (fun v h L => v = some (.int 0) ∧ Fr n0 L ∧ h = h0) := by
  refine Ctr.of (plainFor_of_name pn_c1) ?_
  intro p e s m below meth c T0 hx hZ hby hml hown hnm hret hlk e0 es X0
  refine Go.cast (ef_8_RRI m x0 x1 (0 : Int32)) ?_
  generalize hFF : EndN s _ _ _ = FF
  refine Go.iloadN X0 hx (pc' := 1) rfl (hb hby d8_0) rfl ?_
  refine Go.ifNo X0 hx (pc' := 4) rfl (hb hby d8_1) (by decide) ?_
  refine Go.iloadN X0 hx (pc' := 5) rfl (hb hby d8_4) rfl ?_
  refine Go.aloadN X0 hx (pc' := 6) rfl (hb hby d8_5) rfl rfl ?_
  refine Go.callV X0 hx hZ hown (tw_45 hw) (tw_46 hw) (notFace_of_selects (args := #[]) (mvT hZ (tw_48 hw))) (tw_48 hw) (tw_47 hw) (by decide) (tw_49 hw) (tw_10 hw) (au_12 l Z a0 hw x0 x2 kk0 gz1 gv5 h0 n0 Z0 O0 G P0 P1 P2 P6) e0 P0 (argsL := []) (rest := [(.int 0)]) (pc' := 9) rfl (by rw [hml]; rfl) (lenOf pd_5 rfl) rfl rfl (W := 1) (Nat.le_of_eq rfl) (by decide) (by decide) (by decide) (by decide) (hb hby d8_6) ?_
  intro v1 T1 L1 q1 X1
  obtain ⟨rfl, N1, e1⟩ := q1
  show Go _ _ _ _ (T1.setTop (mkF m 9 #[.val (.ref x0), .val (.ref x1), .val (.int 0), .unset, .unset, .unset, .unset, .unset] [(.int 0), (.int 0)]))
  refine Go.aloadN X1 hx (pc' := 10) rfl (hb hby d8_9) rfl rfl ?_
  refine Go.callV X1 hx hZ hown (tw_45 hw) (tw_46 hw) (notFace_of_selects (args := #[]) (mvT hZ (tw_48 hw))) (tw_48 hw) (tw_47 hw) (by decide) (tw_49 hw) (tw_10 hw) (au_14 l Z a0 hw x1 x3 kk1 gz1 gv5 h0 n0 Z0 O0 G P3 P4 P5 P7) e1 P3 (argsL := []) (rest := [(.int 0), (.int 0)]) (pc' := 13) rfl (by rw [hml]; rfl) (lenOf pd_5 rfl) rfl rfl (W := 2) (Nat.le_of_eq rfl) (by decide) (by decide) (by decide) (by decide) (hb hby d8_10) ?_
  intro v2 T2 L2 q2 X2
  obtain ⟨rfl, N2, e2⟩ := q2
  show Go _ _ _ _ (T2.setTop (mkF m 13 #[.val (.ref x0), .val (.ref x1), .val (.int 0), .unset, .unset, .unset, .unset, .unset] [(.int 4), (.int 0), (.int 0)]))
  refine Go.isub X2 hx (pc' := 14) rfl (hb hby d8_13) ?_
  rw [show ((0 : Int32) - (4 : Int32)) = (-4 : Int32) from by decide]
  refine Go.icmpNo X2 hx (pc' := 17) rfl (hb hby d8_14) (by decide) ?_
  refine Go.iconst X2 hx (pc' := 18) rfl (hb hby d8_17) (v := (0 : Int32)) rfl ?_
  subst hFF
  refine Go.retN X2 hx hlk (t := .boolean) hret (by simp) (hb hby d8_18) (by decide) (by decide) ?_
  rw [e2]
  exact ⟨(congrArg (fun z => some (Value.int z)) (by decide : nar .boolean (0 : Int32) = (0 : Int32))), (Fr.app (Fr.app (Fr.nil n0) N1) N2), rfl⟩
theorem pd_6 : parseMethodDescriptor "(Ljava/lang/String;I)Z" = some ⟨[(.object "java/lang/String"), .int], some .boolean⟩ := by decide +kernel
theorem d7_3 : decode jdk_42_method_76_code 3 = .ok (.invokevirtual 624, 3) := by decide +kernel
theorem d7_6 : decode jdk_42_method_76_code 6 = .ok (.ireturn, 1) := by decide +kernel
theorem ef_7_RR (m : MethodId) (x0 : Addr) (x1 : Addr) : entryFrame m #[(.ref x0), (.ref x1)] 2 = mkF m 0 #[.val (.ref x0), .val (.ref x1)] [] := by first | (simp [entryFrame, mkF, argsToLocals, Value.category]; done) | rfl
-- java/lang/String.startsWith
set_option maxRecDepth 65536 in
set_option maxHeartbeats 4000000 in
theorem au_10 (l : Launch) (Z : State) (a0 : Array Value) (hw : ∀ d ∈ tables_1, d.before a0 Z = true) (x0 : Addr) (x1 : Addr) (x2 : Addr) (x3 : Addr) (kk0 : ClassId) (kk1 : ClassId) (gz1 : Int32) (gv5 : Value) (h0 : Heap) (n0 : Nat) (Z0 : n0 ≤ h0.size) (O0 : Old Z n0 h0) (G : Glob Z gz1 gv5) (P0 : Exa Z h0 x0 "java/lang/String") (P1 : Fld Z h0 x0 "java/lang/String" "coder" "B" (.int 0)) (P2 : Fld Z h0 x0 "java/lang/String" "value" "[B" (.ref x2)) (P3 : Exa Z h0 x1 "java/lang/String") (P4 : Fld Z h0 x1 "java/lang/String" "coder" "B" (.int 0)) (P5 : Fld Z h0 x1 "java/lang/String" "value" "[B" (.ref x3)) (P6 : Arv Z h0 x2 kk0 .byte (0 : Int32) [] (.int (0 : Int32))) (P7 : Arv Z h0 x3 kk1 .byte (4 : Int32) [(.int 47), (.int 117), (.int 105), (.int 47)] (.int (0 : Int32))) :
    Ctr l Z (⟨"java/lang/String", "startsWith", "(Ljava/lang/String;)Z"⟩ : MethodName) jdk_42_method_76_code 2 (some .boolean) ({ frames := 3, cells := 0, slots := 0, locals := 46 } : Room) #[(.ref x0), (.ref x1)] h0 (fun v h L => v = some (.int 0) ∧ Fr n0 L ∧ h = h0) := by
  refine Ctr.of (plainFor_of_name pn_c1) ?_
  intro p e s m below meth c T0 hx hZ hby hml hown hnm hret hlk e0 es X0
  refine Go.cast (ef_7_RR m x0 x1) ?_
  generalize hFF : EndN s _ _ _ = FF
  refine Go.aloadN X0 hx (pc' := 1) rfl (hb hby d7_0) rfl rfl ?_
  refine Go.aloadN X0 hx (pc' := 2) rfl (hb hby d7_1) rfl rfl ?_
  refine Go.iconst X0 hx (pc' := 3) rfl (hb hby d7_2) (v := (0 : Int32)) rfl ?_
  refine Go.callV X0 hx hZ hown (tw_40 hw) (tw_41 hw) (notFace_of_selects (args := #[]) (mvT hZ (tw_43 hw))) (tw_43 hw) (tw_42 hw) (by decide) (tw_44 hw) (tw_10 hw) (au_11 l Z a0 hw x0 x1 x2 x3 kk0 kk1 gz1 gv5 h0 n0 Z0 O0 G P0 P1 P2 P3 P4 P5 P6 P7) e0 P0 (argsL := [(.ref x1), (.int 0)]) (rest := []) (pc' := 6) rfl (by rw [hml]; rfl) (lenOf pd_6 rfl) rfl rfl (W := 0) (Nat.le_of_eq rfl) (by decide) (by decide) (by decide) (by decide) (hb hby d7_3) ?_
  intro v1 T1 L1 q1 X1
  obtain ⟨rfl, N1, e1⟩ := q1
  show Go _ _ _ _ (T1.setTop (mkF m 6 #[.val (.ref x0), .val (.ref x1)] [(.int 0)]))
  subst hFF
  refine Go.retN X1 hx hlk (t := .boolean) hret (by simp) (hb hby d7_6) (by decide) (by decide) ?_
  rw [e1]
  exact ⟨(congrArg (fun z => some (Value.int z)) (by decide : nar .boolean (0 : Int32) = (0 : Int32))), (Fr.app (Fr.nil n0) N1), rfl⟩
theorem pd_7 : parseMethodDescriptor "(Ljava/lang/String;)Z" = some ⟨[(.object "java/lang/String")], some .boolean⟩ := by decide +kernel
theorem d6_3 : decode prog_11_method_3_code 3 = .ok (.invokevirtual 51, 3) := by decide +kernel
theorem d6_6 : decode prog_11_method_3_code 6 = .ok (.ifCond .ne 10, 3) := by decide +kernel
theorem d6_9 : decode prog_11_method_3_code 9 = .ok (.aload_n 0, 1) := by decide +kernel
theorem d11_0 : decode prog_11_method_4_code 0 = .ok (.aload_n 0, 1) := by decide +kernel
theorem d11_1 : decode prog_11_method_4_code 1 = .ok (.ldc 60, 2) := by decide +kernel
theorem d12_0 : decode jdk_42_method_66_code 0 = .ok (.aload_n 0, 1) := by decide +kernel
theorem d12_1 : decode jdk_42_method_66_code 1 = .ok (.aload_n 1, 1) := by decide +kernel
theorem d12_2 : decode jdk_42_method_66_code 2 = .ok (.if_acmp .ne 5, 3) := by decide +kernel
theorem d12_7 : decode jdk_42_method_66_code 7 = .ok (.aload_n 1, 1) := by decide +kernel
theorem d12_8 : decode jdk_42_method_66_code 8 = .ok (.instanceof 10, 3) := by decide +kernel
theorem d12_11 : decode jdk_42_method_66_code 11 = .ok (.ifCond .eq 43, 3) := by decide +kernel
theorem d12_14 : decode jdk_42_method_66_code 14 = .ok (.aload_n 1, 1) := by decide +kernel
theorem d12_15 : decode jdk_42_method_66_code 15 = .ok (.checkcast 10, 3) := by decide +kernel
theorem d12_18 : decode jdk_42_method_66_code 18 = .ok (.astore_n 2, 1) := by decide +kernel
theorem d12_19 : decode jdk_42_method_66_code 19 = .ok (.getstatic 38, 3) := by decide +kernel
theorem d12_22 : decode jdk_42_method_66_code 22 = .ok (.ifCond .eq 14, 3) := by decide +kernel
theorem d12_25 : decode jdk_42_method_66_code 25 = .ok (.aload_n 0, 1) := by decide +kernel
theorem d12_26 : decode jdk_42_method_66_code 26 = .ok (.getfield 15, 3) := by decide +kernel
theorem d12_29 : decode jdk_42_method_66_code 29 = .ok (.aload_n 2, 1) := by decide +kernel
theorem d12_30 : decode jdk_42_method_66_code 30 = .ok (.getfield 15, 3) := by decide +kernel
theorem d12_33 : decode jdk_42_method_66_code 33 = .ok (.if_icmp .ne 21, 3) := by decide +kernel
theorem d12_36 : decode jdk_42_method_66_code 36 = .ok (.aload_n 0, 1) := by decide +kernel
theorem d12_37 : decode jdk_42_method_66_code 37 = .ok (.getfield 9, 3) := by decide +kernel
theorem d12_40 : decode jdk_42_method_66_code 40 = .ok (.aload_n 2, 1) := by decide +kernel
theorem d12_41 : decode jdk_42_method_66_code 41 = .ok (.getfield 9, 3) := by decide +kernel
theorem d13_0 : decode jdk_43_method_13_code 0 = .ok (.aload_n 0, 1) := by decide +kernel
theorem d13_1 : decode jdk_43_method_13_code 1 = .ok (.arraylength, 1) := by decide +kernel
theorem d13_2 : decode jdk_43_method_13_code 2 = .ok (.aload_n 1, 1) := by decide +kernel
theorem d13_3 : decode jdk_43_method_13_code 3 = .ok (.arraylength, 1) := by decide +kernel
theorem d13_4 : decode jdk_43_method_13_code 4 = .ok (.if_icmp .ne 30, 3) := by decide +kernel
theorem d13_34 : decode jdk_43_method_13_code 34 = .ok (.iconst 0, 1) := by decide +kernel
theorem d13_35 : decode jdk_43_method_13_code 35 = .ok (.ireturn, 1) := by decide +kernel
theorem ef_13_RR (m : MethodId) (x0 : Addr) (x1 : Addr) : entryFrame m #[(.ref x0), (.ref x1)] 3 = mkF m 0 #[.val (.ref x0), .val (.ref x1), .unset] [] := by first | (simp [entryFrame, mkF, argsToLocals, Value.category]; done) | rfl
theorem pn_c2 : plainName "java/lang/StringLatin1" = true := by first | (simp [plainName, overriddenIn]; done) | decide +kernel
-- java/lang/StringLatin1.equals
set_option maxRecDepth 65536 in
set_option maxHeartbeats 4000000 in
theorem au_19 (l : Launch) (Z : State) (a0 : Array Value) (hw : ∀ d ∈ tables_1, d.before a0 Z = true) (x0 : Addr) (x1 : Addr) (kk0 : ClassId) (kk1 : ClassId) (h0 : Heap) (n0 : Nat) (Z0 : n0 ≤ h0.size) (P0 : Arv Z h0 x0 kk0 .byte (0 : Int32) [] (.int (0 : Int32))) (P1 : Arv Z h0 x1 kk1 .byte (1 : Int32) [(.int 47)] (.int (0 : Int32))) :
    Ctr l Z (⟨"java/lang/StringLatin1", "equals", "([B[B)Z"⟩ : MethodName) jdk_43_method_13_code 3 (some .boolean) ({ frames := 0, cells := 0, slots := 0, locals := 0 } : Room) #[(.ref x0), (.ref x1)] h0 (fun v h L => v = some (.int 0) ∧ Fr n0 L ∧ h = h0) := by
  refine Ctr.of (plainFor_of_name pn_c2) ?_
  intro p e s m below meth c T0 hx hZ hby hml hown hnm hret hlk e0 es X0
  refine Go.cast (ef_13_RR m x0 x1) ?_
  generalize hFF : EndN s _ _ _ = FF
  refine Go.aloadN X0 hx (pc' := 1) rfl (hb hby d13_0) rfl rfl ?_
  refine Go.arraylength X0 hx hZ e0 P0 (pc' := 2) rfl (hb hby d13_1) ?_
  refine Go.aloadN X0 hx (pc' := 3) rfl (hb hby d13_2) rfl rfl ?_
  refine Go.arraylength X0 hx hZ e0 P1 (pc' := 4) rfl (hb hby d13_3) ?_
  refine Go.icmpYes X0 hx (pc' := 34) (hb hby d13_4) (by decide) (by decide) (by decide) ?_
  refine Go.iconst X0 hx (pc' := 35) rfl (hb hby d13_34) (v := (0 : Int32)) rfl ?_
  subst hFF
  refine Go.retN X0 hx hlk (t := .boolean) hret (by simp) (hb hby d13_35) (by decide) (by decide) ?_
  rw [e0]
  exact ⟨(congrArg (fun z => some (Value.int z)) (by decide : nar .boolean (0 : Int32) = (0 : Int32))), (Fr.nil n0), rfl⟩
theorem pd_8 : parseMethodDescriptor "([B[B)Z" = some ⟨[(.array .byte), (.array .byte)], some .boolean⟩ := by decide +kernel
theorem d12_44 : decode jdk_42_method_66_code 44 = .ok (.invokestatic 541, 3) := by decide +kernel
theorem d12_47 : decode jdk_42_method_66_code 47 = .ok (.ifCond .eq 7, 3) := by decide +kernel
theorem d12_54 : decode jdk_42_method_66_code 54 = .ok (.iconst 0, 1) := by decide +kernel
theorem d12_55 : decode jdk_42_method_66_code 55 = .ok (.ireturn, 1) := by decide +kernel
theorem ef_12_RR (m : MethodId) (x0 : Addr) (x1 : Addr) : entryFrame m #[(.ref x0), (.ref x1)] 3 = mkF m 0 #[.val (.ref x0), .val (.ref x1), .unset] [] := by first | (simp [entryFrame, mkF, argsToLocals, Value.category]; done) | rfl
-- java/lang/String.equals
set_option maxRecDepth 65536 in
set_option maxHeartbeats 4000000 in
theorem au_18 (l : Launch) (Z : State) (a0 : Array Value) (hw : ∀ d ∈ tables_1, d.before a0 Z = true) (x0 : Addr) (x1 : Addr) (x2 : Addr) (x3 : Addr) (kk0 : ClassId) (kk1 : ClassId) (gz1 : Int32) (gv5 : Value) (h0 : Heap) (n0 : Nat) (Z0 : n0 ≤ h0.size) (O0 : Old Z n0 h0) (G : Glob Z gz1 gv5) (P1 : Fld Z h0 x0 "java/lang/String" "coder" "B" (.int 0)) (P2 : Fld Z h0 x0 "java/lang/String" "value" "[B" (.ref x2)) (P3 : Exa Z h0 x1 "java/lang/String") (P4 : Fld Z h0 x1 "java/lang/String" "coder" "B" (.int 0)) (P5 : Fld Z h0 x1 "java/lang/String" "value" "[B" (.ref x3)) (P6 : Arv Z h0 x2 kk0 .byte (0 : Int32) [] (.int (0 : Int32))) (P7 : Arv Z h0 x3 kk1 .byte (1 : Int32) [(.int 47)] (.int (0 : Int32))) (ne_x0_x1 : x0 ≠ x1) :
    Ctr l Z (⟨"java/lang/String", "equals", "(Ljava/lang/Object;)Z"⟩ : MethodName) jdk_42_method_66_code 3 (some .boolean) ({ frames := 1, cells := 0, slots := 0, locals := 14 } : Room) #[(.ref x0), (.ref x1)] h0 (fun v h L => v = some (.int 0) ∧ Fr n0 L ∧ h = h0) := by
  refine Ctr.of (plainFor_of_name pn_c1) ?_
  intro p e s m below meth c T0 hx hZ hby hml hown hnm hret hlk e0 es X0
  have G' := G
  obtain ⟨G0, -, G2, -⟩ := G'
  refine Go.cast (ef_12_RR m x0 x1) ?_
  generalize hFF : EndN s _ _ _ = FF
  refine Go.aloadN X0 hx (pc' := 1) rfl (hb hby d12_0) rfl rfl ?_
  refine Go.aloadN X0 hx (pc' := 2) rfl (hb hby d12_1) rfl rfl ?_
  refine Go.acmp X0 hx (pc' := 7) (same := false) (hb hby d12_2) rfl rfl (decide_eq_false (fun q => ne_x0_x1 (Value.ref.inj q))) (by decide) (by decide) ?_
  refine Go.aloadN X0 hx (pc' := 8) rfl (hb hby d12_7) rfl rfl ?_
  refine Go.instY X0 hx hZ hown (tw_65 hw) e0 (Ins.self P3) (pc' := 11) rfl (hb hby d12_8) ?_
  intro T1 e1 X1
  refine Go.ifNo X1 hx (pc' := 14) rfl (hb hby d12_11) (by decide) ?_
  refine Go.aloadN X1 hx (pc' := 15) rfl (hb hby d12_14) rfl rfl ?_
  refine Go.castY X1 hx hZ hown (tw_65 hw) e1 (Ins.self P3) (pc' := 18) rfl (hb hby d12_15) ?_
  intro T2 e2 X2
  refine Go.astoreN X2 hx (pc' := 19) rfl (hb hby d12_18) (Ls' := #[.val (.ref x0), .val (.ref x1), .val (.ref x1)]) rfl rfl ?_
  have fk3 : Sta Z h0 "java/lang/String" "COMPACT_STRINGS" "Z" (.int gz1) := G0.ext O0.2
  refine Go.getS X2 hx hZ hown (host := "") (Or.inl (tw_55 hw)) Via.refl e2 fk3 (pc' := 22) rfl (hb hby d12_19) ?_
  intro T4 e4 X4
  refine Go.ifNo X4 hx (pc' := 25) rfl (hb hby d12_22) (feq G2).1 ?_
  refine Go.aloadN X4 hx (pc' := 26) rfl (hb hby d12_25) rfl rfl ?_
  refine Go.getF X4 hx hZ hown (host := "") (Or.inl (tw_29 hw)) Via.refl e4 P1 (pc' := 29) rfl (hb hby d12_26) ?_
  intro T5 e5 X5
  refine Go.aloadN X5 hx (pc' := 30) rfl (hb hby d12_29) rfl rfl ?_
  refine Go.getF X5 hx hZ hown (host := "") (Or.inl (tw_29 hw)) Via.refl e5 P4 (pc' := 33) rfl (hb hby d12_30) ?_
  intro T6 e6 X6
  refine Go.icmpNo X6 hx (pc' := 36) rfl (hb hby d12_33) (by decide) ?_
  refine Go.aloadN X6 hx (pc' := 37) rfl (hb hby d12_36) rfl rfl ?_
  refine Go.getF X6 hx hZ hown (host := "") (Or.inl (tw_28 hw)) Via.refl e6 P2 (pc' := 40) rfl (hb hby d12_37) ?_
  intro T7 e7 X7
  refine Go.aloadN X7 hx (pc' := 41) rfl (hb hby d12_40) rfl rfl ?_
  refine Go.getF X7 hx hZ hown (host := "") (Or.inl (tw_28 hw)) Via.refl e7 P5 (pc' := 44) rfl (hb hby d12_41) ?_
  intro T8 e8 X8
  refine Go.callS X8 hx hZ hown (tw_66 hw) (tw_67 hw) (tw_68 hw) (tw_69 hw) (by decide) (tw_69 hw) (tw_68 hw) (au_19 l Z a0 hw x2 x3 kk0 kk1 h0 n0 Z0 P6 P7) e8 (argsL := [(.ref x2), (.ref x3)]) (rest := []) (pc' := 47) rfl (by rw [hml]; rfl) (lenOf pd_8 rfl) rfl rfl (W := 0) (Nat.le_of_eq rfl) (by decide) (by decide) (by decide) (by decide) (hb hby d12_44) ?_
  intro v9 T9 L9 q9 X9
  obtain ⟨rfl, N9, e9⟩ := q9
  show Go _ _ _ _ (T9.setTop (mkF m 47 #[.val (.ref x0), .val (.ref x1), .val (.ref x1)] [(.int 0)]))
  refine Go.ifYes X9 hx (pc' := 54) (hb hby d12_47) (by decide) (by decide) (by decide) ?_
  refine Go.iconst X9 hx (pc' := 55) rfl (hb hby d12_54) (v := (0 : Int32)) rfl ?_
  subst hFF
  refine Go.retN X9 hx hlk (t := .boolean) hret (by simp) (hb hby d12_55) (by decide) (by decide) ?_
  rw [e9]
  exact ⟨(congrArg (fun z => some (Value.int z)) (by decide : nar .boolean (0 : Int32) = (0 : Int32))), (Fr.app (Fr.nil n0) N9), rfl⟩
theorem pd_9 : parseMethodDescriptor "(Ljava/lang/Object;)Z" = some ⟨[(.object "java/lang/Object")], some .boolean⟩ := by decide +kernel
theorem d11_3 : decode prog_11_method_4_code 3 = .ok (.invokevirtual 62, 3) := by decide +kernel
theorem d11_6 : decode prog_11_method_4_code 6 = .ok (.ifCond .ne 23, 3) := by decide +kernel
theorem d11_9 : decode prog_11_method_4_code 9 = .ok (.aload_n 0, 1) := by decide +kernel
theorem d11_10 : decode prog_11_method_4_code 10 = .ok (.ldc 49, 2) := by decide +kernel
theorem d11_12 : decode prog_11_method_4_code 12 = .ok (.iconst 0, 1) := by decide +kernel
theorem d11_13 : decode prog_11_method_4_code 13 = .ok (.ldc 49, 2) := by decide +kernel
theorem d11_15 : decode prog_11_method_4_code 15 = .ok (.invokevirtual 66, 3) := by decide +kernel
theorem d11_18 : decode prog_11_method_4_code 18 = .ok (.iconst 1, 1) := by decide +kernel
theorem d11_19 : decode prog_11_method_4_code 19 = .ok (.isub, 1) := by decide +kernel
theorem d14_0 : decode jdk_42_method_92_code 0 = .ok (.aload_n 0, 1) := by decide +kernel
theorem d14_1 : decode jdk_42_method_92_code 1 = .ok (.invokevirtual 505, 3) := by decide +kernel
theorem d14_4 : decode jdk_42_method_92_code 4 = .ok (.istore_n 3, 1) := by decide +kernel
theorem d14_5 : decode jdk_42_method_92_code 5 = .ok (.iload_n 1, 1) := by decide +kernel
theorem d14_6 : decode jdk_42_method_92_code 6 = .ok (.iload_n 2, 1) := by decide +kernel
theorem d14_7 : decode jdk_42_method_92_code 7 = .ok (.iload_n 3, 1) := by decide +kernel
theorem d15_0 : decode jdk_42_method_158_code 0 = .ok (.iload_n 0, 1) := by decide +kernel
theorem d15_1 : decode jdk_42_method_158_code 1 = .ok (.iload_n 1, 1) := by decide +kernel
theorem d15_2 : decode jdk_42_method_158_code 2 = .ok (.iload_n 2, 1) := by decide +kernel
theorem d15_3 : decode jdk_42_method_158_code 3 = .ok (.getstatic 1053, 3) := by decide +kernel
theorem d16_0 : decode jdk_41_method_12_code 0 = .ok (.iload_n 0, 1) := by decide +kernel
theorem d16_1 : decode jdk_41_method_12_code 1 = .ok (.ifCond .lt 13, 3) := by decide +kernel
theorem d16_4 : decode jdk_41_method_12_code 4 = .ok (.iload_n 0, 1) := by decide +kernel
theorem d16_5 : decode jdk_41_method_12_code 5 = .ok (.iload_n 1, 1) := by decide +kernel
theorem d16_6 : decode jdk_41_method_12_code 6 = .ok (.if_icmp .gt 8, 3) := by decide +kernel
theorem d16_9 : decode jdk_41_method_12_code 9 = .ok (.iload_n 1, 1) := by decide +kernel
theorem d16_10 : decode jdk_41_method_12_code 10 = .ok (.iload_n 2, 1) := by decide +kernel
theorem d16_11 : decode jdk_41_method_12_code 11 = .ok (.if_icmp .le 11, 3) := by decide +kernel
theorem d16_22 : decode jdk_41_method_12_code 22 = .ok (.iload_n 0, 1) := by decide +kernel
theorem d16_23 : decode jdk_41_method_12_code 23 = .ok (.ireturn, 1) := by decide +kernel
theorem ef_16_IIIV (m : MethodId) (x0 : Int32) (x1 : Int32) (x2 : Int32) (x3 : Value) (hx3 : x3.isRef = true) : entryFrame m #[(.int x0), (.int x1), (.int x2), x3] 4 = mkF m 0 #[.val (.int x0), .val (.int x1), .val (.int x2), .val x3] [] := by rcases ref_cases hx3 with rfl | ⟨y3, rfl⟩ <;> first | (simp [entryFrame, mkF, argsToLocals, Value.category]; done) | rfl
theorem pn_c3 : plainName "jdk/internal/util/Preconditions" = true := by first | (simp [plainName, overriddenIn]; done) | decide +kernel
-- jdk/internal/util/Preconditions.checkFromToIndex
set_option maxRecDepth 65536 in
set_option maxHeartbeats 4000000 in
theorem au_22 (l : Launch) (Z : State) (a0 : Array Value) (hw : ∀ d ∈ tables_1, d.before a0 Z = true) (gz1 : Int32) (gv5 : Value) (h0 : Heap) (n0 : Nat) (Z0 : n0 ≤ h0.size) (G : Glob Z gz1 gv5) :
    Ctr l Z (⟨"jdk/internal/util/Preconditions", "checkFromToIndex", "(IIILjava/util/function/BiFunction;)I"⟩ : MethodName) jdk_41_method_12_code 4 (some .int) ({ frames := 0, cells := 0, slots := 0, locals := 0 } : Room) #[(.int 0), (.int 3), (.int 4), gv5] h0 (fun v h L => v = some (.int 0) ∧ Fr n0 L ∧ h = h0) := by
  refine Ctr.of (plainFor_of_name pn_c3) ?_
  intro p e s m below meth c T0 hx hZ hby hml hown hnm hret hlk e0 es X0
  have G' := G
  obtain ⟨-, -, -, G3⟩ := G'
  refine Go.cast (ef_16_IIIV m (0 : Int32) (3 : Int32) (4 : Int32) gv5 G3) ?_
  generalize hFF : EndN s _ _ _ = FF
  refine Go.iloadN X0 hx (pc' := 1) rfl (hb hby d16_0) rfl ?_
  refine Go.ifNo X0 hx (pc' := 4) rfl (hb hby d16_1) (by decide) ?_
  refine Go.iloadN X0 hx (pc' := 5) rfl (hb hby d16_4) rfl ?_
  refine Go.iloadN X0 hx (pc' := 6) rfl (hb hby d16_5) rfl ?_
  refine Go.icmpNo X0 hx (pc' := 9) rfl (hb hby d16_6) (by decide) ?_
  refine Go.iloadN X0 hx (pc' := 10) rfl (hb hby d16_9) rfl ?_
  refine Go.iloadN X0 hx (pc' := 11) rfl (hb hby d16_10) rfl ?_
  refine Go.icmpYes X0 hx (pc' := 22) (hb hby d16_11) (by decide) (by decide) (by decide) ?_
  refine Go.iloadN X0 hx (pc' := 23) rfl (hb hby d16_22) rfl ?_
  subst hFF
  refine Go.retI X0 hx hlk hret (hb hby d16_23) (by decide) (by decide) ?_
  rw [e0]
  exact ⟨rfl, (Fr.nil n0), rfl⟩
theorem pd_10 : parseMethodDescriptor "(IIILjava/util/function/BiFunction;)I" = some ⟨[.int, .int, .int, (.object "java/util/function/BiFunction")], some .int⟩ := by decide +kernel
theorem d15_6 : decode jdk_42_method_158_code 6 = .ok (.invokestatic 1062, 3) := by decide +kernel
theorem d15_9 : decode jdk_42_method_158_code 9 = .ok (.pop, 1) := by decide +kernel
theorem d15_10 : decode jdk_42_method_158_code 10 = .ok (.return_, 1) := by decide +kernel
theorem ef_15_III (m : MethodId) (x0 : Int32) (x1 : Int32) (x2 : Int32) : entryFrame m #[(.int x0), (.int x1), (.int x2)] 3 = mkF m 0 #[.val (.int x0), .val (.int x1), .val (.int x2)] [] := by first | (simp [entryFrame, mkF, argsToLocals, Value.category]; done) | rfl
-- java/lang/String.checkBoundsBeginEnd
set_option maxRecDepth 65536 in
set_option maxHeartbeats 4000000 in
theorem au_21 (l : Launch) (Z : State) (a0 : Array Value) (hw : ∀ d ∈ tables_1, d.before a0 Z = true) (gz1 : Int32) (gv5 : Value) (h0 : Heap) (n0 : Nat) (Z0 : n0 ≤ h0.size) (O0 : Old Z n0 h0) (G : Glob Z gz1 gv5) :
    Ctr l Z (⟨"java/lang/String", "checkBoundsBeginEnd", "(III)V"⟩ : MethodName) jdk_42_method_158_code 3 none ({ frames := 1, cells := 0, slots := 0, locals := 15 } : Room) #[(.int 0), (.int 3), (.int 4)] h0 (fun v h L => v = none ∧ Fr n0 L ∧ h = h0) := by
  refine Ctr.of (plainFor_of_name pn_c1) ?_
  intro p e s m below meth c T0 hx hZ hby hml hown hnm hret hlk e0 es X0
  have G' := G
  obtain ⟨-, G1, -, -⟩ := G'
  refine Go.cast (ef_15_III m (0 : Int32) (3 : Int32) (4 : Int32)) ?_
  generalize hFF : EndN s _ _ _ = FF
  refine Go.iloadN X0 hx (pc' := 1) rfl (hb hby d15_0) rfl ?_
  refine Go.iloadN X0 hx (pc' := 2) rfl (hb hby d15_1) rfl ?_
  refine Go.iloadN X0 hx (pc' := 3) rfl (hb hby d15_2) rfl ?_
  have fk1 : Sta Z h0 "jdk/internal/util/Preconditions" "SIOOBE_FORMATTER" "Ljava/util/function/BiFunction;" gv5 := G1.ext O0.2
  refine Go.getS X0 hx hZ hown (host := "") (Or.inl (tw_79 hw)) Via.refl e0 fk1 (pc' := 6) rfl (hb hby d15_3) ?_
  intro T2 e2 X2
  refine Go.callS X2 hx hZ hown (tw_81 hw) (tw_82 hw) (tw_80 hw) (tw_83 hw) (by decide) (tw_83 hw) (tw_80 hw) (au_22 l Z a0 hw gz1 gv5 h0 n0 Z0 G) e2 (argsL := [(.int 0), (.int 3), (.int 4), gv5]) (rest := []) (pc' := 9) rfl (by rw [hml]; rfl) (lenOf pd_10 rfl) rfl rfl (W := 0) (Nat.le_of_eq rfl) (by decide) (by decide) (by decide) (by decide) (hb hby d15_6) ?_
  intro v3 T3 L3 q3 X3
  obtain ⟨rfl, N3, e3⟩ := q3
  show Go _ _ _ _ (T3.setTop (mkF m 9 #[.val (.int 0), .val (.int 3), .val (.int 4)] [(.int 0)]))
  refine Go.pop X3 hx (pc' := 10) rfl (hb hby d15_9) rfl ?_
  subst hFF
  refine Go.ret0 X3 hx hlk hret (hb hby d15_10) (by decide) (by decide) ?_
  rw [e3]
  exact ⟨rfl, (Fr.app (Fr.nil n0) N3), rfl⟩
theorem pd_11 : parseMethodDescriptor "(III)V" = some ⟨[.int, .int, .int], none⟩ := by decide +kernel
theorem d14_8 : decode jdk_42_method_92_code 8 = .ok (.invokestatic 521, 3) := by decide +kernel
theorem d14_11 : decode jdk_42_method_92_code 11 = .ok (.iload_n 1, 1) := by decide +kernel
theorem d14_12 : decode jdk_42_method_92_code 12 = .ok (.ifCond .ne 10, 3) := by decide +kernel
theorem d14_15 : decode jdk_42_method_92_code 15 = .ok (.iload_n 2, 1) := by decide +kernel
theorem d14_16 : decode jdk_42_method_92_code 16 = .ok (.iload_n 3, 1) := by decide +kernel
theorem d14_17 : decode jdk_42_method_92_code 17 = .ok (.if_icmp .ne 5, 3) := by decide +kernel
theorem d14_22 : decode jdk_42_method_92_code 22 = .ok (.iload_n 2, 1) := by decide +kernel
theorem d14_23 : decode jdk_42_method_92_code 23 = .ok (.iload_n 1, 1) := by decide +kernel
theorem d14_24 : decode jdk_42_method_92_code 24 = .ok (.isub, 1) := by decide +kernel
theorem d14_25 : decode jdk_42_method_92_code 25 = .ok (.istore 4, 2) := by decide +kernel
theorem d14_27 : decode jdk_42_method_92_code 27 = .ok (.aload_n 0, 1) := by decide +kernel
theorem d17_0 : decode jdk_42_method_154_code 0 = .ok (.getstatic 38, 3) := by decide +kernel
theorem d17_3 : decode jdk_42_method_154_code 3 = .ok (.ifCond .eq 14, 3) := by decide +kernel
theorem d17_6 : decode jdk_42_method_154_code 6 = .ok (.aload_n 0, 1) := by decide +kernel
theorem d17_7 : decode jdk_42_method_154_code 7 = .ok (.getfield 15, 3) := by decide +kernel
theorem d17_10 : decode jdk_42_method_154_code 10 = .ok (.ifCond .ne 7, 3) := by decide +kernel
theorem d17_13 : decode jdk_42_method_154_code 13 = .ok (.iconst 1, 1) := by decide +kernel
theorem d17_14 : decode jdk_42_method_154_code 14 = .ok (.goto 4, 3) := by decide +kernel
theorem d17_18 : decode jdk_42_method_154_code 18 = .ok (.ireturn, 1) := by decide +kernel
theorem ef_17_R (m : MethodId) (x0 : Addr) : entryFrame m #[(.ref x0)] 1 = mkF m 0 #[.val (.ref x0)] [] := by first | (simp [entryFrame, mkF, argsToLocals, Value.category]; done) | rfl
-- java/lang/String.isLatin1
set_option maxRecDepth 65536 in
set_option maxHeartbeats 4000000 in
theorem au_23 (l : Launch) (Z : State) (a0 : Array Value) (hw : ∀ d ∈ tables_1, d.before a0 Z = true) (x0 : Addr) (gz1 : Int32) (gv5 : Value) (h0 : Heap) (n0 : Nat) (Z0 : n0 ≤ h0.size) (O0 : Old Z n0 h0) (G : Glob Z gz1 gv5) (P1 : Fld Z h0 x0 "java/lang/String" "coder" "B" (.int 0)) :
    Ctr l Z (⟨"java/lang/String", "isLatin1", "()Z"⟩ : MethodName) jdk_42_method_154_code 1 (some .boolean) ({ frames := 0, cells := 0, slots := 0, locals := 0 } : Room) #[(.ref x0)] h0 (fun v h L => v = some (.int 1) ∧ Fr n0 L ∧ h = h0) := by
  refine Ctr.of (plainFor_of_name pn_c1) ?_
  intro p e s m below meth c T0 hx hZ hby hml hown hnm hret hlk e0 es X0
  have G' := G
  obtain ⟨G0, -, G2, -⟩ := G'
  refine Go.cast (ef_17_R m x0) ?_
  generalize hFF : EndN s _ _ _ = FF
  have fk1 : Sta Z h0 "java/lang/String" "COMPACT_STRINGS" "Z" (.int gz1) := G0.ext O0.2
  refine Go.getS X0 hx hZ hown (host := "") (Or.inl (tw_55 hw)) Via.refl e0 fk1 (pc' := 3) rfl (hb hby d17_0) ?_
  intro T2 e2 X2
  refine Go.ifNo X2 hx (pc' := 6) rfl (hb hby d17_3) (feq G2).1 ?_
  refine Go.aloadN X2 hx (pc' := 7) rfl (hb hby d17_6) rfl rfl ?_
  refine Go.getF X2 hx hZ hown (host := "") (Or.inl (tw_29 hw)) Via.refl e2 P1 (pc' := 10) rfl (hb hby d17_7) ?_
  intro T3 e3 X3
  refine Go.ifNo X3 hx (pc' := 13) rfl (hb hby d17_10) (by decide) ?_
  refine Go.iconst X3 hx (pc' := 14) rfl (hb hby d17_13) (v := (1 : Int32)) rfl ?_
  refine Go.goto X3 hx (pc' := 18) (hb hby d17_14) (by decide) (by decide) ?_
  subst hFF
  refine Go.retN X3 hx hlk (t := .boolean) hret (by simp) (hb hby d17_18) (by decide) (by decide) ?_
  rw [e3]
  exact ⟨(congrArg (fun z => some (Value.int z)) (by decide : nar .boolean (1 : Int32) = (1 : Int32))), (Fr.nil n0), rfl⟩
theorem pd_12 : parseMethodDescriptor "()Z" = some ⟨[], some .boolean⟩ := by decide +kernel
theorem d14_28 : decode jdk_42_method_92_code 28 = .ok (.invokevirtual 492, 3) := by decide +kernel
theorem d14_31 : decode jdk_42_method_92_code 31 = .ok (.ifCond .eq 16, 3) := by decide +kernel
theorem d14_34 : decode jdk_42_method_92_code 34 = .ok (.aload_n 0, 1) := by decide +kernel
theorem d14_35 : decode jdk_42_method_92_code 35 = .ok (.getfield 9, 3) := by decide +kernel
theorem d14_38 : decode jdk_42_method_92_code 38 = .ok (.iload_n 1, 1) := by decide +kernel
theorem d14_39 : decode jdk_42_method_92_code 39 = .ok (.iload 4, 2) := by decide +kernel
theorem d18_0 : decode jdk_43_method_47_code 0 = .ok (.iload_n 2, 1) := by decide +kernel
theorem d18_1 : decode jdk_43_method_47_code 1 = .ok (.ifCond .ne 6, 3) := by decide +kernel
theorem d18_7 : decode jdk_43_method_47_code 7 = .ok (.new 1, 3) := by decide +kernel
theorem d18_10 : decode jdk_43_method_47_code 10 = .ok (.dup, 1) := by decide +kernel
theorem d18_11 : decode jdk_43_method_47_code 11 = .ok (.aload_n 0, 1) := by decide +kernel
theorem d18_12 : decode jdk_43_method_47_code 12 = .ok (.iload_n 1, 1) := by decide +kernel
theorem d18_13 : decode jdk_43_method_47_code 13 = .ok (.iload_n 1, 1) := by decide +kernel
theorem d18_14 : decode jdk_43_method_47_code 14 = .ok (.iload_n 2, 1) := by decide +kernel
theorem d18_15 : decode jdk_43_method_47_code 15 = .ok (.iadd, 1) := by decide +kernel
theorem d19_0 : decode jdk_65_method_132_code 0 = .ok (.iload_n 1, 1) := by decide +kernel
theorem d19_1 : decode jdk_65_method_132_code 1 = .ok (.ifCond .ne 9, 3) := by decide +kernel
theorem d19_4 : decode jdk_65_method_132_code 4 = .ok (.iload_n 2, 1) := by decide +kernel
theorem d19_5 : decode jdk_65_method_132_code 5 = .ok (.aload_n 0, 1) := by decide +kernel
theorem d19_6 : decode jdk_65_method_132_code 6 = .ok (.arraylength, 1) := by decide +kernel
theorem d19_7 : decode jdk_65_method_132_code 7 = .ok (.if_icmp .eq 10, 3) := by decide +kernel
theorem d19_10 : decode jdk_65_method_132_code 10 = .ok (.aload_n 0, 1) := by decide +kernel
theorem d19_11 : decode jdk_65_method_132_code 11 = .ok (.iload_n 1, 1) := by decide +kernel
theorem d19_12 : decode jdk_65_method_132_code 12 = .ok (.iload_n 2, 1) := by decide +kernel
theorem d20_0 : decode jdk_65_method_133_code 0 = .ok (.iload_n 1, 1) := by decide +kernel
theorem d20_1 : decode jdk_65_method_133_code 1 = .ok (.iload_n 2, 1) := by decide +kernel
theorem d21_0 : decode jdk_65_method_131_code 0 = .ok (.iload_n 1, 1) := by decide +kernel
theorem d21_1 : decode jdk_65_method_131_code 1 = .ok (.iload_n 0, 1) := by decide +kernel
theorem d21_2 : decode jdk_65_method_131_code 2 = .ok (.if_icmp .ge 35, 3) := by decide +kernel
theorem d21_37 : decode jdk_65_method_131_code 37 = .ok (.return_, 1) := by decide +kernel
theorem ef_21_II (m : MethodId) (x0 : Int32) (x1 : Int32) : entryFrame m #[(.int x0), (.int x1)] 2 = mkF m 0 #[.val (.int x0), .val (.int x1)] [] := by first | (simp [entryFrame, mkF, argsToLocals, Value.category]; done) | rfl
theorem pn_c4 : plainName "java/util/Arrays" = true := by first | (simp [plainName, overriddenIn]; done) | decide +kernel
-- java/util/Arrays.checkLength
set_option maxRecDepth 65536 in
set_option maxHeartbeats 4000000 in
theorem au_27 (l : Launch) (Z : State) (a0 : Array Value) (hw : ∀ d ∈ tables_1, d.before a0 Z = true)  (h0 : Heap) (n0 : Nat) (Z0 : n0 ≤ h0.size) :
    Ctr l Z (⟨"java/util/Arrays", "checkLength", "(II)V"⟩ : MethodName) jdk_65_method_131_code 2 none ({ frames := 0, cells := 0, slots := 0, locals := 0 } : Room) #[(.int 0), (.int 3)] h0 (fun v h L => v = none ∧ Fr n0 L ∧ h = h0) := by
  refine Ctr.of (plainFor_of_name pn_c4) ?_
  intro p e s m below meth c T0 hx hZ hby hml hown hnm hret hlk e0 es X0
  refine Go.cast (ef_21_II m (0 : Int32) (3 : Int32)) ?_
  generalize hFF : EndN s _ _ _ = FF
  refine Go.iloadN X0 hx (pc' := 1) rfl (hb hby d21_0) rfl ?_
  refine Go.iloadN X0 hx (pc' := 2) rfl (hb hby d21_1) rfl ?_
  refine Go.icmpYes X0 hx (pc' := 37) (hb hby d21_2) (by decide) (by decide) (by decide) ?_
  subst hFF
  refine Go.ret0 X0 hx hlk hret (hb hby d21_37) (by decide) (by decide) ?_
  rw [e0]
  exact ⟨rfl, (Fr.nil n0), rfl⟩
theorem pd_13 : parseMethodDescriptor "(II)V" = some ⟨[.int, .int], none⟩ := by decide +kernel
theorem d20_2 : decode jdk_65_method_133_code 2 = .ok (.invokestatic 343, 3) := by decide +kernel
theorem d20_5 : decode jdk_65_method_133_code 5 = .ok (.iload_n 2, 1) := by decide +kernel
theorem d20_6 : decode jdk_65_method_133_code 6 = .ok (.iload_n 1, 1) := by decide +kernel
theorem d20_7 : decode jdk_65_method_133_code 7 = .ok (.isub, 1) := by decide +kernel
theorem d20_8 : decode jdk_65_method_133_code 8 = .ok (.istore_n 3, 1) := by decide +kernel
theorem d20_9 : decode jdk_65_method_133_code 9 = .ok (.iload_n 3, 1) := by decide +kernel
theorem d20_10 : decode jdk_65_method_133_code 10 = .ok (.newarray .byte, 2) := by decide +kernel
theorem d20_12 : decode jdk_65_method_133_code 12 = .ok (.astore 4, 2) := by decide +kernel
theorem d20_14 : decode jdk_65_method_133_code 14 = .ok (.aload_n 0, 1) := by decide +kernel
theorem d20_15 : decode jdk_65_method_133_code 15 = .ok (.iload_n 1, 1) := by decide +kernel
theorem d20_16 : decode jdk_65_method_133_code 16 = .ok (.aload 4, 2) := by decide +kernel
theorem d20_18 : decode jdk_65_method_133_code 18 = .ok (.iconst 0, 1) := by decide +kernel
theorem d20_19 : decode jdk_65_method_133_code 19 = .ok (.aload_n 0, 1) := by decide +kernel
theorem d20_20 : decode jdk_65_method_133_code 20 = .ok (.arraylength, 1) := by decide +kernel
theorem d20_21 : decode jdk_65_method_133_code 21 = .ok (.iload_n 1, 1) := by decide +kernel
theorem d20_22 : decode jdk_65_method_133_code 22 = .ok (.isub, 1) := by decide +kernel
theorem d20_23 : decode jdk_65_method_133_code 23 = .ok (.iload_n 3, 1) := by decide +kernel
theorem d22_0 : decode jdk_29_method_69_code 0 = .ok (.iload_n 0, 1) := by decide +kernel
theorem d22_1 : decode jdk_29_method_69_code 1 = .ok (.iload_n 1, 1) := by decide +kernel
theorem d22_2 : decode jdk_29_method_69_code 2 = .ok (.if_icmp .gt 7, 3) := by decide +kernel
theorem d22_9 : decode jdk_29_method_69_code 9 = .ok (.iload_n 1, 1) := by decide +kernel
theorem d22_10 : decode jdk_29_method_69_code 10 = .ok (.ireturn, 1) := by decide +kernel
theorem ef_22_II (m : MethodId) (x0 : Int32) (x1 : Int32) : entryFrame m #[(.int x0), (.int x1)] 2 = mkF m 0 #[.val (.int x0), .val (.int x1)] [] := by first | (simp [entryFrame, mkF, argsToLocals, Value.category]; done) | rfl
-- java/lang/Math.min
set_option maxRecDepth 65536 in
set_option maxHeartbeats 4000000 in
theorem au_28 (l : Launch) (Z : State) (a0 : Array Value) (hw : ∀ d ∈ tables_1, d.before a0 Z = true)  (h0 : Heap) (n0 : Nat) (Z0 : n0 ≤ h0.size) :
    Ctr l Z (⟨"java/lang/Math", "min", "(II)I"⟩ : MethodName) jdk_29_method_69_code 2 (some .int) ({ frames := 0, cells := 0, slots := 0, locals := 0 } : Room) #[(.int 4), (.int 3)] h0 (fun v h L => v = some (.int 3) ∧ Fr n0 L ∧ h = h0) := by
  refine Ctr.of (Jvm.Free.JP.mathPlain rfl (by decide +kernel)) ?_
  intro p e s m below meth c T0 hx hZ hby hml hown hnm hret hlk e0 es X0
  refine Go.cast (ef_22_II m (4 : Int32) (3 : Int32)) ?_
  generalize hFF : EndN s _ _ _ = FF
  refine Go.iloadN X0 hx (pc' := 1) rfl (hb hby d22_0) rfl ?_
  refine Go.iloadN X0 hx (pc' := 2) rfl (hb hby d22_1) rfl ?_
  refine Go.icmpYes X0 hx (pc' := 9) (hb hby d22_2) (by decide) (by decide) (by decide) ?_
  refine Go.iloadN X0 hx (pc' := 10) rfl (hb hby d22_9) rfl ?_
  subst hFF
  refine Go.retI X0 hx hlk hret (hb hby d22_10) (by decide) (by decide) ?_
  rw [e0]
  exact ⟨rfl, (Fr.nil n0), rfl⟩
theorem pd_14 : parseMethodDescriptor "(II)I" = some ⟨[.int, .int], some .int⟩ := by decide +kernel
theorem d20_24 : decode jdk_65_method_133_code 24 = .ok (.invokestatic 304, 3) := by decide +kernel
theorem d20_27 : decode jdk_65_method_133_code 27 = .ok (.invokestatic 150, 3) := by decide +kernel
theorem d20_30 : decode jdk_65_method_133_code 30 = .ok (.aload 4, 2) := by decide +kernel
theorem d20_32 : decode jdk_65_method_133_code 32 = .ok (.areturn, 1) := by decide +kernel
theorem ef_20_RII (m : MethodId) (x0 : Addr) (x1 : Int32) (x2 : Int32) : entryFrame m #[(.ref x0), (.int x1), (.int x2)] 5 = mkF m 0 #[.val (.ref x0), .val (.int x1), .val (.int x2), .unset, .unset] [] := by first | (simp [entryFrame, mkF, argsToLocals, Value.category]; done) | rfl
-- java/util/Arrays.copyOfRangeByte
set_option maxRecDepth 65536 in
set_option maxHeartbeats 4000000 in
theorem au_26 (l : Launch) (Z : State) (a0 : Array Value) (hw : ∀ d ∈ tables_1, d.before a0 Z = true) (x0 : Addr) (kk0 : ClassId) (h0 : Heap) (n0 : Nat) (Z0 : n0 ≤ h0.size) (P0 : Arv Z h0 x0 kk0 .byte (4 : Int32) [(.int 47), (.int 117), (.int 105), (.int 47)] (.int (0 : Int32))) :
    Ctr l Z (⟨"java/util/Arrays", "copyOfRangeByte", "([BII)[B"⟩ : MethodName) jdk_65_method_133_code 5 (some (.array .byte)) ({ frames := 1, cells := 1, slots := 3, locals := 18 } : Room) #[(.ref x0), (.int 0), (.int 3)] h0 (fun v h L => ∃ (b2 : Addr) (k2 : ClassId), v = some (.ref b2) ∧ Fr n0 L ∧ Keep h0 h [] ∧ h0.size ≤ b2 ∧ Arv Z h b2 k2 .byte (3 : Int32) [(.int 47), (.int 117), (.int 105)] (.int 0) ∧ Exa Z h b2 "[B") := by
  refine Ctr.of (plainFor_of_name pn_c4) ?_
  intro p e s m below meth c T0 hx hZ hby hml hown hnm hret hlk e0 es X0
  refine Go.cast (ef_20_RII m x0 (0 : Int32) (3 : Int32)) ?_
  generalize hFF : EndN s _ _ _ = FF
  refine Go.iloadN X0 hx (pc' := 1) rfl (hb hby d20_0) rfl ?_
  refine Go.iloadN X0 hx (pc' := 2) rfl (hb hby d20_1) rfl ?_
  refine Go.callS X0 hx hZ hown (tw_100 hw) (tw_101 hw) (tw_95 hw) (tw_102 hw) (by decide) (tw_102 hw) (tw_95 hw) (au_27 l Z a0 hw h0 n0 Z0) e0 (argsL := [(.int 0), (.int 3)]) (rest := []) (pc' := 5) rfl (by rw [hml]; rfl) (lenOf pd_13 rfl) rfl rfl (W := 0) (Nat.le_of_eq rfl) (by decide) (by decide) (by decide) (by decide) (hb hby d20_2) ?_
  intro v1 T1 L1 q1 X1
  obtain ⟨rfl, N1, e1⟩ := q1
  show Go _ _ _ _ (T1.setTop (mkF m 5 #[.val (.ref x0), .val (.int 0), .val (.int 3), .unset, .unset] []))
  refine Go.iloadN X1 hx (pc' := 6) rfl (hb hby d20_5) rfl ?_
  refine Go.iloadN X1 hx (pc' := 7) rfl (hb hby d20_6) rfl ?_
  refine Go.isub X1 hx (pc' := 8) rfl (hb hby d20_7) ?_
  rw [show ((3 : Int32) - (0 : Int32)) = (3 : Int32) from by decide]
  refine Go.istoreN X1 hx (pc' := 9) rfl (hb hby d20_8) (Ls' := #[.val (.ref x0), .val (.int 0), .val (.int 3), .val (.int 3), .unset]) rfl ?_
  refine Go.iloadN X1 hx (pc' := 10) rfl (hb hby d20_9) rfl ?_
  refine Go.newarray X1 hx hZ (ty := .byte) rfl (tw_23 hw) e1 (by decide) (cap := 3) (by decide) (by decide) (by decide) (by decide) (ad := "[B") (by decide) 3 (pc' := 12) rfl (hb hby d20_10) ?_
  intro T2 h2 b2 k2 e2 E2 g2 V2 A2 X2
  have V2' : Arv Z h2 b2 k2 .byte (3 : Int32) [(.int 0), (.int 0), (.int 0)] (.int 0) := V2
  refine Go.astore X2 hx (pc' := 14) rfl (hb hby d20_12) (Ls' := #[.val (.ref x0), .val (.int 0), .val (.int 3), .val (.int 3), .val (.ref b2)]) rfl rfl ?_
  refine Go.aloadN X2 hx (pc' := 15) rfl (hb hby d20_14) rfl rfl ?_
  refine Go.iloadN X2 hx (pc' := 16) rfl (hb hby d20_15) rfl ?_
  refine Go.aload X2 hx (pc' := 18) rfl (hb hby d20_16) rfl rfl ?_
  refine Go.iconst X2 hx (pc' := 19) rfl (hb hby d20_18) (v := (0 : Int32)) rfl ?_
  refine Go.aloadN X2 hx (pc' := 20) rfl (hb hby d20_19) rfl rfl ?_
  have fk3 := (P0.ext E2)
  refine Go.arraylength X2 hx hZ e2 fk3 (pc' := 21) rfl (hb hby d20_20) ?_
  refine Go.iloadN X2 hx (pc' := 22) rfl (hb hby d20_21) rfl ?_
  refine Go.isub X2 hx (pc' := 23) rfl (hb hby d20_22) ?_
  rw [show ((4 : Int32) - (0 : Int32)) = (4 : Int32) from by decide]
  refine Go.iloadN X2 hx (pc' := 24) rfl (hb hby d20_23) rfl ?_
  have Kp5 : Keep h0 h2 [] := ((Keep.refl h0 []).ext E2)
  have Zn4 : n0 ≤ h2.size := Nat.le_trans Z0 Kp5.1
  refine Go.callS X2 hx hZ hown (tw_103 hw) (tw_104 hw) (tw_105 hw) (tw_106 hw) (by decide) (tw_106 hw) (tw_105 hw) (au_28 l Z a0 hw h2 n0 Zn4) e2 (argsL := [(.int 4), (.int 3)]) (rest := [(.int 0), (.ref b2), (.int 0), (.ref x0)]) (pc' := 27) rfl (by rw [hml]; rfl) (lenOf pd_14 rfl) rfl rfl (W := 4) (Nat.le_of_eq rfl) (by decide) (by decide) (by decide) (by decide) (hb hby d20_24) ?_
  intro v6 T6 L6 q6 X6
  obtain ⟨rfl, N6, e6⟩ := q6
  show Go _ _ _ _ (T6.setTop (mkF m 27 #[.val (.ref x0), .val (.int 0), .val (.int 3), .val (.int 3), .val (.ref b2)] [(.int 3), (.int 0), (.ref b2), (.int 0), (.ref x0)]))
  have sz8 : h0.size ≤ b2 := Nat.le_trans (Keep.refl h0 []).1 (Nat.le_of_eq g2.symm)
  have ge7 : n0 ≤ b2 := Nat.le_trans Z0 sz8
  refine Go.arraycopy X6 hx hZ hown (tw_107 hw) (tw_110 hw) (tw_108 hw) (tw_109 hw) e6 fk3 V2' rfl (sp := (0 : Int32)) (dp := (0 : Int32)) (nn := (3 : Int32)) (us := [(.int 47), (.int 117), (.int 105)]) (by decide) (by decide) (by decide) (by decide) (by decide) rfl (Nat.le_of_ble_eq_true rfl) (Fr.app (Fr.app (Fr.nil n0) N1) N6) ge7 (by decide) (W := 0) (by rw [hml]; rfl) (Nat.le_of_eq rfl) (by decide) (pc' := 30) rfl (hb hby d20_27) ?_
  intro T9 h9 L9 e9 N9 K9 V9 X9
  have V9' : Arv Z h9 b2 k2 .byte (3 : Int32) [(.int 47), (.int 117), (.int 105)] (.int 0) := V9
  refine Go.aload X9 hx (pc' := 32) rfl (hb hby d20_30) rfl rfl ?_
  subst hFF
  refine Go.retR X9 hx hlk (t := (.array .byte)) hret rfl rfl (hb hby d20_32) (by decide) (by decide) ?_
  rw [e9]
  have fk10 : Exa Z h9 b2 "[B" := (A2.keep K9)
  have Kp11 : Keep h0 h9 [] := (Kp5.trans K9 (allS (Or.inr sz8) all0))
  exact ⟨b2, k2, rfl, N9, Kp11, sz8, V9', fk10⟩
theorem pd_15 : parseMethodDescriptor "([BII)[B" = some ⟨[(.array .byte), .int, .int], some (.array .byte)⟩ := by decide +kernel
theorem d19_13 : decode jdk_65_method_132_code 13 = .ok (.invokestatic 339, 3) := by decide +kernel
theorem d19_16 : decode jdk_65_method_132_code 16 = .ok (.areturn, 1) := by decide +kernel
theorem ef_19_RII (m : MethodId) (x0 : Addr) (x1 : Int32) (x2 : Int32) : entryFrame m #[(.ref x0), (.int x1), (.int x2)] 3 = mkF m 0 #[.val (.ref x0), .val (.int x1), .val (.int x2)] [] := by first | (simp [entryFrame, mkF, argsToLocals, Value.category]; done) | rfl
-- java/util/Arrays.copyOfRange
set_option maxRecDepth 65536 in
set_option maxHeartbeats 4000000 in
theorem au_25 (l : Launch) (Z : State) (a0 : Array Value) (hw : ∀ d ∈ tables_1, d.before a0 Z = true) (x0 : Addr) (kk0 : ClassId) (h0 : Heap) (n0 : Nat) (Z0 : n0 ≤ h0.size) (P0 : Arv Z h0 x0 kk0 .byte (4 : Int32) [(.int 47), (.int 117), (.int 105), (.int 47)] (.int (0 : Int32))) :
    Ctr l Z (⟨"java/util/Arrays", "copyOfRange", "([BII)[B"⟩ : MethodName) jdk_65_method_132_code 3 (some (.array .byte)) ({ frames := 2, cells := 1, slots := 3, locals := 34 } : Room) #[(.ref x0), (.int 0), (.int 3)] h0 (fun v h L => ∃ (b1_0 : Addr) (k1_0 : ClassId), v = some (.ref b1_0) ∧ Fr n0 L ∧ Keep h0 h [] ∧ h0.size ≤ b1_0 ∧ Arv Z h b1_0 k1_0 .byte (3 : Int32) [(.int 47), (.int 117), (.int 105)] (.int 0) ∧ Exa Z h b1_0 "[B") := by
  refine Ctr.of (plainFor_of_name pn_c4) ?_
  intro p e s m below meth c T0 hx hZ hby hml hown hnm hret hlk e0 es X0
  refine Go.cast (ef_19_RII m x0 (0 : Int32) (3 : Int32)) ?_
  generalize hFF : EndN s _ _ _ = FF
  refine Go.iloadN X0 hx (pc' := 1) rfl (hb hby d19_0) rfl ?_
  refine Go.ifNo X0 hx (pc' := 4) rfl (hb hby d19_1) (by decide) ?_
  refine Go.iloadN X0 hx (pc' := 5) rfl (hb hby d19_4) rfl ?_
  refine Go.aloadN X0 hx (pc' := 6) rfl (hb hby d19_5) rfl rfl ?_
  refine Go.arraylength X0 hx hZ e0 P0 (pc' := 7) rfl (hb hby d19_6) ?_
  refine Go.icmpNo X0 hx (pc' := 10) rfl (hb hby d19_7) (by decide) ?_
  refine Go.aloadN X0 hx (pc' := 11) rfl (hb hby d19_10) rfl rfl ?_
  refine Go.iloadN X0 hx (pc' := 12) rfl (hb hby d19_11) rfl ?_
  refine Go.iloadN X0 hx (pc' := 13) rfl (hb hby d19_12) rfl ?_
  refine Go.callS X0 hx hZ hown (tw_97 hw) (tw_98 hw) (tw_95 hw) (tw_99 hw) (by decide) (tw_99 hw) (tw_95 hw) (au_26 l Z a0 hw x0 kk0 h0 n0 Z0 P0) e0 (argsL := [(.ref x0), (.int 0), (.int 3)]) (rest := []) (pc' := 16) rfl (by rw [hml]; rfl) (lenOf pd_15 rfl) rfl rfl (W := 0) (Nat.le_of_eq rfl) (by decide) (by decide) (by decide) (by decide) (hb hby d19_13) ?_
  intro v1 T1 L1 q1 X1
  obtain ⟨h1, e1⟩ : ∃ z, T1.heap = z := ⟨_, rfl⟩
  rw [e1] at q1
  obtain ⟨b1_0, k1_0, rfl, N1, K1, s1_0, F1_0, F1_1⟩ := q1
  show Go _ _ _ _ (T1.setTop (mkF m 16 #[.val (.ref x0), .val (.int 0), .val (.int 3)] [(.ref b1_0)]))
  subst hFF
  refine Go.retR X1 hx hlk (t := (.array .byte)) hret rfl rfl (hb hby d19_16) (by decide) (by decide) ?_
  rw [e1]
  have Kp2 : Keep h0 h1 [] := ((Keep.refl h0 []).trans K1 all0)
  have sz3 : h0.size ≤ b1_0 := Nat.le_trans (Keep.refl h0 []).1 s1_0
  exact ⟨b1_0, k1_0, rfl, (Fr.app (Fr.nil n0) N1), Kp2, sz3, F1_0, F1_1⟩
theorem d18_16 : decode jdk_43_method_47_code 16 = .ok (.invokestatic 232, 3) := by decide +kernel
theorem d18_19 : decode jdk_43_method_47_code 19 = .ok (.iconst 0, 1) := by decide +kernel
theorem d23_0 : decode jdk_42_method_151_code 0 = .ok (.aload_n 0, 1) := by decide +kernel
theorem d23_1 : decode jdk_42_method_151_code 1 = .ok (.invokespecial 1, 3) := by decide +kernel
theorem d23_4 : decode jdk_42_method_151_code 4 = .ok (.aload_n 0, 1) := by decide +kernel
theorem d23_5 : decode jdk_42_method_151_code 5 = .ok (.aload_n 1, 1) := by decide +kernel
theorem d23_6 : decode jdk_42_method_151_code 6 = .ok (.putfield 9, 3) := by decide +kernel
theorem d23_9 : decode jdk_42_method_151_code 9 = .ok (.aload_n 0, 1) := by decide +kernel
theorem d23_10 : decode jdk_42_method_151_code 10 = .ok (.iload_n 2, 1) := by decide +kernel
theorem d23_11 : decode jdk_42_method_151_code 11 = .ok (.putfield 15, 3) := by decide +kernel
theorem d23_14 : decode jdk_42_method_151_code 14 = .ok (.return_, 1) := by decide +kernel
theorem ef_23_RRI (m : MethodId) (x0 : Addr) (x1 : Addr) (x2 : Int32) : entryFrame m #[(.ref x0), (.ref x1), (.int x2)] 3 = mkF m 0 #[.val (.ref x0), .val (.ref x1), .val (.int x2)] [] := by first | (simp [entryFrame, mkF, argsToLocals, Value.category]; done) | rfl
-- java/lang/String.init
set_option maxRecDepth 65536 in
set_option maxHeartbeats 4000000 in
theorem au_29 (l : Launch) (Z : State) (a0 : Array Value) (hw : ∀ d ∈ tables_1, d.before a0 Z = true) (x0 : Addr) (x1 : Addr) (h0 : Heap) (n0 : Nat) (Z0 : n0 ≤ h0.size) (P0 : Exa Z h0 x0 "java/lang/String") (P1 : Fld Z h0 x0 "java/lang/String" "coder" "B" (.int 0)) (P2 : Fld Z h0 x0 "java/lang/String" "value" "[B" .null) (g_x0 : n0 ≤ x0) :
    Ctr l Z (⟨"java/lang/String", "<init>", "([BB)V"⟩ : MethodName) jdk_42_method_151_code 3 none ({ frames := 1, cells := 0, slots := 0, locals := 12 } : Room) #[(.ref x0), (.ref x1), (.int 0)] h0 (fun v h L => v = none ∧ Fr n0 L ∧ Keep h0 h [x0] ∧ Exa Z h x0 "java/lang/String" ∧ Fld Z h x0 "java/lang/String" "coder" "B" (.int 0) ∧ Fld Z h x0 "java/lang/String" "value" "[B" (.ref x1)) := by
  refine Ctr.of (plainFor_of_name pn_c1) ?_
  intro p e s m below meth c T0 hx hZ hby hml hown hnm hret hlk e0 es X0
  refine Go.cast (ef_23_RRI m x0 x1 (0 : Int32)) ?_
  generalize hFF : EndN s _ _ _ = FF
  refine Go.aloadN X0 hx (pc' := 1) rfl (hb hby d23_0) rfl rfl ?_
  refine Go.initO X0 hx hZ hown (tw_19 hw) (tw_20 hw) (tw_21 hw) e0 (by decide) (W := 0) (by rw [hml]; rfl) (Nat.le_of_eq rfl) (by decide) (pc' := 4) rfl (hb hby d23_1) ?_
  intro T1 e1 X1
  refine Go.aloadN X1 hx (pc' := 5) rfl (hb hby d23_4) rfl rfl ?_
  refine Go.aloadN X1 hx (pc' := 6) rfl (hb hby d23_5) rfl rfl ?_
  refine Go.putF X1 hx hZ hown (host := "") (Or.inl (tw_28 hw)) Via.refl e1 P2 P0 (Or.inr ⟨(tw_24 hw), rfl, hnm⟩) (tw_9 hw) (ty := (.array .byte)) (by decide) rfl rfl (pc' := 9) rfl (hb hby d23_6) ?_
  intro T2 h2 e2 W2 F2 X2
  have N2 := Fr.snoc X2 (Fr.nil n0) g_x0
  refine Go.aloadN X2 hx (pc' := 10) rfl (hb hby d23_9) rfl rfl ?_
  refine Go.iloadN X2 hx (pc' := 11) rfl (hb hby d23_10) rfl ?_
  have fk3 : Fld Z h2 x0 "java/lang/String" "coder" "B" (.int 0) := (P1.other W2 (Or.inr (slot_ne (Or.inr (tw_25 hw)) (Or.inr (tw_24 hw)) (by decide) (t := .byte) (t' := (.array .byte)) (by decide) (by decide))))
  have fk4 : Exa Z h2 x0 "java/lang/String" := (P0.wr W2)
  refine Go.putFN X2 hx hZ hown (tw_29 hw) Via.refl e2 fk3 fk4 (Or.inr ⟨(tw_25 hw), rfl, hnm⟩) (tw_9 hw) (ty := .byte) (v' := (.int 0)) (by decide) (by decide) (by decide) (pc' := 14) rfl (hb hby d23_11) ?_
  intro T5 h5 e5 W5 F5 X5
  have N5 := Fr.snoc X5 N2 g_x0
  subst hFF
  refine Go.ret0 X5 hx hlk hret (hb hby d23_14) (by decide) (by decide) ?_
  rw [e5]
  have fk6 : Exa Z h5 x0 "java/lang/String" := (fk4.wr W5)
  have fk7 : Fld Z h5 x0 "java/lang/String" "value" "[B" (.ref x1) := (F2.other W5 (Or.inr (slot_ne (Or.inr (tw_24 hw)) (Or.inr (tw_25 hw)) (by decide) (t := (.array .byte)) (t' := .byte) (by decide) (by decide))))
  have Kp8 : Keep h0 h2 [x0] := ((Keep.refl h0 [x0]).wr W2 (Or.inl (List.mem_of_getElem? (i := 0) rfl)))
  have Kp9 : Keep h0 h5 [x0] := (Kp8.wr W5 (Or.inl (List.mem_of_getElem? (i := 0) rfl)))
  exact ⟨rfl, N5, Kp9, fk6, F5, fk7⟩
theorem pd_16 : parseMethodDescriptor "([BB)V" = some ⟨[(.array .byte), .byte], none⟩ := by decide +kernel
theorem d18_20 : decode jdk_43_method_47_code 20 = .ok (.invokespecial 112, 3) := by decide +kernel
theorem d18_23 : decode jdk_43_method_47_code 23 = .ok (.areturn, 1) := by decide +kernel
theorem ef_18_RII (m : MethodId) (x0 : Addr) (x1 : Int32) (x2 : Int32) : entryFrame m #[(.ref x0), (.int x1), (.int x2)] 3 = mkF m 0 #[.val (.ref x0), .val (.int x1), .val (.int x2)] [] := by first | (simp [entryFrame, mkF, argsToLocals, Value.category]; done) | rfl
-- java/lang/StringLatin1.newString
set_option maxRecDepth 65536 in
set_option maxHeartbeats 4000000 in
theorem au_24 (l : Launch) (Z : State) (a0 : Array Value) (hw : ∀ d ∈ tables_1, d.before a0 Z = true) (x0 : Addr) (kk0 : ClassId) (h0 : Heap) (n0 : Nat) (Z0 : n0 ≤ h0.size) (P0 : Arv Z h0 x0 kk0 .byte (4 : Int32) [(.int 47), (.int 117), (.int 105), (.int 47)] (.int (0 : Int32))) :
    Ctr l Z (⟨"java/lang/StringLatin1", "newString", "([BII)Ljava/lang/String;"⟩ : MethodName) jdk_43_method_47_code 3 (some (.object "java/lang/String")) ({ frames := 3, cells := 2, slots := 7, locals := 50 } : Room) #[(.ref x0), (.int 0), (.int 3)] h0 (fun v h L => ∃ (b1 : Addr) (b5_0 : Addr) (k5_0 : ClassId), v = some (.ref b1) ∧ Fr n0 L ∧ Keep h0 h [] ∧ h0.size ≤ b1 ∧ h0.size ≤ b5_0 ∧ b5_0 ≠ b1 ∧ Exa Z h b1 "java/lang/String" ∧ Fld Z h b1 "java/lang/String" "coder" "B" (.int 0) ∧ Fld Z h b1 "java/lang/String" "value" "[B" (.ref b5_0) ∧ Arv Z h b5_0 k5_0 .byte (3 : Int32) [(.int 47), (.int 117), (.int 105)] (.int 0) ∧ Exa Z h b5_0 "[B") := by
  refine Ctr.of (plainFor_of_name pn_c2) ?_
  intro p e s m below meth c T0 hx hZ hby hml hown hnm hret hlk e0 es X0
  refine Go.cast (ef_18_RII m x0 (0 : Int32) (3 : Int32)) ?_
  generalize hFF : EndN s _ _ _ = FF
  refine Go.iloadN X0 hx (pc' := 1) rfl (hb hby d18_0) rfl ?_
  refine Go.ifYes X0 hx (pc' := 7) (hb hby d18_1) (by decide) (by decide) (by decide) ?_
  refine Go.new X0 hx hZ hown (tw_92 hw) (tw_9 hw) (tw_10 hw) e0 (by decide) (by decide) (pc' := 10) rfl (hb hby d18_7) ?_
  intro T1 h1 b1 e1 E1 g1 A1 D1 X1
  have b1_value : Fld Z h1 b1 "java/lang/String" "value" "[B" .null := D1 (Or.inr (tw_24 hw)) (ty := (.array .byte)) (by decide)
  have b1_coder : Fld Z h1 b1 "java/lang/String" "coder" "B" (.int 0) := D1 (Or.inr (tw_25 hw)) (ty := .byte) (by decide)
  refine Go.dup X1 hx (pc' := 11) rfl (hb hby d18_10) rfl ?_
  refine Go.aloadN X1 hx (pc' := 12) rfl (hb hby d18_11) rfl rfl ?_
  refine Go.iloadN X1 hx (pc' := 13) rfl (hb hby d18_12) rfl ?_
  refine Go.iloadN X1 hx (pc' := 14) rfl (hb hby d18_13) rfl ?_
  refine Go.iloadN X1 hx (pc' := 15) rfl (hb hby d18_14) rfl ?_
  refine Go.iadd X1 hx (pc' := 16) rfl (hb hby d18_15) ?_
  rw [show ((0 : Int32) + (3 : Int32)) = (3 : Int32) from by decide]
  have Kp3 : Keep h0 h1 [] := ((Keep.refl h0 []).ext E1)
  have Zn2 : n0 ≤ h1.size := Nat.le_trans Z0 Kp3.1
  have fk4 := (P0.ext E1)
  refine Go.callS X1 hx hZ hown (tw_93 hw) (tw_94 hw) (tw_95 hw) (tw_96 hw) (by decide) (tw_96 hw) (tw_95 hw) (au_25 l Z a0 hw x0 kk0 h1 n0 Zn2 fk4) e1 (argsL := [(.ref x0), (.int 0), (.int 3)]) (rest := [(.ref b1), (.ref b1)]) (pc' := 19) rfl (by rw [hml]; rfl) (lenOf pd_15 rfl) rfl rfl (W := 2) (Nat.le_of_eq rfl) (by decide) (by decide) (by decide) (by decide) (hb hby d18_16) ?_
  intro v5 T5 L5 q5 X5
  obtain ⟨h5, e5⟩ : ∃ z, T5.heap = z := ⟨_, rfl⟩
  rw [e5] at q5
  obtain ⟨b5_0, k5_0, rfl, N5, K5, s5_0, F5_0, F5_1⟩ := q5
  show Go _ _ _ _ (T5.setTop (mkF m 19 #[.val (.ref x0), .val (.int 0), .val (.int 3)] [(.ref b5_0), (.ref b1), (.ref b1)]))
  refine Go.iconst X5 hx (pc' := 20) rfl (hb hby d18_19) (v := (0 : Int32)) rfl ?_
  have Kp7 : Keep h0 h5 [] := (Kp3.trans K5 all0)
  have Zn6 : n0 ≤ h5.size := Nat.le_trans Z0 Kp7.1
  have fk8 : Exa Z h5 b1 "java/lang/String" := (A1.keep K5)
  have fk9 : Fld Z h5 b1 "java/lang/String" "coder" "B" (.int 0) := (b1_coder.keep K5 nin0)
  have fk10 : Fld Z h5 b1 "java/lang/String" "value" "[B" .null := (b1_value.keep K5 nin0)
  have sz12 : h0.size ≤ b1 := Nat.le_trans (Keep.refl h0 []).1 (Nat.le_of_eq g1.symm)
  have ge11 : n0 ≤ b1 := Nat.le_trans Z0 sz12
  refine Go.callN X5 hx hZ hown rfl (tw_111 hw) (tw_112 hw) (tw_113 hw) (by decide) (tw_113 hw) (tw_10 hw) (au_29 l Z a0 hw b1 b5_0 h5 n0 Zn6 fk8 fk9 fk10 ge11) e5 (a := b1) (argsL := [(.ref b5_0), (.int 0)]) (rest := [(.ref b1)]) (pc' := 23) rfl (by rw [hml]; rfl) (lenOf pd_16 rfl) rfl rfl (W := 1) (Nat.le_of_eq rfl) (by decide) (by decide) (by decide) (by decide) (hb hby d18_20) ?_
  intro v13 T13 L13 q13 X13
  obtain ⟨h13, e13⟩ : ∃ z, T13.heap = z := ⟨_, rfl⟩
  rw [e13] at q13
  obtain ⟨rfl, N13, K13, F13_0, F13_1, F13_2⟩ := q13
  show Go _ _ _ _ (T13.setTop (mkF m 23 #[.val (.ref x0), .val (.int 0), .val (.int 3)] [(.ref b1)]))
  subst hFF
  refine Go.retR X13 hx hlk (t := (.object "java/lang/String")) hret rfl rfl (hb hby d18_23) (by decide) (by decide) ?_
  rw [e13]
  have ne14 : b1 ≠ b5_0 := Nat.ne_of_lt (Nat.lt_of_lt_of_le A1.lt s5_0)
  have fk15 := (F5_0.keep K13 (ninS (Ne.symm ne14) nin0))
  have fk16 : Exa Z h13 b5_0 "[B" := (F5_1.keep K13)
  have Kp17 : Keep h0 h13 [] := (Kp7.trans K13 (allS (Or.inr sz12) all0))
  have sz18 : h0.size ≤ b5_0 := Nat.le_trans Kp3.1 s5_0
  exact ⟨b1, b5_0, k5_0, rfl, (Fr.app (Fr.app (Fr.nil n0) N5) N13), Kp17, sz12, sz18, (Ne.symm ne14), F13_0, F13_1, F13_2, fk15, fk16⟩
theorem pd_17 : parseMethodDescriptor "([BII)Ljava/lang/String;" = some ⟨[(.array .byte), .int, .int], some (.object "java/lang/String")⟩ := by decide +kernel
theorem d14_41 : decode jdk_42_method_92_code 41 = .ok (.invokestatic 685, 3) := by decide +kernel
theorem d14_44 : decode jdk_42_method_92_code 44 = .ok (.goto 13, 3) := by decide +kernel
theorem d14_57 : decode jdk_42_method_92_code 57 = .ok (.areturn, 1) := by decide +kernel
theorem ef_14_RII (m : MethodId) (x0 : Addr) (x1 : Int32) (x2 : Int32) : entryFrame m #[(.ref x0), (.int x1), (.int x2)] 5 = mkF m 0 #[.val (.ref x0), .val (.int x1), .val (.int x2), .unset, .unset] [] := by first | (simp [entryFrame, mkF, argsToLocals, Value.category]; done) | rfl
-- java/lang/String.substring
set_option maxRecDepth 65536 in
set_option maxHeartbeats 4000000 in
theorem au_20 (l : Launch) (Z : State) (a0 : Array Value) (hw : ∀ d ∈ tables_1, d.before a0 Z = true) (x0 : Addr) (x1 : Addr) (kk0 : ClassId) (gz1 : Int32) (gv5 : Value) (h0 : Heap) (n0 : Nat) (Z0 : n0 ≤ h0.size) (O0 : Old Z n0 h0) (G : Glob Z gz1 gv5) (P0 : Exa Z h0 x0 "java/lang/String") (P1 : Fld Z h0 x0 "java/lang/String" "coder" "B" (.int 0)) (P2 : Fld Z h0 x0 "java/lang/String" "value" "[B" (.ref x1)) (P3 : Arv Z h0 x1 kk0 .byte (4 : Int32) [(.int 47), (.int 117), (.int 105), (.int 47)] (.int (0 : Int32))) :
    Ctr l Z (⟨"java/lang/String", "substring", "(II)Ljava/lang/String;"⟩ : MethodName) jdk_42_method_92_code 5 (some (.object "java/lang/String")) ({ frames := 4, cells := 2, slots := 7, locals := 64 } : Room) #[(.ref x0), (.int 0), (.int 3)] h0 (fun v h L => ∃ (b5_0 : Addr) (b5_1 : Addr) (k5_0 : ClassId), v = some (.ref b5_0) ∧ Fr n0 L ∧ Keep h0 h [] ∧ h0.size ≤ b5_0 ∧ h0.size ≤ b5_1 ∧ b5_1 ≠ b5_0 ∧ Exa Z h b5_0 "java/lang/String" ∧ Fld Z h b5_0 "java/lang/String" "coder" "B" (.int 0) ∧ Fld Z h b5_0 "java/lang/String" "value" "[B" (.ref b5_1) ∧ Arv Z h b5_1 k5_0 .byte (3 : Int32) [(.int 47), (.int 117), (.int 105)] (.int 0) ∧ Exa Z h b5_1 "[B") := by
  refine Ctr.of (plainFor_of_name pn_c1) ?_
  intro p e s m below meth c T0 hx hZ hby hml hown hnm hret hlk e0 es X0
  refine Go.cast (ef_14_RII m x0 (0 : Int32) (3 : Int32)) ?_
  generalize hFF : EndN s _ _ _ = FF
  refine Go.aloadN X0 hx (pc' := 1) rfl (hb hby d14_0) rfl rfl ?_
  refine Go.callV X0 hx hZ hown (tw_45 hw) (tw_46 hw) (notFace_of_selects (args := #[]) (mvT hZ (tw_48 hw))) (tw_48 hw) (tw_47 hw) (by decide) (tw_49 hw) (tw_10 hw) (au_14 l Z a0 hw x0 x1 kk0 gz1 gv5 h0 n0 Z0 O0 G P0 P1 P2 P3) e0 P0 (argsL := []) (rest := []) (pc' := 4) rfl (by rw [hml]; rfl) (lenOf pd_5 rfl) rfl rfl (W := 0) (Nat.le_of_eq rfl) (by decide) (by decide) (by decide) (by decide) (hb hby d14_1) ?_
  intro v1 T1 L1 q1 X1
  obtain ⟨rfl, N1, e1⟩ := q1
  show Go _ _ _ _ (T1.setTop (mkF m 4 #[.val (.ref x0), .val (.int 0), .val (.int 3), .unset, .unset] [(.int 4)]))
  refine Go.istoreN X1 hx (pc' := 5) rfl (hb hby d14_4) (Ls' := #[.val (.ref x0), .val (.int 0), .val (.int 3), .val (.int 4), .unset]) rfl ?_
  refine Go.iloadN X1 hx (pc' := 6) rfl (hb hby d14_5) rfl ?_
  refine Go.iloadN X1 hx (pc' := 7) rfl (hb hby d14_6) rfl ?_
  refine Go.iloadN X1 hx (pc' := 8) rfl (hb hby d14_7) rfl ?_
  refine Go.callS X1 hx hZ hown (tw_76 hw) (tw_77 hw) (tw_10 hw) (tw_78 hw) (by decide) (tw_78 hw) (tw_10 hw) (au_21 l Z a0 hw gz1 gv5 h0 n0 Z0 O0 G) e1 (argsL := [(.int 0), (.int 3), (.int 4)]) (rest := []) (pc' := 11) rfl (by rw [hml]; rfl) (lenOf pd_11 rfl) rfl rfl (W := 0) (Nat.le_of_eq rfl) (by decide) (by decide) (by decide) (by decide) (hb hby d14_8) ?_
  intro v2 T2 L2 q2 X2
  obtain ⟨rfl, N2, e2⟩ := q2
  show Go _ _ _ _ (T2.setTop (mkF m 11 #[.val (.ref x0), .val (.int 0), .val (.int 3), .val (.int 4), .unset] []))
  refine Go.iloadN X2 hx (pc' := 12) rfl (hb hby d14_11) rfl ?_
  refine Go.ifNo X2 hx (pc' := 15) rfl (hb hby d14_12) (by decide) ?_
  refine Go.iloadN X2 hx (pc' := 16) rfl (hb hby d14_15) rfl ?_
  refine Go.iloadN X2 hx (pc' := 17) rfl (hb hby d14_16) rfl ?_
  refine Go.icmpYes X2 hx (pc' := 22) (hb hby d14_17) (by decide) (by decide) (by decide) ?_
  refine Go.iloadN X2 hx (pc' := 23) rfl (hb hby d14_22) rfl ?_
  refine Go.iloadN X2 hx (pc' := 24) rfl (hb hby d14_23) rfl ?_
  refine Go.isub X2 hx (pc' := 25) rfl (hb hby d14_24) ?_
  rw [show ((3 : Int32) - (0 : Int32)) = (3 : Int32) from by decide]
  refine Go.istore X2 hx (pc' := 27) rfl (hb hby d14_25) (Ls' := #[.val (.ref x0), .val (.int 0), .val (.int 3), .val (.int 4), .val (.int 3)]) rfl ?_
  refine Go.aloadN X2 hx (pc' := 28) rfl (hb hby d14_27) rfl rfl ?_
  refine Go.callV X2 hx hZ hown (tw_84 hw) (tw_85 hw) (notFace_of_selects (args := #[]) (mvT hZ (tw_87 hw))) (tw_87 hw) (tw_86 hw) (by decide) (tw_88 hw) (tw_10 hw) (au_23 l Z a0 hw x0 gz1 gv5 h0 n0 Z0 O0 G P1) e2 P0 (argsL := []) (rest := []) (pc' := 31) rfl (by rw [hml]; rfl) (lenOf pd_12 rfl) rfl rfl (W := 0) (Nat.le_of_eq rfl) (by decide) (by decide) (by decide) (by decide) (hb hby d14_28) ?_
  intro v3 T3 L3 q3 X3
  obtain ⟨rfl, N3, e3⟩ := q3
  show Go _ _ _ _ (T3.setTop (mkF m 31 #[.val (.ref x0), .val (.int 0), .val (.int 3), .val (.int 4), .val (.int 3)] [(.int 1)]))
  refine Go.ifNo X3 hx (pc' := 34) rfl (hb hby d14_31) (by decide) ?_
  refine Go.aloadN X3 hx (pc' := 35) rfl (hb hby d14_34) rfl rfl ?_
  refine Go.getF X3 hx hZ hown (host := "") (Or.inl (tw_28 hw)) Via.refl e3 P2 (pc' := 38) rfl (hb hby d14_35) ?_
  intro T4 e4 X4
  refine Go.iloadN X4 hx (pc' := 39) rfl (hb hby d14_38) rfl ?_
  refine Go.iload X4 hx (pc' := 41) rfl (hb hby d14_39) rfl ?_
  refine Go.callS X4 hx hZ hown (tw_89 hw) (tw_90 hw) (tw_68 hw) (tw_91 hw) (by decide) (tw_91 hw) (tw_68 hw) (au_24 l Z a0 hw x1 kk0 h0 n0 Z0 P3) e4 (argsL := [(.ref x1), (.int 0), (.int 3)]) (rest := []) (pc' := 44) rfl (by rw [hml]; rfl) (lenOf pd_17 rfl) rfl rfl (W := 0) (Nat.le_of_eq rfl) (by decide) (by decide) (by decide) (by decide) (hb hby d14_41) ?_
  intro v5 T5 L5 q5 X5
  obtain ⟨h5, e5⟩ : ∃ z, T5.heap = z := ⟨_, rfl⟩
  rw [e5] at q5
  obtain ⟨b5_0, b5_1, k5_0, rfl, N5, K5, s5_0, s5_1, n5_0, F5_0, F5_1, F5_2, F5_3, F5_4⟩ := q5
  show Go _ _ _ _ (T5.setTop (mkF m 44 #[.val (.ref x0), .val (.int 0), .val (.int 3), .val (.int 4), .val (.int 3)] [(.ref b5_0)]))
  refine Go.goto X5 hx (pc' := 57) (hb hby d14_44) (by decide) (by decide) ?_
  subst hFF
  refine Go.retR X5 hx hlk (t := (.object "java/lang/String")) hret rfl rfl (hb hby d14_57) (by decide) (by decide) ?_
  rw [e5]
  have Kp6 : Keep h0 h5 [] := ((Keep.refl h0 []).trans K5 all0)
  have sz7 : h0.size ≤ b5_0 := Nat.le_trans (Keep.refl h0 []).1 s5_0
  have sz8 : h0.size ≤ b5_1 := Nat.le_trans (Keep.refl h0 []).1 s5_1
  exact ⟨b5_0, b5_1, k5_0, rfl, (Fr.app (Fr.app (Fr.app (Fr.app (Fr.nil n0) N1) N2) N3) N5), Kp6, sz7, sz8, n5_0, F5_0, F5_1, F5_2, F5_3, F5_4⟩
theorem pd_18 : parseMethodDescriptor "(II)Ljava/lang/String;" = some ⟨[.int, .int], some (.object "java/lang/String")⟩ := by decide +kernel
theorem d11_20 : decode prog_11_method_4_code 20 = .ok (.invokevirtual 70, 3) := by decide +kernel
-- java/lang/StringLatin1.equals
set_option maxRecDepth 65536 in
set_option maxHeartbeats 4000000 in
theorem au_31 (l : Launch) (Z : State) (a0 : Array Value) (hw : ∀ d ∈ tables_1, d.before a0 Z = true) (x0 : Addr) (x1 : Addr) (kk0 : ClassId) (kk1 : ClassId) (h0 : Heap) (n0 : Nat) (Z0 : n0 ≤ h0.size) (P0 : Arv Z h0 x0 kk0 .byte (0 : Int32) [] (.int (0 : Int32))) (P1 : Arv Z h0 x1 kk1 .byte (3 : Int32) [(.int 47), (.int 117), (.int 105)] (.int 0)) :
    Ctr l Z (⟨"java/lang/StringLatin1", "equals", "([B[B)Z"⟩ : MethodName) jdk_43_method_13_code 3 (some .boolean) ({ frames := 0, cells := 0, slots := 0, locals := 0 } : Room) #[(.ref x0), (.ref x1)] h0 (fun v h L => v = some (.int 0) ∧ Fr n0 L ∧ h = h0) := by
  refine Ctr.of (plainFor_of_name pn_c2) ?_
  intro p e s m below meth c T0 hx hZ hby hml hown hnm hret hlk e0 es X0
  refine Go.cast (ef_13_RR m x0 x1) ?_
  generalize hFF : EndN s _ _ _ = FF
  refine Go.aloadN X0 hx (pc' := 1) rfl (hb hby d13_0) rfl rfl ?_
  refine Go.arraylength X0 hx hZ e0 P0 (pc' := 2) rfl (hb hby d13_1) ?_
  refine Go.aloadN X0 hx (pc' := 3) rfl (hb hby d13_2) rfl rfl ?_
  refine Go.arraylength X0 hx hZ e0 P1 (pc' := 4) rfl (hb hby d13_3) ?_
  refine Go.icmpYes X0 hx (pc' := 34) (hb hby d13_4) (by decide) (by decide) (by decide) ?_
  refine Go.iconst X0 hx (pc' := 35) rfl (hb hby d13_34) (v := (0 : Int32)) rfl ?_
  subst hFF
  refine Go.retN X0 hx hlk (t := .boolean) hret (by simp) (hb hby d13_35) (by decide) (by decide) ?_
  rw [e0]
  exact ⟨(congrArg (fun z => some (Value.int z)) (by decide : nar .boolean (0 : Int32) = (0 : Int32))), (Fr.nil n0), rfl⟩
-- java/lang/String.equals
set_option maxRecDepth 65536 in
set_option maxHeartbeats 4000000 in
theorem au_30 (l : Launch) (Z : State) (a0 : Array Value) (hw : ∀ d ∈ tables_1, d.before a0 Z = true) (x0 : Addr) (x1 : Addr) (x2 : Addr) (x3 : Addr) (kk0 : ClassId) (kk1 : ClassId) (gz1 : Int32) (gv5 : Value) (h0 : Heap) (n0 : Nat) (Z0 : n0 ≤ h0.size) (O0 : Old Z n0 h0) (G : Glob Z gz1 gv5) (P1 : Fld Z h0 x0 "java/lang/String" "coder" "B" (.int 0)) (P2 : Fld Z h0 x0 "java/lang/String" "value" "[B" (.ref x2)) (P3 : Exa Z h0 x1 "java/lang/String") (P4 : Fld Z h0 x1 "java/lang/String" "coder" "B" (.int 0)) (P5 : Fld Z h0 x1 "java/lang/String" "value" "[B" (.ref x3)) (P6 : Arv Z h0 x2 kk0 .byte (0 : Int32) [] (.int (0 : Int32))) (P7 : Arv Z h0 x3 kk1 .byte (3 : Int32) [(.int 47), (.int 117), (.int 105)] (.int 0)) (ne_x0_x1 : x0 ≠ x1) :
    Ctr l Z (⟨"java/lang/String", "equals", "(Ljava/lang/Object;)Z"⟩ : MethodName) jdk_42_method_66_code 3 (some .boolean) ({ frames := 1, cells := 0, slots := 0, locals := 14 } : Room) #[(.ref x0), (.ref x1)] h0 (fun v h L => v = some (.int 0) ∧ Fr n0 L ∧ h = h0) := by
  refine Ctr.of (plainFor_of_name pn_c1) ?_
  intro p e s m below meth c T0 hx hZ hby hml hown hnm hret hlk e0 es X0
  have G' := G
  obtain ⟨G0, -, G2, -⟩ := G'
  refine Go.cast (ef_12_RR m x0 x1) ?_
  generalize hFF : EndN s _ _ _ = FF
  refine Go.aloadN X0 hx (pc' := 1) rfl (hb hby d12_0) rfl rfl ?_
  refine Go.aloadN X0 hx (pc' := 2) rfl (hb hby d12_1) rfl rfl ?_
  refine Go.acmp X0 hx (pc' := 7) (same := false) (hb hby d12_2) rfl rfl (decide_eq_false (fun q => ne_x0_x1 (Value.ref.inj q))) (by decide) (by decide) ?_
  refine Go.aloadN X0 hx (pc' := 8) rfl (hb hby d12_7) rfl rfl ?_
  refine Go.instY X0 hx hZ hown (tw_65 hw) e0 (Ins.self P3) (pc' := 11) rfl (hb hby d12_8) ?_
  intro T1 e1 X1
  refine Go.ifNo X1 hx (pc' := 14) rfl (hb hby d12_11) (by decide) ?_
  refine Go.aloadN X1 hx (pc' := 15) rfl (hb hby d12_14) rfl rfl ?_
  refine Go.castY X1 hx hZ hown (tw_65 hw) e1 (Ins.self P3) (pc' := 18) rfl (hb hby d12_15) ?_
  intro T2 e2 X2
  refine Go.astoreN X2 hx (pc' := 19) rfl (hb hby d12_18) (Ls' := #[.val (.ref x0), .val (.ref x1), .val (.ref x1)]) rfl rfl ?_
  have fk3 : Sta Z h0 "java/lang/String" "COMPACT_STRINGS" "Z" (.int gz1) := G0.ext O0.2
  refine Go.getS X2 hx hZ hown (host := "") (Or.inl (tw_55 hw)) Via.refl e2 fk3 (pc' := 22) rfl (hb hby d12_19) ?_
  intro T4 e4 X4
  refine Go.ifNo X4 hx (pc' := 25) rfl (hb hby d12_22) (feq G2).1 ?_
  refine Go.aloadN X4 hx (pc' := 26) rfl (hb hby d12_25) rfl rfl ?_
  refine Go.getF X4 hx hZ hown (host := "") (Or.inl (tw_29 hw)) Via.refl e4 P1 (pc' := 29) rfl (hb hby d12_26) ?_
  intro T5 e5 X5
  refine Go.aloadN X5 hx (pc' := 30) rfl (hb hby d12_29) rfl rfl ?_
  refine Go.getF X5 hx hZ hown (host := "") (Or.inl (tw_29 hw)) Via.refl e5 P4 (pc' := 33) rfl (hb hby d12_30) ?_
  intro T6 e6 X6
  refine Go.icmpNo X6 hx (pc' := 36) rfl (hb hby d12_33) (by decide) ?_
  refine Go.aloadN X6 hx (pc' := 37) rfl (hb hby d12_36) rfl rfl ?_
  refine Go.getF X6 hx hZ hown (host := "") (Or.inl (tw_28 hw)) Via.refl e6 P2 (pc' := 40) rfl (hb hby d12_37) ?_
  intro T7 e7 X7
  refine Go.aloadN X7 hx (pc' := 41) rfl (hb hby d12_40) rfl rfl ?_
  refine Go.getF X7 hx hZ hown (host := "") (Or.inl (tw_28 hw)) Via.refl e7 P5 (pc' := 44) rfl (hb hby d12_41) ?_
  intro T8 e8 X8
  refine Go.callS X8 hx hZ hown (tw_66 hw) (tw_67 hw) (tw_68 hw) (tw_69 hw) (by decide) (tw_69 hw) (tw_68 hw) (au_31 l Z a0 hw x2 x3 kk0 kk1 h0 n0 Z0 P6 P7) e8 (argsL := [(.ref x2), (.ref x3)]) (rest := []) (pc' := 47) rfl (by rw [hml]; rfl) (lenOf pd_8 rfl) rfl rfl (W := 0) (Nat.le_of_eq rfl) (by decide) (by decide) (by decide) (by decide) (hb hby d12_44) ?_
  intro v9 T9 L9 q9 X9
  obtain ⟨rfl, N9, e9⟩ := q9
  show Go _ _ _ _ (T9.setTop (mkF m 47 #[.val (.ref x0), .val (.ref x1), .val (.ref x1)] [(.int 0)]))
  refine Go.ifYes X9 hx (pc' := 54) (hb hby d12_47) (by decide) (by decide) (by decide) ?_
  refine Go.iconst X9 hx (pc' := 55) rfl (hb hby d12_54) (v := (0 : Int32)) rfl ?_
  subst hFF
  refine Go.retN X9 hx hlk (t := .boolean) hret (by simp) (hb hby d12_55) (by decide) (by decide) ?_
  rw [e9]
  exact ⟨(congrArg (fun z => some (Value.int z)) (by decide : nar .boolean (0 : Int32) = (0 : Int32))), (Fr.app (Fr.nil n0) N9), rfl⟩
theorem d11_23 : decode prog_11_method_4_code 23 = .ok (.invokevirtual 62, 3) := by decide +kernel
theorem d11_26 : decode prog_11_method_4_code 26 = .ok (.ifCond .eq 7, 3) := by decide +kernel
theorem d11_33 : decode prog_11_method_4_code 33 = .ok (.iconst 0, 1) := by decide +kernel
theorem d11_34 : decode prog_11_method_4_code 34 = .ok (.ireturn, 1) := by decide +kernel
theorem ef_11_R (m : MethodId) (x0 : Addr) : entryFrame m #[(.ref x0)] 1 = mkF m 0 #[.val (.ref x0)] [] := by first | (simp [entryFrame, mkF, argsToLocals, Value.category]; done) | rfl
theorem pn_c5 : plainName "com/example/roles_over_datacenter/rolesoverdatacenter/Page" = true := by first | (simp [plainName, overriddenIn]; done) | decide +kernel
-- com/example/roles_over_datacenter/rolesoverdatacenter/Page.redirects
set_option maxRecDepth 65536 in
set_option maxHeartbeats 4000000 in
theorem au_17 (l : Launch) (Z : State) (a0 : Array Value) (hw : ∀ d ∈ tables_1, d.before a0 Z = true) (x0 : Addr) (x1 : Addr) (kk0 : ClassId) (gz1 : Int32) (gv5 : Value) (h0 : Heap) (n0 : Nat) (Z0 : n0 ≤ h0.size) (O0 : Old Z n0 h0) (G : Glob Z gz1 gv5) (P0 : Exa Z h0 x0 "java/lang/String") (P1 : Fld Z h0 x0 "java/lang/String" "coder" "B" (.int 0)) (P2 : Fld Z h0 x0 "java/lang/String" "value" "[B" (.ref x1)) (P3 : Arv Z h0 x1 kk0 .byte (0 : Int32) [] (.int (0 : Int32))) :
    CtrW l Z EL0 (⟨"com/example/roles_over_datacenter/rolesoverdatacenter/Page", "redirects", "(Ljava/lang/String;)Z"⟩ : MethodName) prog_11_method_4_code 1 (some .boolean) ({ frames := 5, cells := 8, slots := 55, locals := 81 } : Room) #[(.ref x0)] h0 [x0] (fun v vm h L => v = some (.int 0) ∧ Fr n0 L ∧ Keep h0 h []) := by
  refine CtrW.of (plainFor_of_name pn_c5) ?_
  intro p e s m below meth c T0 hx hZ hby hml hown hnm hret hlk e0 es hS0 C0 hsf X0
  have G' := G
  obtain ⟨-, G1, -, -⟩ := G'
  refine Go.cast (ef_11_R m x0) ?_
  generalize hFF : EndW Z EL0 s _ _ _ = FF
  refine Go.aloadN X0 hx (pc' := 1) rfl (hb hby d11_0) rfl rfl ?_
  refine Go.ldcCH X0 hx hZ hown (tw_59 hw) (own_SA hw) e0 hS0 (Nat.le_refl _) (own_EW hw) (List.mem_of_getElem? (i := 1) rfl) C0.1 (vs := [(.int (47 : Int32))]) (z := (1 : Int32)) (by decide) (by decide) rfl (n := 4) (by decide) (by decide) (by decide) (by decide) (pc' := 3) rfl (hb hby d11_1) ?_
  intro a1 T1 h1 j1 b1 k1 e1 E1 S1 i1 Z1 O1 A1 F1 G1 V1 C1 D1 X1
  have Kp3 : Keep h0 h1 [] := ((Keep.refl h0 []).ext E1)
  have Zn2 : n0 ≤ h1.size := Nat.le_trans Z0 Kp3.1
  have O4 := (O0.ext E1)
  have fk5 : Fld Z h1 x0 "java/lang/String" "coder" "B" (.int 0) := (P1.ext E1)
  have fk6 : Fld Z h1 x0 "java/lang/String" "value" "[B" (.ref x1) := (P2.ext E1)
  have fk7 := (P3.ext E1)
  have fk8 : Safe Z EL0 T1.vm h1 x0 := (C1.safe P0.lt (hsf _ (List.mem_of_getElem? (i := 0) rfl)))
  have fk9 : Exa Z h1 x0 "java/lang/String" := (P0.ext E1)
  refine Go.callV X1 hx Z1 O1 (tw_60 hw) (tw_61 hw) (notFace_of_selects (args := #[]) (mvT Z1 (tw_63 hw))) (tw_63 hw) (tw_62 hw) (by decide) (tw_64 hw) (tw_10 hw) (au_18 l Z a0 hw x0 a1 x1 b1 kk0 k1 gz1 gv5 h1 n0 Zn2 O4 G fk5 fk6 A1 F1 G1 fk7 V1 (D1 x0 fk8).1) e1 fk9 (argsL := [(.ref a1)]) (rest := []) (pc' := 6) rfl (by rw [hml]; rfl) (lenOf pd_9 rfl) rfl rfl (W := 0) (Nat.le_of_eq rfl) (by decide) (by decide) (by decide) (by decide) (hb hby d11_3) ?_
  intro v10 T10 L10 q10 X10
  obtain ⟨rfl, N10, e10⟩ := q10
  show Go _ _ _ _ (T10.setTop (mkF m 6 #[.val (.ref x0)] [(.int 0)]))
  refine Go.ifNo X10 hx (pc' := 9) rfl (hb hby d11_6) (by decide) ?_
  refine Go.aloadN X10 hx (pc' := 10) rfl (hb hby d11_9) rfl rfl ?_
  have C11 : CHr Z EL0 s.vm s.heap T1.vm h1 := (C0.trans C1)
  refine Go.ldcCH X10 hx Z1 O1 (tw_34 hw) (own_SA hw) e10 S1 i1 (own_EW hw) (List.mem_of_getElem? (i := 0) rfl) C11.1 (vs := [(.int (47 : Int32)), (.int (117 : Int32)), (.int (105 : Int32)), (.int (47 : Int32))]) (z := (4 : Int32)) (by decide) (by decide) rfl (n := 16) (by decide) (by decide) (by decide) (by decide) (pc' := 12) rfl (hb hby d11_10) ?_
  intro a12 T12 h12 j12 b12 k12 e12 E12 S12 i12 Z12 O12 A12 F12 G12 V12 C12 D12 X12
  refine Go.iconst X12 hx (pc' := 13) rfl (hb hby d11_12) (v := (0 : Int32)) rfl ?_
  have C13 : CHr Z EL0 s.vm s.heap T12.vm h12 := (C11.trans C12)
  refine Go.ldcCH X12 hx Z12 O12 (tw_34 hw) (own_SA hw) e12 S12 i12 (own_EW hw) (List.mem_of_getElem? (i := 0) rfl) C13.1 (vs := [(.int (47 : Int32)), (.int (117 : Int32)), (.int (105 : Int32)), (.int (47 : Int32))]) (z := (4 : Int32)) (by decide) (by decide) rfl (n := 16) (by decide) (by decide) (by decide) (by decide) (pc' := 15) rfl (hb hby d11_13) ?_
  intro a14 T14 h14 j14 b14 k14 e14 E14 S14 i14 Z14 O14 A14 F14 G14 V14 C14 D14 X14
  have Kp16 : Keep h0 h12 [] := (Kp3.ext E12)
  have Kp17 : Keep h0 h14 [] := (Kp16.ext E14)
  have Zn15 : n0 ≤ h14.size := Nat.le_trans Z0 Kp17.1
  have O18 := (O4.ext E12)
  have O19 := (O18.ext E14)
  refine Go.callV X14 hx Z14 O14 (tw_70 hw) (tw_46 hw) (notFace_of_selects (args := #[]) (mvT Z14 (tw_48 hw))) (tw_48 hw) (tw_47 hw) (by decide) (tw_49 hw) (tw_10 hw) (au_14 l Z a0 hw a14 b14 k14 gz1 gv5 h14 n0 Zn15 O19 G A14 F14 G14 V14) e14 A14 (argsL := []) (rest := [(.int 0), (.ref a12), (.ref x0)]) (pc' := 18) rfl (by rw [hml]; rfl) (lenOf pd_5 rfl) rfl rfl (W := 3) (Nat.le_of_eq rfl) (by decide) (by decide) (by decide) (by decide) (hb hby d11_15) ?_
  intro v20 T20 L20 q20 X20
  obtain ⟨rfl, N20, e20⟩ := q20
  show Go _ _ _ _ (T20.setTop (mkF m 18 #[.val (.ref x0)] [(.int 4), (.int 0), (.ref a12), (.ref x0)]))
  refine Go.iconst X20 hx (pc' := 19) rfl (hb hby d11_18) (v := (1 : Int32)) rfl ?_
  refine Go.isub X20 hx (pc' := 20) rfl (hb hby d11_19) ?_
  rw [show ((4 : Int32) - (1 : Int32)) = (3 : Int32) from by decide]
  have fk21 : Exa Z h14 a12 "java/lang/String" := (A12.ext E14)
  have fk22 : Fld Z h14 a12 "java/lang/String" "coder" "B" (.int 0) := (F12.ext E14)
  have fk23 : Fld Z h14 a12 "java/lang/String" "value" "[B" (.ref b12) := (G12.ext E14)
  have fk24 := (V12.ext E14)
  refine Go.callV X20 hx Z14 O14 (tw_71 hw) (tw_72 hw) (notFace_of_selects (args := #[]) (mvT Z14 (tw_74 hw))) (tw_74 hw) (tw_73 hw) (by decide) (tw_75 hw) (tw_10 hw) (au_20 l Z a0 hw a12 b12 k12 gz1 gv5 h14 n0 Zn15 O19 G fk21 fk22 fk23 fk24) e20 fk21 (argsL := [(.int 0), (.int 3)]) (rest := [(.ref x0)]) (pc' := 23) rfl (by rw [hml]; rfl) (lenOf pd_18 rfl) rfl rfl (W := 1) (Nat.le_of_eq rfl) (by decide) (by decide) (by decide) (by decide) (hb hby d11_20) ?_
  intro v25 T25 L25 q25 X25
  obtain ⟨h25, e25⟩ : ∃ z, T25.heap = z := ⟨_, rfl⟩
  rw [e25] at q25
  obtain ⟨b25_0, b25_1, k25_0, rfl, N25, K25, s25_0, s25_1, n25_0, F25_0, F25_1, F25_2, F25_3, F25_4⟩ := q25
  show Go _ _ _ _ (T25.setTop (mkF m 23 #[.val (.ref x0)] [(.ref b25_0), (.ref x0)]))
  have Kp27 : Keep h0 h25 [] := (Kp17.trans K25 all0)
  have Zn26 : n0 ≤ h25.size := Nat.le_trans Z0 Kp27.1
  have O28 := (O19.keep K25 all0)
  have fk29 : Fld Z h25 x0 "java/lang/String" "coder" "B" (.int 0) := (((fk5.ext E12).ext E14).keep K25 nin0)
  have fk30 : Fld Z h25 x0 "java/lang/String" "value" "[B" (.ref x1) := (((fk6.ext E12).ext E14).keep K25 nin0)
  have fk31 := (((fk7.ext E12).ext E14).keep K25 nin0)
  have fk33 : Exa Z h14 x0 "java/lang/String" := ((fk9.ext E12).ext E14)
  have ne32 : x0 ≠ b25_0 := Nat.ne_of_lt (Nat.lt_of_lt_of_le fk33.lt s25_0)
  have fk34 : Exa Z h25 x0 "java/lang/String" := (fk33.keep K25)
  refine Go.callV X25 hx Z14 O14 (tw_60 hw) (tw_61 hw) (notFace_of_selects (args := #[]) (mvT Z14 (tw_63 hw))) (tw_63 hw) (tw_62 hw) (by decide) (tw_64 hw) (tw_10 hw) (au_30 l Z a0 hw x0 b25_0 x1 b25_1 kk0 k25_0 gz1 gv5 h25 n0 Zn26 O28 G fk29 fk30 F25_0 F25_1 F25_2 fk31 F25_3 ne32) e25 fk34 (argsL := [(.ref b25_0)]) (rest := []) (pc' := 26) rfl (by rw [hml]; rfl) (lenOf pd_9 rfl) rfl rfl (W := 0) (Nat.le_of_eq rfl) (by decide) (by decide) (by decide) (by decide) (hb hby d11_23) ?_
  intro v35 T35 L35 q35 X35
  obtain ⟨rfl, N35, e35⟩ := q35
  show Go _ _ _ _ (T35.setTop (mkF m 26 #[.val (.ref x0)] [(.int 0)]))
  refine Go.ifYes X35 hx (pc' := 33) (hb hby d11_26) (by decide) (by decide) (by decide) ?_
  refine Go.iconst X35 hx (pc' := 34) rfl (hb hby d11_33) (v := (0 : Int32)) rfl ?_
  subst hFF
  have C36 : CHr Z EL0 s.vm s.heap T14.vm h14 := (C13.trans C14)
  have C37 : CHr Z EL0 s.vm s.heap T14.vm h25 := (C36.trans (CHr.keep K25 sf0 C36.1))
  have hk38 := (Nat.le_trans i14 K25.1)
  refine Go.retNW X35 hx hlk Z14 (own_EW hw) e35 S14 hk38 C37 (t := .boolean) hret (by simp) (hb hby d11_34) (by decide) (by decide) (fun hat => ?_)
  exact ⟨(congrArg (fun z => some (Value.int z)) (by decide : nar .boolean (0 : Int32) = (0 : Int32))), (Fr.app (Fr.app (Fr.app (Fr.app (Fr.nil n0) N10) N20) N25) N35), Kp27⟩
theorem d6_10 : decode prog_11_method_3_code 10 = .ok (.invokestatic 57, 3) := by decide +kernel
theorem d6_13 : decode prog_11_method_3_code 13 = .ok (.ifCond .eq 7, 3) := by decide +kernel
theorem d6_20 : decode prog_11_method_3_code 20 = .ok (.iconst 0, 1) := by decide +kernel
theorem d6_21 : decode prog_11_method_3_code 21 = .ok (.ireturn, 1) := by decide +kernel
theorem ef_6_R (m : MethodId) (x0 : Addr) : entryFrame m #[(.ref x0)] 1 = mkF m 0 #[.val (.ref x0)] [] := by first | (simp [entryFrame, mkF, argsToLocals, Value.category]; done) | rfl
-- com/example/roles_over_datacenter/rolesoverdatacenter/Page.serves
set_option maxRecDepth 65536 in
set_option maxHeartbeats 4000000 in
theorem au_9 (l : Launch) (Z : State) (a0 : Array Value) (hw : ∀ d ∈ tables_1, d.before a0 Z = true) (x0 : Addr) (x1 : Addr) (kk0 : ClassId) (gz1 : Int32) (gv5 : Value) (h0 : Heap) (n0 : Nat) (Z0 : n0 ≤ h0.size) (O0 : Old Z n0 h0) (G : Glob Z gz1 gv5) (P0 : Exa Z h0 x0 "java/lang/String") (P1 : Fld Z h0 x0 "java/lang/String" "coder" "B" (.int 0)) (P2 : Fld Z h0 x0 "java/lang/String" "value" "[B" (.ref x1)) (P3 : Arv Z h0 x1 kk0 .byte (0 : Int32) [] (.int (0 : Int32))) :
    CtrW l Z EL0 (⟨"com/example/roles_over_datacenter/rolesoverdatacenter/Page", "serves", "(Ljava/lang/String;)Z"⟩ : MethodName) prog_11_method_3_code 1 (some .boolean) ({ frames := 6, cells := 10, slots := 75, locals := 93 } : Room) #[(.ref x0)] h0 [x0] (fun v vm h L => v = some (.int 0) ∧ Fr n0 L ∧ Keep h0 h []) := by
  refine CtrW.of (plainFor_of_name pn_c5) ?_
  intro p e s m below meth c T0 hx hZ hby hml hown hnm hret hlk e0 es hS0 C0 hsf X0
  have G' := G
  obtain ⟨-, G1, -, -⟩ := G'
  refine Go.cast (ef_6_R m x0) ?_
  generalize hFF : EndW Z EL0 s _ _ _ = FF
  refine Go.aloadN X0 hx (pc' := 1) rfl (hb hby d6_0) rfl rfl ?_
  refine Go.ldcCH X0 hx hZ hown (tw_34 hw) (own_SA hw) e0 hS0 (Nat.le_refl _) (own_EW hw) (List.mem_of_getElem? (i := 0) rfl) C0.1 (vs := [(.int (47 : Int32)), (.int (117 : Int32)), (.int (105 : Int32)), (.int (47 : Int32))]) (z := (4 : Int32)) (by decide) (by decide) rfl (n := 16) (by decide) (by decide) (by decide) (by decide) (pc' := 3) rfl (hb hby d6_1) ?_
  intro a1 T1 h1 j1 b1 k1 e1 E1 S1 i1 Z1 O1 A1 F1 G1 V1 C1 D1 X1
  have Kp3 : Keep h0 h1 [] := ((Keep.refl h0 []).ext E1)
  have Zn2 : n0 ≤ h1.size := Nat.le_trans Z0 Kp3.1
  have O4 := (O0.ext E1)
  have fk5 : Exa Z h1 x0 "java/lang/String" := (P0.ext E1)
  have fk6 : Fld Z h1 x0 "java/lang/String" "coder" "B" (.int 0) := (P1.ext E1)
  have fk7 : Fld Z h1 x0 "java/lang/String" "value" "[B" (.ref x1) := (P2.ext E1)
  have fk8 := (P3.ext E1)
  refine Go.callV X1 hx Z1 O1 (tw_35 hw) (tw_36 hw) (notFace_of_selects (args := #[]) (mvT Z1 (tw_38 hw))) (tw_38 hw) (tw_37 hw) (by decide) (tw_39 hw) (tw_10 hw) (au_10 l Z a0 hw x0 a1 x1 b1 kk0 k1 gz1 gv5 h1 n0 Zn2 O4 G fk5 fk6 fk7 A1 F1 G1 fk8 V1) e1 fk5 (argsL := [(.ref a1)]) (rest := []) (pc' := 6) rfl (by rw [hml]; rfl) (lenOf pd_7 rfl) rfl rfl (W := 0) (Nat.le_of_eq rfl) (by decide) (by decide) (by decide) (by decide) (hb hby d6_3) ?_
  intro v9 T9 L9 q9 X9
  obtain ⟨rfl, N9, e9⟩ := q9
  show Go _ _ _ _ (T9.setTop (mkF m 6 #[.val (.ref x0)] [(.int 0)]))
  refine Go.ifNo X9 hx (pc' := 9) rfl (hb hby d6_6) (by decide) ?_
  refine Go.aloadN X9 hx (pc' := 10) rfl (hb hby d6_9) rfl rfl ?_
  have C10 : CHr Z EL0 s.vm s.heap T1.vm h1 := (C0.trans C1)
  have fk11 : Safe Z EL0 T1.vm h1 x0 := (C1.safe P0.lt (hsf _ (List.mem_of_getElem? (i := 0) rfl)))
  refine Go.callSW X9 hx Z1 O1 (tw_56 hw) (tw_57 hw) (tw_32 hw) (tw_58 hw) (by decide) (tw_58 hw) (tw_32 hw) (au_17 l Z a0 hw x0 x1 kk0 gz1 gv5 h1 n0 Zn2 O4 G fk5 fk6 fk7 fk8) (own_EW hw) C10.1 (allS ⟨fk5.lt, fk11⟩ all0) S1 i1 e9 (argsL := [(.ref x0)]) (rest := []) (pc' := 13) rfl (by rw [hml]; rfl) (lenOf pd_7 rfl) rfl rfl (W := 0) (Nat.le_of_eq rfl) (by decide) (by decide) (by decide) (by decide) (hb hby d6_10) ?_
  intro v12 T12 L12 h12 e12 q12 C12 S12 Z12 O12 X12
  obtain ⟨rfl, N12, K12⟩ := q12
  show Go _ _ _ _ (T12.setTop (mkF m 13 #[.val (.ref x0)] [(.int 0)]))
  refine Go.ifYes X12 hx (pc' := 20) (hb hby d6_13) (by decide) (by decide) (by decide) ?_
  refine Go.iconst X12 hx (pc' := 21) rfl (hb hby d6_20) (v := (0 : Int32)) rfl ?_
  subst hFF
  have C13 : CHr Z EL0 s.vm s.heap T12.vm h12 := (C10.trans C12)
  refine Go.retNW X12 hx hlk Z12 (own_EW hw) e12 S12 (Nat.le_refl _) C13 (t := .boolean) hret (by simp) (hb hby d6_21) (by decide) (by decide) (fun hat => ?_)
  have Kp14 : Keep h0 h12 [] := (Kp3.trans K12 all0)
  exact ⟨(congrArg (fun z => some (Value.int z)) (by decide : nar .boolean (0 : Int32) = (0 : Int32))), (Fr.app (Fr.app (Fr.nil n0) N9) N12), Kp14⟩
theorem d2_15 : decode method_3_code 15 = .ok (.iload_n 0, 1) := by decide +kernel
theorem d2_16 : decode method_3_code 16 = .ok (.iconst 1, 1) := by decide +kernel
theorem d2_17 : decode method_3_code 17 = .ok (.if_icmp .ne 18, 3) := by decide +kernel
theorem d2_20 : decode method_3_code 20 = .ok (.new 7, 3) := by decide +kernel
theorem d2_23 : decode method_3_code 23 = .ok (.dup, 1) := by decide +kernel
theorem d2_24 : decode method_3_code 24 = .ok (.iconst 1, 1) := by decide +kernel
theorem d2_25 : decode method_3_code 25 = .ok (.newarray .char, 2) := by decide +kernel
theorem d2_27 : decode method_3_code 27 = .ok (.dup, 1) := by decide +kernel
theorem d2_28 : decode method_3_code 28 = .ok (.iconst 0, 1) := by decide +kernel
theorem d2_29 : decode method_3_code 29 = .ok (.iload_n 1, 1) := by decide +kernel
theorem d2_30 : decode method_3_code 30 = .ok (.castore, 1) := by decide +kernel
theorem d4_27 : decode jdk_42_method_149_code 27 = .ok (.getstatic 38, 3) := by decide +kernel
theorem d4_30 : decode jdk_42_method_149_code 30 = .ok (.ifCond .eq 28, 3) := by decide +kernel
theorem d4_33 : decode jdk_42_method_149_code 33 = .ok (.aload_n 1, 1) := by decide +kernel
theorem d4_34 : decode jdk_42_method_149_code 34 = .ok (.iload_n 2, 1) := by decide +kernel
theorem d4_35 : decode jdk_42_method_149_code 35 = .ok (.iload_n 3, 1) := by decide +kernel
theorem d24_0 : decode jdk_52_method_16_code 0 = .ok (.iload_n 2, 1) := by decide +kernel
theorem d24_1 : decode jdk_52_method_16_code 1 = .ok (.newarray .byte, 2) := by decide +kernel
theorem d24_3 : decode jdk_52_method_16_code 3 = .ok (.astore_n 3, 1) := by decide +kernel
theorem d24_4 : decode jdk_52_method_16_code 4 = .ok (.aload_n 0, 1) := by decide +kernel
theorem d24_5 : decode jdk_52_method_16_code 5 = .ok (.iload_n 1, 1) := by decide +kernel
theorem d24_6 : decode jdk_52_method_16_code 6 = .ok (.aload_n 3, 1) := by decide +kernel
theorem d24_7 : decode jdk_52_method_16_code 7 = .ok (.iconst 0, 1) := by decide +kernel
theorem d24_8 : decode jdk_52_method_16_code 8 = .ok (.iload_n 2, 1) := by decide +kernel
theorem d25_0 : decode jdk_52_method_21_code 0 = .ok (.iconst 0, 1) := by decide +kernel
theorem d25_1 : decode jdk_52_method_21_code 1 = .ok (.istore 5, 2) := by decide +kernel
theorem d25_3 : decode jdk_52_method_21_code 3 = .ok (.iload 5, 2) := by decide +kernel
theorem d25_5 : decode jdk_52_method_21_code 5 = .ok (.iload 4, 2) := by decide +kernel
theorem d25_7 : decode jdk_52_method_21_code 7 = .ok (.if_icmp .ge 37, 3) := by decide +kernel
theorem d25_10 : decode jdk_52_method_21_code 10 = .ok (.aload_n 0, 1) := by decide +kernel
theorem d25_11 : decode jdk_52_method_21_code 11 = .ok (.iload_n 1, 1) := by decide +kernel
theorem d25_12 : decode jdk_52_method_21_code 12 = .ok (.caload, 1) := by decide +kernel
theorem d25_13 : decode jdk_52_method_21_code 13 = .ok (.istore 6, 2) := by decide +kernel
theorem d25_15 : decode jdk_52_method_21_code 15 = .ok (.iload 6, 2) := by decide +kernel
theorem d25_17 : decode jdk_52_method_21_code 17 = .ok (.sipush 255, 3) := by decide +kernel
theorem d25_20 : decode jdk_52_method_21_code 20 = .ok (.if_icmp .le 6, 3) := by decide +kernel
theorem d25_26 : decode jdk_52_method_21_code 26 = .ok (.aload_n 2, 1) := by decide +kernel
theorem d25_27 : decode jdk_52_method_21_code 27 = .ok (.iload_n 3, 1) := by decide +kernel
theorem d25_28 : decode jdk_52_method_21_code 28 = .ok (.iload 6, 2) := by decide +kernel
theorem d25_30 : decode jdk_52_method_21_code 30 = .ok (.i2b, 1) := by decide +kernel
theorem d25_31 : decode jdk_52_method_21_code 31 = .ok (.bastore, 1) := by decide +kernel
theorem d25_32 : decode jdk_52_method_21_code 32 = .ok (.iinc 1 1, 3) := by decide +kernel
theorem d25_35 : decode jdk_52_method_21_code 35 = .ok (.iinc 3 1, 3) := by decide +kernel
theorem d25_38 : decode jdk_52_method_21_code 38 = .ok (.iinc 5 1, 3) := by decide +kernel
theorem d25_41 : decode jdk_52_method_21_code 41 = .ok (.goto (-38), 3) := by decide +kernel
theorem d25_44 : decode jdk_52_method_21_code 44 = .ok (.iload 4, 2) := by decide +kernel
theorem d25_46 : decode jdk_52_method_21_code 46 = .ok (.ireturn, 1) := by decide +kernel
theorem ef_25_RIRII (m : MethodId) (x0 : Addr) (x1 : Int32) (x2 : Addr) (x3 : Int32) (x4 : Int32) : entryFrame m #[(.ref x0), (.int x1), (.ref x2), (.int x3), (.int x4)] 7 = mkF m 0 #[.val (.ref x0), .val (.int x1), .val (.ref x2), .val (.int x3), .val (.int x4), .unset, .unset] [] := by first | (simp [entryFrame, mkF, argsToLocals, Value.category]; done) | rfl
theorem pn_c6 : plainName "java/lang/StringUTF16" = true := by first | (simp [plainName, overriddenIn]; done) | decide +kernel
-- java/lang/StringUTF16.compress
set_option maxRecDepth 65536 in
set_option maxHeartbeats 4000000 in
theorem au_36 (l : Launch) (Z : State) (a0 : Array Value) (hw : ∀ d ∈ tables_1, d.before a0 Z = true) (x0 : Addr) (x1 : Addr) (kk0 : ClassId) (p0 : Int32) (kk1 : ClassId) (h0 : Heap) (n0 : Nat) (Z0 : n0 ≤ h0.size) (P0 : Arv Z h0 x0 kk0 .char (1 : Int32) [(.int p0)] (.int 0)) (P2 : Arv Z h0 x1 kk1 .byte (1 : Int32) [(.int 0)] (.int 0)) (P3 : Exa Z h0 x1 "[B") (R_p0 : 0 ≤ p0.toInt ∧ p0.toInt ≤ 255) (g_x1 : n0 ≤ x1) :
    Ctr l Z (⟨"java/lang/StringUTF16", "compress", "([CI[BII)I"⟩ : MethodName) jdk_52_method_21_code 7 (some .int) ({ frames := 0, cells := 0, slots := 0, locals := 0 } : Room) #[(.ref x0), (.int 0), (.ref x1), (.int 0), (.int 1)] h0 (fun v h L => ∃ (z1 : Int32), (p0.toInt8.toInt32) = z1 ∧ v = some (.int 1) ∧ Fr n0 L ∧ Keep h0 h [x1] ∧ Arv Z h x1 kk1 .byte (1 : Int32) [(.int z1)] (.int 0) ∧ Exa Z h x1 "[B") := by
  refine Ctr.of (plainFor_of_name pn_c6) ?_
  intro p e s m below meth c T0 hx hZ hby hml hown hnm hret hlk e0 es X0
  refine Go.cast (ef_25_RIRII m x0 (0 : Int32) x1 (0 : Int32) (1 : Int32)) ?_
  generalize hFF : EndN s _ _ _ = FF
  refine Go.iconst X0 hx (pc' := 1) rfl (hb hby d25_0) (v := (0 : Int32)) rfl ?_
  refine Go.istore X0 hx (pc' := 3) rfl (hb hby d25_1) (Ls' := #[.val (.ref x0), .val (.int 0), .val (.ref x1), .val (.int 0), .val (.int 1), .val (.int 0), .unset]) rfl ?_
  refine Go.iload X0 hx (pc' := 5) rfl (hb hby d25_3) rfl ?_
  refine Go.iload X0 hx (pc' := 7) rfl (hb hby d25_5) rfl ?_
  refine Go.icmpNo X0 hx (pc' := 10) rfl (hb hby d25_7) (by decide) ?_
  refine Go.aloadN X0 hx (pc' := 11) rfl (hb hby d25_10) rfl rfl ?_
  refine Go.iloadN X0 hx (pc' := 12) rfl (hb hby d25_11) rfl ?_
  refine Go.caload X0 hx hZ e0 P0 (v := (.int p0)) ⟨by decide, by decide⟩ rfl (pc' := 13) rfl (hb hby d25_12) ?_
  refine Go.istore X0 hx (pc' := 15) rfl (hb hby d25_13) (Ls' := #[.val (.ref x0), .val (.int 0), .val (.ref x1), .val (.int 0), .val (.int 1), .val (.int 0), .val (.int p0)]) rfl ?_
  refine Go.iload X0 hx (pc' := 17) rfl (hb hby d25_15) rfl ?_
  refine Go.sipush X0 hx (pc' := 20) rfl (hb hby d25_17) (v := (255 : Int32)) (by decide) ?_
  refine Go.icmpYes X0 hx (pc' := 26) (hb hby d25_20) (flt (own_nlt_r (own_rlit (n := 255) (by decide)) R_p0 (by decide))).2.2.2 (by decide) (by decide) ?_
  refine Go.aloadN X0 hx (pc' := 27) rfl (hb hby d25_26) rfl rfl ?_
  refine Go.iloadN X0 hx (pc' := 28) rfl (hb hby d25_27) rfl ?_
  refine Go.iload X0 hx (pc' := 30) rfl (hb hby d25_28) rfl ?_
  refine Go.i2b X0 hx (pc' := 31) rfl (hb hby d25_30) ?_
  generalize hz1 : (p0.toInt8.toInt32) = z1
  have r2 : -128 ≤ z1.toInt ∧ z1.toInt ≤ 127 := own_ri2b hz1
  refine Go.bastore X0 hx hZ e0 P2 z1 (own_nar_byte r2 (by decide) (by decide)) ⟨by decide, by decide⟩ 0 rfl (Nat.le_of_ble_eq_true rfl) (pc' := 32) rfl (hb hby d25_31) ?_
  intro T3 h3 e3 W3 V3 X3
  have N3 := Fr.snoc X3 (Fr.nil n0) g_x1
  refine Go.iinc X3 hx (pc' := 35) rfl (hb hby d25_32) rfl (y := (1 : Int32)) (by decide) (Ls' := #[.val (.ref x0), .val (.int 1), .val (.ref x1), .val (.int 0), .val (.int 1), .val (.int 0), .val (.int p0)]) rfl ?_
  refine Go.iinc X3 hx (pc' := 38) rfl (hb hby d25_35) rfl (y := (1 : Int32)) (by decide) (Ls' := #[.val (.ref x0), .val (.int 1), .val (.ref x1), .val (.int 1), .val (.int 1), .val (.int 0), .val (.int p0)]) rfl ?_
  refine Go.iinc X3 hx (pc' := 41) rfl (hb hby d25_38) rfl (y := (1 : Int32)) (by decide) (Ls' := #[.val (.ref x0), .val (.int 1), .val (.ref x1), .val (.int 1), .val (.int 1), .val (.int 1), .val (.int p0)]) rfl ?_
  refine Go.goto X3 hx (pc' := 3) (hb hby d25_41) (by decide) (by decide) ?_
  refine Go.iload X3 hx (pc' := 5) rfl (hb hby d25_3) rfl ?_
  refine Go.iload X3 hx (pc' := 7) rfl (hb hby d25_5) rfl ?_
  refine Go.icmpYes X3 hx (pc' := 44) (hb hby d25_7) (by decide) (by decide) (by decide) ?_
  refine Go.iload X3 hx (pc' := 46) rfl (hb hby d25_44) rfl ?_
  subst hFF
  refine Go.retI X3 hx hlk hret (hb hby d25_46) (by decide) (by decide) ?_
  rw [e3]
  have V4 : Arv Z h3 x1 kk1 .byte (1 : Int32) [(.int z1)] (.int 0) := V3
  have fk5 : Exa Z h3 x1 "[B" := (P3.wr W3)
  have Kp6 : Keep h0 h3 [x1] := ((Keep.refl h0 [x1]).wr W3 (Or.inl (List.mem_of_getElem? (i := 0) rfl)))
  exact ⟨z1, hz1, rfl, N3, Kp6, V4, fk5⟩
theorem pd_19 : parseMethodDescriptor "([CI[BII)I" = some ⟨[(.array .char), .int, (.array .byte), .int, .int], some .int⟩ := by decide +kernel
theorem d24_9 : decode jdk_52_method_16_code 9 = .ok (.invokestatic 115, 3) := by decide +kernel
theorem d24_12 : decode jdk_52_method_16_code 12 = .ok (.istore 4, 2) := by decide +kernel
theorem d24_14 : decode jdk_52_method_16_code 14 = .ok (.iload 4, 2) := by decide +kernel
theorem d24_16 : decode jdk_52_method_16_code 16 = .ok (.iload_n 2, 1) := by decide +kernel
theorem d24_17 : decode jdk_52_method_16_code 17 = .ok (.if_icmp .eq 40, 3) := by decide +kernel
theorem d24_57 : decode jdk_52_method_16_code 57 = .ok (.aload_n 3, 1) := by decide +kernel
theorem d24_58 : decode jdk_52_method_16_code 58 = .ok (.areturn, 1) := by decide +kernel
theorem ef_24_RII (m : MethodId) (x0 : Addr) (x1 : Int32) (x2 : Int32) : entryFrame m #[(.ref x0), (.int x1), (.int x2)] 6 = mkF m 0 #[.val (.ref x0), .val (.int x1), .val (.int x2), .unset, .unset, .unset] [] := by first | (simp [entryFrame, mkF, argsToLocals, Value.category]; done) | rfl
-- java/lang/StringUTF16.compress
set_option maxRecDepth 65536 in
set_option maxHeartbeats 4000000 in
theorem au_35 (l : Launch) (Z : State) (a0 : Array Value) (hw : ∀ d ∈ tables_1, d.before a0 Z = true) (x0 : Addr) (kk0 : ClassId) (p0 : Int32) (h0 : Heap) (n0 : Nat) (Z0 : n0 ≤ h0.size) (P0 : Arv Z h0 x0 kk0 .char (1 : Int32) [(.int p0)] (.int 0)) (R_p0 : 0 ≤ p0.toInt ∧ p0.toInt ≤ 255) :
    Ctr l Z (⟨"java/lang/StringUTF16", "compress", "([CII)[B"⟩ : MethodName) jdk_52_method_16_code 6 (some (.array .byte)) ({ frames := 1, cells := 1, slots := 1, locals := 18 } : Room) #[(.ref x0), (.int 0), (.int 1)] h0 (fun v h L => ∃ (z7_0 : Int32) (b1 : Addr) (k1 : ClassId), (p0.toInt8.toInt32) = z7_0 ∧ v = some (.ref b1) ∧ Fr n0 L ∧ Keep h0 h [] ∧ h0.size ≤ b1 ∧ Arv Z h b1 k1 .byte (1 : Int32) [(.int z7_0)] (.int 0) ∧ Exa Z h b1 "[B") := by
  refine Ctr.of (plainFor_of_name pn_c6) ?_
  intro p e s m below meth c T0 hx hZ hby hml hown hnm hret hlk e0 es X0
  refine Go.cast (ef_24_RII m x0 (0 : Int32) (1 : Int32)) ?_
  generalize hFF : EndN s _ _ _ = FF
  refine Go.iloadN X0 hx (pc' := 1) rfl (hb hby d24_0) rfl ?_
  refine Go.newarray X0 hx hZ (ty := .byte) rfl (tw_23 hw) e0 (by decide) (cap := 1) (by decide) (by decide) (by decide) (by decide) (ad := "[B") (by decide) 1 (pc' := 3) rfl (hb hby d24_1) ?_
  intro T1 h1 b1 k1 e1 E1 g1 V1 A1 X1
  have V1' : Arv Z h1 b1 k1 .byte (1 : Int32) [(.int 0)] (.int 0) := V1
  refine Go.astoreN X1 hx (pc' := 4) rfl (hb hby d24_3) (Ls' := #[.val (.ref x0), .val (.int 0), .val (.int 1), .val (.ref b1), .unset, .unset]) rfl rfl ?_
  refine Go.aloadN X1 hx (pc' := 5) rfl (hb hby d24_4) rfl rfl ?_
  refine Go.iloadN X1 hx (pc' := 6) rfl (hb hby d24_5) rfl ?_
  refine Go.aloadN X1 hx (pc' := 7) rfl (hb hby d24_6) rfl rfl ?_
  refine Go.iconst X1 hx (pc' := 8) rfl (hb hby d24_7) (v := (0 : Int32)) rfl ?_
  refine Go.iloadN X1 hx (pc' := 9) rfl (hb hby d24_8) rfl ?_
  have Kp3 : Keep h0 h1 [] := ((Keep.refl h0 []).ext E1)
  have Zn2 : n0 ≤ h1.size := Nat.le_trans Z0 Kp3.1
  have fk4 := (P0.ext E1)
  have sz6 : h0.size ≤ b1 := Nat.le_trans (Keep.refl h0 []).1 (Nat.le_of_eq g1.symm)
  have ge5 : n0 ≤ b1 := Nat.le_trans Z0 sz6
  refine Go.callS X1 hx hZ hown (tw_118 hw) (tw_119 hw) (tw_116 hw) (tw_120 hw) (by decide) (tw_120 hw) (tw_116 hw) (au_36 l Z a0 hw x0 b1 kk0 p0 k1 h1 n0 Zn2 fk4 V1' A1 R_p0 ge5) e1 (argsL := [(.ref x0), (.int 0), (.ref b1), (.int 0), (.int 1)]) (rest := []) (pc' := 12) rfl (by rw [hml]; rfl) (lenOf pd_19 rfl) rfl rfl (W := 0) (Nat.le_of_eq rfl) (by decide) (by decide) (by decide) (by decide) (hb hby d24_9) ?_
  intro v7 T7 L7 q7 X7
  obtain ⟨h7, e7⟩ : ∃ z, T7.heap = z := ⟨_, rfl⟩
  rw [e7] at q7
  obtain ⟨z7_0, d7_0, rfl, N7, K7, F7_0, F7_1⟩ := q7
  show Go _ _ _ _ (T7.setTop (mkF m 12 #[.val (.ref x0), .val (.int 0), .val (.int 1), .val (.ref b1), .unset, .unset] [(.int 1)]))
  refine Go.istore X7 hx (pc' := 14) rfl (hb hby d24_12) (Ls' := #[.val (.ref x0), .val (.int 0), .val (.int 1), .val (.ref b1), .val (.int 1), .unset]) rfl ?_
  refine Go.iload X7 hx (pc' := 16) rfl (hb hby d24_14) rfl ?_
  refine Go.iloadN X7 hx (pc' := 17) rfl (hb hby d24_16) rfl ?_
  refine Go.icmpYes X7 hx (pc' := 57) (hb hby d24_17) (by decide) (by decide) (by decide) ?_
  refine Go.aloadN X7 hx (pc' := 58) rfl (hb hby d24_57) rfl rfl ?_
  subst hFF
  refine Go.retR X7 hx hlk (t := (.array .byte)) hret rfl rfl (hb hby d24_58) (by decide) (by decide) ?_
  rw [e7]
  have Kp8 : Keep h0 h7 [] := (Kp3.trans K7 (allS (Or.inr sz6) all0))
  exact ⟨z7_0, b1, k1, d7_0, rfl, (Fr.app (Fr.nil n0) N7), Kp8, sz6, F7_0, F7_1⟩
theorem pd_20 : parseMethodDescriptor "([CII)[B" = some ⟨[(.array .char), .int, .int], some (.array .byte)⟩ := by decide +kernel
theorem d4_36 : decode jdk_42_method_149_code 36 = .ok (.invokestatic 177, 3) := by decide +kernel
theorem d4_39 : decode jdk_42_method_149_code 39 = .ok (.astore 5, 2) := by decide +kernel
theorem d4_41 : decode jdk_42_method_149_code 41 = .ok (.aload_n 0, 1) := by decide +kernel
theorem d4_42 : decode jdk_42_method_149_code 42 = .ok (.aload 5, 2) := by decide +kernel
theorem d4_44 : decode jdk_42_method_149_code 44 = .ok (.iload_n 3, 1) := by decide +kernel
theorem d26_0 : decode jdk_52_method_15_code 0 = .ok (.iload_n 1, 1) := by decide +kernel
theorem d26_1 : decode jdk_52_method_15_code 1 = .ok (.aload_n 0, 1) := by decide +kernel
theorem d26_2 : decode jdk_52_method_15_code 2 = .ok (.arraylength, 1) := by decide +kernel
theorem d26_3 : decode jdk_52_method_15_code 3 = .ok (.isub, 1) := by decide +kernel
theorem d26_4 : decode jdk_52_method_15_code 4 = .ok (.bipush 31, 2) := by decide +kernel
theorem d26_6 : decode jdk_52_method_15_code 6 = .ok (.iushr, 1) := by decide +kernel
theorem d26_7 : decode jdk_52_method_15_code 7 = .ok (.i2b, 1) := by decide +kernel
theorem d26_8 : decode jdk_52_method_15_code 8 = .ok (.ireturn, 1) := by decide +kernel
theorem ef_26_RI (m : MethodId) (x0 : Addr) (x1 : Int32) : entryFrame m #[(.ref x0), (.int x1)] 2 = mkF m 0 #[.val (.ref x0), .val (.int x1)] [] := by first | (simp [entryFrame, mkF, argsToLocals, Value.category]; done) | rfl
-- java/lang/StringUTF16.coderFromArrayLen
set_option maxRecDepth 65536 in
set_option maxHeartbeats 4000000 in
theorem au_37 (l : Launch) (Z : State) (a0 : Array Value) (hw : ∀ d ∈ tables_1, d.before a0 Z = true) (x0 : Addr) (kk0 : ClassId) (p0 : Int32) (h0 : Heap) (n0 : Nat) (Z0 : n0 ≤ h0.size) (P0 : Arv Z h0 x0 kk0 .byte (1 : Int32) [(.int p0)] (.int 0)) :
    Ctr l Z (⟨"java/lang/StringUTF16", "coderFromArrayLen", "([BI)B"⟩ : MethodName) jdk_52_method_15_code 2 (some .byte) ({ frames := 0, cells := 0, slots := 0, locals := 0 } : Room) #[(.ref x0), (.int 1)] h0 (fun v h L => v = some (.int 0) ∧ Fr n0 L ∧ h = h0) := by
  refine Ctr.of (plainFor_of_name pn_c6) ?_
  intro p e s m below meth c T0 hx hZ hby hml hown hnm hret hlk e0 es X0
  refine Go.cast (ef_26_RI m x0 (1 : Int32)) ?_
  generalize hFF : EndN s _ _ _ = FF
  refine Go.iloadN X0 hx (pc' := 1) rfl (hb hby d26_0) rfl ?_
  refine Go.aloadN X0 hx (pc' := 2) rfl (hb hby d26_1) rfl rfl ?_
  refine Go.arraylength X0 hx hZ e0 P0 (pc' := 3) rfl (hb hby d26_2) ?_
  refine Go.isub X0 hx (pc' := 4) rfl (hb hby d26_3) ?_
  rw [show ((1 : Int32) - (1 : Int32)) = (0 : Int32) from by decide]
  refine Go.bipush X0 hx (pc' := 6) rfl (hb hby d26_4) (v := (31 : Int32)) (by decide) ?_
  refine Go.iushr X0 hx (pc' := 7) rfl (hb hby d26_6) ?_
  rw [show (((0 : Int32).toUInt32 >>> ((31 : Int32) &&& 31).toUInt32).toInt32) = (0 : Int32) from by decide]
  refine Go.i2b X0 hx (pc' := 8) rfl (hb hby d26_7) ?_
  rw [show ((0 : Int32).toInt8.toInt32) = (0 : Int32) from by decide]
  subst hFF
  refine Go.retN X0 hx hlk (t := .byte) hret (by simp) (hb hby d26_8) (by decide) (by decide) ?_
  rw [e0]
  exact ⟨(congrArg (fun z => some (Value.int z)) (by decide : nar .byte (0 : Int32) = (0 : Int32))), (Fr.nil n0), rfl⟩
theorem pd_21 : parseMethodDescriptor "([BI)B" = some ⟨[(.array .byte), .int], some .byte⟩ := by decide +kernel
theorem d4_45 : decode jdk_42_method_149_code 45 = .ok (.invokestatic 47, 3) := by decide +kernel
theorem d4_48 : decode jdk_42_method_149_code 48 = .ok (.putfield 15, 3) := by decide +kernel
theorem d4_51 : decode jdk_42_method_149_code 51 = .ok (.aload_n 0, 1) := by decide +kernel
theorem d4_52 : decode jdk_42_method_149_code 52 = .ok (.aload 5, 2) := by decide +kernel
theorem d4_54 : decode jdk_42_method_149_code 54 = .ok (.putfield 9, 3) := by decide +kernel
theorem d4_57 : decode jdk_42_method_149_code 57 = .ok (.return_, 1) := by decide +kernel
-- java/lang/String.init
set_option maxRecDepth 65536 in
set_option maxHeartbeats 4000000 in
theorem au_34 (l : Launch) (Z : State) (a0 : Array Value) (hw : ∀ d ∈ tables_1, d.before a0 Z = true) (x0 : Addr) (x1 : Addr) (kk0 : ClassId) (p0 : Int32) (gz1 : Int32) (gv5 : Value) (h0 : Heap) (n0 : Nat) (Z0 : n0 ≤ h0.size) (O0 : Old Z n0 h0) (G : Glob Z gz1 gv5) (P0 : Exa Z h0 x0 "java/lang/String") (P1 : Fld Z h0 x0 "java/lang/String" "coder" "B" (.int 0)) (P2 : Fld Z h0 x0 "java/lang/String" "value" "[B" .null) (P3 : Arv Z h0 x1 kk0 .char (1 : Int32) [(.int p0)] (.int 0)) (R_p0 : 0 ≤ p0.toInt ∧ p0.toInt ≤ 255) (g_x0 : n0 ≤ x0) :
    Ctr l Z (⟨"java/lang/String", "<init>", "([CIILjava/lang/Void;)V"⟩ : MethodName) jdk_42_method_149_code 6 none ({ frames := 2, cells := 1, slots := 1, locals := 35 } : Room) #[(.ref x0), (.ref x1), (.int 0), (.int 1), .null] h0 (fun v h L => ∃ (z4_0 : Int32) (b4_0 : Addr) (k4_0 : ClassId), (p0.toInt8.toInt32) = z4_0 ∧ v = none ∧ Fr n0 L ∧ Keep h0 h [x0] ∧ h0.size ≤ b4_0 ∧ Exa Z h x0 "java/lang/String" ∧ Fld Z h x0 "java/lang/String" "coder" "B" (.int 0) ∧ Fld Z h x0 "java/lang/String" "value" "[B" (.ref b4_0) ∧ Arv Z h b4_0 k4_0 .byte (1 : Int32) [(.int z4_0)] (.int 0) ∧ Exa Z h b4_0 "[B") := by
  refine Ctr.of (plainFor_of_name pn_c1) ?_
  intro p e s m below meth c T0 hx hZ hby hml hown hnm hret hlk e0 es X0
  have G' := G
  obtain ⟨G0, -, G2, -⟩ := G'
  refine Go.cast (ef_4_RRIIN m x0 x1 (0 : Int32) (1 : Int32)) ?_
  generalize hFF : EndN s _ _ _ = FF
  refine Go.aloadN X0 hx (pc' := 1) rfl (hb hby d4_0) rfl rfl ?_
  refine Go.initO X0 hx hZ hown (tw_19 hw) (tw_20 hw) (tw_21 hw) e0 (by decide) (W := 0) (by rw [hml]; rfl) (Nat.le_of_eq rfl) (by decide) (pc' := 4) rfl (hb hby d4_1) ?_
  intro T1 e1 X1
  refine Go.iloadN X1 hx (pc' := 5) rfl (hb hby d4_4) rfl ?_
  refine Go.ifYes X1 hx (pc' := 27) (hb hby d4_5) (by decide) (by decide) (by decide) ?_
  have fk2 : Sta Z h0 "java/lang/String" "COMPACT_STRINGS" "Z" (.int gz1) := G0.ext O0.2
  refine Go.getS X1 hx hZ hown (host := "") (Or.inl (tw_55 hw)) Via.refl e1 fk2 (pc' := 30) rfl (hb hby d4_27) ?_
  intro T3 e3 X3
  refine Go.ifNo X3 hx (pc' := 33) rfl (hb hby d4_30) (feq G2).1 ?_
  refine Go.aloadN X3 hx (pc' := 34) rfl (hb hby d4_33) rfl rfl ?_
  refine Go.iloadN X3 hx (pc' := 35) rfl (hb hby d4_34) rfl ?_
  refine Go.iloadN X3 hx (pc' := 36) rfl (hb hby d4_35) rfl ?_
  refine Go.callS X3 hx hZ hown (tw_114 hw) (tw_115 hw) (tw_116 hw) (tw_117 hw) (by decide) (tw_117 hw) (tw_116 hw) (au_35 l Z a0 hw x1 kk0 p0 h0 n0 Z0 P3 R_p0) e3 (argsL := [(.ref x1), (.int 0), (.int 1)]) (rest := []) (pc' := 39) rfl (by rw [hml]; rfl) (lenOf pd_20 rfl) rfl rfl (W := 0) (Nat.le_of_eq rfl) (by decide) (by decide) (by decide) (by decide) (hb hby d4_36) ?_
  intro v4 T4 L4 q4 X4
  obtain ⟨h4, e4⟩ : ∃ z, T4.heap = z := ⟨_, rfl⟩
  rw [e4] at q4
  obtain ⟨z4_0, b4_0, k4_0, d4_0, rfl, N4, K4, s4_0, F4_0, F4_1⟩ := q4
  show Go _ _ _ _ (T4.setTop (mkF m 39 #[.val (.ref x0), .val (.ref x1), .val (.int 0), .val (.int 1), .val .null, .unset] [(.ref b4_0)]))
  refine Go.astore X4 hx (pc' := 41) rfl (hb hby d4_39) (Ls' := #[.val (.ref x0), .val (.ref x1), .val (.int 0), .val (.int 1), .val .null, .val (.ref b4_0)]) rfl rfl ?_
  refine Go.aloadN X4 hx (pc' := 42) rfl (hb hby d4_41) rfl rfl ?_
  refine Go.aload X4 hx (pc' := 44) rfl (hb hby d4_42) rfl rfl ?_
  refine Go.iloadN X4 hx (pc' := 45) rfl (hb hby d4_44) rfl ?_
  have r5 : -128 ≤ z4_0.toInt ∧ z4_0.toInt ≤ 127 := own_ri2b d4_0
  have Kp7 : Keep h0 h4 [x0] := ((Keep.refl h0 [x0]).trans K4 all0)
  have Zn6 : n0 ≤ h4.size := Nat.le_trans Z0 Kp7.1
  refine Go.callS X4 hx hZ hown (tw_121 hw) (tw_122 hw) (tw_116 hw) (tw_123 hw) (by decide) (tw_123 hw) (tw_116 hw) (au_37 l Z a0 hw b4_0 k4_0 z4_0 h4 n0 Zn6 F4_0) e4 (argsL := [(.ref b4_0), (.int 1)]) (rest := [(.ref x0)]) (pc' := 48) rfl (by rw [hml]; rfl) (lenOf pd_21 rfl) rfl rfl (W := 1) (Nat.le_of_eq rfl) (by decide) (by decide) (by decide) (by decide) (hb hby d4_45) ?_
  intro v8 T8 L8 q8 X8
  obtain ⟨rfl, N8, e8⟩ := q8
  show Go _ _ _ _ (T8.setTop (mkF m 48 #[.val (.ref x0), .val (.ref x1), .val (.int 0), .val (.int 1), .val .null, .val (.ref b4_0)] [(.int 0), (.ref x0)]))
  have fk9 : Fld Z h4 x0 "java/lang/String" "coder" "B" (.int 0) := (P1.keep K4 nin0)
  have fk10 : Exa Z h4 x0 "java/lang/String" := (P0.keep K4)
  refine Go.putFN X8 hx hZ hown (tw_29 hw) Via.refl e8 fk9 fk10 (Or.inr ⟨(tw_25 hw), rfl, hnm⟩) (tw_9 hw) (ty := .byte) (v' := (.int 0)) (by decide) (by decide) (by decide) (pc' := 51) rfl (hb hby d4_48) ?_
  intro T11 h11 e11 W11 F11 X11
  have N11 := Fr.snoc X11 (Fr.app (Fr.app (Fr.nil n0) N4) N8) g_x0
  refine Go.aloadN X11 hx (pc' := 52) rfl (hb hby d4_51) rfl rfl ?_
  refine Go.aload X11 hx (pc' := 54) rfl (hb hby d4_52) rfl rfl ?_
  have fk12 : Fld Z h11 x0 "java/lang/String" "value" "[B" .null := ((P2.keep K4 nin0).other W11 (Or.inr (slot_ne (Or.inr (tw_24 hw)) (Or.inr (tw_25 hw)) (by decide) (t := (.array .byte)) (t' := .byte) (by decide) (by decide))))
  have fk13 : Exa Z h11 x0 "java/lang/String" := (fk10.wr W11)
  refine Go.putF X11 hx hZ hown (host := "") (Or.inl (tw_28 hw)) Via.refl e11 fk12 fk13 (Or.inr ⟨(tw_24 hw), rfl, hnm⟩) (tw_9 hw) (ty := (.array .byte)) (by decide) rfl rfl (pc' := 57) rfl (hb hby d4_54) ?_
  intro T14 h14 e14 W14 F14 X14
  have N14 := Fr.snoc X14 N11 g_x0
  subst hFF
  refine Go.ret0 X14 hx hlk hret (hb hby d4_57) (by decide) (by decide) ?_
  rw [e14]
  have fk15 : Exa Z h14 x0 "java/lang/String" := (fk13.wr W14)
  have fk16 : Fld Z h14 x0 "java/lang/String" "coder" "B" (.int 0) := (F11.other W14 (Or.inr (slot_ne (Or.inr (tw_25 hw)) (Or.inr (tw_24 hw)) (by decide) (t := .byte) (t' := (.array .byte)) (by decide) (by decide))))
  have ne17 : x0 ≠ b4_0 := Nat.ne_of_lt (Nat.lt_of_lt_of_le P0.lt s4_0)
  have fk18 := ((F4_0.other W11 (Ne.symm ne17)).other W14 (Ne.symm ne17))
  have fk19 : Exa Z h14 b4_0 "[B" := ((F4_1.wr W11).wr W14)
  have Kp20 : Keep h0 h11 [x0] := (Kp7.wr W11 (Or.inl (List.mem_of_getElem? (i := 0) rfl)))
  have Kp21 : Keep h0 h14 [x0] := (Kp20.wr W14 (Or.inl (List.mem_of_getElem? (i := 0) rfl)))
  have sz22 : h0.size ≤ b4_0 := Nat.le_trans (Keep.refl h0 [x0]).1 s4_0
  exact ⟨z4_0, b4_0, k4_0, d4_0, rfl, N14, Kp21, sz22, fk15, fk16, F14, fk18, fk19⟩
-- java/lang/String.init
set_option maxRecDepth 65536 in
set_option maxHeartbeats 4000000 in
theorem au_33 (l : Launch) (Z : State) (a0 : Array Value) (hw : ∀ d ∈ tables_1, d.before a0 Z = true) (x0 : Addr) (x1 : Addr) (kk0 : ClassId) (p0 : Int32) (gz1 : Int32) (gv5 : Value) (h0 : Heap) (n0 : Nat) (Z0 : n0 ≤ h0.size) (O0 : Old Z n0 h0) (G : Glob Z gz1 gv5) (P0 : Exa Z h0 x0 "java/lang/String") (P1 : Fld Z h0 x0 "java/lang/String" "coder" "B" (.int 0)) (P2 : Fld Z h0 x0 "java/lang/String" "value" "[B" .null) (P3 : Arv Z h0 x1 kk0 .char (1 : Int32) [(.int p0)] (.int 0)) (R_p0 : 0 ≤ p0.toInt ∧ p0.toInt ≤ 255) (g_x0 : n0 ≤ x0) :
    Ctr l Z (⟨"java/lang/String", "<init>", "([C)V"⟩ : MethodName) jdk_42_method_3_code 2 none ({ frames := 3, cells := 1, slots := 1, locals := 52 } : Room) #[(.ref x0), (.ref x1)] h0 (fun v h L => ∃ (z1_0 : Int32) (b1_0 : Addr) (k1_0 : ClassId), (p0.toInt8.toInt32) = z1_0 ∧ v = none ∧ Fr n0 L ∧ Keep h0 h [x0] ∧ h0.size ≤ b1_0 ∧ Exa Z h x0 "java/lang/String" ∧ Fld Z h x0 "java/lang/String" "coder" "B" (.int 0) ∧ Fld Z h x0 "java/lang/String" "value" "[B" (.ref b1_0) ∧ Arv Z h b1_0 k1_0 .byte (1 : Int32) [(.int z1_0)] (.int 0) ∧ Exa Z h b1_0 "[B") := by
  refine Ctr.of (plainFor_of_name pn_c1) ?_
  intro p e s m below meth c T0 hx hZ hby hml hown hnm hret hlk e0 es X0
  refine Go.cast (ef_3_RR m x0 x1) ?_
  generalize hFF : EndN s _ _ _ = FF
  refine Go.aloadN X0 hx (pc' := 1) rfl (hb hby d3_0) rfl rfl ?_
  refine Go.aloadN X0 hx (pc' := 2) rfl (hb hby d3_1) rfl rfl ?_
  refine Go.iconst X0 hx (pc' := 3) rfl (hb hby d3_2) (v := (0 : Int32)) rfl ?_
  refine Go.aloadN X0 hx (pc' := 4) rfl (hb hby d3_3) rfl rfl ?_
  refine Go.arraylength X0 hx hZ e0 P3 (pc' := 5) rfl (hb hby d3_4) ?_
  refine Go.anull X0 hx (pc' := 6) rfl (hb hby d3_5) ?_
  refine Go.callN X0 hx hZ hown rfl (tw_15 hw) (tw_16 hw) (tw_18 hw) (by decide) (tw_18 hw) (tw_10 hw) (au_34 l Z a0 hw x0 x1 kk0 p0 gz1 gv5 h0 n0 Z0 O0 G P0 P1 P2 P3 R_p0 g_x0) e0 (a := x0) (argsL := [(.ref x1), (.int 0), (.int 1), .null]) (rest := []) (pc' := 9) rfl (by rw [hml]; rfl) (lenOf pd_1 rfl) rfl rfl (W := 0) (Nat.le_of_eq rfl) (by decide) (by decide) (by decide) (by decide) (hb hby d3_6) ?_
  intro v1 T1 L1 q1 X1
  obtain ⟨h1, e1⟩ : ∃ z, T1.heap = z := ⟨_, rfl⟩
  rw [e1] at q1
  obtain ⟨z1_0, b1_0, k1_0, d1_0, rfl, N1, K1, s1_0, F1_0, F1_1, F1_2, F1_3, F1_4⟩ := q1
  show Go _ _ _ _ (T1.setTop (mkF m 9 #[.val (.ref x0), .val (.ref x1)] []))
  subst hFF
  refine Go.ret0 X1 hx hlk hret (hb hby d3_9) (by decide) (by decide) ?_
  rw [e1]
  have Kp2 : Keep h0 h1 [x0] := ((Keep.refl h0 [x0]).trans K1 (allS (Or.inl (List.mem_of_getElem? (i := 0) rfl)) all0))
  have sz3 : h0.size ≤ b1_0 := Nat.le_trans (Keep.refl h0 [x0]).1 s1_0
  exact ⟨z1_0, b1_0, k1_0, d1_0, rfl, (Fr.app (Fr.nil n0) N1), Kp2, sz3, F1_0, F1_1, F1_2, F1_3, F1_4⟩
theorem d2_31 : decode method_3_code 31 = .ok (.invokespecial 9, 3) := by decide +kernel
theorem d2_34 : decode method_3_code 34 = .ok (.areturn, 1) := by decide +kernel
-- com/example/roles_over_datacenter/rolesoverdatacenter/PageServesPinLaw.make
set_option maxRecDepth 65536 in
set_option maxHeartbeats 4000000 in
theorem au_32 (l : Launch) (Z : State) (a0 : Array Value) (hw : ∀ d ∈ tables_1, d.before a0 Z = true) (p0 : Int32) (p1 : Int32) (p2 : Int32) (p3 : Int32) (p4 : Int32) (gz1 : Int32) (gv5 : Value) (h0 : Heap) (n0 : Nat) (Z0 : n0 ≤ h0.size) (O0 : Old Z n0 h0) (G : Glob Z gz1 gv5) (R_p0 : 0 ≤ p0.toInt ∧ p0.toInt ≤ 255) :
    Ctr l Z (⟨"com/example/roles_over_datacenter/rolesoverdatacenter/PageServesPinLaw", "make", "(ICCCCC)Ljava/lang/String;"⟩ : MethodName) method_3_code 6 (some (.object "java/lang/String")) ({ frames := 4, cells := 3, slots := 6, locals := 66 } : Room) #[(.int 1), (.int p0), (.int p1), (.int p2), (.int p3), (.int p4)] h0 (fun v h L => ∃ (z20_0 : Int32) (b1 : Addr) (b20_0 : Addr) (k20_0 : ClassId), (p0.toInt8.toInt32) = z20_0 ∧ v = some (.ref b1) ∧ Fr n0 L ∧ Keep h0 h [] ∧ h0.size ≤ b1 ∧ h0.size ≤ b20_0 ∧ b20_0 ≠ b1 ∧ Exa Z h b1 "java/lang/String" ∧ Fld Z h b1 "java/lang/String" "coder" "B" (.int 0) ∧ Fld Z h b1 "java/lang/String" "value" "[B" (.ref b20_0) ∧ Arv Z h b20_0 k20_0 .byte (1 : Int32) [(.int z20_0)] (.int 0) ∧ Exa Z h b20_0 "[B") := by
  refine Ctr.of (plainFor_of_name pn_c0) ?_
  intro p e s m below meth c T0 hx hZ hby hml hown hnm hret hlk e0 es X0
  refine Go.cast (ef_2_IIIIII m (1 : Int32) p0 p1 p2 p3 p4) ?_
  generalize hFF : EndN s _ _ _ = FF
  refine Go.iloadN X0 hx (pc' := 1) rfl (hb hby d2_0) rfl ?_
  refine Go.ifYes X0 hx (pc' := 15) (hb hby d2_1) (by decide) (by decide) (by decide) ?_
  refine Go.iloadN X0 hx (pc' := 16) rfl (hb hby d2_15) rfl ?_
  refine Go.iconst X0 hx (pc' := 17) rfl (hb hby d2_16) (v := (1 : Int32)) rfl ?_
  refine Go.icmpNo X0 hx (pc' := 20) rfl (hb hby d2_17) (by decide) ?_
  refine Go.new X0 hx hZ hown (tw_8 hw) (tw_9 hw) (tw_10 hw) e0 (by decide) (by decide) (pc' := 23) rfl (hb hby d2_20) ?_
  intro T1 h1 b1 e1 E1 g1 A1 D1 X1
  have b1_value : Fld Z h1 b1 "java/lang/String" "value" "[B" .null := D1 (Or.inr (tw_24 hw)) (ty := (.array .byte)) (by decide)
  have b1_coder : Fld Z h1 b1 "java/lang/String" "coder" "B" (.int 0) := D1 (Or.inr (tw_25 hw)) (ty := .byte) (by decide)
  refine Go.dup X1 hx (pc' := 24) rfl (hb hby d2_23) rfl ?_
  refine Go.iconst X1 hx (pc' := 25) rfl (hb hby d2_24) (v := (1 : Int32)) rfl ?_
  refine Go.newarray X1 hx hZ (ty := .char) rfl (tw_11 hw) e1 (by decide) (cap := 1) (by decide) (by decide) (by decide) (by decide) (ad := "[C") (by decide) 1 (pc' := 27) rfl (hb hby d2_25) ?_
  intro T2 h2 b2 k2 e2 E2 g2 V2 A2 X2
  have V2' : Arv Z h2 b2 k2 .char (1 : Int32) [(.int 0)] (.int 0) := V2
  refine Go.dup X2 hx (pc' := 28) rfl (hb hby d2_27) rfl ?_
  refine Go.iconst X2 hx (pc' := 29) rfl (hb hby d2_28) (v := (0 : Int32)) rfl ?_
  refine Go.iloadN X2 hx (pc' := 30) rfl (hb hby d2_29) rfl ?_
  have Kp5 : Keep h0 h1 [] := ((Keep.refl h0 []).ext E1)
  have sz4 : h0.size ≤ b2 := Nat.le_trans Kp5.1 (Nat.le_of_eq g2.symm)
  have ge3 : n0 ≤ b2 := Nat.le_trans Z0 sz4
  refine Go.castore X2 hx hZ e2 V2' p0 (own_nar_char R_p0 (by decide) (by decide)) ⟨by decide, by decide⟩ 0 rfl (Nat.le_of_ble_eq_true rfl) (pc' := 31) rfl (hb hby d2_30) ?_
  intro T6 h6 e6 W6 V6 X6
  have N6 := Fr.snoc X6 (Fr.nil n0) ge3
  have Kp8 : Keep h0 h2 [] := (Kp5.ext E2)
  have Kp9 : Keep h0 h6 [] := (Kp8.wr W6 (Or.inr sz4))
  have Zn7 : n0 ≤ h6.size := Nat.le_trans Z0 Kp9.1
  have O10 := (O0.ext E1)
  have O11 := (O10.ext E2)
  have O12 := (O11.wr W6 ge3)
  have fk13 : Exa Z h6 b1 "java/lang/String" := ((A1.ext E2).wr W6)
  have ne14 : b1 ≠ b2 := Nat.ne_of_lt (Nat.lt_of_lt_of_le A1.lt (Nat.le_of_eq g2.symm))
  have fk15 : Fld Z h6 b1 "java/lang/String" "coder" "B" (.int 0) := ((b1_coder.ext E2).other W6 (Or.inl ne14))
  have fk16 : Fld Z h6 b1 "java/lang/String" "value" "[B" .null := ((b1_value.ext E2).other W6 (Or.inl ne14))
  have V17 : Arv Z h6 b2 k2 .char (1 : Int32) [(.int p0)] (.int 0) := V6
  have sz19 : h0.size ≤ b1 := Nat.le_trans (Keep.refl h0 []).1 (Nat.le_of_eq g1.symm)
  have ge18 : n0 ≤ b1 := Nat.le_trans Z0 sz19
  refine Go.callN X6 hx hZ hown rfl (tw_12 hw) (tw_13 hw) (tw_14 hw) (by decide) (tw_14 hw) (tw_10 hw) (au_33 l Z a0 hw b1 b2 k2 p0 gz1 gv5 h6 n0 Zn7 O12 G fk13 fk15 fk16 V17 R_p0 ge18) e6 (a := b1) (argsL := [(.ref b2)]) (rest := [(.ref b1)]) (pc' := 34) rfl (by rw [hml]; rfl) (lenOf pd_2 rfl) rfl rfl (W := 1) (Nat.le_of_eq rfl) (by decide) (by decide) (by decide) (by decide) (hb hby d2_31) ?_
  intro v20 T20 L20 q20 X20
  obtain ⟨h20, e20⟩ : ∃ z, T20.heap = z := ⟨_, rfl⟩
  rw [e20] at q20
  obtain ⟨z20_0, b20_0, k20_0, d20_0, rfl, N20, K20, s20_0, F20_0, F20_1, F20_2, F20_3, F20_4⟩ := q20
  show Go _ _ _ _ (T20.setTop (mkF m 34 #[.val (.int 1), .val (.int p0), .val (.int p1), .val (.int p2), .val (.int p3), .val (.int p4)] [(.ref b1)]))
  subst hFF
  refine Go.retR X20 hx hlk (t := (.object "java/lang/String")) hret rfl rfl (hb hby d2_34) (by decide) (by decide) ?_
  rw [e20]
  have Kp21 : Keep h0 h20 [] := (Kp9.trans K20 (allS (Or.inr sz19) all0))
  have sz22 : h0.size ≤ b20_0 := Nat.le_trans Kp9.1 s20_0
  have ne23 : b1 ≠ b20_0 := Nat.ne_of_lt (Nat.lt_of_lt_of_le fk13.lt s20_0)
  exact ⟨z20_0, b1, b20_0, k20_0, d20_0, rfl, (Fr.app N6 N20), Kp21, sz19, sz22, (Ne.symm ne23), F20_0, F20_1, F20_2, F20_3, F20_4⟩
-- java/lang/String.coder
set_option maxRecDepth 65536 in
set_option maxHeartbeats 4000000 in
theorem au_43 (l : Launch) (Z : State) (a0 : Array Value) (hw : ∀ d ∈ tables_1, d.before a0 Z = true) (x0 : Addr) (gz1 : Int32) (gv5 : Value) (h0 : Heap) (n0 : Nat) (Z0 : n0 ≤ h0.size) (O0 : Old Z n0 h0) (G : Glob Z gz1 gv5) (P1 : Fld Z h0 x0 "java/lang/String" "coder" "B" (.int 0)) :
    Ctr l Z (⟨"java/lang/String", "coder", "()B"⟩ : MethodName) jdk_42_method_152_code 1 (some .byte) ({ frames := 0, cells := 0, slots := 0, locals := 0 } : Room) #[(.ref x0)] h0 (fun v h L => v = some (.int 0) ∧ Fr n0 L ∧ h = h0) := by
  refine Ctr.of (plainFor_of_name pn_c1) ?_
  intro p e s m below meth c T0 hx hZ hby hml hown hnm hret hlk e0 es X0
  have G' := G
  obtain ⟨G0, -, G2, -⟩ := G'
  refine Go.cast (ef_10_R m x0) ?_
  generalize hFF : EndN s _ _ _ = FF
  have fk1 : Sta Z h0 "java/lang/String" "COMPACT_STRINGS" "Z" (.int gz1) := G0.ext O0.2
  refine Go.getS X0 hx hZ hown (host := "") (Or.inl (tw_55 hw)) Via.refl e0 fk1 (pc' := 3) rfl (hb hby d10_0) ?_
  intro T2 e2 X2
  refine Go.ifNo X2 hx (pc' := 6) rfl (hb hby d10_3) (feq G2).1 ?_
  refine Go.aloadN X2 hx (pc' := 7) rfl (hb hby d10_6) rfl rfl ?_
  refine Go.getF X2 hx hZ hown (host := "") (Or.inl (tw_29 hw)) Via.refl e2 P1 (pc' := 10) rfl (hb hby d10_7) ?_
  intro T3 e3 X3
  refine Go.goto X3 hx (pc' := 14) (hb hby d10_10) (by decide) (by decide) ?_
  subst hFF
  refine Go.retN X3 hx hlk (t := .byte) hret (by simp) (hb hby d10_14) (by decide) (by decide) ?_
  rw [e3]
  exact ⟨(congrArg (fun z => some (Value.int z)) (by decide : nar .byte (0 : Int32) = (0 : Int32))), (Fr.nil n0), rfl⟩
-- java/lang/String.length
set_option maxRecDepth 65536 in
set_option maxHeartbeats 4000000 in
theorem au_42 (l : Launch) (Z : State) (a0 : Array Value) (hw : ∀ d ∈ tables_1, d.before a0 Z = true) (x0 : Addr) (x1 : Addr) (kk0 : ClassId) (p0 : Int32) (gz1 : Int32) (gv5 : Value) (h0 : Heap) (n0 : Nat) (Z0 : n0 ≤ h0.size) (O0 : Old Z n0 h0) (G : Glob Z gz1 gv5) (P0 : Exa Z h0 x0 "java/lang/String") (P1 : Fld Z h0 x0 "java/lang/String" "coder" "B" (.int 0)) (P2 : Fld Z h0 x0 "java/lang/String" "value" "[B" (.ref x1)) (P3 : Arv Z h0 x1 kk0 .byte (1 : Int32) [(.int p0)] (.int 0)) :
    Ctr l Z (⟨"java/lang/String", "length", "()I"⟩ : MethodName) jdk_42_method_54_code 1 (some .int) ({ frames := 1, cells := 0, slots := 0, locals := 13 } : Room) #[(.ref x0)] h0 (fun v h L => v = some (.int 1) ∧ Fr n0 L ∧ h = h0) := by
  refine Ctr.of (plainFor_of_name pn_c1) ?_
  intro p e s m below meth c T0 hx hZ hby hml hown hnm hret hlk e0 es X0
  refine Go.cast (ef_9_R m x0) ?_
  generalize hFF : EndN s _ _ _ = FF
  refine Go.aloadN X0 hx (pc' := 1) rfl (hb hby d9_0) rfl rfl ?_
  refine Go.getF X0 hx hZ hown (host := "") (Or.inl (tw_28 hw)) Via.refl e0 P2 (pc' := 4) rfl (hb hby d9_1) ?_
  intro T1 e1 X1
  refine Go.arraylength X1 hx hZ e1 P3 (pc' := 5) rfl (hb hby d9_4) ?_
  refine Go.aloadN X1 hx (pc' := 6) rfl (hb hby d9_5) rfl rfl ?_
  refine Go.callV X1 hx hZ hown (tw_50 hw) (tw_51 hw) (notFace_of_selects (args := #[]) (mvT hZ (tw_53 hw))) (tw_53 hw) (tw_52 hw) (by decide) (tw_54 hw) (tw_10 hw) (au_43 l Z a0 hw x0 gz1 gv5 h0 n0 Z0 O0 G P1) e1 P0 (argsL := []) (rest := [(.int 1)]) (pc' := 9) rfl (by rw [hml]; rfl) (lenOf pd_4 rfl) rfl rfl (W := 1) (Nat.le_of_eq rfl) (by decide) (by decide) (by decide) (by decide) (hb hby d9_6) ?_
  intro v2 T2 L2 q2 X2
  obtain ⟨rfl, N2, e2⟩ := q2
  show Go _ _ _ _ (T2.setTop (mkF m 9 #[.val (.ref x0)] [(.int 0), (.int 1)]))
  refine Go.ishr X2 hx (pc' := 10) rfl (hb hby d9_9) ?_
  rw [show ((1 : Int32) >>> ((0 : Int32) &&& 31)) = (1 : Int32) from by decide]
  subst hFF
  refine Go.retI X2 hx hlk hret (hb hby d9_10) (by decide) (by decide) ?_
  rw [e2]
  exact ⟨rfl, (Fr.app (Fr.nil n0) N2), rfl⟩
-- java/lang/String.startsWith
set_option maxRecDepth 65536 in
set_option maxHeartbeats 4000000 in
theorem au_41 (l : Launch) (Z : State) (a0 : Array Value) (hw : ∀ d ∈ tables_1, d.before a0 Z = true) (x0 : Addr) (x1 : Addr) (x2 : Addr) (x3 : Addr) (kk0 : ClassId) (p0 : Int32) (kk1 : ClassId) (gz1 : Int32) (gv5 : Value) (h0 : Heap) (n0 : Nat) (Z0 : n0 ≤ h0.size) (O0 : Old Z n0 h0) (G : Glob Z gz1 gv5) (P0 : Exa Z h0 x0 "java/lang/String") (P1 : Fld Z h0 x0 "java/lang/String" "coder" "B" (.int 0)) (P2 : Fld Z h0 x0 "java/lang/String" "value" "[B" (.ref x2)) (P3 : Exa Z h0 x1 "java/lang/String") (P4 : Fld Z h0 x1 "java/lang/String" "coder" "B" (.int 0)) (P5 : Fld Z h0 x1 "java/lang/String" "value" "[B" (.ref x3)) (P6 : Arv Z h0 x2 kk0 .byte (1 : Int32) [(.int p0)] (.int 0)) (P8 : Arv Z h0 x3 kk1 .byte (4 : Int32) [(.int 47), (.int 117), (.int 105), (.int 47)] (.int (0 : Int32))) :
    Ctr l Z (⟨"java/lang/String", "startsWith", "(Ljava/lang/String;I)Z"⟩ : MethodName) jdk_42_method_75_code 8 (some .boolean) ({ frames := 2, cells := 0, slots := 0, locals := 27 } : Room) #[(.ref x0), (.ref x1), (.int 0)] h0 (fun v h L => v = some (.int 0) ∧ Fr n0 L ∧ h = h0) := by
  refine Ctr.of (plainFor_of_name pn_c1) ?_
  intro p e s m below meth c T0 hx hZ hby hml hown hnm hret hlk e0 es X0
  refine Go.cast (ef_8_RRI m x0 x1 (0 : Int32)) ?_
  generalize hFF : EndN s _ _ _ = FF
  refine Go.iloadN X0 hx (pc' := 1) rfl (hb hby d8_0) rfl ?_
  refine Go.ifNo X0 hx (pc' := 4) rfl (hb hby d8_1) (by decide) ?_
  refine Go.iloadN X0 hx (pc' := 5) rfl (hb hby d8_4) rfl ?_
  refine Go.aloadN X0 hx (pc' := 6) rfl (hb hby d8_5) rfl rfl ?_
  refine Go.callV X0 hx hZ hown (tw_45 hw) (tw_46 hw) (notFace_of_selects (args := #[]) (mvT hZ (tw_48 hw))) (tw_48 hw) (tw_47 hw) (by decide) (tw_49 hw) (tw_10 hw) (au_42 l Z a0 hw x0 x2 kk0 p0 gz1 gv5 h0 n0 Z0 O0 G P0 P1 P2 P6) e0 P0 (argsL := []) (rest := [(.int 0)]) (pc' := 9) rfl (by rw [hml]; rfl) (lenOf pd_5 rfl) rfl rfl (W := 1) (Nat.le_of_eq rfl) (by decide) (by decide) (by decide) (by decide) (hb hby d8_6) ?_
  intro v1 T1 L1 q1 X1
  obtain ⟨rfl, N1, e1⟩ := q1
  show Go _ _ _ _ (T1.setTop (mkF m 9 #[.val (.ref x0), .val (.ref x1), .val (.int 0), .unset, .unset, .unset, .unset, .unset] [(.int 1), (.int 0)]))
  refine Go.aloadN X1 hx (pc' := 10) rfl (hb hby d8_9) rfl rfl ?_
  refine Go.callV X1 hx hZ hown (tw_45 hw) (tw_46 hw) (notFace_of_selects (args := #[]) (mvT hZ (tw_48 hw))) (tw_48 hw) (tw_47 hw) (by decide) (tw_49 hw) (tw_10 hw) (au_14 l Z a0 hw x1 x3 kk1 gz1 gv5 h0 n0 Z0 O0 G P3 P4 P5 P8) e1 P3 (argsL := []) (rest := [(.int 1), (.int 0)]) (pc' := 13) rfl (by rw [hml]; rfl) (lenOf pd_5 rfl) rfl rfl (W := 2) (Nat.le_of_eq rfl) (by decide) (by decide) (by decide) (by decide) (hb hby d8_10) ?_
  intro v2 T2 L2 q2 X2
  obtain ⟨rfl, N2, e2⟩ := q2
  show Go _ _ _ _ (T2.setTop (mkF m 13 #[.val (.ref x0), .val (.ref x1), .val (.int 0), .unset, .unset, .unset, .unset, .unset] [(.int 4), (.int 1), (.int 0)]))
  refine Go.isub X2 hx (pc' := 14) rfl (hb hby d8_13) ?_
  rw [show ((1 : Int32) - (4 : Int32)) = (-3 : Int32) from by decide]
  refine Go.icmpNo X2 hx (pc' := 17) rfl (hb hby d8_14) (by decide) ?_
  refine Go.iconst X2 hx (pc' := 18) rfl (hb hby d8_17) (v := (0 : Int32)) rfl ?_
  subst hFF
  refine Go.retN X2 hx hlk (t := .boolean) hret (by simp) (hb hby d8_18) (by decide) (by decide) ?_
  rw [e2]
  exact ⟨(congrArg (fun z => some (Value.int z)) (by decide : nar .boolean (0 : Int32) = (0 : Int32))), (Fr.app (Fr.app (Fr.nil n0) N1) N2), rfl⟩
-- java/lang/String.startsWith
set_option maxRecDepth 65536 in
set_option maxHeartbeats 4000000 in
theorem au_40 (l : Launch) (Z : State) (a0 : Array Value) (hw : ∀ d ∈ tables_1, d.before a0 Z = true) (x0 : Addr) (x1 : Addr) (x2 : Addr) (x3 : Addr) (kk0 : ClassId) (p0 : Int32) (kk1 : ClassId) (gz1 : Int32) (gv5 : Value) (h0 : Heap) (n0 : Nat) (Z0 : n0 ≤ h0.size) (O0 : Old Z n0 h0) (G : Glob Z gz1 gv5) (P0 : Exa Z h0 x0 "java/lang/String") (P1 : Fld Z h0 x0 "java/lang/String" "coder" "B" (.int 0)) (P2 : Fld Z h0 x0 "java/lang/String" "value" "[B" (.ref x2)) (P3 : Exa Z h0 x1 "java/lang/String") (P4 : Fld Z h0 x1 "java/lang/String" "coder" "B" (.int 0)) (P5 : Fld Z h0 x1 "java/lang/String" "value" "[B" (.ref x3)) (P6 : Arv Z h0 x2 kk0 .byte (1 : Int32) [(.int p0)] (.int 0)) (P8 : Arv Z h0 x3 kk1 .byte (4 : Int32) [(.int 47), (.int 117), (.int 105), (.int 47)] (.int (0 : Int32))) :
    Ctr l Z (⟨"java/lang/String", "startsWith", "(Ljava/lang/String;)Z"⟩ : MethodName) jdk_42_method_76_code 2 (some .boolean) ({ frames := 3, cells := 0, slots := 0, locals := 46 } : Room) #[(.ref x0), (.ref x1)] h0 (fun v h L => v = some (.int 0) ∧ Fr n0 L ∧ h = h0) := by
  refine Ctr.of (plainFor_of_name pn_c1) ?_
  intro p e s m below meth c T0 hx hZ hby hml hown hnm hret hlk e0 es X0
  refine Go.cast (ef_7_RR m x0 x1) ?_
  generalize hFF : EndN s _ _ _ = FF
  refine Go.aloadN X0 hx (pc' := 1) rfl (hb hby d7_0) rfl rfl ?_
  refine Go.aloadN X0 hx (pc' := 2) rfl (hb hby d7_1) rfl rfl ?_
  refine Go.iconst X0 hx (pc' := 3) rfl (hb hby d7_2) (v := (0 : Int32)) rfl ?_
  refine Go.callV X0 hx hZ hown (tw_40 hw) (tw_41 hw) (notFace_of_selects (args := #[]) (mvT hZ (tw_43 hw))) (tw_43 hw) (tw_42 hw) (by decide) (tw_44 hw) (tw_10 hw) (au_41 l Z a0 hw x0 x1 x2 x3 kk0 p0 kk1 gz1 gv5 h0 n0 Z0 O0 G P0 P1 P2 P3 P4 P5 P6 P8) e0 P0 (argsL := [(.ref x1), (.int 0)]) (rest := []) (pc' := 6) rfl (by rw [hml]; rfl) (lenOf pd_6 rfl) rfl rfl (W := 0) (Nat.le_of_eq rfl) (by decide) (by decide) (by decide) (by decide) (hb hby d7_3) ?_
  intro v1 T1 L1 q1 X1
  obtain ⟨rfl, N1, e1⟩ := q1
  show Go _ _ _ _ (T1.setTop (mkF m 6 #[.val (.ref x0), .val (.ref x1)] [(.int 0)]))
  subst hFF
  refine Go.retN X1 hx hlk (t := .boolean) hret (by simp) (hb hby d7_6) (by decide) (by decide) ?_
  rw [e1]
  exact ⟨(congrArg (fun z => some (Value.int z)) (by decide : nar .boolean (0 : Int32) = (0 : Int32))), (Fr.app (Fr.nil n0) N1), rfl⟩
theorem d13_7 : decode jdk_43_method_13_code 7 = .ok (.iconst 0, 1) := by decide +kernel
theorem d13_8 : decode jdk_43_method_13_code 8 = .ok (.istore_n 2, 1) := by decide +kernel
theorem d13_9 : decode jdk_43_method_13_code 9 = .ok (.iload_n 2, 1) := by decide +kernel
theorem d13_10 : decode jdk_43_method_13_code 10 = .ok (.aload_n 0, 1) := by decide +kernel
theorem d13_11 : decode jdk_43_method_13_code 11 = .ok (.arraylength, 1) := by decide +kernel
theorem d13_12 : decode jdk_43_method_13_code 12 = .ok (.if_icmp .ge 20, 3) := by decide +kernel
theorem d13_15 : decode jdk_43_method_13_code 15 = .ok (.aload_n 0, 1) := by decide +kernel
theorem d13_16 : decode jdk_43_method_13_code 16 = .ok (.iload_n 2, 1) := by decide +kernel
theorem d13_17 : decode jdk_43_method_13_code 17 = .ok (.baload, 1) := by decide +kernel
theorem d13_18 : decode jdk_43_method_13_code 18 = .ok (.aload_n 1, 1) := by decide +kernel
theorem d13_19 : decode jdk_43_method_13_code 19 = .ok (.iload_n 2, 1) := by decide +kernel
theorem d13_20 : decode jdk_43_method_13_code 20 = .ok (.baload, 1) := by decide +kernel
theorem d13_21 : decode jdk_43_method_13_code 21 = .ok (.if_icmp .eq 5, 3) := by decide +kernel
theorem d13_26 : decode jdk_43_method_13_code 26 = .ok (.iinc 2 1, 3) := by decide +kernel
theorem d13_29 : decode jdk_43_method_13_code 29 = .ok (.goto (-20), 3) := by decide +kernel
theorem d13_32 : decode jdk_43_method_13_code 32 = .ok (.iconst 1, 1) := by decide +kernel
theorem d13_33 : decode jdk_43_method_13_code 33 = .ok (.ireturn, 1) := by decide +kernel
theorem d13_24 : decode jdk_43_method_13_code 24 = .ok (.iconst 0, 1) := by decide +kernel
theorem d13_25 : decode jdk_43_method_13_code 25 = .ok (.ireturn, 1) := by decide +kernel
-- java/lang/StringLatin1.equals
set_option maxRecDepth 65536 in
set_option maxHeartbeats 4000000 in
theorem au_47 (l : Launch) (Z : State) (a0 : Array Value) (hw : ∀ d ∈ tables_1, d.before a0 Z = true) (x0 : Addr) (x1 : Addr) (kk0 : ClassId) (p0 : Int32) (kk1 : ClassId) (p1 : Int32) (h0 : Heap) (n0 : Nat) (Z0 : n0 ≤ h0.size) (P0 : Arv Z h0 x0 kk0 .byte (1 : Int32) [(.int p0)] (.int 0)) (P2 : Arv Z h0 x1 kk1 .byte (1 : Int32) [(.int 47)] (.int (0 : Int32))) (R_p1 : 0 ≤ p1.toInt ∧ p1.toInt ≤ 255) (B_p0 : (p1.toInt8.toInt32) = p0) :
    Ctr l Z (⟨"java/lang/StringLatin1", "equals", "([B[B)Z"⟩ : MethodName) jdk_43_method_13_code 3 (some .boolean) ({ frames := 0, cells := 0, slots := 0, locals := 0 } : Room) #[(.ref x0), (.ref x1)] h0 (fun v h L => (p1 = (47 : Int32) ∧ v = some (.int 1) ∧ Fr n0 L ∧ h = h0) ∨ (¬ (p1 = (47 : Int32)) ∧ v = some (.int 0) ∧ Fr n0 L ∧ h = h0)) := by
  refine Ctr.of (plainFor_of_name pn_c2) ?_
  intro p e s m below meth c T0 hx hZ hby hml hown hnm hret hlk e0 es X0
  refine Go.cast (ef_13_RR m x0 x1) ?_
  generalize hFF : EndN s _ _ _ = FF
  refine Go.aloadN X0 hx (pc' := 1) rfl (hb hby d13_0) rfl rfl ?_
  refine Go.arraylength X0 hx hZ e0 P0 (pc' := 2) rfl (hb hby d13_1) ?_
  refine Go.aloadN X0 hx (pc' := 3) rfl (hb hby d13_2) rfl rfl ?_
  refine Go.arraylength X0 hx hZ e0 P2 (pc' := 4) rfl (hb hby d13_3) ?_
  refine Go.icmpNo X0 hx (pc' := 7) rfl (hb hby d13_4) (by decide) ?_
  refine Go.iconst X0 hx (pc' := 8) rfl (hb hby d13_7) (v := (0 : Int32)) rfl ?_
  refine Go.istoreN X0 hx (pc' := 9) rfl (hb hby d13_8) (Ls' := #[.val (.ref x0), .val (.ref x1), .val (.int 0)]) rfl ?_
  refine Go.iloadN X0 hx (pc' := 10) rfl (hb hby d13_9) rfl ?_
  refine Go.aloadN X0 hx (pc' := 11) rfl (hb hby d13_10) rfl rfl ?_
  refine Go.arraylength X0 hx hZ e0 P0 (pc' := 12) rfl (hb hby d13_11) ?_
  refine Go.icmpNo X0 hx (pc' := 15) rfl (hb hby d13_12) (by decide) ?_
  refine Go.aloadN X0 hx (pc' := 16) rfl (hb hby d13_15) rfl rfl ?_
  refine Go.iloadN X0 hx (pc' := 17) rfl (hb hby d13_16) rfl ?_
  refine Go.baload X0 hx hZ e0 P0 (v := (.int p0)) ⟨by decide, by decide⟩ rfl (pc' := 18) rfl (hb hby d13_17) ?_
  refine Go.aloadN X0 hx (pc' := 19) rfl (hb hby d13_18) rfl rfl ?_
  refine Go.iloadN X0 hx (pc' := 20) rfl (hb hby d13_19) rfl ?_
  refine Go.baload X0 hx hZ e0 P2 (v := (.int 47)) ⟨by decide, by decide⟩ rfl (pc' := 21) rfl (hb hby d13_20) ?_
  by_cases hc1 : p1 = (47 : Int32)
  · refine Go.icmpYes X0 hx (pc' := 26) (hb hby d13_21) (teq (own_lat_eq B_p0 (by decide : ((47 : Int32)).toInt8.toInt32 = (47 : Int32)) hc1)).1 (by decide) (by decide) ?_
    refine Go.iinc X0 hx (pc' := 29) rfl (hb hby d13_26) rfl (y := (1 : Int32)) (by decide) (Ls' := #[.val (.ref x0), .val (.ref x1), .val (.int 1)]) rfl ?_
    refine Go.goto X0 hx (pc' := 9) (hb hby d13_29) (by decide) (by decide) ?_
    refine Go.iloadN X0 hx (pc' := 10) rfl (hb hby d13_9) rfl ?_
    refine Go.aloadN X0 hx (pc' := 11) rfl (hb hby d13_10) rfl rfl ?_
    refine Go.arraylength X0 hx hZ e0 P0 (pc' := 12) rfl (hb hby d13_11) ?_
    refine Go.icmpYes X0 hx (pc' := 32) (hb hby d13_12) (by decide) (by decide) (by decide) ?_
    refine Go.iconst X0 hx (pc' := 33) rfl (hb hby d13_32) (v := (1 : Int32)) rfl ?_
    subst hFF
    refine Go.retN X0 hx hlk (t := .boolean) hret (by simp) (hb hby d13_33) (by decide) (by decide) ?_
    rw [e0]
    exact Or.inl ⟨hc1, (congrArg (fun z => some (Value.int z)) (by decide : nar .boolean (1 : Int32) = (1 : Int32))), (Fr.nil n0), rfl⟩
  · refine Go.icmpNo X0 hx (pc' := 24) rfl (hb hby d13_21) (feq (own_lat_ne B_p0 (by decide : ((47 : Int32)).toInt8.toInt32 = (47 : Int32)) R_p1 (own_rlit (n := 47) (by decide)) (by decide) hc1)).1 ?_
    refine Go.iconst X0 hx (pc' := 25) rfl (hb hby d13_24) (v := (0 : Int32)) rfl ?_
    subst hFF
    refine Go.retN X0 hx hlk (t := .boolean) hret (by simp) (hb hby d13_25) (by decide) (by decide) ?_
    rw [e0]
    exact Or.inr (⟨hc1, (congrArg (fun z => some (Value.int z)) (by decide : nar .boolean (0 : Int32) = (0 : Int32))), (Fr.nil n0), rfl⟩)
theorem d12_50 : decode jdk_42_method_66_code 50 = .ok (.iconst 1, 1) := by decide +kernel
theorem d12_51 : decode jdk_42_method_66_code 51 = .ok (.goto 4, 3) := by decide +kernel
-- java/lang/String.equals
set_option maxRecDepth 65536 in
set_option maxHeartbeats 4000000 in
theorem au_46 (l : Launch) (Z : State) (a0 : Array Value) (hw : ∀ d ∈ tables_1, d.before a0 Z = true) (x0 : Addr) (x1 : Addr) (x2 : Addr) (x3 : Addr) (kk0 : ClassId) (p0 : Int32) (kk1 : ClassId) (p1 : Int32) (gz1 : Int32) (gv5 : Value) (h0 : Heap) (n0 : Nat) (Z0 : n0 ≤ h0.size) (O0 : Old Z n0 h0) (G : Glob Z gz1 gv5) (P1 : Fld Z h0 x0 "java/lang/String" "coder" "B" (.int 0)) (P2 : Fld Z h0 x0 "java/lang/String" "value" "[B" (.ref x2)) (P3 : Exa Z h0 x1 "java/lang/String") (P4 : Fld Z h0 x1 "java/lang/String" "coder" "B" (.int 0)) (P5 : Fld Z h0 x1 "java/lang/String" "value" "[B" (.ref x3)) (P6 : Arv Z h0 x2 kk0 .byte (1 : Int32) [(.int p0)] (.int 0)) (P8 : Arv Z h0 x3 kk1 .byte (1 : Int32) [(.int 47)] (.int (0 : Int32))) (R_p1 : 0 ≤ p1.toInt ∧ p1.toInt ≤ 255) (B_p0 : (p1.toInt8.toInt32) = p0) (ne_x0_x1 : x0 ≠ x1) :
    Ctr l Z (⟨"java/lang/String", "equals", "(Ljava/lang/Object;)Z"⟩ : MethodName) jdk_42_method_66_code 3 (some .boolean) ({ frames := 1, cells := 0, slots := 0, locals := 14 } : Room) #[(.ref x0), (.ref x1)] h0 (fun v h L => (p1 = (47 : Int32) ∧ v = some (.int 1) ∧ Fr n0 L ∧ h = h0) ∨ (¬ (p1 = (47 : Int32)) ∧ v = some (.int 0) ∧ Fr n0 L ∧ h = h0)) := by
  refine Ctr.of (plainFor_of_name pn_c1) ?_
  intro p e s m below meth c T0 hx hZ hby hml hown hnm hret hlk e0 es X0
  have G' := G
  obtain ⟨G0, -, G2, -⟩ := G'
  refine Go.cast (ef_12_RR m x0 x1) ?_
  generalize hFF : EndN s _ _ _ = FF
  refine Go.aloadN X0 hx (pc' := 1) rfl (hb hby d12_0) rfl rfl ?_
  refine Go.aloadN X0 hx (pc' := 2) rfl (hb hby d12_1) rfl rfl ?_
  refine Go.acmp X0 hx (pc' := 7) (same := false) (hb hby d12_2) rfl rfl (decide_eq_false (fun q => ne_x0_x1 (Value.ref.inj q))) (by decide) (by decide) ?_
  refine Go.aloadN X0 hx (pc' := 8) rfl (hb hby d12_7) rfl rfl ?_
  refine Go.instY X0 hx hZ hown (tw_65 hw) e0 (Ins.self P3) (pc' := 11) rfl (hb hby d12_8) ?_
  intro T1 e1 X1
  refine Go.ifNo X1 hx (pc' := 14) rfl (hb hby d12_11) (by decide) ?_
  refine Go.aloadN X1 hx (pc' := 15) rfl (hb hby d12_14) rfl rfl ?_
  refine Go.castY X1 hx hZ hown (tw_65 hw) e1 (Ins.self P3) (pc' := 18) rfl (hb hby d12_15) ?_
  intro T2 e2 X2
  refine Go.astoreN X2 hx (pc' := 19) rfl (hb hby d12_18) (Ls' := #[.val (.ref x0), .val (.ref x1), .val (.ref x1)]) rfl rfl ?_
  have fk3 : Sta Z h0 "java/lang/String" "COMPACT_STRINGS" "Z" (.int gz1) := G0.ext O0.2
  refine Go.getS X2 hx hZ hown (host := "") (Or.inl (tw_55 hw)) Via.refl e2 fk3 (pc' := 22) rfl (hb hby d12_19) ?_
  intro T4 e4 X4
  refine Go.ifNo X4 hx (pc' := 25) rfl (hb hby d12_22) (feq G2).1 ?_
  refine Go.aloadN X4 hx (pc' := 26) rfl (hb hby d12_25) rfl rfl ?_
  refine Go.getF X4 hx hZ hown (host := "") (Or.inl (tw_29 hw)) Via.refl e4 P1 (pc' := 29) rfl (hb hby d12_26) ?_
  intro T5 e5 X5
  refine Go.aloadN X5 hx (pc' := 30) rfl (hb hby d12_29) rfl rfl ?_
  refine Go.getF X5 hx hZ hown (host := "") (Or.inl (tw_29 hw)) Via.refl e5 P4 (pc' := 33) rfl (hb hby d12_30) ?_
  intro T6 e6 X6
  refine Go.icmpNo X6 hx (pc' := 36) rfl (hb hby d12_33) (by decide) ?_
  refine Go.aloadN X6 hx (pc' := 37) rfl (hb hby d12_36) rfl rfl ?_
  refine Go.getF X6 hx hZ hown (host := "") (Or.inl (tw_28 hw)) Via.refl e6 P2 (pc' := 40) rfl (hb hby d12_37) ?_
  intro T7 e7 X7
  refine Go.aloadN X7 hx (pc' := 41) rfl (hb hby d12_40) rfl rfl ?_
  refine Go.getF X7 hx hZ hown (host := "") (Or.inl (tw_28 hw)) Via.refl e7 P5 (pc' := 44) rfl (hb hby d12_41) ?_
  intro T8 e8 X8
  refine Go.callS X8 hx hZ hown (tw_66 hw) (tw_67 hw) (tw_68 hw) (tw_69 hw) (by decide) (tw_69 hw) (tw_68 hw) (au_47 l Z a0 hw x2 x3 kk0 p0 kk1 p1 h0 n0 Z0 P6 P8 R_p1 B_p0) e8 (argsL := [(.ref x2), (.ref x3)]) (rest := []) (pc' := 47) rfl (by rw [hml]; rfl) (lenOf pd_8 rfl) rfl rfl (W := 0) (Nat.le_of_eq rfl) (by decide) (by decide) (by decide) (by decide) (hb hby d12_44) ?_
  intro v9 T9 L9 q9 X9
  rcases q9 with ⟨c9_0_0, rfl, N9_0, e9_0⟩ | ⟨c9_1_0, rfl, N9_1, e9_1⟩
  · show Go _ _ _ _ (T9.setTop (mkF m 47 #[.val (.ref x0), .val (.ref x1), .val (.ref x1)] [(.int 1)]))
    refine Go.ifNo X9 hx (pc' := 50) rfl (hb hby d12_47) (by decide) ?_
    refine Go.iconst X9 hx (pc' := 51) rfl (hb hby d12_50) (v := (1 : Int32)) rfl ?_
    refine Go.goto X9 hx (pc' := 55) (hb hby d12_51) (by decide) (by decide) ?_
    subst hFF
    refine Go.retN X9 hx hlk (t := .boolean) hret (by simp) (hb hby d12_55) (by decide) (by decide) ?_
    rw [e9_0]
    exact Or.inl ⟨c9_0_0, (congrArg (fun z => some (Value.int z)) (by decide : nar .boolean (1 : Int32) = (1 : Int32))), (Fr.app (Fr.nil n0) N9_0), rfl⟩
  · show Go _ _ _ _ (T9.setTop (mkF m 47 #[.val (.ref x0), .val (.ref x1), .val (.ref x1)] [(.int 0)]))
    refine Go.ifYes X9 hx (pc' := 54) (hb hby d12_47) (by decide) (by decide) (by decide) ?_
    refine Go.iconst X9 hx (pc' := 55) rfl (hb hby d12_54) (v := (0 : Int32)) rfl ?_
    subst hFF
    refine Go.retN X9 hx hlk (t := .boolean) hret (by simp) (hb hby d12_55) (by decide) (by decide) ?_
    rw [e9_1]
    exact Or.inr (⟨c9_1_0, (congrArg (fun z => some (Value.int z)) (by decide : nar .boolean (0 : Int32) = (0 : Int32))), (Fr.app (Fr.nil n0) N9_1), rfl⟩)
theorem d11_29 : decode prog_11_method_4_code 29 = .ok (.iconst 1, 1) := by decide +kernel
theorem d11_30 : decode prog_11_method_4_code 30 = .ok (.goto 4, 3) := by decide +kernel
-- java/lang/StringLatin1.equals
set_option maxRecDepth 65536 in
set_option maxHeartbeats 4000000 in
theorem au_49 (l : Launch) (Z : State) (a0 : Array Value) (hw : ∀ d ∈ tables_1, d.before a0 Z = true) (x0 : Addr) (x1 : Addr) (kk0 : ClassId) (p0 : Int32) (kk1 : ClassId) (h0 : Heap) (n0 : Nat) (Z0 : n0 ≤ h0.size) (P0 : Arv Z h0 x0 kk0 .byte (1 : Int32) [(.int p0)] (.int 0)) (P2 : Arv Z h0 x1 kk1 .byte (3 : Int32) [(.int 47), (.int 117), (.int 105)] (.int 0)) :
    Ctr l Z (⟨"java/lang/StringLatin1", "equals", "([B[B)Z"⟩ : MethodName) jdk_43_method_13_code 3 (some .boolean) ({ frames := 0, cells := 0, slots := 0, locals := 0 } : Room) #[(.ref x0), (.ref x1)] h0 (fun v h L => v = some (.int 0) ∧ Fr n0 L ∧ h = h0) := by
  refine Ctr.of (plainFor_of_name pn_c2) ?_
  intro p e s m below meth c T0 hx hZ hby hml hown hnm hret hlk e0 es X0
  refine Go.cast (ef_13_RR m x0 x1) ?_
  generalize hFF : EndN s _ _ _ = FF
  refine Go.aloadN X0 hx (pc' := 1) rfl (hb hby d13_0) rfl rfl ?_
  refine Go.arraylength X0 hx hZ e0 P0 (pc' := 2) rfl (hb hby d13_1) ?_
  refine Go.aloadN X0 hx (pc' := 3) rfl (hb hby d13_2) rfl rfl ?_
  refine Go.arraylength X0 hx hZ e0 P2 (pc' := 4) rfl (hb hby d13_3) ?_
  refine Go.icmpYes X0 hx (pc' := 34) (hb hby d13_4) (by decide) (by decide) (by decide) ?_
  refine Go.iconst X0 hx (pc' := 35) rfl (hb hby d13_34) (v := (0 : Int32)) rfl ?_
  subst hFF
  refine Go.retN X0 hx hlk (t := .boolean) hret (by simp) (hb hby d13_35) (by decide) (by decide) ?_
  rw [e0]
  exact ⟨(congrArg (fun z => some (Value.int z)) (by decide : nar .boolean (0 : Int32) = (0 : Int32))), (Fr.nil n0), rfl⟩
-- java/lang/String.equals
set_option maxRecDepth 65536 in
set_option maxHeartbeats 4000000 in
theorem au_48 (l : Launch) (Z : State) (a0 : Array Value) (hw : ∀ d ∈ tables_1, d.before a0 Z = true) (x0 : Addr) (x1 : Addr) (x2 : Addr) (x3 : Addr) (kk0 : ClassId) (p0 : Int32) (kk1 : ClassId) (gz1 : Int32) (gv5 : Value) (h0 : Heap) (n0 : Nat) (Z0 : n0 ≤ h0.size) (O0 : Old Z n0 h0) (G : Glob Z gz1 gv5) (P1 : Fld Z h0 x0 "java/lang/String" "coder" "B" (.int 0)) (P2 : Fld Z h0 x0 "java/lang/String" "value" "[B" (.ref x2)) (P3 : Exa Z h0 x1 "java/lang/String") (P4 : Fld Z h0 x1 "java/lang/String" "coder" "B" (.int 0)) (P5 : Fld Z h0 x1 "java/lang/String" "value" "[B" (.ref x3)) (P6 : Arv Z h0 x2 kk0 .byte (1 : Int32) [(.int p0)] (.int 0)) (P8 : Arv Z h0 x3 kk1 .byte (3 : Int32) [(.int 47), (.int 117), (.int 105)] (.int 0)) (ne_x0_x1 : x0 ≠ x1) :
    Ctr l Z (⟨"java/lang/String", "equals", "(Ljava/lang/Object;)Z"⟩ : MethodName) jdk_42_method_66_code 3 (some .boolean) ({ frames := 1, cells := 0, slots := 0, locals := 14 } : Room) #[(.ref x0), (.ref x1)] h0 (fun v h L => v = some (.int 0) ∧ Fr n0 L ∧ h = h0) := by
  refine Ctr.of (plainFor_of_name pn_c1) ?_
  intro p e s m below meth c T0 hx hZ hby hml hown hnm hret hlk e0 es X0
  have G' := G
  obtain ⟨G0, -, G2, -⟩ := G'
  refine Go.cast (ef_12_RR m x0 x1) ?_
  generalize hFF : EndN s _ _ _ = FF
  refine Go.aloadN X0 hx (pc' := 1) rfl (hb hby d12_0) rfl rfl ?_
  refine Go.aloadN X0 hx (pc' := 2) rfl (hb hby d12_1) rfl rfl ?_
  refine Go.acmp X0 hx (pc' := 7) (same := false) (hb hby d12_2) rfl rfl (decide_eq_false (fun q => ne_x0_x1 (Value.ref.inj q))) (by decide) (by decide) ?_
  refine Go.aloadN X0 hx (pc' := 8) rfl (hb hby d12_7) rfl rfl ?_
  refine Go.instY X0 hx hZ hown (tw_65 hw) e0 (Ins.self P3) (pc' := 11) rfl (hb hby d12_8) ?_
  intro T1 e1 X1
  refine Go.ifNo X1 hx (pc' := 14) rfl (hb hby d12_11) (by decide) ?_
  refine Go.aloadN X1 hx (pc' := 15) rfl (hb hby d12_14) rfl rfl ?_
  refine Go.castY X1 hx hZ hown (tw_65 hw) e1 (Ins.self P3) (pc' := 18) rfl (hb hby d12_15) ?_
  intro T2 e2 X2
  refine Go.astoreN X2 hx (pc' := 19) rfl (hb hby d12_18) (Ls' := #[.val (.ref x0), .val (.ref x1), .val (.ref x1)]) rfl rfl ?_
  have fk3 : Sta Z h0 "java/lang/String" "COMPACT_STRINGS" "Z" (.int gz1) := G0.ext O0.2
  refine Go.getS X2 hx hZ hown (host := "") (Or.inl (tw_55 hw)) Via.refl e2 fk3 (pc' := 22) rfl (hb hby d12_19) ?_
  intro T4 e4 X4
  refine Go.ifNo X4 hx (pc' := 25) rfl (hb hby d12_22) (feq G2).1 ?_
  refine Go.aloadN X4 hx (pc' := 26) rfl (hb hby d12_25) rfl rfl ?_
  refine Go.getF X4 hx hZ hown (host := "") (Or.inl (tw_29 hw)) Via.refl e4 P1 (pc' := 29) rfl (hb hby d12_26) ?_
  intro T5 e5 X5
  refine Go.aloadN X5 hx (pc' := 30) rfl (hb hby d12_29) rfl rfl ?_
  refine Go.getF X5 hx hZ hown (host := "") (Or.inl (tw_29 hw)) Via.refl e5 P4 (pc' := 33) rfl (hb hby d12_30) ?_
  intro T6 e6 X6
  refine Go.icmpNo X6 hx (pc' := 36) rfl (hb hby d12_33) (by decide) ?_
  refine Go.aloadN X6 hx (pc' := 37) rfl (hb hby d12_36) rfl rfl ?_
  refine Go.getF X6 hx hZ hown (host := "") (Or.inl (tw_28 hw)) Via.refl e6 P2 (pc' := 40) rfl (hb hby d12_37) ?_
  intro T7 e7 X7
  refine Go.aloadN X7 hx (pc' := 41) rfl (hb hby d12_40) rfl rfl ?_
  refine Go.getF X7 hx hZ hown (host := "") (Or.inl (tw_28 hw)) Via.refl e7 P5 (pc' := 44) rfl (hb hby d12_41) ?_
  intro T8 e8 X8
  refine Go.callS X8 hx hZ hown (tw_66 hw) (tw_67 hw) (tw_68 hw) (tw_69 hw) (by decide) (tw_69 hw) (tw_68 hw) (au_49 l Z a0 hw x2 x3 kk0 p0 kk1 h0 n0 Z0 P6 P8) e8 (argsL := [(.ref x2), (.ref x3)]) (rest := []) (pc' := 47) rfl (by rw [hml]; rfl) (lenOf pd_8 rfl) rfl rfl (W := 0) (Nat.le_of_eq rfl) (by decide) (by decide) (by decide) (by decide) (hb hby d12_44) ?_
  intro v9 T9 L9 q9 X9
  obtain ⟨rfl, N9, e9⟩ := q9
  show Go _ _ _ _ (T9.setTop (mkF m 47 #[.val (.ref x0), .val (.ref x1), .val (.ref x1)] [(.int 0)]))
  refine Go.ifYes X9 hx (pc' := 54) (hb hby d12_47) (by decide) (by decide) (by decide) ?_
  refine Go.iconst X9 hx (pc' := 55) rfl (hb hby d12_54) (v := (0 : Int32)) rfl ?_
  subst hFF
  refine Go.retN X9 hx hlk (t := .boolean) hret (by simp) (hb hby d12_55) (by decide) (by decide) ?_
  rw [e9]
  exact ⟨(congrArg (fun z => some (Value.int z)) (by decide : nar .boolean (0 : Int32) = (0 : Int32))), (Fr.app (Fr.nil n0) N9), rfl⟩
-- com/example/roles_over_datacenter/rolesoverdatacenter/Page.redirects
set_option maxRecDepth 65536 in
set_option maxHeartbeats 4000000 in
theorem au_45 (l : Launch) (Z : State) (a0 : Array Value) (hw : ∀ d ∈ tables_1, d.before a0 Z = true) (x0 : Addr) (x1 : Addr) (kk0 : ClassId) (p0 : Int32) (p1 : Int32) (gz1 : Int32) (gv5 : Value) (h0 : Heap) (n0 : Nat) (Z0 : n0 ≤ h0.size) (O0 : Old Z n0 h0) (G : Glob Z gz1 gv5) (P0 : Exa Z h0 x0 "java/lang/String") (P1 : Fld Z h0 x0 "java/lang/String" "coder" "B" (.int 0)) (P2 : Fld Z h0 x0 "java/lang/String" "value" "[B" (.ref x1)) (P3 : Arv Z h0 x1 kk0 .byte (1 : Int32) [(.int p0)] (.int 0)) (R_p1 : 0 ≤ p1.toInt ∧ p1.toInt ≤ 255) (B_p0 : (p1.toInt8.toInt32) = p0) :
    CtrW l Z EL0 (⟨"com/example/roles_over_datacenter/rolesoverdatacenter/Page", "redirects", "(Ljava/lang/String;)Z"⟩ : MethodName) prog_11_method_4_code 1 (some .boolean) ({ frames := 5, cells := 8, slots := 55, locals := 81 } : Room) #[(.ref x0)] h0 [x0] (fun v vm h L => (p1 = (47 : Int32) ∧ v = some (.int 1) ∧ Fr n0 L ∧ Keep h0 h []) ∨ (¬ (p1 = (47 : Int32)) ∧ v = some (.int 0) ∧ Fr n0 L ∧ Keep h0 h [])) := by
  refine CtrW.of (plainFor_of_name pn_c5) ?_
  intro p e s m below meth c T0 hx hZ hby hml hown hnm hret hlk e0 es hS0 C0 hsf X0
  have G' := G
  obtain ⟨-, G1, -, -⟩ := G'
  refine Go.cast (ef_11_R m x0) ?_
  generalize hFF : EndW Z EL0 s _ _ _ = FF
  refine Go.aloadN X0 hx (pc' := 1) rfl (hb hby d11_0) rfl rfl ?_
  refine Go.ldcCH X0 hx hZ hown (tw_59 hw) (own_SA hw) e0 hS0 (Nat.le_refl _) (own_EW hw) (List.mem_of_getElem? (i := 1) rfl) C0.1 (vs := [(.int (47 : Int32))]) (z := (1 : Int32)) (by decide) (by decide) rfl (n := 4) (by decide) (by decide) (by decide) (by decide) (pc' := 3) rfl (hb hby d11_1) ?_
  intro a1 T1 h1 j1 b1 k1 e1 E1 S1 i1 Z1 O1 A1 F1 G1 V1 C1 D1 X1
  have Kp3 : Keep h0 h1 [] := ((Keep.refl h0 []).ext E1)
  have Zn2 : n0 ≤ h1.size := Nat.le_trans Z0 Kp3.1
  have O4 := (O0.ext E1)
  have fk5 : Fld Z h1 x0 "java/lang/String" "coder" "B" (.int 0) := (P1.ext E1)
  have fk6 : Fld Z h1 x0 "java/lang/String" "value" "[B" (.ref x1) := (P2.ext E1)
  have fk7 := (P3.ext E1)
  have fk8 : Safe Z EL0 T1.vm h1 x0 := (C1.safe P0.lt (hsf _ (List.mem_of_getElem? (i := 0) rfl)))
  have fk9 : Exa Z h1 x0 "java/lang/String" := (P0.ext E1)
  refine Go.callV X1 hx Z1 O1 (tw_60 hw) (tw_61 hw) (notFace_of_selects (args := #[]) (mvT Z1 (tw_63 hw))) (tw_63 hw) (tw_62 hw) (by decide) (tw_64 hw) (tw_10 hw) (au_46 l Z a0 hw x0 a1 x1 b1 kk0 p0 k1 p1 gz1 gv5 h1 n0 Zn2 O4 G fk5 fk6 A1 F1 G1 fk7 V1 R_p1 B_p0 (D1 x0 fk8).1) e1 fk9 (argsL := [(.ref a1)]) (rest := []) (pc' := 6) rfl (by rw [hml]; rfl) (lenOf pd_9 rfl) rfl rfl (W := 0) (Nat.le_of_eq rfl) (by decide) (by decide) (by decide) (by decide) (hb hby d11_3) ?_
  intro v10 T10 L10 q10 X10
  rcases q10 with ⟨c10_0_0, rfl, N10_0, e10_0⟩ | ⟨c10_1_0, rfl, N10_1, e10_1⟩
  · show Go _ _ _ _ (T10.setTop (mkF m 6 #[.val (.ref x0)] [(.int 1)]))
    refine Go.ifYes X10 hx (pc' := 29) (hb hby d11_6) (by decide) (by decide) (by decide) ?_
    refine Go.iconst X10 hx (pc' := 30) rfl (hb hby d11_29) (v := (1 : Int32)) rfl ?_
    refine Go.goto X10 hx (pc' := 34) (hb hby d11_30) (by decide) (by decide) ?_
    subst hFF
    have C11 : CHr Z EL0 s.vm s.heap T1.vm h1 := (C0.trans C1)
    refine Go.retNW X10 hx hlk Z1 (own_EW hw) e10_0 S1 i1 C11 (t := .boolean) hret (by simp) (hb hby d11_34) (by decide) (by decide) (fun hat => ?_)
    exact Or.inl ⟨c10_0_0, (congrArg (fun z => some (Value.int z)) (by decide : nar .boolean (1 : Int32) = (1 : Int32))), (Fr.app (Fr.nil n0) N10_0), Kp3⟩
  · show Go _ _ _ _ (T10.setTop (mkF m 6 #[.val (.ref x0)] [(.int 0)]))
    refine Go.ifNo X10 hx (pc' := 9) rfl (hb hby d11_6) (by decide) ?_
    refine Go.aloadN X10 hx (pc' := 10) rfl (hb hby d11_9) rfl rfl ?_
    have C12 : CHr Z EL0 s.vm s.heap T1.vm h1 := (C0.trans C1)
    refine Go.ldcCH X10 hx Z1 O1 (tw_34 hw) (own_SA hw) e10_1 S1 i1 (own_EW hw) (List.mem_of_getElem? (i := 0) rfl) C12.1 (vs := [(.int (47 : Int32)), (.int (117 : Int32)), (.int (105 : Int32)), (.int (47 : Int32))]) (z := (4 : Int32)) (by decide) (by decide) rfl (n := 16) (by decide) (by decide) (by decide) (by decide) (pc' := 12) rfl (hb hby d11_10) ?_
    intro a13 T13 h13 j13 b13 k13 e13 E13 S13 i13 Z13 O13 A13 F13 G13 V13 C13 D13 X13
    refine Go.iconst X13 hx (pc' := 13) rfl (hb hby d11_12) (v := (0 : Int32)) rfl ?_
    have C14 : CHr Z EL0 s.vm s.heap T13.vm h13 := (C12.trans C13)
    refine Go.ldcCH X13 hx Z13 O13 (tw_34 hw) (own_SA hw) e13 S13 i13 (own_EW hw) (List.mem_of_getElem? (i := 0) rfl) C14.1 (vs := [(.int (47 : Int32)), (.int (117 : Int32)), (.int (105 : Int32)), (.int (47 : Int32))]) (z := (4 : Int32)) (by decide) (by decide) rfl (n := 16) (by decide) (by decide) (by decide) (by decide) (pc' := 15) rfl (hb hby d11_13) ?_
    intro a15 T15 h15 j15 b15 k15 e15 E15 S15 i15 Z15 O15 A15 F15 G15 V15 C15 D15 X15
    have Kp17 : Keep h0 h13 [] := (Kp3.ext E13)
    have Kp18 : Keep h0 h15 [] := (Kp17.ext E15)
    have Zn16 : n0 ≤ h15.size := Nat.le_trans Z0 Kp18.1
    have O19 := (O4.ext E13)
    have O20 := (O19.ext E15)
    refine Go.callV X15 hx Z15 O15 (tw_70 hw) (tw_46 hw) (notFace_of_selects (args := #[]) (mvT Z15 (tw_48 hw))) (tw_48 hw) (tw_47 hw) (by decide) (tw_49 hw) (tw_10 hw) (au_14 l Z a0 hw a15 b15 k15 gz1 gv5 h15 n0 Zn16 O20 G A15 F15 G15 V15) e15 A15 (argsL := []) (rest := [(.int 0), (.ref a13), (.ref x0)]) (pc' := 18) rfl (by rw [hml]; rfl) (lenOf pd_5 rfl) rfl rfl (W := 3) (Nat.le_of_eq rfl) (by decide) (by decide) (by decide) (by decide) (hb hby d11_15) ?_
    intro v21 T21 L21 q21 X21
    obtain ⟨rfl, N21, e21⟩ := q21
    show Go _ _ _ _ (T21.setTop (mkF m 18 #[.val (.ref x0)] [(.int 4), (.int 0), (.ref a13), (.ref x0)]))
    refine Go.iconst X21 hx (pc' := 19) rfl (hb hby d11_18) (v := (1 : Int32)) rfl ?_
    refine Go.isub X21 hx (pc' := 20) rfl (hb hby d11_19) ?_
    rw [show ((4 : Int32) - (1 : Int32)) = (3 : Int32) from by decide]
    have fk22 : Exa Z h15 a13 "java/lang/String" := (A13.ext E15)
    have fk23 : Fld Z h15 a13 "java/lang/String" "coder" "B" (.int 0) := (F13.ext E15)
    have fk24 : Fld Z h15 a13 "java/lang/String" "value" "[B" (.ref b13) := (G13.ext E15)
    have fk25 := (V13.ext E15)
    refine Go.callV X21 hx Z15 O15 (tw_71 hw) (tw_72 hw) (notFace_of_selects (args := #[]) (mvT Z15 (tw_74 hw))) (tw_74 hw) (tw_73 hw) (by decide) (tw_75 hw) (tw_10 hw) (au_20 l Z a0 hw a13 b13 k13 gz1 gv5 h15 n0 Zn16 O20 G fk22 fk23 fk24 fk25) e21 fk22 (argsL := [(.int 0), (.int 3)]) (rest := [(.ref x0)]) (pc' := 23) rfl (by rw [hml]; rfl) (lenOf pd_18 rfl) rfl rfl (W := 1) (Nat.le_of_eq rfl) (by decide) (by decide) (by decide) (by decide) (hb hby d11_20) ?_
    intro v26 T26 L26 q26 X26
    obtain ⟨h26, e26⟩ : ∃ z, T26.heap = z := ⟨_, rfl⟩
    rw [e26] at q26
    obtain ⟨b26_0, b26_1, k26_0, rfl, N26, K26, s26_0, s26_1, n26_0, F26_0, F26_1, F26_2, F26_3, F26_4⟩ := q26
    show Go _ _ _ _ (T26.setTop (mkF m 23 #[.val (.ref x0)] [(.ref b26_0), (.ref x0)]))
    have Kp28 : Keep h0 h26 [] := (Kp18.trans K26 all0)
    have Zn27 : n0 ≤ h26.size := Nat.le_trans Z0 Kp28.1
    have O29 := (O20.keep K26 all0)
    have fk30 : Fld Z h26 x0 "java/lang/String" "coder" "B" (.int 0) := (((fk5.ext E13).ext E15).keep K26 nin0)
    have fk31 : Fld Z h26 x0 "java/lang/String" "value" "[B" (.ref x1) := (((fk6.ext E13).ext E15).keep K26 nin0)
    have fk32 := (((fk7.ext E13).ext E15).keep K26 nin0)
    have fk34 : Exa Z h15 x0 "java/lang/String" := ((fk9.ext E13).ext E15)
    have ne33 : x0 ≠ b26_0 := Nat.ne_of_lt (Nat.lt_of_lt_of_le fk34.lt s26_0)
    have fk35 : Exa Z h26 x0 "java/lang/String" := (fk34.keep K26)
    refine Go.callV X26 hx Z15 O15 (tw_60 hw) (tw_61 hw) (notFace_of_selects (args := #[]) (mvT Z15 (tw_63 hw))) (tw_63 hw) (tw_62 hw) (by decide) (tw_64 hw) (tw_10 hw) (au_48 l Z a0 hw x0 b26_0 x1 b26_1 kk0 p0 k26_0 gz1 gv5 h26 n0 Zn27 O29 G fk30 fk31 F26_0 F26_1 F26_2 fk32 F26_3 ne33) e26 fk35 (argsL := [(.ref b26_0)]) (rest := []) (pc' := 26) rfl (by rw [hml]; rfl) (lenOf pd_9 rfl) rfl rfl (W := 0) (Nat.le_of_eq rfl) (by decide) (by decide) (by decide) (by decide) (hb hby d11_23) ?_
    intro v36 T36 L36 q36 X36
    obtain ⟨rfl, N36, e36⟩ := q36
    show Go _ _ _ _ (T36.setTop (mkF m 26 #[.val (.ref x0)] [(.int 0)]))
    refine Go.ifYes X36 hx (pc' := 33) (hb hby d11_26) (by decide) (by decide) (by decide) ?_
    refine Go.iconst X36 hx (pc' := 34) rfl (hb hby d11_33) (v := (0 : Int32)) rfl ?_
    subst hFF
    have C37 : CHr Z EL0 s.vm s.heap T15.vm h15 := (C14.trans C15)
    have C38 : CHr Z EL0 s.vm s.heap T15.vm h26 := (C37.trans (CHr.keep K26 sf0 C37.1))
    have hk39 := (Nat.le_trans i15 K26.1)
    refine Go.retNW X36 hx hlk Z15 (own_EW hw) e36 S15 hk39 C38 (t := .boolean) hret (by simp) (hb hby d11_34) (by decide) (by decide) (fun hat => ?_)
    exact Or.inr (⟨c10_1_0, (congrArg (fun z => some (Value.int z)) (by decide : nar .boolean (0 : Int32) = (0 : Int32))), (Fr.app (Fr.app (Fr.app (Fr.app (Fr.nil n0) N10_1) N21) N26) N36), Kp28⟩)
theorem d6_16 : decode prog_11_method_3_code 16 = .ok (.iconst 1, 1) := by decide +kernel
theorem d6_17 : decode prog_11_method_3_code 17 = .ok (.goto 4, 3) := by decide +kernel
-- com/example/roles_over_datacenter/rolesoverdatacenter/Page.serves
set_option maxRecDepth 65536 in
set_option maxHeartbeats 4000000 in
theorem au_39 (l : Launch) (Z : State) (a0 : Array Value) (hw : ∀ d ∈ tables_1, d.before a0 Z = true) (x0 : Addr) (x1 : Addr) (kk0 : ClassId) (p0 : Int32) (p1 : Int32) (gz1 : Int32) (gv5 : Value) (h0 : Heap) (n0 : Nat) (Z0 : n0 ≤ h0.size) (O0 : Old Z n0 h0) (G : Glob Z gz1 gv5) (P0 : Exa Z h0 x0 "java/lang/String") (P1 : Fld Z h0 x0 "java/lang/String" "coder" "B" (.int 0)) (P2 : Fld Z h0 x0 "java/lang/String" "value" "[B" (.ref x1)) (P3 : Arv Z h0 x1 kk0 .byte (1 : Int32) [(.int p0)] (.int 0)) (R_p1 : 0 ≤ p1.toInt ∧ p1.toInt ≤ 255) (B_p0 : (p1.toInt8.toInt32) = p0) :
    CtrW l Z EL0 (⟨"com/example/roles_over_datacenter/rolesoverdatacenter/Page", "serves", "(Ljava/lang/String;)Z"⟩ : MethodName) prog_11_method_3_code 1 (some .boolean) ({ frames := 6, cells := 10, slots := 75, locals := 93 } : Room) #[(.ref x0)] h0 [x0] (fun v vm h L => (p1 = (47 : Int32) ∧ v = some (.int 1) ∧ Fr n0 L ∧ Keep h0 h []) ∨ (¬ (p1 = (47 : Int32)) ∧ v = some (.int 0) ∧ Fr n0 L ∧ Keep h0 h [])) := by
  refine CtrW.of (plainFor_of_name pn_c5) ?_
  intro p e s m below meth c T0 hx hZ hby hml hown hnm hret hlk e0 es hS0 C0 hsf X0
  have G' := G
  obtain ⟨-, G1, -, -⟩ := G'
  refine Go.cast (ef_6_R m x0) ?_
  generalize hFF : EndW Z EL0 s _ _ _ = FF
  refine Go.aloadN X0 hx (pc' := 1) rfl (hb hby d6_0) rfl rfl ?_
  refine Go.ldcCH X0 hx hZ hown (tw_34 hw) (own_SA hw) e0 hS0 (Nat.le_refl _) (own_EW hw) (List.mem_of_getElem? (i := 0) rfl) C0.1 (vs := [(.int (47 : Int32)), (.int (117 : Int32)), (.int (105 : Int32)), (.int (47 : Int32))]) (z := (4 : Int32)) (by decide) (by decide) rfl (n := 16) (by decide) (by decide) (by decide) (by decide) (pc' := 3) rfl (hb hby d6_1) ?_
  intro a1 T1 h1 j1 b1 k1 e1 E1 S1 i1 Z1 O1 A1 F1 G1 V1 C1 D1 X1
  have Kp3 : Keep h0 h1 [] := ((Keep.refl h0 []).ext E1)
  have Zn2 : n0 ≤ h1.size := Nat.le_trans Z0 Kp3.1
  have O4 := (O0.ext E1)
  have fk5 : Exa Z h1 x0 "java/lang/String" := (P0.ext E1)
  have fk6 : Fld Z h1 x0 "java/lang/String" "coder" "B" (.int 0) := (P1.ext E1)
  have fk7 : Fld Z h1 x0 "java/lang/String" "value" "[B" (.ref x1) := (P2.ext E1)
  have fk8 := (P3.ext E1)
  refine Go.callV X1 hx Z1 O1 (tw_35 hw) (tw_36 hw) (notFace_of_selects (args := #[]) (mvT Z1 (tw_38 hw))) (tw_38 hw) (tw_37 hw) (by decide) (tw_39 hw) (tw_10 hw) (au_40 l Z a0 hw x0 a1 x1 b1 kk0 p0 k1 gz1 gv5 h1 n0 Zn2 O4 G fk5 fk6 fk7 A1 F1 G1 fk8 V1) e1 fk5 (argsL := [(.ref a1)]) (rest := []) (pc' := 6) rfl (by rw [hml]; rfl) (lenOf pd_7 rfl) rfl rfl (W := 0) (Nat.le_of_eq rfl) (by decide) (by decide) (by decide) (by decide) (hb hby d6_3) ?_
  intro v9 T9 L9 q9 X9
  obtain ⟨rfl, N9, e9⟩ := q9
  show Go _ _ _ _ (T9.setTop (mkF m 6 #[.val (.ref x0)] [(.int 0)]))
  refine Go.ifNo X9 hx (pc' := 9) rfl (hb hby d6_6) (by decide) ?_
  refine Go.aloadN X9 hx (pc' := 10) rfl (hb hby d6_9) rfl rfl ?_
  have C10 : CHr Z EL0 s.vm s.heap T1.vm h1 := (C0.trans C1)
  have fk11 : Safe Z EL0 T1.vm h1 x0 := (C1.safe P0.lt (hsf _ (List.mem_of_getElem? (i := 0) rfl)))
  refine Go.callSW X9 hx Z1 O1 (tw_56 hw) (tw_57 hw) (tw_32 hw) (tw_58 hw) (by decide) (tw_58 hw) (tw_32 hw) (au_45 l Z a0 hw x0 x1 kk0 p0 p1 gz1 gv5 h1 n0 Zn2 O4 G fk5 fk6 fk7 fk8 R_p1 B_p0) (own_EW hw) C10.1 (allS ⟨fk5.lt, fk11⟩ all0) S1 i1 e9 (argsL := [(.ref x0)]) (rest := []) (pc' := 13) rfl (by rw [hml]; rfl) (lenOf pd_7 rfl) rfl rfl (W := 0) (Nat.le_of_eq rfl) (by decide) (by decide) (by decide) (by decide) (hb hby d6_10) ?_
  intro v12 T12 L12 h12 e12 q12 C12 S12 Z12 O12 X12
  rcases q12 with ⟨c12_0_0, rfl, N12_0, K12_0⟩ | ⟨c12_1_0, rfl, N12_1, K12_1⟩
  · show Go _ _ _ _ (T12.setTop (mkF m 13 #[.val (.ref x0)] [(.int 1)]))
    refine Go.ifNo X12 hx (pc' := 16) rfl (hb hby d6_13) (by decide) ?_
    refine Go.iconst X12 hx (pc' := 17) rfl (hb hby d6_16) (v := (1 : Int32)) rfl ?_
    refine Go.goto X12 hx (pc' := 21) (hb hby d6_17) (by decide) (by decide) ?_
    subst hFF
    have C13 : CHr Z EL0 s.vm s.heap T12.vm h12 := (C10.trans C12)
    refine Go.retNW X12 hx hlk Z12 (own_EW hw) e12 S12 (Nat.le_refl _) C13 (t := .boolean) hret (by simp) (hb hby d6_21) (by decide) (by decide) (fun hat => ?_)
    have Kp14 : Keep h0 h12 [] := (Kp3.trans K12_0 all0)
    exact Or.inl ⟨c12_0_0, (congrArg (fun z => some (Value.int z)) (by decide : nar .boolean (1 : Int32) = (1 : Int32))), (Fr.app (Fr.app (Fr.nil n0) N9) N12_0), Kp14⟩
  · show Go _ _ _ _ (T12.setTop (mkF m 13 #[.val (.ref x0)] [(.int 0)]))
    refine Go.ifYes X12 hx (pc' := 20) (hb hby d6_13) (by decide) (by decide) (by decide) ?_
    refine Go.iconst X12 hx (pc' := 21) rfl (hb hby d6_20) (v := (0 : Int32)) rfl ?_
    subst hFF
    have C15 : CHr Z EL0 s.vm s.heap T12.vm h12 := (C10.trans C12)
    refine Go.retNW X12 hx hlk Z12 (own_EW hw) e12 S12 (Nat.le_refl _) C15 (t := .boolean) hret (by simp) (hb hby d6_21) (by decide) (by decide) (fun hat => ?_)
    have Kp16 : Keep h0 h12 [] := (Kp3.trans K12_1 all0)
    exact Or.inr (⟨c12_1_0, (congrArg (fun z => some (Value.int z)) (by decide : nar .boolean (0 : Int32) = (0 : Int32))), (Fr.app (Fr.app (Fr.nil n0) N9) N12_1), Kp16⟩)
theorem d2_35 : decode method_3_code 35 = .ok (.iload_n 0, 1) := by decide +kernel
theorem d2_36 : decode method_3_code 36 = .ok (.iconst 2, 1) := by decide +kernel
theorem d2_37 : decode method_3_code 37 = .ok (.if_icmp .ne 22, 3) := by decide +kernel
theorem d2_40 : decode method_3_code 40 = .ok (.new 7, 3) := by decide +kernel
theorem d2_43 : decode method_3_code 43 = .ok (.dup, 1) := by decide +kernel
theorem d2_44 : decode method_3_code 44 = .ok (.iconst 2, 1) := by decide +kernel
theorem d2_45 : decode method_3_code 45 = .ok (.newarray .char, 2) := by decide +kernel
theorem d2_47 : decode method_3_code 47 = .ok (.dup, 1) := by decide +kernel
theorem d2_48 : decode method_3_code 48 = .ok (.iconst 0, 1) := by decide +kernel
theorem d2_49 : decode method_3_code 49 = .ok (.iload_n 1, 1) := by decide +kernel
theorem d2_50 : decode method_3_code 50 = .ok (.castore, 1) := by decide +kernel
theorem d2_51 : decode method_3_code 51 = .ok (.dup, 1) := by decide +kernel
theorem d2_52 : decode method_3_code 52 = .ok (.iconst 1, 1) := by decide +kernel
theorem d2_53 : decode method_3_code 53 = .ok (.iload_n 2, 1) := by decide +kernel
theorem d2_54 : decode method_3_code 54 = .ok (.castore, 1) := by decide +kernel
-- java/lang/StringUTF16.compress
set_option maxRecDepth 65536 in
set_option maxHeartbeats 4000000 in
theorem au_54 (l : Launch) (Z : State) (a0 : Array Value) (hw : ∀ d ∈ tables_1, d.before a0 Z = true) (x0 : Addr) (x1 : Addr) (kk0 : ClassId) (p0 : Int32) (p1 : Int32) (kk1 : ClassId) (h0 : Heap) (n0 : Nat) (Z0 : n0 ≤ h0.size) (P0 : Arv Z h0 x0 kk0 .char (2 : Int32) [(.int p0), (.int p1)] (.int 0)) (P2 : Arv Z h0 x1 kk1 .byte (2 : Int32) [(.int 0), (.int 0)] (.int 0)) (P3 : Exa Z h0 x1 "[B") (R_p0 : 0 ≤ p0.toInt ∧ p0.toInt ≤ 255) (R_p1 : 0 ≤ p1.toInt ∧ p1.toInt ≤ 255) (g_x1 : n0 ≤ x1) (ne_x0_x1 : x0 ≠ x1) :
    Ctr l Z (⟨"java/lang/StringUTF16", "compress", "([CI[BII)I"⟩ : MethodName) jdk_52_method_21_code 7 (some .int) ({ frames := 0, cells := 0, slots := 0, locals := 0 } : Room) #[(.ref x0), (.int 0), (.ref x1), (.int 0), (.int 2)] h0 (fun v h L => ∃ (z1 : Int32) (z5 : Int32), (p0.toInt8.toInt32) = z1 ∧ (p1.toInt8.toInt32) = z5 ∧ v = some (.int 2) ∧ Fr n0 L ∧ Keep h0 h [x1] ∧ Arv Z h x1 kk1 .byte (2 : Int32) [(.int z1), (.int z5)] (.int 0) ∧ Exa Z h x1 "[B") := by
  refine Ctr.of (plainFor_of_name pn_c6) ?_
  intro p e s m below meth c T0 hx hZ hby hml hown hnm hret hlk e0 es X0
  refine Go.cast (ef_25_RIRII m x0 (0 : Int32) x1 (0 : Int32) (2 : Int32)) ?_
  generalize hFF : EndN s _ _ _ = FF
  refine Go.iconst X0 hx (pc' := 1) rfl (hb hby d25_0) (v := (0 : Int32)) rfl ?_
  refine Go.istore X0 hx (pc' := 3) rfl (hb hby d25_1) (Ls' := #[.val (.ref x0), .val (.int 0), .val (.ref x1), .val (.int 0), .val (.int 2), .val (.int 0), .unset]) rfl ?_
  refine Go.iload X0 hx (pc' := 5) rfl (hb hby d25_3) rfl ?_
  refine Go.iload X0 hx (pc' := 7) rfl (hb hby d25_5) rfl ?_
  refine Go.icmpNo X0 hx (pc' := 10) rfl (hb hby d25_7) (by decide) ?_
  refine Go.aloadN X0 hx (pc' := 11) rfl (hb hby d25_10) rfl rfl ?_
  refine Go.iloadN X0 hx (pc' := 12) rfl (hb hby d25_11) rfl ?_
  refine Go.caload X0 hx hZ e0 P0 (v := (.int p0)) ⟨by decide, by decide⟩ rfl (pc' := 13) rfl (hb hby d25_12) ?_
  refine Go.istore X0 hx (pc' := 15) rfl (hb hby d25_13) (Ls' := #[.val (.ref x0), .val (.int 0), .val (.ref x1), .val (.int 0), .val (.int 2), .val (.int 0), .val (.int p0)]) rfl ?_
  refine Go.iload X0 hx (pc' := 17) rfl (hb hby d25_15) rfl ?_
  refine Go.sipush X0 hx (pc' := 20) rfl (hb hby d25_17) (v := (255 : Int32)) (by decide) ?_
  refine Go.icmpYes X0 hx (pc' := 26) (hb hby d25_20) (flt (own_nlt_r (own_rlit (n := 255) (by decide)) R_p0 (by decide))).2.2.2 (by decide) (by decide) ?_
  refine Go.aloadN X0 hx (pc' := 27) rfl (hb hby d25_26) rfl rfl ?_
  refine Go.iloadN X0 hx (pc' := 28) rfl (hb hby d25_27) rfl ?_
  refine Go.iload X0 hx (pc' := 30) rfl (hb hby d25_28) rfl ?_
  refine Go.i2b X0 hx (pc' := 31) rfl (hb hby d25_30) ?_
  generalize hz1 : (p0.toInt8.toInt32) = z1
  have r2 : -128 ≤ z1.toInt ∧ z1.toInt ≤ 127 := own_ri2b hz1
  refine Go.bastore X0 hx hZ e0 P2 z1 (own_nar_byte r2 (by decide) (by decide)) ⟨by decide, by decide⟩ 0 rfl (Nat.le_of_ble_eq_true rfl) (pc' := 32) rfl (hb hby d25_31) ?_
  intro T3 h3 e3 W3 V3 X3
  have N3 := Fr.snoc X3 (Fr.nil n0) g_x1
  refine Go.iinc X3 hx (pc' := 35) rfl (hb hby d25_32) rfl (y := (1 : Int32)) (by decide) (Ls' := #[.val (.ref x0), .val (.int 1), .val (.ref x1), .val (.int 0), .val (.int 2), .val (.int 0), .val (.int p0)]) rfl ?_
  refine Go.iinc X3 hx (pc' := 38) rfl (hb hby d25_35) rfl (y := (1 : Int32)) (by decide) (Ls' := #[.val (.ref x0), .val (.int 1), .val (.ref x1), .val (.int 1), .val (.int 2), .val (.int 0), .val (.int p0)]) rfl ?_
  refine Go.iinc X3 hx (pc' := 41) rfl (hb hby d25_38) rfl (y := (1 : Int32)) (by decide) (Ls' := #[.val (.ref x0), .val (.int 1), .val (.ref x1), .val (.int 1), .val (.int 2), .val (.int 1), .val (.int p0)]) rfl ?_
  refine Go.goto X3 hx (pc' := 3) (hb hby d25_41) (by decide) (by decide) ?_
  refine Go.iload X3 hx (pc' := 5) rfl (hb hby d25_3) rfl ?_
  refine Go.iload X3 hx (pc' := 7) rfl (hb hby d25_5) rfl ?_
  refine Go.icmpNo X3 hx (pc' := 10) rfl (hb hby d25_7) (by decide) ?_
  refine Go.aloadN X3 hx (pc' := 11) rfl (hb hby d25_10) rfl rfl ?_
  refine Go.iloadN X3 hx (pc' := 12) rfl (hb hby d25_11) rfl ?_
  have fk4 := (P0.other W3 ne_x0_x1)
  refine Go.caload X3 hx hZ e3 fk4 (v := (.int p1)) ⟨by decide, by decide⟩ rfl (pc' := 13) rfl (hb hby d25_12) ?_
  refine Go.istore X3 hx (pc' := 15) rfl (hb hby d25_13) (Ls' := #[.val (.ref x0), .val (.int 1), .val (.ref x1), .val (.int 1), .val (.int 2), .val (.int 1), .val (.int p1)]) rfl ?_
  refine Go.iload X3 hx (pc' := 17) rfl (hb hby d25_15) rfl ?_
  refine Go.sipush X3 hx (pc' := 20) rfl (hb hby d25_17) (v := (255 : Int32)) (by decide) ?_
  refine Go.icmpYes X3 hx (pc' := 26) (hb hby d25_20) (flt (own_nlt_r (own_rlit (n := 255) (by decide)) R_p1 (by decide))).2.2.2 (by decide) (by decide) ?_
  refine Go.aloadN X3 hx (pc' := 27) rfl (hb hby d25_26) rfl rfl ?_
  refine Go.iloadN X3 hx (pc' := 28) rfl (hb hby d25_27) rfl ?_
  refine Go.iload X3 hx (pc' := 30) rfl (hb hby d25_28) rfl ?_
  refine Go.i2b X3 hx (pc' := 31) rfl (hb hby d25_30) ?_
  generalize hz5 : (p1.toInt8.toInt32) = z5
  have r6 : -128 ≤ z5.toInt ∧ z5.toInt ≤ 127 := own_ri2b hz5
  refine Go.bastore X3 hx hZ e3 V3 z5 (own_nar_byte r6 (by decide) (by decide)) ⟨by decide, by decide⟩ 1 rfl (Nat.le_of_ble_eq_true rfl) (pc' := 32) rfl (hb hby d25_31) ?_
  intro T7 h7 e7 W7 V7 X7
  have N7 := Fr.snoc X7 N3 g_x1
  refine Go.iinc X7 hx (pc' := 35) rfl (hb hby d25_32) rfl (y := (2 : Int32)) (by decide) (Ls' := #[.val (.ref x0), .val (.int 2), .val (.ref x1), .val (.int 1), .val (.int 2), .val (.int 1), .val (.int p1)]) rfl ?_
  refine Go.iinc X7 hx (pc' := 38) rfl (hb hby d25_35) rfl (y := (2 : Int32)) (by decide) (Ls' := #[.val (.ref x0), .val (.int 2), .val (.ref x1), .val (.int 2), .val (.int 2), .val (.int 1), .val (.int p1)]) rfl ?_
  refine Go.iinc X7 hx (pc' := 41) rfl (hb hby d25_38) rfl (y := (2 : Int32)) (by decide) (Ls' := #[.val (.ref x0), .val (.int 2), .val (.ref x1), .val (.int 2), .val (.int 2), .val (.int 2), .val (.int p1)]) rfl ?_
  refine Go.goto X7 hx (pc' := 3) (hb hby d25_41) (by decide) (by decide) ?_
  refine Go.iload X7 hx (pc' := 5) rfl (hb hby d25_3) rfl ?_
  refine Go.iload X7 hx (pc' := 7) rfl (hb hby d25_5) rfl ?_
  refine Go.icmpYes X7 hx (pc' := 44) (hb hby d25_7) (by decide) (by decide) (by decide) ?_
  refine Go.iload X7 hx (pc' := 46) rfl (hb hby d25_44) rfl ?_
  subst hFF
  refine Go.retI X7 hx hlk hret (hb hby d25_46) (by decide) (by decide) ?_
  rw [e7]
  have V8 : Arv Z h7 x1 kk1 .byte (2 : Int32) [(.int z1), (.int z5)] (.int 0) := V7
  have fk9 : Exa Z h7 x1 "[B" := ((P3.wr W3).wr W7)
  have Kp10 : Keep h0 h3 [x1] := ((Keep.refl h0 [x1]).wr W3 (Or.inl (List.mem_of_getElem? (i := 0) rfl)))
  have Kp11 : Keep h0 h7 [x1] := (Kp10.wr W7 (Or.inl (List.mem_of_getElem? (i := 0) rfl)))
  exact ⟨z1, z5, hz1, hz5, rfl, N7, Kp11, V8, fk9⟩
-- java/lang/StringUTF16.compress
set_option maxRecDepth 65536 in
set_option maxHeartbeats 4000000 in
theorem au_53 (l : Launch) (Z : State) (a0 : Array Value) (hw : ∀ d ∈ tables_1, d.before a0 Z = true) (x0 : Addr) (kk0 : ClassId) (p0 : Int32) (p1 : Int32) (h0 : Heap) (n0 : Nat) (Z0 : n0 ≤ h0.size) (P0 : Arv Z h0 x0 kk0 .char (2 : Int32) [(.int p0), (.int p1)] (.int 0)) (R_p0 : 0 ≤ p0.toInt ∧ p0.toInt ≤ 255) (R_p1 : 0 ≤ p1.toInt ∧ p1.toInt ≤ 255) :
    Ctr l Z (⟨"java/lang/StringUTF16", "compress", "([CII)[B"⟩ : MethodName) jdk_52_method_16_code 6 (some (.array .byte)) ({ frames := 1, cells := 1, slots := 2, locals := 18 } : Room) #[(.ref x0), (.int 0), (.int 2)] h0 (fun v h L => ∃ (z8_0 : Int32) (z8_1 : Int32) (b1 : Addr) (k1 : ClassId), (p0.toInt8.toInt32) = z8_0 ∧ (p1.toInt8.toInt32) = z8_1 ∧ v = some (.ref b1) ∧ Fr n0 L ∧ Keep h0 h [] ∧ h0.size ≤ b1 ∧ Arv Z h b1 k1 .byte (2 : Int32) [(.int z8_0), (.int z8_1)] (.int 0) ∧ Exa Z h b1 "[B") := by
  refine Ctr.of (plainFor_of_name pn_c6) ?_
  intro p e s m below meth c T0 hx hZ hby hml hown hnm hret hlk e0 es X0
  refine Go.cast (ef_24_RII m x0 (0 : Int32) (2 : Int32)) ?_
  generalize hFF : EndN s _ _ _ = FF
  refine Go.iloadN X0 hx (pc' := 1) rfl (hb hby d24_0) rfl ?_
  refine Go.newarray X0 hx hZ (ty := .byte) rfl (tw_23 hw) e0 (by decide) (cap := 2) (by decide) (by decide) (by decide) (by decide) (ad := "[B") (by decide) 2 (pc' := 3) rfl (hb hby d24_1) ?_
  intro T1 h1 b1 k1 e1 E1 g1 V1 A1 X1
  have V1' : Arv Z h1 b1 k1 .byte (2 : Int32) [(.int 0), (.int 0)] (.int 0) := V1
  refine Go.astoreN X1 hx (pc' := 4) rfl (hb hby d24_3) (Ls' := #[.val (.ref x0), .val (.int 0), .val (.int 2), .val (.ref b1), .unset, .unset]) rfl rfl ?_
  refine Go.aloadN X1 hx (pc' := 5) rfl (hb hby d24_4) rfl rfl ?_
  refine Go.iloadN X1 hx (pc' := 6) rfl (hb hby d24_5) rfl ?_
  refine Go.aloadN X1 hx (pc' := 7) rfl (hb hby d24_6) rfl rfl ?_
  refine Go.iconst X1 hx (pc' := 8) rfl (hb hby d24_7) (v := (0 : Int32)) rfl ?_
  refine Go.iloadN X1 hx (pc' := 9) rfl (hb hby d24_8) rfl ?_
  have Kp3 : Keep h0 h1 [] := ((Keep.refl h0 []).ext E1)
  have Zn2 : n0 ≤ h1.size := Nat.le_trans Z0 Kp3.1
  have fk4 := (P0.ext E1)
  have sz6 : h0.size ≤ b1 := Nat.le_trans (Keep.refl h0 []).1 (Nat.le_of_eq g1.symm)
  have ge5 : n0 ≤ b1 := Nat.le_trans Z0 sz6
  have ne7 : x0 ≠ b1 := Nat.ne_of_lt (Nat.lt_of_lt_of_le P0.lt (Nat.le_of_eq g1.symm))
  refine Go.callS X1 hx hZ hown (tw_118 hw) (tw_119 hw) (tw_116 hw) (tw_120 hw) (by decide) (tw_120 hw) (tw_116 hw) (au_54 l Z a0 hw x0 b1 kk0 p0 p1 k1 h1 n0 Zn2 fk4 V1' A1 R_p0 R_p1 ge5 ne7) e1 (argsL := [(.ref x0), (.int 0), (.ref b1), (.int 0), (.int 2)]) (rest := []) (pc' := 12) rfl (by rw [hml]; rfl) (lenOf pd_19 rfl) rfl rfl (W := 0) (Nat.le_of_eq rfl) (by decide) (by decide) (by decide) (by decide) (hb hby d24_9) ?_
  intro v8 T8 L8 q8 X8
  obtain ⟨h8, e8⟩ : ∃ z, T8.heap = z := ⟨_, rfl⟩
  rw [e8] at q8
  obtain ⟨z8_0, z8_1, d8_0, d8_1, rfl, N8, K8, F8_0, F8_1⟩ := q8
  show Go _ _ _ _ (T8.setTop (mkF m 12 #[.val (.ref x0), .val (.int 0), .val (.int 2), .val (.ref b1), .unset, .unset] [(.int 2)]))
  refine Go.istore X8 hx (pc' := 14) rfl (hb hby d24_12) (Ls' := #[.val (.ref x0), .val (.int 0), .val (.int 2), .val (.ref b1), .val (.int 2), .unset]) rfl ?_
  refine Go.iload X8 hx (pc' := 16) rfl (hb hby d24_14) rfl ?_
  refine Go.iloadN X8 hx (pc' := 17) rfl (hb hby d24_16) rfl ?_
  refine Go.icmpYes X8 hx (pc' := 57) (hb hby d24_17) (by decide) (by decide) (by decide) ?_
  refine Go.aloadN X8 hx (pc' := 58) rfl (hb hby d24_57) rfl rfl ?_
  subst hFF
  refine Go.retR X8 hx hlk (t := (.array .byte)) hret rfl rfl (hb hby d24_58) (by decide) (by decide) ?_
  rw [e8]
  have Kp9 : Keep h0 h8 [] := (Kp3.trans K8 (allS (Or.inr sz6) all0))
  exact ⟨z8_0, z8_1, b1, k1, d8_0, d8_1, rfl, (Fr.app (Fr.nil n0) N8), Kp9, sz6, F8_0, F8_1⟩
-- java/lang/StringUTF16.coderFromArrayLen
set_option maxRecDepth 65536 in
set_option maxHeartbeats 4000000 in
theorem au_55 (l : Launch) (Z : State) (a0 : Array Value) (hw : ∀ d ∈ tables_1, d.before a0 Z = true) (x0 : Addr) (kk0 : ClassId) (p0 : Int32) (p1 : Int32) (h0 : Heap) (n0 : Nat) (Z0 : n0 ≤ h0.size) (P0 : Arv Z h0 x0 kk0 .byte (2 : Int32) [(.int p0), (.int p1)] (.int 0)) :
    Ctr l Z (⟨"java/lang/StringUTF16", "coderFromArrayLen", "([BI)B"⟩ : MethodName) jdk_52_method_15_code 2 (some .byte) ({ frames := 0, cells := 0, slots := 0, locals := 0 } : Room) #[(.ref x0), (.int 2)] h0 (fun v h L => v = some (.int 0) ∧ Fr n0 L ∧ h = h0) := by
  refine Ctr.of (plainFor_of_name pn_c6) ?_
  intro p e s m below meth c T0 hx hZ hby hml hown hnm hret hlk e0 es X0
  refine Go.cast (ef_26_RI m x0 (2 : Int32)) ?_
  generalize hFF : EndN s _ _ _ = FF
  refine Go.iloadN X0 hx (pc' := 1) rfl (hb hby d26_0) rfl ?_
  refine Go.aloadN X0 hx (pc' := 2) rfl (hb hby d26_1) rfl rfl ?_
  refine Go.arraylength X0 hx hZ e0 P0 (pc' := 3) rfl (hb hby d26_2) ?_
  refine Go.isub X0 hx (pc' := 4) rfl (hb hby d26_3) ?_
  rw [show ((2 : Int32) - (2 : Int32)) = (0 : Int32) from by decide]
  refine Go.bipush X0 hx (pc' := 6) rfl (hb hby d26_4) (v := (31 : Int32)) (by decide) ?_
  refine Go.iushr X0 hx (pc' := 7) rfl (hb hby d26_6) ?_
  rw [show (((0 : Int32).toUInt32 >>> ((31 : Int32) &&& 31).toUInt32).toInt32) = (0 : Int32) from by decide]
  refine Go.i2b X0 hx (pc' := 8) rfl (hb hby d26_7) ?_
  rw [show ((0 : Int32).toInt8.toInt32) = (0 : Int32) from by decide]
  subst hFF
  refine Go.retN X0 hx hlk (t := .byte) hret (by simp) (hb hby d26_8) (by decide) (by decide) ?_
  rw [e0]
  exact ⟨(congrArg (fun z => some (Value.int z)) (by decide : nar .byte (0 : Int32) = (0 : Int32))), (Fr.nil n0), rfl⟩
-- java/lang/String.init
set_option maxRecDepth 65536 in
set_option maxHeartbeats 4000000 in
theorem au_52 (l : Launch) (Z : State) (a0 : Array Value) (hw : ∀ d ∈ tables_1, d.before a0 Z = true) (x0 : Addr) (x1 : Addr) (kk0 : ClassId) (p0 : Int32) (p1 : Int32) (gz1 : Int32) (gv5 : Value) (h0 : Heap) (n0 : Nat) (Z0 : n0 ≤ h0.size) (O0 : Old Z n0 h0) (G : Glob Z gz1 gv5) (P0 : Exa Z h0 x0 "java/lang/String") (P1 : Fld Z h0 x0 "java/lang/String" "coder" "B" (.int 0)) (P2 : Fld Z h0 x0 "java/lang/String" "value" "[B" .null) (P3 : Arv Z h0 x1 kk0 .char (2 : Int32) [(.int p0), (.int p1)] (.int 0)) (R_p0 : 0 ≤ p0.toInt ∧ p0.toInt ≤ 255) (R_p1 : 0 ≤ p1.toInt ∧ p1.toInt ≤ 255) (g_x0 : n0 ≤ x0) :
    Ctr l Z (⟨"java/lang/String", "<init>", "([CIILjava/lang/Void;)V"⟩ : MethodName) jdk_42_method_149_code 6 none ({ frames := 2, cells := 1, slots := 2, locals := 35 } : Room) #[(.ref x0), (.ref x1), (.int 0), (.int 2), .null] h0 (fun v h L => ∃ (z4_0 : Int32) (z4_1 : Int32) (b4_0 : Addr) (k4_0 : ClassId), (p0.toInt8.toInt32) = z4_0 ∧ (p1.toInt8.toInt32) = z4_1 ∧ v = none ∧ Fr n0 L ∧ Keep h0 h [x0] ∧ h0.size ≤ b4_0 ∧ Exa Z h x0 "java/lang/String" ∧ Fld Z h x0 "java/lang/String" "coder" "B" (.int 0) ∧ Fld Z h x0 "java/lang/String" "value" "[B" (.ref b4_0) ∧ Arv Z h b4_0 k4_0 .byte (2 : Int32) [(.int z4_0), (.int z4_1)] (.int 0) ∧ Exa Z h b4_0 "[B") := by
  refine Ctr.of (plainFor_of_name pn_c1) ?_
  intro p e s m below meth c T0 hx hZ hby hml hown hnm hret hlk e0 es X0
  have G' := G
  obtain ⟨G0, -, G2, -⟩ := G'
  refine Go.cast (ef_4_RRIIN m x0 x1 (0 : Int32) (2 : Int32)) ?_
  generalize hFF : EndN s _ _ _ = FF
  refine Go.aloadN X0 hx (pc' := 1) rfl (hb hby d4_0) rfl rfl ?_
  refine Go.initO X0 hx hZ hown (tw_19 hw) (tw_20 hw) (tw_21 hw) e0 (by decide) (W := 0) (by rw [hml]; rfl) (Nat.le_of_eq rfl) (by decide) (pc' := 4) rfl (hb hby d4_1) ?_
  intro T1 e1 X1
  refine Go.iloadN X1 hx (pc' := 5) rfl (hb hby d4_4) rfl ?_
  refine Go.ifYes X1 hx (pc' := 27) (hb hby d4_5) (by decide) (by decide) (by decide) ?_
  have fk2 : Sta Z h0 "java/lang/String" "COMPACT_STRINGS" "Z" (.int gz1) := G0.ext O0.2
  refine Go.getS X1 hx hZ hown (host := "") (Or.inl (tw_55 hw)) Via.refl e1 fk2 (pc' := 30) rfl (hb hby d4_27) ?_
  intro T3 e3 X3
  refine Go.ifNo X3 hx (pc' := 33) rfl (hb hby d4_30) (feq G2).1 ?_
  refine Go.aloadN X3 hx (pc' := 34) rfl (hb hby d4_33) rfl rfl ?_
  refine Go.iloadN X3 hx (pc' := 35) rfl (hb hby d4_34) rfl ?_
  refine Go.iloadN X3 hx (pc' := 36) rfl (hb hby d4_35) rfl ?_
  refine Go.callS X3 hx hZ hown (tw_114 hw) (tw_115 hw) (tw_116 hw) (tw_117 hw) (by decide) (tw_117 hw) (tw_116 hw) (au_53 l Z a0 hw x1 kk0 p0 p1 h0 n0 Z0 P3 R_p0 R_p1) e3 (argsL := [(.ref x1), (.int 0), (.int 2)]) (rest := []) (pc' := 39) rfl (by rw [hml]; rfl) (lenOf pd_20 rfl) rfl rfl (W := 0) (Nat.le_of_eq rfl) (by decide) (by decide) (by decide) (by decide) (hb hby d4_36) ?_
  intro v4 T4 L4 q4 X4
  obtain ⟨h4, e4⟩ : ∃ z, T4.heap = z := ⟨_, rfl⟩
  rw [e4] at q4
  obtain ⟨z4_0, z4_1, b4_0, k4_0, d4_0, d4_1, rfl, N4, K4, s4_0, F4_0, F4_1⟩ := q4
  show Go _ _ _ _ (T4.setTop (mkF m 39 #[.val (.ref x0), .val (.ref x1), .val (.int 0), .val (.int 2), .val .null, .unset] [(.ref b4_0)]))
  refine Go.astore X4 hx (pc' := 41) rfl (hb hby d4_39) (Ls' := #[.val (.ref x0), .val (.ref x1), .val (.int 0), .val (.int 2), .val .null, .val (.ref b4_0)]) rfl rfl ?_
  refine Go.aloadN X4 hx (pc' := 42) rfl (hb hby d4_41) rfl rfl ?_
  refine Go.aload X4 hx (pc' := 44) rfl (hb hby d4_42) rfl rfl ?_
  refine Go.iloadN X4 hx (pc' := 45) rfl (hb hby d4_44) rfl ?_
  have r5 : -128 ≤ z4_0.toInt ∧ z4_0.toInt ≤ 127 := own_ri2b d4_0
  have r6 : -128 ≤ z4_1.toInt ∧ z4_1.toInt ≤ 127 := own_ri2b d4_1
  have Kp8 : Keep h0 h4 [x0] := ((Keep.refl h0 [x0]).trans K4 all0)
  have Zn7 : n0 ≤ h4.size := Nat.le_trans Z0 Kp8.1
  refine Go.callS X4 hx hZ hown (tw_121 hw) (tw_122 hw) (tw_116 hw) (tw_123 hw) (by decide) (tw_123 hw) (tw_116 hw) (au_55 l Z a0 hw b4_0 k4_0 z4_0 z4_1 h4 n0 Zn7 F4_0) e4 (argsL := [(.ref b4_0), (.int 2)]) (rest := [(.ref x0)]) (pc' := 48) rfl (by rw [hml]; rfl) (lenOf pd_21 rfl) rfl rfl (W := 1) (Nat.le_of_eq rfl) (by decide) (by decide) (by decide) (by decide) (hb hby d4_45) ?_
  intro v9 T9 L9 q9 X9
  obtain ⟨rfl, N9, e9⟩ := q9
  show Go _ _ _ _ (T9.setTop (mkF m 48 #[.val (.ref x0), .val (.ref x1), .val (.int 0), .val (.int 2), .val .null, .val (.ref b4_0)] [(.int 0), (.ref x0)]))
  have fk10 : Fld Z h4 x0 "java/lang/String" "coder" "B" (.int 0) := (P1.keep K4 nin0)
  have fk11 : Exa Z h4 x0 "java/lang/String" := (P0.keep K4)
  refine Go.putFN X9 hx hZ hown (tw_29 hw) Via.refl e9 fk10 fk11 (Or.inr ⟨(tw_25 hw), rfl, hnm⟩) (tw_9 hw) (ty := .byte) (v' := (.int 0)) (by decide) (by decide) (by decide) (pc' := 51) rfl (hb hby d4_48) ?_
  intro T12 h12 e12 W12 F12 X12
  have N12 := Fr.snoc X12 (Fr.app (Fr.app (Fr.nil n0) N4) N9) g_x0
  refine Go.aloadN X12 hx (pc' := 52) rfl (hb hby d4_51) rfl rfl ?_
  refine Go.aload X12 hx (pc' := 54) rfl (hb hby d4_52) rfl rfl ?_
  have fk13 : Fld Z h12 x0 "java/lang/String" "value" "[B" .null := ((P2.keep K4 nin0).other W12 (Or.inr (slot_ne (Or.inr (tw_24 hw)) (Or.inr (tw_25 hw)) (by decide) (t := (.array .byte)) (t' := .byte) (by decide) (by decide))))
  have fk14 : Exa Z h12 x0 "java/lang/String" := (fk11.wr W12)
  refine Go.putF X12 hx hZ hown (host := "") (Or.inl (tw_28 hw)) Via.refl e12 fk13 fk14 (Or.inr ⟨(tw_24 hw), rfl, hnm⟩) (tw_9 hw) (ty := (.array .byte)) (by decide) rfl rfl (pc' := 57) rfl (hb hby d4_54) ?_
  intro T15 h15 e15 W15 F15 X15
  have N15 := Fr.snoc X15 N12 g_x0
  subst hFF
  refine Go.ret0 X15 hx hlk hret (hb hby d4_57) (by decide) (by decide) ?_
  rw [e15]
  have fk16 : Exa Z h15 x0 "java/lang/String" := (fk14.wr W15)
  have fk17 : Fld Z h15 x0 "java/lang/String" "coder" "B" (.int 0) := (F12.other W15 (Or.inr (slot_ne (Or.inr (tw_25 hw)) (Or.inr (tw_24 hw)) (by decide) (t := .byte) (t' := (.array .byte)) (by decide) (by decide))))
  have ne18 : x0 ≠ b4_0 := Nat.ne_of_lt (Nat.lt_of_lt_of_le P0.lt s4_0)
  have fk19 := ((F4_0.other W12 (Ne.symm ne18)).other W15 (Ne.symm ne18))
  have fk20 : Exa Z h15 b4_0 "[B" := ((F4_1.wr W12).wr W15)
  have Kp21 : Keep h0 h12 [x0] := (Kp8.wr W12 (Or.inl (List.mem_of_getElem? (i := 0) rfl)))
  have Kp22 : Keep h0 h15 [x0] := (Kp21.wr W15 (Or.inl (List.mem_of_getElem? (i := 0) rfl)))
  have sz23 : h0.size ≤ b4_0 := Nat.le_trans (Keep.refl h0 [x0]).1 s4_0
  exact ⟨z4_0, z4_1, b4_0, k4_0, d4_0, d4_1, rfl, N15, Kp22, sz23, fk16, fk17, F15, fk19, fk20⟩
-- java/lang/String.init
set_option maxRecDepth 65536 in
set_option maxHeartbeats 4000000 in
theorem au_51 (l : Launch) (Z : State) (a0 : Array Value) (hw : ∀ d ∈ tables_1, d.before a0 Z = true) (x0 : Addr) (x1 : Addr) (kk0 : ClassId) (p0 : Int32) (p1 : Int32) (gz1 : Int32) (gv5 : Value) (h0 : Heap) (n0 : Nat) (Z0 : n0 ≤ h0.size) (O0 : Old Z n0 h0) (G : Glob Z gz1 gv5) (P0 : Exa Z h0 x0 "java/lang/String") (P1 : Fld Z h0 x0 "java/lang/String" "coder" "B" (.int 0)) (P2 : Fld Z h0 x0 "java/lang/String" "value" "[B" .null) (P3 : Arv Z h0 x1 kk0 .char (2 : Int32) [(.int p0), (.int p1)] (.int 0)) (R_p0 : 0 ≤ p0.toInt ∧ p0.toInt ≤ 255) (R_p1 : 0 ≤ p1.toInt ∧ p1.toInt ≤ 255) (g_x0 : n0 ≤ x0) :
    Ctr l Z (⟨"java/lang/String", "<init>", "([C)V"⟩ : MethodName) jdk_42_method_3_code 2 none ({ frames := 3, cells := 1, slots := 2, locals := 52 } : Room) #[(.ref x0), (.ref x1)] h0 (fun v h L => ∃ (z1_0 : Int32) (z1_1 : Int32) (b1_0 : Addr) (k1_0 : ClassId), (p0.toInt8.toInt32) = z1_0 ∧ (p1.toInt8.toInt32) = z1_1 ∧ v = none ∧ Fr n0 L ∧ Keep h0 h [x0] ∧ h0.size ≤ b1_0 ∧ Exa Z h x0 "java/lang/String" ∧ Fld Z h x0 "java/lang/String" "coder" "B" (.int 0) ∧ Fld Z h x0 "java/lang/String" "value" "[B" (.ref b1_0) ∧ Arv Z h b1_0 k1_0 .byte (2 : Int32) [(.int z1_0), (.int z1_1)] (.int 0) ∧ Exa Z h b1_0 "[B") := by
  refine Ctr.of (plainFor_of_name pn_c1) ?_
  intro p e s m below meth c T0 hx hZ hby hml hown hnm hret hlk e0 es X0
  refine Go.cast (ef_3_RR m x0 x1) ?_
  generalize hFF : EndN s _ _ _ = FF
  refine Go.aloadN X0 hx (pc' := 1) rfl (hb hby d3_0) rfl rfl ?_
  refine Go.aloadN X0 hx (pc' := 2) rfl (hb hby d3_1) rfl rfl ?_
  refine Go.iconst X0 hx (pc' := 3) rfl (hb hby d3_2) (v := (0 : Int32)) rfl ?_
  refine Go.aloadN X0 hx (pc' := 4) rfl (hb hby d3_3) rfl rfl ?_
  refine Go.arraylength X0 hx hZ e0 P3 (pc' := 5) rfl (hb hby d3_4) ?_
  refine Go.anull X0 hx (pc' := 6) rfl (hb hby d3_5) ?_
  refine Go.callN X0 hx hZ hown rfl (tw_15 hw) (tw_16 hw) (tw_18 hw) (by decide) (tw_18 hw) (tw_10 hw) (au_52 l Z a0 hw x0 x1 kk0 p0 p1 gz1 gv5 h0 n0 Z0 O0 G P0 P1 P2 P3 R_p0 R_p1 g_x0) e0 (a := x0) (argsL := [(.ref x1), (.int 0), (.int 2), .null]) (rest := []) (pc' := 9) rfl (by rw [hml]; rfl) (lenOf pd_1 rfl) rfl rfl (W := 0) (Nat.le_of_eq rfl) (by decide) (by decide) (by decide) (by decide) (hb hby d3_6) ?_
  intro v1 T1 L1 q1 X1
  obtain ⟨h1, e1⟩ : ∃ z, T1.heap = z := ⟨_, rfl⟩
  rw [e1] at q1
  obtain ⟨z1_0, z1_1, b1_0, k1_0, d1_0, d1_1, rfl, N1, K1, s1_0, F1_0, F1_1, F1_2, F1_3, F1_4⟩ := q1
  show Go _ _ _ _ (T1.setTop (mkF m 9 #[.val (.ref x0), .val (.ref x1)] []))
  subst hFF
  refine Go.ret0 X1 hx hlk hret (hb hby d3_9) (by decide) (by decide) ?_
  rw [e1]
  have Kp2 : Keep h0 h1 [x0] := ((Keep.refl h0 [x0]).trans K1 (allS (Or.inl (List.mem_of_getElem? (i := 0) rfl)) all0))
  have sz3 : h0.size ≤ b1_0 := Nat.le_trans (Keep.refl h0 [x0]).1 s1_0
  exact ⟨z1_0, z1_1, b1_0, k1_0, d1_0, d1_1, rfl, (Fr.app (Fr.nil n0) N1), Kp2, sz3, F1_0, F1_1, F1_2, F1_3, F1_4⟩
theorem d2_55 : decode method_3_code 55 = .ok (.invokespecial 9, 3) := by decide +kernel
theorem d2_58 : decode method_3_code 58 = .ok (.areturn, 1) := by decide +kernel
-- com/example/roles_over_datacenter/rolesoverdatacenter/PageServesPinLaw.make
set_option maxRecDepth 65536 in
set_option maxHeartbeats 4000000 in
theorem au_50 (l : Launch) (Z : State) (a0 : Array Value) (hw : ∀ d ∈ tables_1, d.before a0 Z = true) (p0 : Int32) (p1 : Int32) (p2 : Int32) (p3 : Int32) (p4 : Int32) (gz1 : Int32) (gv5 : Value) (h0 : Heap) (n0 : Nat) (Z0 : n0 ≤ h0.size) (O0 : Old Z n0 h0) (G : Glob Z gz1 gv5) (R_p0 : 0 ≤ p0.toInt ∧ p0.toInt ≤ 255) (R_p1 : 0 ≤ p1.toInt ∧ p1.toInt ≤ 255) :
    Ctr l Z (⟨"com/example/roles_over_datacenter/rolesoverdatacenter/PageServesPinLaw", "make", "(ICCCCC)Ljava/lang/String;"⟩ : MethodName) method_3_code 6 (some (.object "java/lang/String")) ({ frames := 4, cells := 3, slots := 8, locals := 66 } : Room) #[(.int 2), (.int p0), (.int p1), (.int p2), (.int p3), (.int p4)] h0 (fun v h L => ∃ (z23_0 : Int32) (z23_1 : Int32) (b1 : Addr) (b23_0 : Addr) (k23_0 : ClassId), (p0.toInt8.toInt32) = z23_0 ∧ (p1.toInt8.toInt32) = z23_1 ∧ v = some (.ref b1) ∧ Fr n0 L ∧ Keep h0 h [] ∧ h0.size ≤ b1 ∧ h0.size ≤ b23_0 ∧ b23_0 ≠ b1 ∧ Exa Z h b1 "java/lang/String" ∧ Fld Z h b1 "java/lang/String" "coder" "B" (.int 0) ∧ Fld Z h b1 "java/lang/String" "value" "[B" (.ref b23_0) ∧ Arv Z h b23_0 k23_0 .byte (2 : Int32) [(.int z23_0), (.int z23_1)] (.int 0) ∧ Exa Z h b23_0 "[B") := by
  refine Ctr.of (plainFor_of_name pn_c0) ?_
  intro p e s m below meth c T0 hx hZ hby hml hown hnm hret hlk e0 es X0
  refine Go.cast (ef_2_IIIIII m (2 : Int32) p0 p1 p2 p3 p4) ?_
  generalize hFF : EndN s _ _ _ = FF
  refine Go.iloadN X0 hx (pc' := 1) rfl (hb hby d2_0) rfl ?_
  refine Go.ifYes X0 hx (pc' := 15) (hb hby d2_1) (by decide) (by decide) (by decide) ?_
  refine Go.iloadN X0 hx (pc' := 16) rfl (hb hby d2_15) rfl ?_
  refine Go.iconst X0 hx (pc' := 17) rfl (hb hby d2_16) (v := (1 : Int32)) rfl ?_
  refine Go.icmpYes X0 hx (pc' := 35) (hb hby d2_17) (by decide) (by decide) (by decide) ?_
  refine Go.iloadN X0 hx (pc' := 36) rfl (hb hby d2_35) rfl ?_
  refine Go.iconst X0 hx (pc' := 37) rfl (hb hby d2_36) (v := (2 : Int32)) rfl ?_
  refine Go.icmpNo X0 hx (pc' := 40) rfl (hb hby d2_37) (by decide) ?_
  refine Go.new X0 hx hZ hown (tw_8 hw) (tw_9 hw) (tw_10 hw) e0 (by decide) (by decide) (pc' := 43) rfl (hb hby d2_40) ?_
  intro T1 h1 b1 e1 E1 g1 A1 D1 X1
  have b1_value : Fld Z h1 b1 "java/lang/String" "value" "[B" .null := D1 (Or.inr (tw_24 hw)) (ty := (.array .byte)) (by decide)
  have b1_coder : Fld Z h1 b1 "java/lang/String" "coder" "B" (.int 0) := D1 (Or.inr (tw_25 hw)) (ty := .byte) (by decide)
  refine Go.dup X1 hx (pc' := 44) rfl (hb hby d2_43) rfl ?_
  refine Go.iconst X1 hx (pc' := 45) rfl (hb hby d2_44) (v := (2 : Int32)) rfl ?_
  refine Go.newarray X1 hx hZ (ty := .char) rfl (tw_11 hw) e1 (by decide) (cap := 2) (by decide) (by decide) (by decide) (by decide) (ad := "[C") (by decide) 2 (pc' := 47) rfl (hb hby d2_45) ?_
  intro T2 h2 b2 k2 e2 E2 g2 V2 A2 X2
  have V2' : Arv Z h2 b2 k2 .char (2 : Int32) [(.int 0), (.int 0)] (.int 0) := V2
  refine Go.dup X2 hx (pc' := 48) rfl (hb hby d2_47) rfl ?_
  refine Go.iconst X2 hx (pc' := 49) rfl (hb hby d2_48) (v := (0 : Int32)) rfl ?_
  refine Go.iloadN X2 hx (pc' := 50) rfl (hb hby d2_49) rfl ?_
  have Kp5 : Keep h0 h1 [] := ((Keep.refl h0 []).ext E1)
  have sz4 : h0.size ≤ b2 := Nat.le_trans Kp5.1 (Nat.le_of_eq g2.symm)
  have ge3 : n0 ≤ b2 := Nat.le_trans Z0 sz4
  refine Go.castore X2 hx hZ e2 V2' p0 (own_nar_char R_p0 (by decide) (by decide)) ⟨by decide, by decide⟩ 0 rfl (Nat.le_of_ble_eq_true rfl) (pc' := 51) rfl (hb hby d2_50) ?_
  intro T6 h6 e6 W6 V6 X6
  have N6 := Fr.snoc X6 (Fr.nil n0) ge3
  refine Go.dup X6 hx (pc' := 52) rfl (hb hby d2_51) rfl ?_
  refine Go.iconst X6 hx (pc' := 53) rfl (hb hby d2_52) (v := (1 : Int32)) rfl ?_
  refine Go.iloadN X6 hx (pc' := 54) rfl (hb hby d2_53) rfl ?_
  refine Go.castore X6 hx hZ e6 V6 p1 (own_nar_char R_p1 (by decide) (by decide)) ⟨by decide, by decide⟩ 1 rfl (Nat.le_of_ble_eq_true rfl) (pc' := 55) rfl (hb hby d2_54) ?_
  intro T7 h7 e7 W7 V7 X7
  have N7 := Fr.snoc X7 N6 ge3
  have Kp9 : Keep h0 h2 [] := (Kp5.ext E2)
  have Kp10 : Keep h0 h6 [] := (Kp9.wr W6 (Or.inr sz4))
  have Kp11 : Keep h0 h7 [] := (Kp10.wr W7 (Or.inr sz4))
  have Zn8 : n0 ≤ h7.size := Nat.le_trans Z0 Kp11.1
  have O12 := (O0.ext E1)
  have O13 := (O12.ext E2)
  have O14 := (O13.wr W6 ge3)
  have O15 := (O14.wr W7 ge3)
  have fk16 : Exa Z h7 b1 "java/lang/String" := (((A1.ext E2).wr W6).wr W7)
  have ne17 : b1 ≠ b2 := Nat.ne_of_lt (Nat.lt_of_lt_of_le A1.lt (Nat.le_of_eq g2.symm))
  have fk18 : Fld Z h7 b1 "java/lang/String" "coder" "B" (.int 0) := (((b1_coder.ext E2).other W6 (Or.inl ne17)).other W7 (Or.inl ne17))
  have fk19 : Fld Z h7 b1 "java/lang/String" "value" "[B" .null := (((b1_value.ext E2).other W6 (Or.inl ne17)).other W7 (Or.inl ne17))
  have V20 : Arv Z h7 b2 k2 .char (2 : Int32) [(.int p0), (.int p1)] (.int 0) := V7
  have sz22 : h0.size ≤ b1 := Nat.le_trans (Keep.refl h0 []).1 (Nat.le_of_eq g1.symm)
  have ge21 : n0 ≤ b1 := Nat.le_trans Z0 sz22
  refine Go.callN X7 hx hZ hown rfl (tw_12 hw) (tw_13 hw) (tw_14 hw) (by decide) (tw_14 hw) (tw_10 hw) (au_51 l Z a0 hw b1 b2 k2 p0 p1 gz1 gv5 h7 n0 Zn8 O15 G fk16 fk18 fk19 V20 R_p0 R_p1 ge21) e7 (a := b1) (argsL := [(.ref b2)]) (rest := [(.ref b1)]) (pc' := 58) rfl (by rw [hml]; rfl) (lenOf pd_2 rfl) rfl rfl (W := 1) (Nat.le_of_eq rfl) (by decide) (by decide) (by decide) (by decide) (hb hby d2_55) ?_
  intro v23 T23 L23 q23 X23
  obtain ⟨h23, e23⟩ : ∃ z, T23.heap = z := ⟨_, rfl⟩
  rw [e23] at q23
  obtain ⟨z23_0, z23_1, b23_0, k23_0, d23_0, d23_1, rfl, N23, K23, s23_0, F23_0, F23_1, F23_2, F23_3, F23_4⟩ := q23
  show Go _ _ _ _ (T23.setTop (mkF m 58 #[.val (.int 2), .val (.int p0), .val (.int p1), .val (.int p2), .val (.int p3), .val (.int p4)] [(.ref b1)]))
  subst hFF
  refine Go.retR X23 hx hlk (t := (.object "java/lang/String")) hret rfl rfl (hb hby d2_58) (by decide) (by decide) ?_
  rw [e23]
  have Kp24 : Keep h0 h23 [] := (Kp11.trans K23 (allS (Or.inr sz22) all0))
  have sz25 : h0.size ≤ b23_0 := Nat.le_trans Kp11.1 s23_0
  have ne26 : b1 ≠ b23_0 := Nat.ne_of_lt (Nat.lt_of_lt_of_le fk16.lt s23_0)
  exact ⟨z23_0, z23_1, b1, b23_0, k23_0, d23_0, d23_1, rfl, (Fr.app N7 N23), Kp24, sz22, sz25, (Ne.symm ne26), F23_0, F23_1, F23_2, F23_3, F23_4⟩
-- java/lang/String.coder
set_option maxRecDepth 65536 in
set_option maxHeartbeats 4000000 in
theorem au_61 (l : Launch) (Z : State) (a0 : Array Value) (hw : ∀ d ∈ tables_1, d.before a0 Z = true) (x0 : Addr) (gz1 : Int32) (gv5 : Value) (h0 : Heap) (n0 : Nat) (Z0 : n0 ≤ h0.size) (O0 : Old Z n0 h0) (G : Glob Z gz1 gv5) (P1 : Fld Z h0 x0 "java/lang/String" "coder" "B" (.int 0)) :
    Ctr l Z (⟨"java/lang/String", "coder", "()B"⟩ : MethodName) jdk_42_method_152_code 1 (some .byte) ({ frames := 0, cells := 0, slots := 0, locals := 0 } : Room) #[(.ref x0)] h0 (fun v h L => v = some (.int 0) ∧ Fr n0 L ∧ h = h0) := by
  refine Ctr.of (plainFor_of_name pn_c1) ?_
  intro p e s m below meth c T0 hx hZ hby hml hown hnm hret hlk e0 es X0
  have G' := G
  obtain ⟨G0, -, G2, -⟩ := G'
  refine Go.cast (ef_10_R m x0) ?_
  generalize hFF : EndN s _ _ _ = FF
  have fk1 : Sta Z h0 "java/lang/String" "COMPACT_STRINGS" "Z" (.int gz1) := G0.ext O0.2
  refine Go.getS X0 hx hZ hown (host := "") (Or.inl (tw_55 hw)) Via.refl e0 fk1 (pc' := 3) rfl (hb hby d10_0) ?_
  intro T2 e2 X2
  refine Go.ifNo X2 hx (pc' := 6) rfl (hb hby d10_3) (feq G2).1 ?_
  refine Go.aloadN X2 hx (pc' := 7) rfl (hb hby d10_6) rfl rfl ?_
  refine Go.getF X2 hx hZ hown (host := "") (Or.inl (tw_29 hw)) Via.refl e2 P1 (pc' := 10) rfl (hb hby d10_7) ?_
  intro T3 e3 X3
  refine Go.goto X3 hx (pc' := 14) (hb hby d10_10) (by decide) (by decide) ?_
  subst hFF
  refine Go.retN X3 hx hlk (t := .byte) hret (by simp) (hb hby d10_14) (by decide) (by decide) ?_
  rw [e3]
  exact ⟨(congrArg (fun z => some (Value.int z)) (by decide : nar .byte (0 : Int32) = (0 : Int32))), (Fr.nil n0), rfl⟩
-- java/lang/String.length
set_option maxRecDepth 65536 in
set_option maxHeartbeats 4000000 in
theorem au_60 (l : Launch) (Z : State) (a0 : Array Value) (hw : ∀ d ∈ tables_1, d.before a0 Z = true) (x0 : Addr) (x1 : Addr) (kk0 : ClassId) (p0 : Int32) (p1 : Int32) (gz1 : Int32) (gv5 : Value) (h0 : Heap) (n0 : Nat) (Z0 : n0 ≤ h0.size) (O0 : Old Z n0 h0) (G : Glob Z gz1 gv5) (P0 : Exa Z h0 x0 "java/lang/String") (P1 : Fld Z h0 x0 "java/lang/String" "coder" "B" (.int 0)) (P2 : Fld Z h0 x0 "java/lang/String" "value" "[B" (.ref x1)) (P3 : Arv Z h0 x1 kk0 .byte (2 : Int32) [(.int p0), (.int p1)] (.int 0)) :
    Ctr l Z (⟨"java/lang/String", "length", "()I"⟩ : MethodName) jdk_42_method_54_code 1 (some .int) ({ frames := 1, cells := 0, slots := 0, locals := 13 } : Room) #[(.ref x0)] h0 (fun v h L => v = some (.int 2) ∧ Fr n0 L ∧ h = h0) := by
  refine Ctr.of (plainFor_of_name pn_c1) ?_
  intro p e s m below meth c T0 hx hZ hby hml hown hnm hret hlk e0 es X0
  refine Go.cast (ef_9_R m x0) ?_
  generalize hFF : EndN s _ _ _ = FF
  refine Go.aloadN X0 hx (pc' := 1) rfl (hb hby d9_0) rfl rfl ?_
  refine Go.getF X0 hx hZ hown (host := "") (Or.inl (tw_28 hw)) Via.refl e0 P2 (pc' := 4) rfl (hb hby d9_1) ?_
  intro T1 e1 X1
  refine Go.arraylength X1 hx hZ e1 P3 (pc' := 5) rfl (hb hby d9_4) ?_
  refine Go.aloadN X1 hx (pc' := 6) rfl (hb hby d9_5) rfl rfl ?_
  refine Go.callV X1 hx hZ hown (tw_50 hw) (tw_51 hw) (notFace_of_selects (args := #[]) (mvT hZ (tw_53 hw))) (tw_53 hw) (tw_52 hw) (by decide) (tw_54 hw) (tw_10 hw) (au_61 l Z a0 hw x0 gz1 gv5 h0 n0 Z0 O0 G P1) e1 P0 (argsL := []) (rest := [(.int 2)]) (pc' := 9) rfl (by rw [hml]; rfl) (lenOf pd_4 rfl) rfl rfl (W := 1) (Nat.le_of_eq rfl) (by decide) (by decide) (by decide) (by decide) (hb hby d9_6) ?_
  intro v2 T2 L2 q2 X2
  obtain ⟨rfl, N2, e2⟩ := q2
  show Go _ _ _ _ (T2.setTop (mkF m 9 #[.val (.ref x0)] [(.int 0), (.int 2)]))
  refine Go.ishr X2 hx (pc' := 10) rfl (hb hby d9_9) ?_
  rw [show ((2 : Int32) >>> ((0 : Int32) &&& 31)) = (2 : Int32) from by decide]
  subst hFF
  refine Go.retI X2 hx hlk hret (hb hby d9_10) (by decide) (by decide) ?_
  rw [e2]
  exact ⟨rfl, (Fr.app (Fr.nil n0) N2), rfl⟩
-- java/lang/String.startsWith
set_option maxRecDepth 65536 in
set_option maxHeartbeats 4000000 in
theorem au_59 (l : Launch) (Z : State) (a0 : Array Value) (hw : ∀ d ∈ tables_1, d.before a0 Z = true) (x0 : Addr) (x1 : Addr) (x2 : Addr) (x3 : Addr) (kk0 : ClassId) (p0 : Int32) (p1 : Int32) (kk1 : ClassId) (gz1 : Int32) (gv5 : Value) (h0 : Heap) (n0 : Nat) (Z0 : n0 ≤ h0.size) (O0 : Old Z n0 h0) (G : Glob Z gz1 gv5) (P0 : Exa Z h0 x0 "java/lang/String") (P1 : Fld Z h0 x0 "java/lang/String" "coder" "B" (.int 0)) (P2 : Fld Z h0 x0 "java/lang/String" "value" "[B" (.ref x2)) (P3 : Exa Z h0 x1 "java/lang/String") (P4 : Fld Z h0 x1 "java/lang/String" "coder" "B" (.int 0)) (P5 : Fld Z h0 x1 "java/lang/String" "value" "[B" (.ref x3)) (P6 : Arv Z h0 x2 kk0 .byte (2 : Int32) [(.int p0), (.int p1)] (.int 0)) (P8 : Arv Z h0 x3 kk1 .byte (4 : Int32) [(.int 47), (.int 117), (.int 105), (.int 47)] (.int (0 : Int32))) :
    Ctr l Z (⟨"java/lang/String", "startsWith", "(Ljava/lang/String;I)Z"⟩ : MethodName) jdk_42_method_75_code 8 (some .boolean) ({ frames := 2, cells := 0, slots := 0, locals := 27 } : Room) #[(.ref x0), (.ref x1), (.int 0)] h0 (fun v h L => v = some (.int 0) ∧ Fr n0 L ∧ h = h0) := by
  refine Ctr.of (plainFor_of_name pn_c1) ?_
  intro p e s m below meth c T0 hx hZ hby hml hown hnm hret hlk e0 es X0
  refine Go.cast (ef_8_RRI m x0 x1 (0 : Int32)) ?_
  generalize hFF : EndN s _ _ _ = FF
  refine Go.iloadN X0 hx (pc' := 1) rfl (hb hby d8_0) rfl ?_
  refine Go.ifNo X0 hx (pc' := 4) rfl (hb hby d8_1) (by decide) ?_
  refine Go.iloadN X0 hx (pc' := 5) rfl (hb hby d8_4) rfl ?_
  refine Go.aloadN X0 hx (pc' := 6) rfl (hb hby d8_5) rfl rfl ?_
  refine Go.callV X0 hx hZ hown (tw_45 hw) (tw_46 hw) (notFace_of_selects (args := #[]) (mvT hZ (tw_48 hw))) (tw_48 hw) (tw_47 hw) (by decide) (tw_49 hw) (tw_10 hw) (au_60 l Z a0 hw x0 x2 kk0 p0 p1 gz1 gv5 h0 n0 Z0 O0 G P0 P1 P2 P6) e0 P0 (argsL := []) (rest := [(.int 0)]) (pc' := 9) rfl (by rw [hml]; rfl) (lenOf pd_5 rfl) rfl rfl (W := 1) (Nat.le_of_eq rfl) (by decide) (by decide) (by decide) (by decide) (hb hby d8_6) ?_
  intro v1 T1 L1 q1 X1
  obtain ⟨rfl, N1, e1⟩ := q1
  show Go _ _ _ _ (T1.setTop (mkF m 9 #[.val (.ref x0), .val (.ref x1), .val (.int 0), .unset, .unset, .unset, .unset, .unset] [(.int 2), (.int 0)]))
  refine Go.aloadN X1 hx (pc' := 10) rfl (hb hby d8_9) rfl rfl ?_
  refine Go.callV X1 hx hZ hown (tw_45 hw) (tw_46 hw) (notFace_of_selects (args := #[]) (mvT hZ (tw_48 hw))) (tw_48 hw) (tw_47 hw) (by decide) (tw_49 hw) (tw_10 hw) (au_14 l Z a0 hw x1 x3 kk1 gz1 gv5 h0 n0 Z0 O0 G P3 P4 P5 P8) e1 P3 (argsL := []) (rest := [(.int 2), (.int 0)]) (pc' := 13) rfl (by rw [hml]; rfl) (lenOf pd_5 rfl) rfl rfl (W := 2) (Nat.le_of_eq rfl) (by decide) (by decide) (by decide) (by decide) (hb hby d8_10) ?_
  intro v2 T2 L2 q2 X2
  obtain ⟨rfl, N2, e2⟩ := q2
  show Go _ _ _ _ (T2.setTop (mkF m 13 #[.val (.ref x0), .val (.ref x1), .val (.int 0), .unset, .unset, .unset, .unset, .unset] [(.int 4), (.int 2), (.int 0)]))
  refine Go.isub X2 hx (pc' := 14) rfl (hb hby d8_13) ?_
  rw [show ((2 : Int32) - (4 : Int32)) = (-2 : Int32) from by decide]
  refine Go.icmpNo X2 hx (pc' := 17) rfl (hb hby d8_14) (by decide) ?_
  refine Go.iconst X2 hx (pc' := 18) rfl (hb hby d8_17) (v := (0 : Int32)) rfl ?_
  subst hFF
  refine Go.retN X2 hx hlk (t := .boolean) hret (by simp) (hb hby d8_18) (by decide) (by decide) ?_
  rw [e2]
  exact ⟨(congrArg (fun z => some (Value.int z)) (by decide : nar .boolean (0 : Int32) = (0 : Int32))), (Fr.app (Fr.app (Fr.nil n0) N1) N2), rfl⟩
-- java/lang/String.startsWith
set_option maxRecDepth 65536 in
set_option maxHeartbeats 4000000 in
theorem au_58 (l : Launch) (Z : State) (a0 : Array Value) (hw : ∀ d ∈ tables_1, d.before a0 Z = true) (x0 : Addr) (x1 : Addr) (x2 : Addr) (x3 : Addr) (kk0 : ClassId) (p0 : Int32) (p1 : Int32) (kk1 : ClassId) (gz1 : Int32) (gv5 : Value) (h0 : Heap) (n0 : Nat) (Z0 : n0 ≤ h0.size) (O0 : Old Z n0 h0) (G : Glob Z gz1 gv5) (P0 : Exa Z h0 x0 "java/lang/String") (P1 : Fld Z h0 x0 "java/lang/String" "coder" "B" (.int 0)) (P2 : Fld Z h0 x0 "java/lang/String" "value" "[B" (.ref x2)) (P3 : Exa Z h0 x1 "java/lang/String") (P4 : Fld Z h0 x1 "java/lang/String" "coder" "B" (.int 0)) (P5 : Fld Z h0 x1 "java/lang/String" "value" "[B" (.ref x3)) (P6 : Arv Z h0 x2 kk0 .byte (2 : Int32) [(.int p0), (.int p1)] (.int 0)) (P8 : Arv Z h0 x3 kk1 .byte (4 : Int32) [(.int 47), (.int 117), (.int 105), (.int 47)] (.int (0 : Int32))) :
    Ctr l Z (⟨"java/lang/String", "startsWith", "(Ljava/lang/String;)Z"⟩ : MethodName) jdk_42_method_76_code 2 (some .boolean) ({ frames := 3, cells := 0, slots := 0, locals := 46 } : Room) #[(.ref x0), (.ref x1)] h0 (fun v h L => v = some (.int 0) ∧ Fr n0 L ∧ h = h0) := by
  refine Ctr.of (plainFor_of_name pn_c1) ?_
  intro p e s m below meth c T0 hx hZ hby hml hown hnm hret hlk e0 es X0
  refine Go.cast (ef_7_RR m x0 x1) ?_
  generalize hFF : EndN s _ _ _ = FF
  refine Go.aloadN X0 hx (pc' := 1) rfl (hb hby d7_0) rfl rfl ?_
  refine Go.aloadN X0 hx (pc' := 2) rfl (hb hby d7_1) rfl rfl ?_
  refine Go.iconst X0 hx (pc' := 3) rfl (hb hby d7_2) (v := (0 : Int32)) rfl ?_
  refine Go.callV X0 hx hZ hown (tw_40 hw) (tw_41 hw) (notFace_of_selects (args := #[]) (mvT hZ (tw_43 hw))) (tw_43 hw) (tw_42 hw) (by decide) (tw_44 hw) (tw_10 hw) (au_59 l Z a0 hw x0 x1 x2 x3 kk0 p0 p1 kk1 gz1 gv5 h0 n0 Z0 O0 G P0 P1 P2 P3 P4 P5 P6 P8) e0 P0 (argsL := [(.ref x1), (.int 0)]) (rest := []) (pc' := 6) rfl (by rw [hml]; rfl) (lenOf pd_6 rfl) rfl rfl (W := 0) (Nat.le_of_eq rfl) (by decide) (by decide) (by decide) (by decide) (hb hby d7_3) ?_
  intro v1 T1 L1 q1 X1
  obtain ⟨rfl, N1, e1⟩ := q1
  show Go _ _ _ _ (T1.setTop (mkF m 6 #[.val (.ref x0), .val (.ref x1)] [(.int 0)]))
  subst hFF
  refine Go.retN X1 hx hlk (t := .boolean) hret (by simp) (hb hby d7_6) (by decide) (by decide) ?_
  rw [e1]
  exact ⟨(congrArg (fun z => some (Value.int z)) (by decide : nar .boolean (0 : Int32) = (0 : Int32))), (Fr.app (Fr.nil n0) N1), rfl⟩
-- java/lang/StringLatin1.equals
set_option maxRecDepth 65536 in
set_option maxHeartbeats 4000000 in
theorem au_65 (l : Launch) (Z : State) (a0 : Array Value) (hw : ∀ d ∈ tables_1, d.before a0 Z = true) (x0 : Addr) (x1 : Addr) (kk0 : ClassId) (p0 : Int32) (p1 : Int32) (kk1 : ClassId) (h0 : Heap) (n0 : Nat) (Z0 : n0 ≤ h0.size) (P0 : Arv Z h0 x0 kk0 .byte (2 : Int32) [(.int p0), (.int p1)] (.int 0)) (P2 : Arv Z h0 x1 kk1 .byte (1 : Int32) [(.int 47)] (.int (0 : Int32))) :
    Ctr l Z (⟨"java/lang/StringLatin1", "equals", "([B[B)Z"⟩ : MethodName) jdk_43_method_13_code 3 (some .boolean) ({ frames := 0, cells := 0, slots := 0, locals := 0 } : Room) #[(.ref x0), (.ref x1)] h0 (fun v h L => v = some (.int 0) ∧ Fr n0 L ∧ h = h0) := by
  refine Ctr.of (plainFor_of_name pn_c2) ?_
  intro p e s m below meth c T0 hx hZ hby hml hown hnm hret hlk e0 es X0
  refine Go.cast (ef_13_RR m x0 x1) ?_
  generalize hFF : EndN s _ _ _ = FF
  refine Go.aloadN X0 hx (pc' := 1) rfl (hb hby d13_0) rfl rfl ?_
  refine Go.arraylength X0 hx hZ e0 P0 (pc' := 2) rfl (hb hby d13_1) ?_
  refine Go.aloadN X0 hx (pc' := 3) rfl (hb hby d13_2) rfl rfl ?_
  refine Go.arraylength X0 hx hZ e0 P2 (pc' := 4) rfl (hb hby d13_3) ?_
  refine Go.icmpYes X0 hx (pc' := 34) (hb hby d13_4) (by decide) (by decide) (by decide) ?_
  refine Go.iconst X0 hx (pc' := 35) rfl (hb hby d13_34) (v := (0 : Int32)) rfl ?_
  subst hFF
  refine Go.retN X0 hx hlk (t := .boolean) hret (by simp) (hb hby d13_35) (by decide) (by decide) ?_
  rw [e0]
  exact ⟨(congrArg (fun z => some (Value.int z)) (by decide : nar .boolean (0 : Int32) = (0 : Int32))), (Fr.nil n0), rfl⟩
-- java/lang/String.equals
set_option maxRecDepth 65536 in
set_option maxHeartbeats 4000000 in
theorem au_64 (l : Launch) (Z : State) (a0 : Array Value) (hw : ∀ d ∈ tables_1, d.before a0 Z = true) (x0 : Addr) (x1 : Addr) (x2 : Addr) (x3 : Addr) (kk0 : ClassId) (p0 : Int32) (p1 : Int32) (kk1 : ClassId) (gz1 : Int32) (gv5 : Value) (h0 : Heap) (n0 : Nat) (Z0 : n0 ≤ h0.size) (O0 : Old Z n0 h0) (G : Glob Z gz1 gv5) (P1 : Fld Z h0 x0 "java/lang/String" "coder" "B" (.int 0)) (P2 : Fld Z h0 x0 "java/lang/String" "value" "[B" (.ref x2)) (P3 : Exa Z h0 x1 "java/lang/String") (P4 : Fld Z h0 x1 "java/lang/String" "coder" "B" (.int 0)) (P5 : Fld Z h0 x1 "java/lang/String" "value" "[B" (.ref x3)) (P6 : Arv Z h0 x2 kk0 .byte (2 : Int32) [(.int p0), (.int p1)] (.int 0)) (P8 : Arv Z h0 x3 kk1 .byte (1 : Int32) [(.int 47)] (.int (0 : Int32))) (ne_x0_x1 : x0 ≠ x1) :
    Ctr l Z (⟨"java/lang/String", "equals", "(Ljava/lang/Object;)Z"⟩ : MethodName) jdk_42_method_66_code 3 (some .boolean) ({ frames := 1, cells := 0, slots := 0, locals := 14 } : Room) #[(.ref x0), (.ref x1)] h0 (fun v h L => v = some (.int 0) ∧ Fr n0 L ∧ h = h0) := by
  refine Ctr.of (plainFor_of_name pn_c1) ?_
  intro p e s m below meth c T0 hx hZ hby hml hown hnm hret hlk e0 es X0
  have G' := G
  obtain ⟨G0, -, G2, -⟩ := G'
  refine Go.cast (ef_12_RR m x0 x1) ?_
  generalize hFF : EndN s _ _ _ = FF
  refine Go.aloadN X0 hx (pc' := 1) rfl (hb hby d12_0) rfl rfl ?_
  refine Go.aloadN X0 hx (pc' := 2) rfl (hb hby d12_1) rfl rfl ?_
  refine Go.acmp X0 hx (pc' := 7) (same := false) (hb hby d12_2) rfl rfl (decide_eq_false (fun q => ne_x0_x1 (Value.ref.inj q))) (by decide) (by decide) ?_
  refine Go.aloadN X0 hx (pc' := 8) rfl (hb hby d12_7) rfl rfl ?_
  refine Go.instY X0 hx hZ hown (tw_65 hw) e0 (Ins.self P3) (pc' := 11) rfl (hb hby d12_8) ?_
  intro T1 e1 X1
  refine Go.ifNo X1 hx (pc' := 14) rfl (hb hby d12_11) (by decide) ?_
  refine Go.aloadN X1 hx (pc' := 15) rfl (hb hby d12_14) rfl rfl ?_
  refine Go.castY X1 hx hZ hown (tw_65 hw) e1 (Ins.self P3) (pc' := 18) rfl (hb hby d12_15) ?_
  intro T2 e2 X2
  refine Go.astoreN X2 hx (pc' := 19) rfl (hb hby d12_18) (Ls' := #[.val (.ref x0), .val (.ref x1), .val (.ref x1)]) rfl rfl ?_
  have fk3 : Sta Z h0 "java/lang/String" "COMPACT_STRINGS" "Z" (.int gz1) := G0.ext O0.2
  refine Go.getS X2 hx hZ hown (host := "") (Or.inl (tw_55 hw)) Via.refl e2 fk3 (pc' := 22) rfl (hb hby d12_19) ?_
  intro T4 e4 X4
  refine Go.ifNo X4 hx (pc' := 25) rfl (hb hby d12_22) (feq G2).1 ?_
  refine Go.aloadN X4 hx (pc' := 26) rfl (hb hby d12_25) rfl rfl ?_
  refine Go.getF X4 hx hZ hown (host := "") (Or.inl (tw_29 hw)) Via.refl e4 P1 (pc' := 29) rfl (hb hby d12_26) ?_
  intro T5 e5 X5
  refine Go.aloadN X5 hx (pc' := 30) rfl (hb hby d12_29) rfl rfl ?_
  refine Go.getF X5 hx hZ hown (host := "") (Or.inl (tw_29 hw)) Via.refl e5 P4 (pc' := 33) rfl (hb hby d12_30) ?_
  intro T6 e6 X6
  refine Go.icmpNo X6 hx (pc' := 36) rfl (hb hby d12_33) (by decide) ?_
  refine Go.aloadN X6 hx (pc' := 37) rfl (hb hby d12_36) rfl rfl ?_
  refine Go.getF X6 hx hZ hown (host := "") (Or.inl (tw_28 hw)) Via.refl e6 P2 (pc' := 40) rfl (hb hby d12_37) ?_
  intro T7 e7 X7
  refine Go.aloadN X7 hx (pc' := 41) rfl (hb hby d12_40) rfl rfl ?_
  refine Go.getF X7 hx hZ hown (host := "") (Or.inl (tw_28 hw)) Via.refl e7 P5 (pc' := 44) rfl (hb hby d12_41) ?_
  intro T8 e8 X8
  refine Go.callS X8 hx hZ hown (tw_66 hw) (tw_67 hw) (tw_68 hw) (tw_69 hw) (by decide) (tw_69 hw) (tw_68 hw) (au_65 l Z a0 hw x2 x3 kk0 p0 p1 kk1 h0 n0 Z0 P6 P8) e8 (argsL := [(.ref x2), (.ref x3)]) (rest := []) (pc' := 47) rfl (by rw [hml]; rfl) (lenOf pd_8 rfl) rfl rfl (W := 0) (Nat.le_of_eq rfl) (by decide) (by decide) (by decide) (by decide) (hb hby d12_44) ?_
  intro v9 T9 L9 q9 X9
  obtain ⟨rfl, N9, e9⟩ := q9
  show Go _ _ _ _ (T9.setTop (mkF m 47 #[.val (.ref x0), .val (.ref x1), .val (.ref x1)] [(.int 0)]))
  refine Go.ifYes X9 hx (pc' := 54) (hb hby d12_47) (by decide) (by decide) (by decide) ?_
  refine Go.iconst X9 hx (pc' := 55) rfl (hb hby d12_54) (v := (0 : Int32)) rfl ?_
  subst hFF
  refine Go.retN X9 hx hlk (t := .boolean) hret (by simp) (hb hby d12_55) (by decide) (by decide) ?_
  rw [e9]
  exact ⟨(congrArg (fun z => some (Value.int z)) (by decide : nar .boolean (0 : Int32) = (0 : Int32))), (Fr.app (Fr.nil n0) N9), rfl⟩
-- java/lang/StringLatin1.equals
set_option maxRecDepth 65536 in
set_option maxHeartbeats 4000000 in
theorem au_67 (l : Launch) (Z : State) (a0 : Array Value) (hw : ∀ d ∈ tables_1, d.before a0 Z = true) (x0 : Addr) (x1 : Addr) (kk0 : ClassId) (p0 : Int32) (p1 : Int32) (kk1 : ClassId) (h0 : Heap) (n0 : Nat) (Z0 : n0 ≤ h0.size) (P0 : Arv Z h0 x0 kk0 .byte (2 : Int32) [(.int p0), (.int p1)] (.int 0)) (P2 : Arv Z h0 x1 kk1 .byte (3 : Int32) [(.int 47), (.int 117), (.int 105)] (.int 0)) :
    Ctr l Z (⟨"java/lang/StringLatin1", "equals", "([B[B)Z"⟩ : MethodName) jdk_43_method_13_code 3 (some .boolean) ({ frames := 0, cells := 0, slots := 0, locals := 0 } : Room) #[(.ref x0), (.ref x1)] h0 (fun v h L => v = some (.int 0) ∧ Fr n0 L ∧ h = h0) := by
  refine Ctr.of (plainFor_of_name pn_c2) ?_
  intro p e s m below meth c T0 hx hZ hby hml hown hnm hret hlk e0 es X0
  refine Go.cast (ef_13_RR m x0 x1) ?_
  generalize hFF : EndN s _ _ _ = FF
  refine Go.aloadN X0 hx (pc' := 1) rfl (hb hby d13_0) rfl rfl ?_
  refine Go.arraylength X0 hx hZ e0 P0 (pc' := 2) rfl (hb hby d13_1) ?_
  refine Go.aloadN X0 hx (pc' := 3) rfl (hb hby d13_2) rfl rfl ?_
  refine Go.arraylength X0 hx hZ e0 P2 (pc' := 4) rfl (hb hby d13_3) ?_
  refine Go.icmpYes X0 hx (pc' := 34) (hb hby d13_4) (by decide) (by decide) (by decide) ?_
  refine Go.iconst X0 hx (pc' := 35) rfl (hb hby d13_34) (v := (0 : Int32)) rfl ?_
  subst hFF
  refine Go.retN X0 hx hlk (t := .boolean) hret (by simp) (hb hby d13_35) (by decide) (by decide) ?_
  rw [e0]
  exact ⟨(congrArg (fun z => some (Value.int z)) (by decide : nar .boolean (0 : Int32) = (0 : Int32))), (Fr.nil n0), rfl⟩
-- java/lang/String.equals
set_option maxRecDepth 65536 in
set_option maxHeartbeats 4000000 in
theorem au_66 (l : Launch) (Z : State) (a0 : Array Value) (hw : ∀ d ∈ tables_1, d.before a0 Z = true) (x0 : Addr) (x1 : Addr) (x2 : Addr) (x3 : Addr) (kk0 : ClassId) (p0 : Int32) (p1 : Int32) (kk1 : ClassId) (gz1 : Int32) (gv5 : Value) (h0 : Heap) (n0 : Nat) (Z0 : n0 ≤ h0.size) (O0 : Old Z n0 h0) (G : Glob Z gz1 gv5) (P1 : Fld Z h0 x0 "java/lang/String" "coder" "B" (.int 0)) (P2 : Fld Z h0 x0 "java/lang/String" "value" "[B" (.ref x2)) (P3 : Exa Z h0 x1 "java/lang/String") (P4 : Fld Z h0 x1 "java/lang/String" "coder" "B" (.int 0)) (P5 : Fld Z h0 x1 "java/lang/String" "value" "[B" (.ref x3)) (P6 : Arv Z h0 x2 kk0 .byte (2 : Int32) [(.int p0), (.int p1)] (.int 0)) (P8 : Arv Z h0 x3 kk1 .byte (3 : Int32) [(.int 47), (.int 117), (.int 105)] (.int 0)) (ne_x0_x1 : x0 ≠ x1) :
    Ctr l Z (⟨"java/lang/String", "equals", "(Ljava/lang/Object;)Z"⟩ : MethodName) jdk_42_method_66_code 3 (some .boolean) ({ frames := 1, cells := 0, slots := 0, locals := 14 } : Room) #[(.ref x0), (.ref x1)] h0 (fun v h L => v = some (.int 0) ∧ Fr n0 L ∧ h = h0) := by
  refine Ctr.of (plainFor_of_name pn_c1) ?_
  intro p e s m below meth c T0 hx hZ hby hml hown hnm hret hlk e0 es X0
  have G' := G
  obtain ⟨G0, -, G2, -⟩ := G'
  refine Go.cast (ef_12_RR m x0 x1) ?_
  generalize hFF : EndN s _ _ _ = FF
  refine Go.aloadN X0 hx (pc' := 1) rfl (hb hby d12_0) rfl rfl ?_
  refine Go.aloadN X0 hx (pc' := 2) rfl (hb hby d12_1) rfl rfl ?_
  refine Go.acmp X0 hx (pc' := 7) (same := false) (hb hby d12_2) rfl rfl (decide_eq_false (fun q => ne_x0_x1 (Value.ref.inj q))) (by decide) (by decide) ?_
  refine Go.aloadN X0 hx (pc' := 8) rfl (hb hby d12_7) rfl rfl ?_
  refine Go.instY X0 hx hZ hown (tw_65 hw) e0 (Ins.self P3) (pc' := 11) rfl (hb hby d12_8) ?_
  intro T1 e1 X1
  refine Go.ifNo X1 hx (pc' := 14) rfl (hb hby d12_11) (by decide) ?_
  refine Go.aloadN X1 hx (pc' := 15) rfl (hb hby d12_14) rfl rfl ?_
  refine Go.castY X1 hx hZ hown (tw_65 hw) e1 (Ins.self P3) (pc' := 18) rfl (hb hby d12_15) ?_
  intro T2 e2 X2
  refine Go.astoreN X2 hx (pc' := 19) rfl (hb hby d12_18) (Ls' := #[.val (.ref x0), .val (.ref x1), .val (.ref x1)]) rfl rfl ?_
  have fk3 : Sta Z h0 "java/lang/String" "COMPACT_STRINGS" "Z" (.int gz1) := G0.ext O0.2
  refine Go.getS X2 hx hZ hown (host := "") (Or.inl (tw_55 hw)) Via.refl e2 fk3 (pc' := 22) rfl (hb hby d12_19) ?_
  intro T4 e4 X4
  refine Go.ifNo X4 hx (pc' := 25) rfl (hb hby d12_22) (feq G2).1 ?_
  refine Go.aloadN X4 hx (pc' := 26) rfl (hb hby d12_25) rfl rfl ?_
  refine Go.getF X4 hx hZ hown (host := "") (Or.inl (tw_29 hw)) Via.refl e4 P1 (pc' := 29) rfl (hb hby d12_26) ?_
  intro T5 e5 X5
  refine Go.aloadN X5 hx (pc' := 30) rfl (hb hby d12_29) rfl rfl ?_
  refine Go.getF X5 hx hZ hown (host := "") (Or.inl (tw_29 hw)) Via.refl e5 P4 (pc' := 33) rfl (hb hby d12_30) ?_
  intro T6 e6 X6
  refine Go.icmpNo X6 hx (pc' := 36) rfl (hb hby d12_33) (by decide) ?_
  refine Go.aloadN X6 hx (pc' := 37) rfl (hb hby d12_36) rfl rfl ?_
  refine Go.getF X6 hx hZ hown (host := "") (Or.inl (tw_28 hw)) Via.refl e6 P2 (pc' := 40) rfl (hb hby d12_37) ?_
  intro T7 e7 X7
  refine Go.aloadN X7 hx (pc' := 41) rfl (hb hby d12_40) rfl rfl ?_
  refine Go.getF X7 hx hZ hown (host := "") (Or.inl (tw_28 hw)) Via.refl e7 P5 (pc' := 44) rfl (hb hby d12_41) ?_
  intro T8 e8 X8
  refine Go.callS X8 hx hZ hown (tw_66 hw) (tw_67 hw) (tw_68 hw) (tw_69 hw) (by decide) (tw_69 hw) (tw_68 hw) (au_67 l Z a0 hw x2 x3 kk0 p0 p1 kk1 h0 n0 Z0 P6 P8) e8 (argsL := [(.ref x2), (.ref x3)]) (rest := []) (pc' := 47) rfl (by rw [hml]; rfl) (lenOf pd_8 rfl) rfl rfl (W := 0) (Nat.le_of_eq rfl) (by decide) (by decide) (by decide) (by decide) (hb hby d12_44) ?_
  intro v9 T9 L9 q9 X9
  obtain ⟨rfl, N9, e9⟩ := q9
  show Go _ _ _ _ (T9.setTop (mkF m 47 #[.val (.ref x0), .val (.ref x1), .val (.ref x1)] [(.int 0)]))
  refine Go.ifYes X9 hx (pc' := 54) (hb hby d12_47) (by decide) (by decide) (by decide) ?_
  refine Go.iconst X9 hx (pc' := 55) rfl (hb hby d12_54) (v := (0 : Int32)) rfl ?_
  subst hFF
  refine Go.retN X9 hx hlk (t := .boolean) hret (by simp) (hb hby d12_55) (by decide) (by decide) ?_
  rw [e9]
  exact ⟨(congrArg (fun z => some (Value.int z)) (by decide : nar .boolean (0 : Int32) = (0 : Int32))), (Fr.app (Fr.nil n0) N9), rfl⟩
-- com/example/roles_over_datacenter/rolesoverdatacenter/Page.redirects
set_option maxRecDepth 65536 in
set_option maxHeartbeats 4000000 in
theorem au_63 (l : Launch) (Z : State) (a0 : Array Value) (hw : ∀ d ∈ tables_1, d.before a0 Z = true) (x0 : Addr) (x1 : Addr) (kk0 : ClassId) (p0 : Int32) (p1 : Int32) (gz1 : Int32) (gv5 : Value) (h0 : Heap) (n0 : Nat) (Z0 : n0 ≤ h0.size) (O0 : Old Z n0 h0) (G : Glob Z gz1 gv5) (P0 : Exa Z h0 x0 "java/lang/String") (P1 : Fld Z h0 x0 "java/lang/String" "coder" "B" (.int 0)) (P2 : Fld Z h0 x0 "java/lang/String" "value" "[B" (.ref x1)) (P3 : Arv Z h0 x1 kk0 .byte (2 : Int32) [(.int p0), (.int p1)] (.int 0)) :
    CtrW l Z EL0 (⟨"com/example/roles_over_datacenter/rolesoverdatacenter/Page", "redirects", "(Ljava/lang/String;)Z"⟩ : MethodName) prog_11_method_4_code 1 (some .boolean) ({ frames := 5, cells := 8, slots := 55, locals := 81 } : Room) #[(.ref x0)] h0 [x0] (fun v vm h L => v = some (.int 0) ∧ Fr n0 L ∧ Keep h0 h []) := by
  refine CtrW.of (plainFor_of_name pn_c5) ?_
  intro p e s m below meth c T0 hx hZ hby hml hown hnm hret hlk e0 es hS0 C0 hsf X0
  have G' := G
  obtain ⟨-, G1, -, -⟩ := G'
  refine Go.cast (ef_11_R m x0) ?_
  generalize hFF : EndW Z EL0 s _ _ _ = FF
  refine Go.aloadN X0 hx (pc' := 1) rfl (hb hby d11_0) rfl rfl ?_
  refine Go.ldcCH X0 hx hZ hown (tw_59 hw) (own_SA hw) e0 hS0 (Nat.le_refl _) (own_EW hw) (List.mem_of_getElem? (i := 1) rfl) C0.1 (vs := [(.int (47 : Int32))]) (z := (1 : Int32)) (by decide) (by decide) rfl (n := 4) (by decide) (by decide) (by decide) (by decide) (pc' := 3) rfl (hb hby d11_1) ?_
  intro a1 T1 h1 j1 b1 k1 e1 E1 S1 i1 Z1 O1 A1 F1 G1 V1 C1 D1 X1
  have Kp3 : Keep h0 h1 [] := ((Keep.refl h0 []).ext E1)
  have Zn2 : n0 ≤ h1.size := Nat.le_trans Z0 Kp3.1
  have O4 := (O0.ext E1)
  have fk5 : Fld Z h1 x0 "java/lang/String" "coder" "B" (.int 0) := (P1.ext E1)
  have fk6 : Fld Z h1 x0 "java/lang/String" "value" "[B" (.ref x1) := (P2.ext E1)
  have fk7 := (P3.ext E1)
  have fk8 : Safe Z EL0 T1.vm h1 x0 := (C1.safe P0.lt (hsf _ (List.mem_of_getElem? (i := 0) rfl)))
  have fk9 : Exa Z h1 x0 "java/lang/String" := (P0.ext E1)
  refine Go.callV X1 hx Z1 O1 (tw_60 hw) (tw_61 hw) (notFace_of_selects (args := #[]) (mvT Z1 (tw_63 hw))) (tw_63 hw) (tw_62 hw) (by decide) (tw_64 hw) (tw_10 hw) (au_64 l Z a0 hw x0 a1 x1 b1 kk0 p0 p1 k1 gz1 gv5 h1 n0 Zn2 O4 G fk5 fk6 A1 F1 G1 fk7 V1 (D1 x0 fk8).1) e1 fk9 (argsL := [(.ref a1)]) (rest := []) (pc' := 6) rfl (by rw [hml]; rfl) (lenOf pd_9 rfl) rfl rfl (W := 0) (Nat.le_of_eq rfl) (by decide) (by decide) (by decide) (by decide) (hb hby d11_3) ?_
  intro v10 T10 L10 q10 X10
  obtain ⟨rfl, N10, e10⟩ := q10
  show Go _ _ _ _ (T10.setTop (mkF m 6 #[.val (.ref x0)] [(.int 0)]))
  refine Go.ifNo X10 hx (pc' := 9) rfl (hb hby d11_6) (by decide) ?_
  refine Go.aloadN X10 hx (pc' := 10) rfl (hb hby d11_9) rfl rfl ?_
  have C11 : CHr Z EL0 s.vm s.heap T1.vm h1 := (C0.trans C1)
  refine Go.ldcCH X10 hx Z1 O1 (tw_34 hw) (own_SA hw) e10 S1 i1 (own_EW hw) (List.mem_of_getElem? (i := 0) rfl) C11.1 (vs := [(.int (47 : Int32)), (.int (117 : Int32)), (.int (105 : Int32)), (.int (47 : Int32))]) (z := (4 : Int32)) (by decide) (by decide) rfl (n := 16) (by decide) (by decide) (by decide) (by decide) (pc' := 12) rfl (hb hby d11_10) ?_
  intro a12 T12 h12 j12 b12 k12 e12 E12 S12 i12 Z12 O12 A12 F12 G12 V12 C12 D12 X12
  refine Go.iconst X12 hx (pc' := 13) rfl (hb hby d11_12) (v := (0 : Int32)) rfl ?_
  have C13 : CHr Z EL0 s.vm s.heap T12.vm h12 := (C11.trans C12)
  refine Go.ldcCH X12 hx Z12 O12 (tw_34 hw) (own_SA hw) e12 S12 i12 (own_EW hw) (List.mem_of_getElem? (i := 0) rfl) C13.1 (vs := [(.int (47 : Int32)), (.int (117 : Int32)), (.int (105 : Int32)), (.int (47 : Int32))]) (z := (4 : Int32)) (by decide) (by decide) rfl (n := 16) (by decide) (by decide) (by decide) (by decide) (pc' := 15) rfl (hb hby d11_13) ?_
  intro a14 T14 h14 j14 b14 k14 e14 E14 S14 i14 Z14 O14 A14 F14 G14 V14 C14 D14 X14
  have Kp16 : Keep h0 h12 [] := (Kp3.ext E12)
  have Kp17 : Keep h0 h14 [] := (Kp16.ext E14)
  have Zn15 : n0 ≤ h14.size := Nat.le_trans Z0 Kp17.1
  have O18 := (O4.ext E12)
  have O19 := (O18.ext E14)
  refine Go.callV X14 hx Z14 O14 (tw_70 hw) (tw_46 hw) (notFace_of_selects (args := #[]) (mvT Z14 (tw_48 hw))) (tw_48 hw) (tw_47 hw) (by decide) (tw_49 hw) (tw_10 hw) (au_14 l Z a0 hw a14 b14 k14 gz1 gv5 h14 n0 Zn15 O19 G A14 F14 G14 V14) e14 A14 (argsL := []) (rest := [(.int 0), (.ref a12), (.ref x0)]) (pc' := 18) rfl (by rw [hml]; rfl) (lenOf pd_5 rfl) rfl rfl (W := 3) (Nat.le_of_eq rfl) (by decide) (by decide) (by decide) (by decide) (hb hby d11_15) ?_
  intro v20 T20 L20 q20 X20
  obtain ⟨rfl, N20, e20⟩ := q20
  show Go _ _ _ _ (T20.setTop (mkF m 18 #[.val (.ref x0)] [(.int 4), (.int 0), (.ref a12), (.ref x0)]))
  refine Go.iconst X20 hx (pc' := 19) rfl (hb hby d11_18) (v := (1 : Int32)) rfl ?_
  refine Go.isub X20 hx (pc' := 20) rfl (hb hby d11_19) ?_
  rw [show ((4 : Int32) - (1 : Int32)) = (3 : Int32) from by decide]
  have fk21 : Exa Z h14 a12 "java/lang/String" := (A12.ext E14)
  have fk22 : Fld Z h14 a12 "java/lang/String" "coder" "B" (.int 0) := (F12.ext E14)
  have fk23 : Fld Z h14 a12 "java/lang/String" "value" "[B" (.ref b12) := (G12.ext E14)
  have fk24 := (V12.ext E14)
  refine Go.callV X20 hx Z14 O14 (tw_71 hw) (tw_72 hw) (notFace_of_selects (args := #[]) (mvT Z14 (tw_74 hw))) (tw_74 hw) (tw_73 hw) (by decide) (tw_75 hw) (tw_10 hw) (au_20 l Z a0 hw a12 b12 k12 gz1 gv5 h14 n0 Zn15 O19 G fk21 fk22 fk23 fk24) e20 fk21 (argsL := [(.int 0), (.int 3)]) (rest := [(.ref x0)]) (pc' := 23) rfl (by rw [hml]; rfl) (lenOf pd_18 rfl) rfl rfl (W := 1) (Nat.le_of_eq rfl) (by decide) (by decide) (by decide) (by decide) (hb hby d11_20) ?_
  intro v25 T25 L25 q25 X25
  obtain ⟨h25, e25⟩ : ∃ z, T25.heap = z := ⟨_, rfl⟩
  rw [e25] at q25
  obtain ⟨b25_0, b25_1, k25_0, rfl, N25, K25, s25_0, s25_1, n25_0, F25_0, F25_1, F25_2, F25_3, F25_4⟩ := q25
  show Go _ _ _ _ (T25.setTop (mkF m 23 #[.val (.ref x0)] [(.ref b25_0), (.ref x0)]))
  have Kp27 : Keep h0 h25 [] := (Kp17.trans K25 all0)
  have Zn26 : n0 ≤ h25.size := Nat.le_trans Z0 Kp27.1
  have O28 := (O19.keep K25 all0)
  have fk29 : Fld Z h25 x0 "java/lang/String" "coder" "B" (.int 0) := (((fk5.ext E12).ext E14).keep K25 nin0)
  have fk30 : Fld Z h25 x0 "java/lang/String" "value" "[B" (.ref x1) := (((fk6.ext E12).ext E14).keep K25 nin0)
  have fk31 := (((fk7.ext E12).ext E14).keep K25 nin0)
  have fk33 : Exa Z h14 x0 "java/lang/String" := ((fk9.ext E12).ext E14)
  have ne32 : x0 ≠ b25_0 := Nat.ne_of_lt (Nat.lt_of_lt_of_le fk33.lt s25_0)
  have fk34 : Exa Z h25 x0 "java/lang/String" := (fk33.keep K25)
  refine Go.callV X25 hx Z14 O14 (tw_60 hw) (tw_61 hw) (notFace_of_selects (args := #[]) (mvT Z14 (tw_63 hw))) (tw_63 hw) (tw_62 hw) (by decide) (tw_64 hw) (tw_10 hw) (au_66 l Z a0 hw x0 b25_0 x1 b25_1 kk0 p0 p1 k25_0 gz1 gv5 h25 n0 Zn26 O28 G fk29 fk30 F25_0 F25_1 F25_2 fk31 F25_3 ne32) e25 fk34 (argsL := [(.ref b25_0)]) (rest := []) (pc' := 26) rfl (by rw [hml]; rfl) (lenOf pd_9 rfl) rfl rfl (W := 0) (Nat.le_of_eq rfl) (by decide) (by decide) (by decide) (by decide) (hb hby d11_23) ?_
  intro v35 T35 L35 q35 X35
  obtain ⟨rfl, N35, e35⟩ := q35
  show Go _ _ _ _ (T35.setTop (mkF m 26 #[.val (.ref x0)] [(.int 0)]))
  refine Go.ifYes X35 hx (pc' := 33) (hb hby d11_26) (by decide) (by decide) (by decide) ?_
  refine Go.iconst X35 hx (pc' := 34) rfl (hb hby d11_33) (v := (0 : Int32)) rfl ?_
  subst hFF
  have C36 : CHr Z EL0 s.vm s.heap T14.vm h14 := (C13.trans C14)
  have C37 : CHr Z EL0 s.vm s.heap T14.vm h25 := (C36.trans (CHr.keep K25 sf0 C36.1))
  have hk38 := (Nat.le_trans i14 K25.1)
  refine Go.retNW X35 hx hlk Z14 (own_EW hw) e35 S14 hk38 C37 (t := .boolean) hret (by simp) (hb hby d11_34) (by decide) (by decide) (fun hat => ?_)
  exact ⟨(congrArg (fun z => some (Value.int z)) (by decide : nar .boolean (0 : Int32) = (0 : Int32))), (Fr.app (Fr.app (Fr.app (Fr.app (Fr.nil n0) N10) N20) N25) N35), Kp27⟩
-- com/example/roles_over_datacenter/rolesoverdatacenter/Page.serves
set_option maxRecDepth 65536 in
set_option maxHeartbeats 4000000 in
theorem au_57 (l : Launch) (Z : State) (a0 : Array Value) (hw : ∀ d ∈ tables_1, d.before a0 Z = true) (x0 : Addr) (x1 : Addr) (kk0 : ClassId) (p0 : Int32) (p1 : Int32) (gz1 : Int32) (gv5 : Value) (h0 : Heap) (n0 : Nat) (Z0 : n0 ≤ h0.size) (O0 : Old Z n0 h0) (G : Glob Z gz1 gv5) (P0 : Exa Z h0 x0 "java/lang/String") (P1 : Fld Z h0 x0 "java/lang/String" "coder" "B" (.int 0)) (P2 : Fld Z h0 x0 "java/lang/String" "value" "[B" (.ref x1)) (P3 : Arv Z h0 x1 kk0 .byte (2 : Int32) [(.int p0), (.int p1)] (.int 0)) :
    CtrW l Z EL0 (⟨"com/example/roles_over_datacenter/rolesoverdatacenter/Page", "serves", "(Ljava/lang/String;)Z"⟩ : MethodName) prog_11_method_3_code 1 (some .boolean) ({ frames := 6, cells := 10, slots := 75, locals := 93 } : Room) #[(.ref x0)] h0 [x0] (fun v vm h L => v = some (.int 0) ∧ Fr n0 L ∧ Keep h0 h []) := by
  refine CtrW.of (plainFor_of_name pn_c5) ?_
  intro p e s m below meth c T0 hx hZ hby hml hown hnm hret hlk e0 es hS0 C0 hsf X0
  have G' := G
  obtain ⟨-, G1, -, -⟩ := G'
  refine Go.cast (ef_6_R m x0) ?_
  generalize hFF : EndW Z EL0 s _ _ _ = FF
  refine Go.aloadN X0 hx (pc' := 1) rfl (hb hby d6_0) rfl rfl ?_
  refine Go.ldcCH X0 hx hZ hown (tw_34 hw) (own_SA hw) e0 hS0 (Nat.le_refl _) (own_EW hw) (List.mem_of_getElem? (i := 0) rfl) C0.1 (vs := [(.int (47 : Int32)), (.int (117 : Int32)), (.int (105 : Int32)), (.int (47 : Int32))]) (z := (4 : Int32)) (by decide) (by decide) rfl (n := 16) (by decide) (by decide) (by decide) (by decide) (pc' := 3) rfl (hb hby d6_1) ?_
  intro a1 T1 h1 j1 b1 k1 e1 E1 S1 i1 Z1 O1 A1 F1 G1 V1 C1 D1 X1
  have Kp3 : Keep h0 h1 [] := ((Keep.refl h0 []).ext E1)
  have Zn2 : n0 ≤ h1.size := Nat.le_trans Z0 Kp3.1
  have O4 := (O0.ext E1)
  have fk5 : Exa Z h1 x0 "java/lang/String" := (P0.ext E1)
  have fk6 : Fld Z h1 x0 "java/lang/String" "coder" "B" (.int 0) := (P1.ext E1)
  have fk7 : Fld Z h1 x0 "java/lang/String" "value" "[B" (.ref x1) := (P2.ext E1)
  have fk8 := (P3.ext E1)
  refine Go.callV X1 hx Z1 O1 (tw_35 hw) (tw_36 hw) (notFace_of_selects (args := #[]) (mvT Z1 (tw_38 hw))) (tw_38 hw) (tw_37 hw) (by decide) (tw_39 hw) (tw_10 hw) (au_58 l Z a0 hw x0 a1 x1 b1 kk0 p0 p1 k1 gz1 gv5 h1 n0 Zn2 O4 G fk5 fk6 fk7 A1 F1 G1 fk8 V1) e1 fk5 (argsL := [(.ref a1)]) (rest := []) (pc' := 6) rfl (by rw [hml]; rfl) (lenOf pd_7 rfl) rfl rfl (W := 0) (Nat.le_of_eq rfl) (by decide) (by decide) (by decide) (by decide) (hb hby d6_3) ?_
  intro v9 T9 L9 q9 X9
  obtain ⟨rfl, N9, e9⟩ := q9
  show Go _ _ _ _ (T9.setTop (mkF m 6 #[.val (.ref x0)] [(.int 0)]))
  refine Go.ifNo X9 hx (pc' := 9) rfl (hb hby d6_6) (by decide) ?_
  refine Go.aloadN X9 hx (pc' := 10) rfl (hb hby d6_9) rfl rfl ?_
  have C10 : CHr Z EL0 s.vm s.heap T1.vm h1 := (C0.trans C1)
  have fk11 : Safe Z EL0 T1.vm h1 x0 := (C1.safe P0.lt (hsf _ (List.mem_of_getElem? (i := 0) rfl)))
  refine Go.callSW X9 hx Z1 O1 (tw_56 hw) (tw_57 hw) (tw_32 hw) (tw_58 hw) (by decide) (tw_58 hw) (tw_32 hw) (au_63 l Z a0 hw x0 x1 kk0 p0 p1 gz1 gv5 h1 n0 Zn2 O4 G fk5 fk6 fk7 fk8) (own_EW hw) C10.1 (allS ⟨fk5.lt, fk11⟩ all0) S1 i1 e9 (argsL := [(.ref x0)]) (rest := []) (pc' := 13) rfl (by rw [hml]; rfl) (lenOf pd_7 rfl) rfl rfl (W := 0) (Nat.le_of_eq rfl) (by decide) (by decide) (by decide) (by decide) (hb hby d6_10) ?_
  intro v12 T12 L12 h12 e12 q12 C12 S12 Z12 O12 X12
  obtain ⟨rfl, N12, K12⟩ := q12
  show Go _ _ _ _ (T12.setTop (mkF m 13 #[.val (.ref x0)] [(.int 0)]))
  refine Go.ifYes X12 hx (pc' := 20) (hb hby d6_13) (by decide) (by decide) (by decide) ?_
  refine Go.iconst X12 hx (pc' := 21) rfl (hb hby d6_20) (v := (0 : Int32)) rfl ?_
  subst hFF
  have C13 : CHr Z EL0 s.vm s.heap T12.vm h12 := (C10.trans C12)
  refine Go.retNW X12 hx hlk Z12 (own_EW hw) e12 S12 (Nat.le_refl _) C13 (t := .boolean) hret (by simp) (hb hby d6_21) (by decide) (by decide) (fun hat => ?_)
  have Kp14 : Keep h0 h12 [] := (Kp3.trans K12 all0)
  exact ⟨(congrArg (fun z => some (Value.int z)) (by decide : nar .boolean (0 : Int32) = (0 : Int32))), (Fr.app (Fr.app (Fr.nil n0) N9) N12), Kp14⟩
theorem d2_59 : decode method_3_code 59 = .ok (.iload_n 0, 1) := by decide +kernel
theorem d2_60 : decode method_3_code 60 = .ok (.iconst 3, 1) := by decide +kernel
theorem d2_61 : decode method_3_code 61 = .ok (.if_icmp .ne 26, 3) := by decide +kernel
theorem d2_64 : decode method_3_code 64 = .ok (.new 7, 3) := by decide +kernel
theorem d2_67 : decode method_3_code 67 = .ok (.dup, 1) := by decide +kernel
theorem d2_68 : decode method_3_code 68 = .ok (.iconst 3, 1) := by decide +kernel
theorem d2_69 : decode method_3_code 69 = .ok (.newarray .char, 2) := by decide +kernel
theorem d2_71 : decode method_3_code 71 = .ok (.dup, 1) := by decide +kernel
theorem d2_72 : decode method_3_code 72 = .ok (.iconst 0, 1) := by decide +kernel
theorem d2_73 : decode method_3_code 73 = .ok (.iload_n 1, 1) := by decide +kernel
theorem d2_74 : decode method_3_code 74 = .ok (.castore, 1) := by decide +kernel
theorem d2_75 : decode method_3_code 75 = .ok (.dup, 1) := by decide +kernel
theorem d2_76 : decode method_3_code 76 = .ok (.iconst 1, 1) := by decide +kernel
theorem d2_77 : decode method_3_code 77 = .ok (.iload_n 2, 1) := by decide +kernel
theorem d2_78 : decode method_3_code 78 = .ok (.castore, 1) := by decide +kernel
theorem d2_79 : decode method_3_code 79 = .ok (.dup, 1) := by decide +kernel
theorem d2_80 : decode method_3_code 80 = .ok (.iconst 2, 1) := by decide +kernel
theorem d2_81 : decode method_3_code 81 = .ok (.iload_n 3, 1) := by decide +kernel
theorem d2_82 : decode method_3_code 82 = .ok (.castore, 1) := by decide +kernel
-- java/lang/StringUTF16.compress
set_option maxRecDepth 65536 in
set_option maxHeartbeats 4000000 in
theorem au_72 (l : Launch) (Z : State) (a0 : Array Value) (hw : ∀ d ∈ tables_1, d.before a0 Z = true) (x0 : Addr) (x1 : Addr) (kk0 : ClassId) (p0 : Int32) (p1 : Int32) (p2 : Int32) (kk1 : ClassId) (h0 : Heap) (n0 : Nat) (Z0 : n0 ≤ h0.size) (P0 : Arv Z h0 x0 kk0 .char (3 : Int32) [(.int p0), (.int p1), (.int p2)] (.int 0)) (P2 : Arv Z h0 x1 kk1 .byte (3 : Int32) [(.int 0), (.int 0), (.int 0)] (.int 0)) (P3 : Exa Z h0 x1 "[B") (R_p0 : 0 ≤ p0.toInt ∧ p0.toInt ≤ 255) (R_p1 : 0 ≤ p1.toInt ∧ p1.toInt ≤ 255) (R_p2 : 0 ≤ p2.toInt ∧ p2.toInt ≤ 255) (g_x1 : n0 ≤ x1) (ne_x0_x1 : x0 ≠ x1) :
    Ctr l Z (⟨"java/lang/StringUTF16", "compress", "([CI[BII)I"⟩ : MethodName) jdk_52_method_21_code 7 (some .int) ({ frames := 0, cells := 0, slots := 0, locals := 0 } : Room) #[(.ref x0), (.int 0), (.ref x1), (.int 0), (.int 3)] h0 (fun v h L => ∃ (z1 : Int32) (z5 : Int32) (z9 : Int32), (p0.toInt8.toInt32) = z1 ∧ (p1.toInt8.toInt32) = z5 ∧ (p2.toInt8.toInt32) = z9 ∧ v = some (.int 3) ∧ Fr n0 L ∧ Keep h0 h [x1] ∧ Arv Z h x1 kk1 .byte (3 : Int32) [(.int z1), (.int z5), (.int z9)] (.int 0) ∧ Exa Z h x1 "[B") := by
  refine Ctr.of (plainFor_of_name pn_c6) ?_
  intro p e s m below meth c T0 hx hZ hby hml hown hnm hret hlk e0 es X0
  refine Go.cast (ef_25_RIRII m x0 (0 : Int32) x1 (0 : Int32) (3 : Int32)) ?_
  generalize hFF : EndN s _ _ _ = FF
  refine Go.iconst X0 hx (pc' := 1) rfl (hb hby d25_0) (v := (0 : Int32)) rfl ?_
  refine Go.istore X0 hx (pc' := 3) rfl (hb hby d25_1) (Ls' := #[.val (.ref x0), .val (.int 0), .val (.ref x1), .val (.int 0), .val (.int 3), .val (.int 0), .unset]) rfl ?_
  refine Go.iload X0 hx (pc' := 5) rfl (hb hby d25_3) rfl ?_
  refine Go.iload X0 hx (pc' := 7) rfl (hb hby d25_5) rfl ?_
  refine Go.icmpNo X0 hx (pc' := 10) rfl (hb hby d25_7) (by decide) ?_
  refine Go.aloadN X0 hx (pc' := 11) rfl (hb hby d25_10) rfl rfl ?_
  refine Go.iloadN X0 hx (pc' := 12) rfl (hb hby d25_11) rfl ?_
  refine Go.caload X0 hx hZ e0 P0 (v := (.int p0)) ⟨by decide, by decide⟩ rfl (pc' := 13) rfl (hb hby d25_12) ?_
  refine Go.istore X0 hx (pc' := 15) rfl (hb hby d25_13) (Ls' := #[.val (.ref x0), .val (.int 0), .val (.ref x1), .val (.int 0), .val (.int 3), .val (.int 0), .val (.int p0)]) rfl ?_
  refine Go.iload X0 hx (pc' := 17) rfl (hb hby d25_15) rfl ?_
  refine Go.sipush X0 hx (pc' := 20) rfl (hb hby d25_17) (v := (255 : Int32)) (by decide) ?_
  refine Go.icmpYes X0 hx (pc' := 26) (hb hby d25_20) (flt (own_nlt_r (own_rlit (n := 255) (by decide)) R_p0 (by decide))).2.2.2 (by decide) (by decide) ?_
  refine Go.aloadN X0 hx (pc' := 27) rfl (hb hby d25_26) rfl rfl ?_
  refine Go.iloadN X0 hx (pc' := 28) rfl (hb hby d25_27) rfl ?_
  refine Go.iload X0 hx (pc' := 30) rfl (hb hby d25_28) rfl ?_
  refine Go.i2b X0 hx (pc' := 31) rfl (hb hby d25_30) ?_
  generalize hz1 : (p0.toInt8.toInt32) = z1
  have r2 : -128 ≤ z1.toInt ∧ z1.toInt ≤ 127 := own_ri2b hz1
  refine Go.bastore X0 hx hZ e0 P2 z1 (own_nar_byte r2 (by decide) (by decide)) ⟨by decide, by decide⟩ 0 rfl (Nat.le_of_ble_eq_true rfl) (pc' := 32) rfl (hb hby d25_31) ?_
  intro T3 h3 e3 W3 V3 X3
  have N3 := Fr.snoc X3 (Fr.nil n0) g_x1
  refine Go.iinc X3 hx (pc' := 35) rfl (hb hby d25_32) rfl (y := (1 : Int32)) (by decide) (Ls' := #[.val (.ref x0), .val (.int 1), .val (.ref x1), .val (.int 0), .val (.int 3), .val (.int 0), .val (.int p0)]) rfl ?_
  refine Go.iinc X3 hx (pc' := 38) rfl (hb hby d25_35) rfl (y := (1 : Int32)) (by decide) (Ls' := #[.val (.ref x0), .val (.int 1), .val (.ref x1), .val (.int 1), .val (.int 3), .val (.int 0), .val (.int p0)]) rfl ?_
  refine Go.iinc X3 hx (pc' := 41) rfl (hb hby d25_38) rfl (y := (1 : Int32)) (by decide) (Ls' := #[.val (.ref x0), .val (.int 1), .val (.ref x1), .val (.int 1), .val (.int 3), .val (.int 1), .val (.int p0)]) rfl ?_
  refine Go.goto X3 hx (pc' := 3) (hb hby d25_41) (by decide) (by decide) ?_
  refine Go.iload X3 hx (pc' := 5) rfl (hb hby d25_3) rfl ?_
  refine Go.iload X3 hx (pc' := 7) rfl (hb hby d25_5) rfl ?_
  refine Go.icmpNo X3 hx (pc' := 10) rfl (hb hby d25_7) (by decide) ?_
  refine Go.aloadN X3 hx (pc' := 11) rfl (hb hby d25_10) rfl rfl ?_
  refine Go.iloadN X3 hx (pc' := 12) rfl (hb hby d25_11) rfl ?_
  have fk4 := (P0.other W3 ne_x0_x1)
  refine Go.caload X3 hx hZ e3 fk4 (v := (.int p1)) ⟨by decide, by decide⟩ rfl (pc' := 13) rfl (hb hby d25_12) ?_
  refine Go.istore X3 hx (pc' := 15) rfl (hb hby d25_13) (Ls' := #[.val (.ref x0), .val (.int 1), .val (.ref x1), .val (.int 1), .val (.int 3), .val (.int 1), .val (.int p1)]) rfl ?_
  refine Go.iload X3 hx (pc' := 17) rfl (hb hby d25_15) rfl ?_
  refine Go.sipush X3 hx (pc' := 20) rfl (hb hby d25_17) (v := (255 : Int32)) (by decide) ?_
  refine Go.icmpYes X3 hx (pc' := 26) (hb hby d25_20) (flt (own_nlt_r (own_rlit (n := 255) (by decide)) R_p1 (by decide))).2.2.2 (by decide) (by decide) ?_
  refine Go.aloadN X3 hx (pc' := 27) rfl (hb hby d25_26) rfl rfl ?_
  refine Go.iloadN X3 hx (pc' := 28) rfl (hb hby d25_27) rfl ?_
  refine Go.iload X3 hx (pc' := 30) rfl (hb hby d25_28) rfl ?_
  refine Go.i2b X3 hx (pc' := 31) rfl (hb hby d25_30) ?_
  generalize hz5 : (p1.toInt8.toInt32) = z5
  have r6 : -128 ≤ z5.toInt ∧ z5.toInt ≤ 127 := own_ri2b hz5
  refine Go.bastore X3 hx hZ e3 V3 z5 (own_nar_byte r6 (by decide) (by decide)) ⟨by decide, by decide⟩ 1 rfl (Nat.le_of_ble_eq_true rfl) (pc' := 32) rfl (hb hby d25_31) ?_
  intro T7 h7 e7 W7 V7 X7
  have N7 := Fr.snoc X7 N3 g_x1
  refine Go.iinc X7 hx (pc' := 35) rfl (hb hby d25_32) rfl (y := (2 : Int32)) (by decide) (Ls' := #[.val (.ref x0), .val (.int 2), .val (.ref x1), .val (.int 1), .val (.int 3), .val (.int 1), .val (.int p1)]) rfl ?_
  refine Go.iinc X7 hx (pc' := 38) rfl (hb hby d25_35) rfl (y := (2 : Int32)) (by decide) (Ls' := #[.val (.ref x0), .val (.int 2), .val (.ref x1), .val (.int 2), .val (.int 3), .val (.int 1), .val (.int p1)]) rfl ?_
  refine Go.iinc X7 hx (pc' := 41) rfl (hb hby d25_38) rfl (y := (2 : Int32)) (by decide) (Ls' := #[.val (.ref x0), .val (.int 2), .val (.ref x1), .val (.int 2), .val (.int 3), .val (.int 2), .val (.int p1)]) rfl ?_
  refine Go.goto X7 hx (pc' := 3) (hb hby d25_41) (by decide) (by decide) ?_
  refine Go.iload X7 hx (pc' := 5) rfl (hb hby d25_3) rfl ?_
  refine Go.iload X7 hx (pc' := 7) rfl (hb hby d25_5) rfl ?_
  refine Go.icmpNo X7 hx (pc' := 10) rfl (hb hby d25_7) (by decide) ?_
  refine Go.aloadN X7 hx (pc' := 11) rfl (hb hby d25_10) rfl rfl ?_
  refine Go.iloadN X7 hx (pc' := 12) rfl (hb hby d25_11) rfl ?_
  have fk8 := (fk4.other W7 ne_x0_x1)
  refine Go.caload X7 hx hZ e7 fk8 (v := (.int p2)) ⟨by decide, by decide⟩ rfl (pc' := 13) rfl (hb hby d25_12) ?_
  refine Go.istore X7 hx (pc' := 15) rfl (hb hby d25_13) (Ls' := #[.val (.ref x0), .val (.int 2), .val (.ref x1), .val (.int 2), .val (.int 3), .val (.int 2), .val (.int p2)]) rfl ?_
  refine Go.iload X7 hx (pc' := 17) rfl (hb hby d25_15) rfl ?_
  refine Go.sipush X7 hx (pc' := 20) rfl (hb hby d25_17) (v := (255 : Int32)) (by decide) ?_
  refine Go.icmpYes X7 hx (pc' := 26) (hb hby d25_20) (flt (own_nlt_r (own_rlit (n := 255) (by decide)) R_p2 (by decide))).2.2.2 (by decide) (by decide) ?_
  refine Go.aloadN X7 hx (pc' := 27) rfl (hb hby d25_26) rfl rfl ?_
  refine Go.iloadN X7 hx (pc' := 28) rfl (hb hby d25_27) rfl ?_
  refine Go.iload X7 hx (pc' := 30) rfl (hb hby d25_28) rfl ?_
  refine Go.i2b X7 hx (pc' := 31) rfl (hb hby d25_30) ?_
  generalize hz9 : (p2.toInt8.toInt32) = z9
  have r10 : -128 ≤ z9.toInt ∧ z9.toInt ≤ 127 := own_ri2b hz9
  refine Go.bastore X7 hx hZ e7 V7 z9 (own_nar_byte r10 (by decide) (by decide)) ⟨by decide, by decide⟩ 2 rfl (Nat.le_of_ble_eq_true rfl) (pc' := 32) rfl (hb hby d25_31) ?_
  intro T11 h11 e11 W11 V11 X11
  have N11 := Fr.snoc X11 N7 g_x1
  refine Go.iinc X11 hx (pc' := 35) rfl (hb hby d25_32) rfl (y := (3 : Int32)) (by decide) (Ls' := #[.val (.ref x0), .val (.int 3), .val (.ref x1), .val (.int 2), .val (.int 3), .val (.int 2), .val (.int p2)]) rfl ?_
  refine Go.iinc X11 hx (pc' := 38) rfl (hb hby d25_35) rfl (y := (3 : Int32)) (by decide) (Ls' := #[.val (.ref x0), .val (.int 3), .val (.ref x1), .val (.int 3), .val (.int 3), .val (.int 2), .val (.int p2)]) rfl ?_
  refine Go.iinc X11 hx (pc' := 41) rfl (hb hby d25_38) rfl (y := (3 : Int32)) (by decide) (Ls' := #[.val (.ref x0), .val (.int 3), .val (.ref x1), .val (.int 3), .val (.int 3), .val (.int 3), .val (.int p2)]) rfl ?_
  refine Go.goto X11 hx (pc' := 3) (hb hby d25_41) (by decide) (by decide) ?_
  refine Go.iload X11 hx (pc' := 5) rfl (hb hby d25_3) rfl ?_
  refine Go.iload X11 hx (pc' := 7) rfl (hb hby d25_5) rfl ?_
  refine Go.icmpYes X11 hx (pc' := 44) (hb hby d25_7) (by decide) (by decide) (by decide) ?_
  refine Go.iload X11 hx (pc' := 46) rfl (hb hby d25_44) rfl ?_
  subst hFF
  refine Go.retI X11 hx hlk hret (hb hby d25_46) (by decide) (by decide) ?_
  rw [e11]
  have V12 : Arv Z h11 x1 kk1 .byte (3 : Int32) [(.int z1), (.int z5), (.int z9)] (.int 0) := V11
  have fk13 : Exa Z h11 x1 "[B" := (((P3.wr W3).wr W7).wr W11)
  have Kp14 : Keep h0 h3 [x1] := ((Keep.refl h0 [x1]).wr W3 (Or.inl (List.mem_of_getElem? (i := 0) rfl)))
  have Kp15 : Keep h0 h7 [x1] := (Kp14.wr W7 (Or.inl (List.mem_of_getElem? (i := 0) rfl)))
  have Kp16 : Keep h0 h11 [x1] := (Kp15.wr W11 (Or.inl (List.mem_of_getElem? (i := 0) rfl)))
  exact ⟨z1, z5, z9, hz1, hz5, hz9, rfl, N11, Kp16, V12, fk13⟩
-- java/lang/StringUTF16.compress
set_option maxRecDepth 65536 in
set_option maxHeartbeats 4000000 in
theorem au_71 (l : Launch) (Z : State) (a0 : Array Value) (hw : ∀ d ∈ tables_1, d.before a0 Z = true) (x0 : Addr) (kk0 : ClassId) (p0 : Int32) (p1 : Int32) (p2 : Int32) (h0 : Heap) (n0 : Nat) (Z0 : n0 ≤ h0.size) (P0 : Arv Z h0 x0 kk0 .char (3 : Int32) [(.int p0), (.int p1), (.int p2)] (.int 0)) (R_p0 : 0 ≤ p0.toInt ∧ p0.toInt ≤ 255) (R_p1 : 0 ≤ p1.toInt ∧ p1.toInt ≤ 255) (R_p2 : 0 ≤ p2.toInt ∧ p2.toInt ≤ 255) :
    Ctr l Z (⟨"java/lang/StringUTF16", "compress", "([CII)[B"⟩ : MethodName) jdk_52_method_16_code 6 (some (.array .byte)) ({ frames := 1, cells := 1, slots := 3, locals := 18 } : Room) #[(.ref x0), (.int 0), (.int 3)] h0 (fun v h L => ∃ (z8_0 : Int32) (z8_1 : Int32) (z8_2 : Int32) (b1 : Addr) (k1 : ClassId), (p0.toInt8.toInt32) = z8_0 ∧ (p1.toInt8.toInt32) = z8_1 ∧ (p2.toInt8.toInt32) = z8_2 ∧ v = some (.ref b1) ∧ Fr n0 L ∧ Keep h0 h [] ∧ h0.size ≤ b1 ∧ Arv Z h b1 k1 .byte (3 : Int32) [(.int z8_0), (.int z8_1), (.int z8_2)] (.int 0) ∧ Exa Z h b1 "[B") := by
  refine Ctr.of (plainFor_of_name pn_c6) ?_
  intro p e s m below meth c T0 hx hZ hby hml hown hnm hret hlk e0 es X0
  refine Go.cast (ef_24_RII m x0 (0 : Int32) (3 : Int32)) ?_
  generalize hFF : EndN s _ _ _ = FF
  refine Go.iloadN X0 hx (pc' := 1) rfl (hb hby d24_0) rfl ?_
  refine Go.newarray X0 hx hZ (ty := .byte) rfl (tw_23 hw) e0 (by decide) (cap := 3) (by decide) (by decide) (by decide) (by decide) (ad := "[B") (by decide) 3 (pc' := 3) rfl (hb hby d24_1) ?_
  intro T1 h1 b1 k1 e1 E1 g1 V1 A1 X1
  have V1' : Arv Z h1 b1 k1 .byte (3 : Int32) [(.int 0), (.int 0), (.int 0)] (.int 0) := V1
  refine Go.astoreN X1 hx (pc' := 4) rfl (hb hby d24_3) (Ls' := #[.val (.ref x0), .val (.int 0), .val (.int 3), .val (.ref b1), .unset, .unset]) rfl rfl ?_
  refine Go.aloadN X1 hx (pc' := 5) rfl (hb hby d24_4) rfl rfl ?_
  refine Go.iloadN X1 hx (pc' := 6) rfl (hb hby d24_5) rfl ?_
  refine Go.aloadN X1 hx (pc' := 7) rfl (hb hby d24_6) rfl rfl ?_
  refine Go.iconst X1 hx (pc' := 8) rfl (hb hby d24_7) (v := (0 : Int32)) rfl ?_
  refine Go.iloadN X1 hx (pc' := 9) rfl (hb hby d24_8) rfl ?_
  have Kp3 : Keep h0 h1 [] := ((Keep.refl h0 []).ext E1)
  have Zn2 : n0 ≤ h1.size := Nat.le_trans Z0 Kp3.1
  have fk4 := (P0.ext E1)
  have sz6 : h0.size ≤ b1 := Nat.le_trans (Keep.refl h0 []).1 (Nat.le_of_eq g1.symm)
  have ge5 : n0 ≤ b1 := Nat.le_trans Z0 sz6
  have ne7 : x0 ≠ b1 := Nat.ne_of_lt (Nat.lt_of_lt_of_le P0.lt (Nat.le_of_eq g1.symm))
  refine Go.callS X1 hx hZ hown (tw_118 hw) (tw_119 hw) (tw_116 hw) (tw_120 hw) (by decide) (tw_120 hw) (tw_116 hw) (au_72 l Z a0 hw x0 b1 kk0 p0 p1 p2 k1 h1 n0 Zn2 fk4 V1' A1 R_p0 R_p1 R_p2 ge5 ne7) e1 (argsL := [(.ref x0), (.int 0), (.ref b1), (.int 0), (.int 3)]) (rest := []) (pc' := 12) rfl (by rw [hml]; rfl) (lenOf pd_19 rfl) rfl rfl (W := 0) (Nat.le_of_eq rfl) (by decide) (by decide) (by decide) (by decide) (hb hby d24_9) ?_
  intro v8 T8 L8 q8 X8
  obtain ⟨h8, e8⟩ : ∃ z, T8.heap = z := ⟨_, rfl⟩
  rw [e8] at q8
  obtain ⟨z8_0, z8_1, z8_2, d8_0, d8_1, d8_2, rfl, N8, K8, F8_0, F8_1⟩ := q8
  show Go _ _ _ _ (T8.setTop (mkF m 12 #[.val (.ref x0), .val (.int 0), .val (.int 3), .val (.ref b1), .unset, .unset] [(.int 3)]))
  refine Go.istore X8 hx (pc' := 14) rfl (hb hby d24_12) (Ls' := #[.val (.ref x0), .val (.int 0), .val (.int 3), .val (.ref b1), .val (.int 3), .unset]) rfl ?_
  refine Go.iload X8 hx (pc' := 16) rfl (hb hby d24_14) rfl ?_
  refine Go.iloadN X8 hx (pc' := 17) rfl (hb hby d24_16) rfl ?_
  refine Go.icmpYes X8 hx (pc' := 57) (hb hby d24_17) (by decide) (by decide) (by decide) ?_
  refine Go.aloadN X8 hx (pc' := 58) rfl (hb hby d24_57) rfl rfl ?_
  subst hFF
  refine Go.retR X8 hx hlk (t := (.array .byte)) hret rfl rfl (hb hby d24_58) (by decide) (by decide) ?_
  rw [e8]
  have Kp9 : Keep h0 h8 [] := (Kp3.trans K8 (allS (Or.inr sz6) all0))
  exact ⟨z8_0, z8_1, z8_2, b1, k1, d8_0, d8_1, d8_2, rfl, (Fr.app (Fr.nil n0) N8), Kp9, sz6, F8_0, F8_1⟩
-- java/lang/StringUTF16.coderFromArrayLen
set_option maxRecDepth 65536 in
set_option maxHeartbeats 4000000 in
theorem au_73 (l : Launch) (Z : State) (a0 : Array Value) (hw : ∀ d ∈ tables_1, d.before a0 Z = true) (x0 : Addr) (kk0 : ClassId) (p0 : Int32) (p1 : Int32) (p2 : Int32) (h0 : Heap) (n0 : Nat) (Z0 : n0 ≤ h0.size) (P0 : Arv Z h0 x0 kk0 .byte (3 : Int32) [(.int p0), (.int p1), (.int p2)] (.int 0)) :
    Ctr l Z (⟨"java/lang/StringUTF16", "coderFromArrayLen", "([BI)B"⟩ : MethodName) jdk_52_method_15_code 2 (some .byte) ({ frames := 0, cells := 0, slots := 0, locals := 0 } : Room) #[(.ref x0), (.int 3)] h0 (fun v h L => v = some (.int 0) ∧ Fr n0 L ∧ h = h0) := by
  refine Ctr.of (plainFor_of_name pn_c6) ?_
  intro p e s m below meth c T0 hx hZ hby hml hown hnm hret hlk e0 es X0
  refine Go.cast (ef_26_RI m x0 (3 : Int32)) ?_
  generalize hFF : EndN s _ _ _ = FF
  refine Go.iloadN X0 hx (pc' := 1) rfl (hb hby d26_0) rfl ?_
  refine Go.aloadN X0 hx (pc' := 2) rfl (hb hby d26_1) rfl rfl ?_
  refine Go.arraylength X0 hx hZ e0 P0 (pc' := 3) rfl (hb hby d26_2) ?_
  refine Go.isub X0 hx (pc' := 4) rfl (hb hby d26_3) ?_
  rw [show ((3 : Int32) - (3 : Int32)) = (0 : Int32) from by decide]
  refine Go.bipush X0 hx (pc' := 6) rfl (hb hby d26_4) (v := (31 : Int32)) (by decide) ?_
  refine Go.iushr X0 hx (pc' := 7) rfl (hb hby d26_6) ?_
  rw [show (((0 : Int32).toUInt32 >>> ((31 : Int32) &&& 31).toUInt32).toInt32) = (0 : Int32) from by decide]
  refine Go.i2b X0 hx (pc' := 8) rfl (hb hby d26_7) ?_
  rw [show ((0 : Int32).toInt8.toInt32) = (0 : Int32) from by decide]
  subst hFF
  refine Go.retN X0 hx hlk (t := .byte) hret (by simp) (hb hby d26_8) (by decide) (by decide) ?_
  rw [e0]
  exact ⟨(congrArg (fun z => some (Value.int z)) (by decide : nar .byte (0 : Int32) = (0 : Int32))), (Fr.nil n0), rfl⟩
-- java/lang/String.init
set_option maxRecDepth 65536 in
set_option maxHeartbeats 4000000 in
theorem au_70 (l : Launch) (Z : State) (a0 : Array Value) (hw : ∀ d ∈ tables_1, d.before a0 Z = true) (x0 : Addr) (x1 : Addr) (kk0 : ClassId) (p0 : Int32) (p1 : Int32) (p2 : Int32) (gz1 : Int32) (gv5 : Value) (h0 : Heap) (n0 : Nat) (Z0 : n0 ≤ h0.size) (O0 : Old Z n0 h0) (G : Glob Z gz1 gv5) (P0 : Exa Z h0 x0 "java/lang/String") (P1 : Fld Z h0 x0 "java/lang/String" "coder" "B" (.int 0)) (P2 : Fld Z h0 x0 "java/lang/String" "value" "[B" .null) (P3 : Arv Z h0 x1 kk0 .char (3 : Int32) [(.int p0), (.int p1), (.int p2)] (.int 0)) (R_p0 : 0 ≤ p0.toInt ∧ p0.toInt ≤ 255) (R_p1 : 0 ≤ p1.toInt ∧ p1.toInt ≤ 255) (R_p2 : 0 ≤ p2.toInt ∧ p2.toInt ≤ 255) (g_x0 : n0 ≤ x0) :
    Ctr l Z (⟨"java/lang/String", "<init>", "([CIILjava/lang/Void;)V"⟩ : MethodName) jdk_42_method_149_code 6 none ({ frames := 2, cells := 1, slots := 3, locals := 35 } : Room) #[(.ref x0), (.ref x1), (.int 0), (.int 3), .null] h0 (fun v h L => ∃ (z4_0 : Int32) (z4_1 : Int32) (z4_2 : Int32) (b4_0 : Addr) (k4_0 : ClassId), (p0.toInt8.toInt32) = z4_0 ∧ (p1.toInt8.toInt32) = z4_1 ∧ (p2.toInt8.toInt32) = z4_2 ∧ v = none ∧ Fr n0 L ∧ Keep h0 h [x0] ∧ h0.size ≤ b4_0 ∧ Exa Z h x0 "java/lang/String" ∧ Fld Z h x0 "java/lang/String" "coder" "B" (.int 0) ∧ Fld Z h x0 "java/lang/String" "value" "[B" (.ref b4_0) ∧ Arv Z h b4_0 k4_0 .byte (3 : Int32) [(.int z4_0), (.int z4_1), (.int z4_2)] (.int 0) ∧ Exa Z h b4_0 "[B") := by
  refine Ctr.of (plainFor_of_name pn_c1) ?_
  intro p e s m below meth c T0 hx hZ hby hml hown hnm hret hlk e0 es X0
  have G' := G
  obtain ⟨G0, -, G2, -⟩ := G'
  refine Go.cast (ef_4_RRIIN m x0 x1 (0 : Int32) (3 : Int32)) ?_
  generalize hFF : EndN s _ _ _ = FF
  refine Go.aloadN X0 hx (pc' := 1) rfl (hb hby d4_0) rfl rfl ?_
  refine Go.initO X0 hx hZ hown (tw_19 hw) (tw_20 hw) (tw_21 hw) e0 (by decide) (W := 0) (by rw [hml]; rfl) (Nat.le_of_eq rfl) (by decide) (pc' := 4) rfl (hb hby d4_1) ?_
  intro T1 e1 X1
  refine Go.iloadN X1 hx (pc' := 5) rfl (hb hby d4_4) rfl ?_
  refine Go.ifYes X1 hx (pc' := 27) (hb hby d4_5) (by decide) (by decide) (by decide) ?_
  have fk2 : Sta Z h0 "java/lang/String" "COMPACT_STRINGS" "Z" (.int gz1) := G0.ext O0.2
  refine Go.getS X1 hx hZ hown (host := "") (Or.inl (tw_55 hw)) Via.refl e1 fk2 (pc' := 30) rfl (hb hby d4_27) ?_
  intro T3 e3 X3
  refine Go.ifNo X3 hx (pc' := 33) rfl (hb hby d4_30) (feq G2).1 ?_
  refine Go.aloadN X3 hx (pc' := 34) rfl (hb hby d4_33) rfl rfl ?_
  refine Go.iloadN X3 hx (pc' := 35) rfl (hb hby d4_34) rfl ?_
  refine Go.iloadN X3 hx (pc' := 36) rfl (hb hby d4_35) rfl ?_
  refine Go.callS X3 hx hZ hown (tw_114 hw) (tw_115 hw) (tw_116 hw) (tw_117 hw) (by decide) (tw_117 hw) (tw_116 hw) (au_71 l Z a0 hw x1 kk0 p0 p1 p2 h0 n0 Z0 P3 R_p0 R_p1 R_p2) e3 (argsL := [(.ref x1), (.int 0), (.int 3)]) (rest := []) (pc' := 39) rfl (by rw [hml]; rfl) (lenOf pd_20 rfl) rfl rfl (W := 0) (Nat.le_of_eq rfl) (by decide) (by decide) (by decide) (by decide) (hb hby d4_36) ?_
  intro v4 T4 L4 q4 X4
  obtain ⟨h4, e4⟩ : ∃ z, T4.heap = z := ⟨_, rfl⟩
  rw [e4] at q4
  obtain ⟨z4_0, z4_1, z4_2, b4_0, k4_0, d4_0, d4_1, d4_2, rfl, N4, K4, s4_0, F4_0, F4_1⟩ := q4
  show Go _ _ _ _ (T4.setTop (mkF m 39 #[.val (.ref x0), .val (.ref x1), .val (.int 0), .val (.int 3), .val .null, .unset] [(.ref b4_0)]))
  refine Go.astore X4 hx (pc' := 41) rfl (hb hby d4_39) (Ls' := #[.val (.ref x0), .val (.ref x1), .val (.int 0), .val (.int 3), .val .null, .val (.ref b4_0)]) rfl rfl ?_
  refine Go.aloadN X4 hx (pc' := 42) rfl (hb hby d4_41) rfl rfl ?_
  refine Go.aload X4 hx (pc' := 44) rfl (hb hby d4_42) rfl rfl ?_
  refine Go.iloadN X4 hx (pc' := 45) rfl (hb hby d4_44) rfl ?_
  have r5 : -128 ≤ z4_0.toInt ∧ z4_0.toInt ≤ 127 := own_ri2b d4_0
  have r6 : -128 ≤ z4_1.toInt ∧ z4_1.toInt ≤ 127 := own_ri2b d4_1
  have r7 : -128 ≤ z4_2.toInt ∧ z4_2.toInt ≤ 127 := own_ri2b d4_2
  have Kp9 : Keep h0 h4 [x0] := ((Keep.refl h0 [x0]).trans K4 all0)
  have Zn8 : n0 ≤ h4.size := Nat.le_trans Z0 Kp9.1
  refine Go.callS X4 hx hZ hown (tw_121 hw) (tw_122 hw) (tw_116 hw) (tw_123 hw) (by decide) (tw_123 hw) (tw_116 hw) (au_73 l Z a0 hw b4_0 k4_0 z4_0 z4_1 z4_2 h4 n0 Zn8 F4_0) e4 (argsL := [(.ref b4_0), (.int 3)]) (rest := [(.ref x0)]) (pc' := 48) rfl (by rw [hml]; rfl) (lenOf pd_21 rfl) rfl rfl (W := 1) (Nat.le_of_eq rfl) (by decide) (by decide) (by decide) (by decide) (hb hby d4_45) ?_
  intro v10 T10 L10 q10 X10
  obtain ⟨rfl, N10, e10⟩ := q10
  show Go _ _ _ _ (T10.setTop (mkF m 48 #[.val (.ref x0), .val (.ref x1), .val (.int 0), .val (.int 3), .val .null, .val (.ref b4_0)] [(.int 0), (.ref x0)]))
  have fk11 : Fld Z h4 x0 "java/lang/String" "coder" "B" (.int 0) := (P1.keep K4 nin0)
  have fk12 : Exa Z h4 x0 "java/lang/String" := (P0.keep K4)
  refine Go.putFN X10 hx hZ hown (tw_29 hw) Via.refl e10 fk11 fk12 (Or.inr ⟨(tw_25 hw), rfl, hnm⟩) (tw_9 hw) (ty := .byte) (v' := (.int 0)) (by decide) (by decide) (by decide) (pc' := 51) rfl (hb hby d4_48) ?_
  intro T13 h13 e13 W13 F13 X13
  have N13 := Fr.snoc X13 (Fr.app (Fr.app (Fr.nil n0) N4) N10) g_x0
  refine Go.aloadN X13 hx (pc' := 52) rfl (hb hby d4_51) rfl rfl ?_
  refine Go.aload X13 hx (pc' := 54) rfl (hb hby d4_52) rfl rfl ?_
  have fk14 : Fld Z h13 x0 "java/lang/String" "value" "[B" .null := ((P2.keep K4 nin0).other W13 (Or.inr (slot_ne (Or.inr (tw_24 hw)) (Or.inr (tw_25 hw)) (by decide) (t := (.array .byte)) (t' := .byte) (by decide) (by decide))))
  have fk15 : Exa Z h13 x0 "java/lang/String" := (fk12.wr W13)
  refine Go.putF X13 hx hZ hown (host := "") (Or.inl (tw_28 hw)) Via.refl e13 fk14 fk15 (Or.inr ⟨(tw_24 hw), rfl, hnm⟩) (tw_9 hw) (ty := (.array .byte)) (by decide) rfl rfl (pc' := 57) rfl (hb hby d4_54) ?_
  intro T16 h16 e16 W16 F16 X16
  have N16 := Fr.snoc X16 N13 g_x0
  subst hFF
  refine Go.ret0 X16 hx hlk hret (hb hby d4_57) (by decide) (by decide) ?_
  rw [e16]
  have fk17 : Exa Z h16 x0 "java/lang/String" := (fk15.wr W16)
  have fk18 : Fld Z h16 x0 "java/lang/String" "coder" "B" (.int 0) := (F13.other W16 (Or.inr (slot_ne (Or.inr (tw_25 hw)) (Or.inr (tw_24 hw)) (by decide) (t := .byte) (t' := (.array .byte)) (by decide) (by decide))))
  have ne19 : x0 ≠ b4_0 := Nat.ne_of_lt (Nat.lt_of_lt_of_le P0.lt s4_0)
  have fk20 := ((F4_0.other W13 (Ne.symm ne19)).other W16 (Ne.symm ne19))
  have fk21 : Exa Z h16 b4_0 "[B" := ((F4_1.wr W13).wr W16)
  have Kp22 : Keep h0 h13 [x0] := (Kp9.wr W13 (Or.inl (List.mem_of_getElem? (i := 0) rfl)))
  have Kp23 : Keep h0 h16 [x0] := (Kp22.wr W16 (Or.inl (List.mem_of_getElem? (i := 0) rfl)))
  have sz24 : h0.size ≤ b4_0 := Nat.le_trans (Keep.refl h0 [x0]).1 s4_0
  exact ⟨z4_0, z4_1, z4_2, b4_0, k4_0, d4_0, d4_1, d4_2, rfl, N16, Kp23, sz24, fk17, fk18, F16, fk20, fk21⟩
-- java/lang/String.init
set_option maxRecDepth 65536 in
set_option maxHeartbeats 4000000 in
theorem au_69 (l : Launch) (Z : State) (a0 : Array Value) (hw : ∀ d ∈ tables_1, d.before a0 Z = true) (x0 : Addr) (x1 : Addr) (kk0 : ClassId) (p0 : Int32) (p1 : Int32) (p2 : Int32) (gz1 : Int32) (gv5 : Value) (h0 : Heap) (n0 : Nat) (Z0 : n0 ≤ h0.size) (O0 : Old Z n0 h0) (G : Glob Z gz1 gv5) (P0 : Exa Z h0 x0 "java/lang/String") (P1 : Fld Z h0 x0 "java/lang/String" "coder" "B" (.int 0)) (P2 : Fld Z h0 x0 "java/lang/String" "value" "[B" .null) (P3 : Arv Z h0 x1 kk0 .char (3 : Int32) [(.int p0), (.int p1), (.int p2)] (.int 0)) (R_p0 : 0 ≤ p0.toInt ∧ p0.toInt ≤ 255) (R_p1 : 0 ≤ p1.toInt ∧ p1.toInt ≤ 255) (R_p2 : 0 ≤ p2.toInt ∧ p2.toInt ≤ 255) (g_x0 : n0 ≤ x0) :
    Ctr l Z (⟨"java/lang/String", "<init>", "([C)V"⟩ : MethodName) jdk_42_method_3_code 2 none ({ frames := 3, cells := 1, slots := 3, locals := 52 } : Room) #[(.ref x0), (.ref x1)] h0 (fun v h L => ∃ (z1_0 : Int32) (z1_1 : Int32) (z1_2 : Int32) (b1_0 : Addr) (k1_0 : ClassId), (p0.toInt8.toInt32) = z1_0 ∧ (p1.toInt8.toInt32) = z1_1 ∧ (p2.toInt8.toInt32) = z1_2 ∧ v = none ∧ Fr n0 L ∧ Keep h0 h [x0] ∧ h0.size ≤ b1_0 ∧ Exa Z h x0 "java/lang/String" ∧ Fld Z h x0 "java/lang/String" "coder" "B" (.int 0) ∧ Fld Z h x0 "java/lang/String" "value" "[B" (.ref b1_0) ∧ Arv Z h b1_0 k1_0 .byte (3 : Int32) [(.int z1_0), (.int z1_1), (.int z1_2)] (.int 0) ∧ Exa Z h b1_0 "[B") := by
  refine Ctr.of (plainFor_of_name pn_c1) ?_
  intro p e s m below meth c T0 hx hZ hby hml hown hnm hret hlk e0 es X0
  refine Go.cast (ef_3_RR m x0 x1) ?_
  generalize hFF : EndN s _ _ _ = FF
  refine Go.aloadN X0 hx (pc' := 1) rfl (hb hby d3_0) rfl rfl ?_
  refine Go.aloadN X0 hx (pc' := 2) rfl (hb hby d3_1) rfl rfl ?_
  refine Go.iconst X0 hx (pc' := 3) rfl (hb hby d3_2) (v := (0 : Int32)) rfl ?_
  refine Go.aloadN X0 hx (pc' := 4) rfl (hb hby d3_3) rfl rfl ?_
  refine Go.arraylength X0 hx hZ e0 P3 (pc' := 5) rfl (hb hby d3_4) ?_
  refine Go.anull X0 hx (pc' := 6) rfl (hb hby d3_5) ?_
  refine Go.callN X0 hx hZ hown rfl (tw_15 hw) (tw_16 hw) (tw_18 hw) (by decide) (tw_18 hw) (tw_10 hw) (au_70 l Z a0 hw x0 x1 kk0 p0 p1 p2 gz1 gv5 h0 n0 Z0 O0 G P0 P1 P2 P3 R_p0 R_p1 R_p2 g_x0) e0 (a := x0) (argsL := [(.ref x1), (.int 0), (.int 3), .null]) (rest := []) (pc' := 9) rfl (by rw [hml]; rfl) (lenOf pd_1 rfl) rfl rfl (W := 0) (Nat.le_of_eq rfl) (by decide) (by decide) (by decide) (by decide) (hb hby d3_6) ?_
  intro v1 T1 L1 q1 X1
  obtain ⟨h1, e1⟩ : ∃ z, T1.heap = z := ⟨_, rfl⟩
  rw [e1] at q1
  obtain ⟨z1_0, z1_1, z1_2, b1_0, k1_0, d1_0, d1_1, d1_2, rfl, N1, K1, s1_0, F1_0, F1_1, F1_2, F1_3, F1_4⟩ := q1
  show Go _ _ _ _ (T1.setTop (mkF m 9 #[.val (.ref x0), .val (.ref x1)] []))
  subst hFF
  refine Go.ret0 X1 hx hlk hret (hb hby d3_9) (by decide) (by decide) ?_
  rw [e1]
  have Kp2 : Keep h0 h1 [x0] := ((Keep.refl h0 [x0]).trans K1 (allS (Or.inl (List.mem_of_getElem? (i := 0) rfl)) all0))
  have sz3 : h0.size ≤ b1_0 := Nat.le_trans (Keep.refl h0 [x0]).1 s1_0
  exact ⟨z1_0, z1_1, z1_2, b1_0, k1_0, d1_0, d1_1, d1_2, rfl, (Fr.app (Fr.nil n0) N1), Kp2, sz3, F1_0, F1_1, F1_2, F1_3, F1_4⟩
theorem d2_83 : decode method_3_code 83 = .ok (.invokespecial 9, 3) := by decide +kernel
theorem d2_86 : decode method_3_code 86 = .ok (.areturn, 1) := by decide +kernel
-- com/example/roles_over_datacenter/rolesoverdatacenter/PageServesPinLaw.make
set_option maxRecDepth 65536 in
set_option maxHeartbeats 4000000 in
theorem au_68 (l : Launch) (Z : State) (a0 : Array Value) (hw : ∀ d ∈ tables_1, d.before a0 Z = true) (p0 : Int32) (p1 : Int32) (p2 : Int32) (p3 : Int32) (p4 : Int32) (gz1 : Int32) (gv5 : Value) (h0 : Heap) (n0 : Nat) (Z0 : n0 ≤ h0.size) (O0 : Old Z n0 h0) (G : Glob Z gz1 gv5) (R_p0 : 0 ≤ p0.toInt ∧ p0.toInt ≤ 255) (R_p1 : 0 ≤ p1.toInt ∧ p1.toInt ≤ 255) (R_p2 : 0 ≤ p2.toInt ∧ p2.toInt ≤ 255) :
    Ctr l Z (⟨"com/example/roles_over_datacenter/rolesoverdatacenter/PageServesPinLaw", "make", "(ICCCCC)Ljava/lang/String;"⟩ : MethodName) method_3_code 6 (some (.object "java/lang/String")) ({ frames := 4, cells := 3, slots := 10, locals := 66 } : Room) #[(.int 3), (.int p0), (.int p1), (.int p2), (.int p3), (.int p4)] h0 (fun v h L => ∃ (z26_0 : Int32) (z26_1 : Int32) (z26_2 : Int32) (b1 : Addr) (b26_0 : Addr) (k26_0 : ClassId), (p0.toInt8.toInt32) = z26_0 ∧ (p1.toInt8.toInt32) = z26_1 ∧ (p2.toInt8.toInt32) = z26_2 ∧ v = some (.ref b1) ∧ Fr n0 L ∧ Keep h0 h [] ∧ h0.size ≤ b1 ∧ h0.size ≤ b26_0 ∧ b26_0 ≠ b1 ∧ Exa Z h b1 "java/lang/String" ∧ Fld Z h b1 "java/lang/String" "coder" "B" (.int 0) ∧ Fld Z h b1 "java/lang/String" "value" "[B" (.ref b26_0) ∧ Arv Z h b26_0 k26_0 .byte (3 : Int32) [(.int z26_0), (.int z26_1), (.int z26_2)] (.int 0) ∧ Exa Z h b26_0 "[B") := by
  refine Ctr.of (plainFor_of_name pn_c0) ?_
  intro p e s m below meth c T0 hx hZ hby hml hown hnm hret hlk e0 es X0
  refine Go.cast (ef_2_IIIIII m (3 : Int32) p0 p1 p2 p3 p4) ?_
  generalize hFF : EndN s _ _ _ = FF
  refine Go.iloadN X0 hx (pc' := 1) rfl (hb hby d2_0) rfl ?_
  refine Go.ifYes X0 hx (pc' := 15) (hb hby d2_1) (by decide) (by decide) (by decide) ?_
  refine Go.iloadN X0 hx (pc' := 16) rfl (hb hby d2_15) rfl ?_
  refine Go.iconst X0 hx (pc' := 17) rfl (hb hby d2_16) (v := (1 : Int32)) rfl ?_
  refine Go.icmpYes X0 hx (pc' := 35) (hb hby d2_17) (by decide) (by decide) (by decide) ?_
  refine Go.iloadN X0 hx (pc' := 36) rfl (hb hby d2_35) rfl ?_
  refine Go.iconst X0 hx (pc' := 37) rfl (hb hby d2_36) (v := (2 : Int32)) rfl ?_
  refine Go.icmpYes X0 hx (pc' := 59) (hb hby d2_37) (by decide) (by decide) (by decide) ?_
  refine Go.iloadN X0 hx (pc' := 60) rfl (hb hby d2_59) rfl ?_
  refine Go.iconst X0 hx (pc' := 61) rfl (hb hby d2_60) (v := (3 : Int32)) rfl ?_
  refine Go.icmpNo X0 hx (pc' := 64) rfl (hb hby d2_61) (by decide) ?_
  refine Go.new X0 hx hZ hown (tw_8 hw) (tw_9 hw) (tw_10 hw) e0 (by decide) (by decide) (pc' := 67) rfl (hb hby d2_64) ?_
  intro T1 h1 b1 e1 E1 g1 A1 D1 X1
  have b1_value : Fld Z h1 b1 "java/lang/String" "value" "[B" .null := D1 (Or.inr (tw_24 hw)) (ty := (.array .byte)) (by decide)
  have b1_coder : Fld Z h1 b1 "java/lang/String" "coder" "B" (.int 0) := D1 (Or.inr (tw_25 hw)) (ty := .byte) (by decide)
  refine Go.dup X1 hx (pc' := 68) rfl (hb hby d2_67) rfl ?_
  refine Go.iconst X1 hx (pc' := 69) rfl (hb hby d2_68) (v := (3 : Int32)) rfl ?_
  refine Go.newarray X1 hx hZ (ty := .char) rfl (tw_11 hw) e1 (by decide) (cap := 3) (by decide) (by decide) (by decide) (by decide) (ad := "[C") (by decide) 3 (pc' := 71) rfl (hb hby d2_69) ?_
  intro T2 h2 b2 k2 e2 E2 g2 V2 A2 X2
  have V2' : Arv Z h2 b2 k2 .char (3 : Int32) [(.int 0), (.int 0), (.int 0)] (.int 0) := V2
  refine Go.dup X2 hx (pc' := 72) rfl (hb hby d2_71) rfl ?_
  refine Go.iconst X2 hx (pc' := 73) rfl (hb hby d2_72) (v := (0 : Int32)) rfl ?_
  refine Go.iloadN X2 hx (pc' := 74) rfl (hb hby d2_73) rfl ?_
  have Kp5 : Keep h0 h1 [] := ((Keep.refl h0 []).ext E1)
  have sz4 : h0.size ≤ b2 := Nat.le_trans Kp5.1 (Nat.le_of_eq g2.symm)
  have ge3 : n0 ≤ b2 := Nat.le_trans Z0 sz4
  refine Go.castore X2 hx hZ e2 V2' p0 (own_nar_char R_p0 (by decide) (by decide)) ⟨by decide, by decide⟩ 0 rfl (Nat.le_of_ble_eq_true rfl) (pc' := 75) rfl (hb hby d2_74) ?_
  intro T6 h6 e6 W6 V6 X6
  have N6 := Fr.snoc X6 (Fr.nil n0) ge3
  refine Go.dup X6 hx (pc' := 76) rfl (hb hby d2_75) rfl ?_
  refine Go.iconst X6 hx (pc' := 77) rfl (hb hby d2_76) (v := (1 : Int32)) rfl ?_
  refine Go.iloadN X6 hx (pc' := 78) rfl (hb hby d2_77) rfl ?_
  refine Go.castore X6 hx hZ e6 V6 p1 (own_nar_char R_p1 (by decide) (by decide)) ⟨by decide, by decide⟩ 1 rfl (Nat.le_of_ble_eq_true rfl) (pc' := 79) rfl (hb hby d2_78) ?_
  intro T7 h7 e7 W7 V7 X7
  have N7 := Fr.snoc X7 N6 ge3
  refine Go.dup X7 hx (pc' := 80) rfl (hb hby d2_79) rfl ?_
  refine Go.iconst X7 hx (pc' := 81) rfl (hb hby d2_80) (v := (2 : Int32)) rfl ?_
  refine Go.iloadN X7 hx (pc' := 82) rfl (hb hby d2_81) rfl ?_
  refine Go.castore X7 hx hZ e7 V7 p2 (own_nar_char R_p2 (by decide) (by decide)) ⟨by decide, by decide⟩ 2 rfl (Nat.le_of_ble_eq_true rfl) (pc' := 83) rfl (hb hby d2_82) ?_
  intro T8 h8 e8 W8 V8 X8
  have N8 := Fr.snoc X8 N7 ge3
  have Kp10 : Keep h0 h2 [] := (Kp5.ext E2)
  have Kp11 : Keep h0 h6 [] := (Kp10.wr W6 (Or.inr sz4))
  have Kp12 : Keep h0 h7 [] := (Kp11.wr W7 (Or.inr sz4))
  have Kp13 : Keep h0 h8 [] := (Kp12.wr W8 (Or.inr sz4))
  have Zn9 : n0 ≤ h8.size := Nat.le_trans Z0 Kp13.1
  have O14 := (O0.ext E1)
  have O15 := (O14.ext E2)
  have O16 := (O15.wr W6 ge3)
  have O17 := (O16.wr W7 ge3)
  have O18 := (O17.wr W8 ge3)
  have fk19 : Exa Z h8 b1 "java/lang/String" := ((((A1.ext E2).wr W6).wr W7).wr W8)
  have ne20 : b1 ≠ b2 := Nat.ne_of_lt (Nat.lt_of_lt_of_le A1.lt (Nat.le_of_eq g2.symm))
  have fk21 : Fld Z h8 b1 "java/lang/String" "coder" "B" (.int 0) := ((((b1_coder.ext E2).other W6 (Or.inl ne20)).other W7 (Or.inl ne20)).other W8 (Or.inl ne20))
  have fk22 : Fld Z h8 b1 "java/lang/String" "value" "[B" .null := ((((b1_value.ext E2).other W6 (Or.inl ne20)).other W7 (Or.inl ne20)).other W8 (Or.inl ne20))
  have V23 : Arv Z h8 b2 k2 .char (3 : Int32) [(.int p0), (.int p1), (.int p2)] (.int 0) := V8
  have sz25 : h0.size ≤ b1 := Nat.le_trans (Keep.refl h0 []).1 (Nat.le_of_eq g1.symm)
  have ge24 : n0 ≤ b1 := Nat.le_trans Z0 sz25
  refine Go.callN X8 hx hZ hown rfl (tw_12 hw) (tw_13 hw) (tw_14 hw) (by decide) (tw_14 hw) (tw_10 hw) (au_69 l Z a0 hw b1 b2 k2 p0 p1 p2 gz1 gv5 h8 n0 Zn9 O18 G fk19 fk21 fk22 V23 R_p0 R_p1 R_p2 ge24) e8 (a := b1) (argsL := [(.ref b2)]) (rest := [(.ref b1)]) (pc' := 86) rfl (by rw [hml]; rfl) (lenOf pd_2 rfl) rfl rfl (W := 1) (Nat.le_of_eq rfl) (by decide) (by decide) (by decide) (by decide) (hb hby d2_83) ?_
  intro v26 T26 L26 q26 X26
  obtain ⟨h26, e26⟩ : ∃ z, T26.heap = z := ⟨_, rfl⟩
  rw [e26] at q26
  obtain ⟨z26_0, z26_1, z26_2, b26_0, k26_0, d26_0, d26_1, d26_2, rfl, N26, K26, s26_0, F26_0, F26_1, F26_2, F26_3, F26_4⟩ := q26
  show Go _ _ _ _ (T26.setTop (mkF m 86 #[.val (.int 3), .val (.int p0), .val (.int p1), .val (.int p2), .val (.int p3), .val (.int p4)] [(.ref b1)]))
  subst hFF
  refine Go.retR X26 hx hlk (t := (.object "java/lang/String")) hret rfl rfl (hb hby d2_86) (by decide) (by decide) ?_
  rw [e26]
  have Kp27 : Keep h0 h26 [] := (Kp13.trans K26 (allS (Or.inr sz25) all0))
  have sz28 : h0.size ≤ b26_0 := Nat.le_trans Kp13.1 s26_0
  have ne29 : b1 ≠ b26_0 := Nat.ne_of_lt (Nat.lt_of_lt_of_le fk19.lt s26_0)
  exact ⟨z26_0, z26_1, z26_2, b1, b26_0, k26_0, d26_0, d26_1, d26_2, rfl, (Fr.app N8 N26), Kp27, sz25, sz28, (Ne.symm ne29), F26_0, F26_1, F26_2, F26_3, F26_4⟩
-- java/lang/String.coder
set_option maxRecDepth 65536 in
set_option maxHeartbeats 4000000 in
theorem au_79 (l : Launch) (Z : State) (a0 : Array Value) (hw : ∀ d ∈ tables_1, d.before a0 Z = true) (x0 : Addr) (gz1 : Int32) (gv5 : Value) (h0 : Heap) (n0 : Nat) (Z0 : n0 ≤ h0.size) (O0 : Old Z n0 h0) (G : Glob Z gz1 gv5) (P1 : Fld Z h0 x0 "java/lang/String" "coder" "B" (.int 0)) :
    Ctr l Z (⟨"java/lang/String", "coder", "()B"⟩ : MethodName) jdk_42_method_152_code 1 (some .byte) ({ frames := 0, cells := 0, slots := 0, locals := 0 } : Room) #[(.ref x0)] h0 (fun v h L => v = some (.int 0) ∧ Fr n0 L ∧ h = h0) := by
  refine Ctr.of (plainFor_of_name pn_c1) ?_
  intro p e s m below meth c T0 hx hZ hby hml hown hnm hret hlk e0 es X0
  have G' := G
  obtain ⟨G0, -, G2, -⟩ := G'
  refine Go.cast (ef_10_R m x0) ?_
  generalize hFF : EndN s _ _ _ = FF
  have fk1 : Sta Z h0 "java/lang/String" "COMPACT_STRINGS" "Z" (.int gz1) := G0.ext O0.2
  refine Go.getS X0 hx hZ hown (host := "") (Or.inl (tw_55 hw)) Via.refl e0 fk1 (pc' := 3) rfl (hb hby d10_0) ?_
  intro T2 e2 X2
  refine Go.ifNo X2 hx (pc' := 6) rfl (hb hby d10_3) (feq G2).1 ?_
  refine Go.aloadN X2 hx (pc' := 7) rfl (hb hby d10_6) rfl rfl ?_
  refine Go.getF X2 hx hZ hown (host := "") (Or.inl (tw_29 hw)) Via.refl e2 P1 (pc' := 10) rfl (hb hby d10_7) ?_
  intro T3 e3 X3
  refine Go.goto X3 hx (pc' := 14) (hb hby d10_10) (by decide) (by decide) ?_
  subst hFF
  refine Go.retN X3 hx hlk (t := .byte) hret (by simp) (hb hby d10_14) (by decide) (by decide) ?_
  rw [e3]
  exact ⟨(congrArg (fun z => some (Value.int z)) (by decide : nar .byte (0 : Int32) = (0 : Int32))), (Fr.nil n0), rfl⟩
-- java/lang/String.length
set_option maxRecDepth 65536 in
set_option maxHeartbeats 4000000 in
theorem au_78 (l : Launch) (Z : State) (a0 : Array Value) (hw : ∀ d ∈ tables_1, d.before a0 Z = true) (x0 : Addr) (x1 : Addr) (kk0 : ClassId) (p0 : Int32) (p1 : Int32) (p2 : Int32) (gz1 : Int32) (gv5 : Value) (h0 : Heap) (n0 : Nat) (Z0 : n0 ≤ h0.size) (O0 : Old Z n0 h0) (G : Glob Z gz1 gv5) (P0 : Exa Z h0 x0 "java/lang/String") (P1 : Fld Z h0 x0 "java/lang/String" "coder" "B" (.int 0)) (P2 : Fld Z h0 x0 "java/lang/String" "value" "[B" (.ref x1)) (P3 : Arv Z h0 x1 kk0 .byte (3 : Int32) [(.int p0), (.int p1), (.int p2)] (.int 0)) :
    Ctr l Z (⟨"java/lang/String", "length", "()I"⟩ : MethodName) jdk_42_method_54_code 1 (some .int) ({ frames := 1, cells := 0, slots := 0, locals := 13 } : Room) #[(.ref x0)] h0 (fun v h L => v = some (.int 3) ∧ Fr n0 L ∧ h = h0) := by
  refine Ctr.of (plainFor_of_name pn_c1) ?_
  intro p e s m below meth c T0 hx hZ hby hml hown hnm hret hlk e0 es X0
  refine Go.cast (ef_9_R m x0) ?_
  generalize hFF : EndN s _ _ _ = FF
  refine Go.aloadN X0 hx (pc' := 1) rfl (hb hby d9_0) rfl rfl ?_
  refine Go.getF X0 hx hZ hown (host := "") (Or.inl (tw_28 hw)) Via.refl e0 P2 (pc' := 4) rfl (hb hby d9_1) ?_
  intro T1 e1 X1
  refine Go.arraylength X1 hx hZ e1 P3 (pc' := 5) rfl (hb hby d9_4) ?_
  refine Go.aloadN X1 hx (pc' := 6) rfl (hb hby d9_5) rfl rfl ?_
  refine Go.callV X1 hx hZ hown (tw_50 hw) (tw_51 hw) (notFace_of_selects (args := #[]) (mvT hZ (tw_53 hw))) (tw_53 hw) (tw_52 hw) (by decide) (tw_54 hw) (tw_10 hw) (au_79 l Z a0 hw x0 gz1 gv5 h0 n0 Z0 O0 G P1) e1 P0 (argsL := []) (rest := [(.int 3)]) (pc' := 9) rfl (by rw [hml]; rfl) (lenOf pd_4 rfl) rfl rfl (W := 1) (Nat.le_of_eq rfl) (by decide) (by decide) (by decide) (by decide) (hb hby d9_6) ?_
  intro v2 T2 L2 q2 X2
  obtain ⟨rfl, N2, e2⟩ := q2
  show Go _ _ _ _ (T2.setTop (mkF m 9 #[.val (.ref x0)] [(.int 0), (.int 3)]))
  refine Go.ishr X2 hx (pc' := 10) rfl (hb hby d9_9) ?_
  rw [show ((3 : Int32) >>> ((0 : Int32) &&& 31)) = (3 : Int32) from by decide]
  subst hFF
  refine Go.retI X2 hx hlk hret (hb hby d9_10) (by decide) (by decide) ?_
  rw [e2]
  exact ⟨rfl, (Fr.app (Fr.nil n0) N2), rfl⟩
-- java/lang/String.startsWith
set_option maxRecDepth 65536 in
set_option maxHeartbeats 4000000 in
theorem au_77 (l : Launch) (Z : State) (a0 : Array Value) (hw : ∀ d ∈ tables_1, d.before a0 Z = true) (x0 : Addr) (x1 : Addr) (x2 : Addr) (x3 : Addr) (kk0 : ClassId) (p0 : Int32) (p1 : Int32) (p2 : Int32) (kk1 : ClassId) (gz1 : Int32) (gv5 : Value) (h0 : Heap) (n0 : Nat) (Z0 : n0 ≤ h0.size) (O0 : Old Z n0 h0) (G : Glob Z gz1 gv5) (P0 : Exa Z h0 x0 "java/lang/String") (P1 : Fld Z h0 x0 "java/lang/String" "coder" "B" (.int 0)) (P2 : Fld Z h0 x0 "java/lang/String" "value" "[B" (.ref x2)) (P3 : Exa Z h0 x1 "java/lang/String") (P4 : Fld Z h0 x1 "java/lang/String" "coder" "B" (.int 0)) (P5 : Fld Z h0 x1 "java/lang/String" "value" "[B" (.ref x3)) (P6 : Arv Z h0 x2 kk0 .byte (3 : Int32) [(.int p0), (.int p1), (.int p2)] (.int 0)) (P8 : Arv Z h0 x3 kk1 .byte (4 : Int32) [(.int 47), (.int 117), (.int 105), (.int 47)] (.int (0 : Int32))) :
    Ctr l Z (⟨"java/lang/String", "startsWith", "(Ljava/lang/String;I)Z"⟩ : MethodName) jdk_42_method_75_code 8 (some .boolean) ({ frames := 2, cells := 0, slots := 0, locals := 27 } : Room) #[(.ref x0), (.ref x1), (.int 0)] h0 (fun v h L => v = some (.int 0) ∧ Fr n0 L ∧ h = h0) := by
  refine Ctr.of (plainFor_of_name pn_c1) ?_
  intro p e s m below meth c T0 hx hZ hby hml hown hnm hret hlk e0 es X0
  refine Go.cast (ef_8_RRI m x0 x1 (0 : Int32)) ?_
  generalize hFF : EndN s _ _ _ = FF
  refine Go.iloadN X0 hx (pc' := 1) rfl (hb hby d8_0) rfl ?_
  refine Go.ifNo X0 hx (pc' := 4) rfl (hb hby d8_1) (by decide) ?_
  refine Go.iloadN X0 hx (pc' := 5) rfl (hb hby d8_4) rfl ?_
  refine Go.aloadN X0 hx (pc' := 6) rfl (hb hby d8_5) rfl rfl ?_
  refine Go.callV X0 hx hZ hown (tw_45 hw) (tw_46 hw) (notFace_of_selects (args := #[]) (mvT hZ (tw_48 hw))) (tw_48 hw) (tw_47 hw) (by decide) (tw_49 hw) (tw_10 hw) (au_78 l Z a0 hw x0 x2 kk0 p0 p1 p2 gz1 gv5 h0 n0 Z0 O0 G P0 P1 P2 P6) e0 P0 (argsL := []) (rest := [(.int 0)]) (pc' := 9) rfl (by rw [hml]; rfl) (lenOf pd_5 rfl) rfl rfl (W := 1) (Nat.le_of_eq rfl) (by decide) (by decide) (by decide) (by decide) (hb hby d8_6) ?_
  intro v1 T1 L1 q1 X1
  obtain ⟨rfl, N1, e1⟩ := q1
  show Go _ _ _ _ (T1.setTop (mkF m 9 #[.val (.ref x0), .val (.ref x1), .val (.int 0), .unset, .unset, .unset, .unset, .unset] [(.int 3), (.int 0)]))
  refine Go.aloadN X1 hx (pc' := 10) rfl (hb hby d8_9) rfl rfl ?_
  refine Go.callV X1 hx hZ hown (tw_45 hw) (tw_46 hw) (notFace_of_selects (args := #[]) (mvT hZ (tw_48 hw))) (tw_48 hw) (tw_47 hw) (by decide) (tw_49 hw) (tw_10 hw) (au_14 l Z a0 hw x1 x3 kk1 gz1 gv5 h0 n0 Z0 O0 G P3 P4 P5 P8) e1 P3 (argsL := []) (rest := [(.int 3), (.int 0)]) (pc' := 13) rfl (by rw [hml]; rfl) (lenOf pd_5 rfl) rfl rfl (W := 2) (Nat.le_of_eq rfl) (by decide) (by decide) (by decide) (by decide) (hb hby d8_10) ?_
  intro v2 T2 L2 q2 X2
  obtain ⟨rfl, N2, e2⟩ := q2
  show Go _ _ _ _ (T2.setTop (mkF m 13 #[.val (.ref x0), .val (.ref x1), .val (.int 0), .unset, .unset, .unset, .unset, .unset] [(.int 4), (.int 3), (.int 0)]))
  refine Go.isub X2 hx (pc' := 14) rfl (hb hby d8_13) ?_
  rw [show ((3 : Int32) - (4 : Int32)) = (-1 : Int32) from by decide]
  refine Go.icmpNo X2 hx (pc' := 17) rfl (hb hby d8_14) (by decide) ?_
  refine Go.iconst X2 hx (pc' := 18) rfl (hb hby d8_17) (v := (0 : Int32)) rfl ?_
  subst hFF
  refine Go.retN X2 hx hlk (t := .boolean) hret (by simp) (hb hby d8_18) (by decide) (by decide) ?_
  rw [e2]
  exact ⟨(congrArg (fun z => some (Value.int z)) (by decide : nar .boolean (0 : Int32) = (0 : Int32))), (Fr.app (Fr.app (Fr.nil n0) N1) N2), rfl⟩
-- java/lang/String.startsWith
set_option maxRecDepth 65536 in
set_option maxHeartbeats 4000000 in
theorem au_76 (l : Launch) (Z : State) (a0 : Array Value) (hw : ∀ d ∈ tables_1, d.before a0 Z = true) (x0 : Addr) (x1 : Addr) (x2 : Addr) (x3 : Addr) (kk0 : ClassId) (p0 : Int32) (p1 : Int32) (p2 : Int32) (kk1 : ClassId) (gz1 : Int32) (gv5 : Value) (h0 : Heap) (n0 : Nat) (Z0 : n0 ≤ h0.size) (O0 : Old Z n0 h0) (G : Glob Z gz1 gv5) (P0 : Exa Z h0 x0 "java/lang/String") (P1 : Fld Z h0 x0 "java/lang/String" "coder" "B" (.int 0)) (P2 : Fld Z h0 x0 "java/lang/String" "value" "[B" (.ref x2)) (P3 : Exa Z h0 x1 "java/lang/String") (P4 : Fld Z h0 x1 "java/lang/String" "coder" "B" (.int 0)) (P5 : Fld Z h0 x1 "java/lang/String" "value" "[B" (.ref x3)) (P6 : Arv Z h0 x2 kk0 .byte (3 : Int32) [(.int p0), (.int p1), (.int p2)] (.int 0)) (P8 : Arv Z h0 x3 kk1 .byte (4 : Int32) [(.int 47), (.int 117), (.int 105), (.int 47)] (.int (0 : Int32))) :
    Ctr l Z (⟨"java/lang/String", "startsWith", "(Ljava/lang/String;)Z"⟩ : MethodName) jdk_42_method_76_code 2 (some .boolean) ({ frames := 3, cells := 0, slots := 0, locals := 46 } : Room) #[(.ref x0), (.ref x1)] h0 (fun v h L => v = some (.int 0) ∧ Fr n0 L ∧ h = h0) := by
  refine Ctr.of (plainFor_of_name pn_c1) ?_
  intro p e s m below meth c T0 hx hZ hby hml hown hnm hret hlk e0 es X0
  refine Go.cast (ef_7_RR m x0 x1) ?_
  generalize hFF : EndN s _ _ _ = FF
  refine Go.aloadN X0 hx (pc' := 1) rfl (hb hby d7_0) rfl rfl ?_
  refine Go.aloadN X0 hx (pc' := 2) rfl (hb hby d7_1) rfl rfl ?_
  refine Go.iconst X0 hx (pc' := 3) rfl (hb hby d7_2) (v := (0 : Int32)) rfl ?_
  refine Go.callV X0 hx hZ hown (tw_40 hw) (tw_41 hw) (notFace_of_selects (args := #[]) (mvT hZ (tw_43 hw))) (tw_43 hw) (tw_42 hw) (by decide) (tw_44 hw) (tw_10 hw) (au_77 l Z a0 hw x0 x1 x2 x3 kk0 p0 p1 p2 kk1 gz1 gv5 h0 n0 Z0 O0 G P0 P1 P2 P3 P4 P5 P6 P8) e0 P0 (argsL := [(.ref x1), (.int 0)]) (rest := []) (pc' := 6) rfl (by rw [hml]; rfl) (lenOf pd_6 rfl) rfl rfl (W := 0) (Nat.le_of_eq rfl) (by decide) (by decide) (by decide) (by decide) (hb hby d7_3) ?_
  intro v1 T1 L1 q1 X1
  obtain ⟨rfl, N1, e1⟩ := q1
  show Go _ _ _ _ (T1.setTop (mkF m 6 #[.val (.ref x0), .val (.ref x1)] [(.int 0)]))
  subst hFF
  refine Go.retN X1 hx hlk (t := .boolean) hret (by simp) (hb hby d7_6) (by decide) (by decide) ?_
  rw [e1]
  exact ⟨(congrArg (fun z => some (Value.int z)) (by decide : nar .boolean (0 : Int32) = (0 : Int32))), (Fr.app (Fr.nil n0) N1), rfl⟩
-- java/lang/StringLatin1.equals
set_option maxRecDepth 65536 in
set_option maxHeartbeats 4000000 in
theorem au_83 (l : Launch) (Z : State) (a0 : Array Value) (hw : ∀ d ∈ tables_1, d.before a0 Z = true) (x0 : Addr) (x1 : Addr) (kk0 : ClassId) (p0 : Int32) (p1 : Int32) (p2 : Int32) (kk1 : ClassId) (h0 : Heap) (n0 : Nat) (Z0 : n0 ≤ h0.size) (P0 : Arv Z h0 x0 kk0 .byte (3 : Int32) [(.int p0), (.int p1), (.int p2)] (.int 0)) (P2 : Arv Z h0 x1 kk1 .byte (1 : Int32) [(.int 47)] (.int (0 : Int32))) :
    Ctr l Z (⟨"java/lang/StringLatin1", "equals", "([B[B)Z"⟩ : MethodName) jdk_43_method_13_code 3 (some .boolean) ({ frames := 0, cells := 0, slots := 0, locals := 0 } : Room) #[(.ref x0), (.ref x1)] h0 (fun v h L => v = some (.int 0) ∧ Fr n0 L ∧ h = h0) := by
  refine Ctr.of (plainFor_of_name pn_c2) ?_
  intro p e s m below meth c T0 hx hZ hby hml hown hnm hret hlk e0 es X0
  refine Go.cast (ef_13_RR m x0 x1) ?_
  generalize hFF : EndN s _ _ _ = FF
  refine Go.aloadN X0 hx (pc' := 1) rfl (hb hby d13_0) rfl rfl ?_
  refine Go.arraylength X0 hx hZ e0 P0 (pc' := 2) rfl (hb hby d13_1) ?_
  refine Go.aloadN X0 hx (pc' := 3) rfl (hb hby d13_2) rfl rfl ?_
  refine Go.arraylength X0 hx hZ e0 P2 (pc' := 4) rfl (hb hby d13_3) ?_
  refine Go.icmpYes X0 hx (pc' := 34) (hb hby d13_4) (by decide) (by decide) (by decide) ?_
  refine Go.iconst X0 hx (pc' := 35) rfl (hb hby d13_34) (v := (0 : Int32)) rfl ?_
  subst hFF
  refine Go.retN X0 hx hlk (t := .boolean) hret (by simp) (hb hby d13_35) (by decide) (by decide) ?_
  rw [e0]
  exact ⟨(congrArg (fun z => some (Value.int z)) (by decide : nar .boolean (0 : Int32) = (0 : Int32))), (Fr.nil n0), rfl⟩
-- java/lang/String.equals
set_option maxRecDepth 65536 in
set_option maxHeartbeats 4000000 in
theorem au_82 (l : Launch) (Z : State) (a0 : Array Value) (hw : ∀ d ∈ tables_1, d.before a0 Z = true) (x0 : Addr) (x1 : Addr) (x2 : Addr) (x3 : Addr) (kk0 : ClassId) (p0 : Int32) (p1 : Int32) (p2 : Int32) (kk1 : ClassId) (gz1 : Int32) (gv5 : Value) (h0 : Heap) (n0 : Nat) (Z0 : n0 ≤ h0.size) (O0 : Old Z n0 h0) (G : Glob Z gz1 gv5) (P1 : Fld Z h0 x0 "java/lang/String" "coder" "B" (.int 0)) (P2 : Fld Z h0 x0 "java/lang/String" "value" "[B" (.ref x2)) (P3 : Exa Z h0 x1 "java/lang/String") (P4 : Fld Z h0 x1 "java/lang/String" "coder" "B" (.int 0)) (P5 : Fld Z h0 x1 "java/lang/String" "value" "[B" (.ref x3)) (P6 : Arv Z h0 x2 kk0 .byte (3 : Int32) [(.int p0), (.int p1), (.int p2)] (.int 0)) (P8 : Arv Z h0 x3 kk1 .byte (1 : Int32) [(.int 47)] (.int (0 : Int32))) (ne_x0_x1 : x0 ≠ x1) :
    Ctr l Z (⟨"java/lang/String", "equals", "(Ljava/lang/Object;)Z"⟩ : MethodName) jdk_42_method_66_code 3 (some .boolean) ({ frames := 1, cells := 0, slots := 0, locals := 14 } : Room) #[(.ref x0), (.ref x1)] h0 (fun v h L => v = some (.int 0) ∧ Fr n0 L ∧ h = h0) := by
  refine Ctr.of (plainFor_of_name pn_c1) ?_
  intro p e s m below meth c T0 hx hZ hby hml hown hnm hret hlk e0 es X0
  have G' := G
  obtain ⟨G0, -, G2, -⟩ := G'
  refine Go.cast (ef_12_RR m x0 x1) ?_
  generalize hFF : EndN s _ _ _ = FF
  refine Go.aloadN X0 hx (pc' := 1) rfl (hb hby d12_0) rfl rfl ?_
  refine Go.aloadN X0 hx (pc' := 2) rfl (hb hby d12_1) rfl rfl ?_
  refine Go.acmp X0 hx (pc' := 7) (same := false) (hb hby d12_2) rfl rfl (decide_eq_false (fun q => ne_x0_x1 (Value.ref.inj q))) (by decide) (by decide) ?_
  refine Go.aloadN X0 hx (pc' := 8) rfl (hb hby d12_7) rfl rfl ?_
  refine Go.instY X0 hx hZ hown (tw_65 hw) e0 (Ins.self P3) (pc' := 11) rfl (hb hby d12_8) ?_
  intro T1 e1 X1
  refine Go.ifNo X1 hx (pc' := 14) rfl (hb hby d12_11) (by decide) ?_
  refine Go.aloadN X1 hx (pc' := 15) rfl (hb hby d12_14) rfl rfl ?_
  refine Go.castY X1 hx hZ hown (tw_65 hw) e1 (Ins.self P3) (pc' := 18) rfl (hb hby d12_15) ?_
  intro T2 e2 X2
  refine Go.astoreN X2 hx (pc' := 19) rfl (hb hby d12_18) (Ls' := #[.val (.ref x0), .val (.ref x1), .val (.ref x1)]) rfl rfl ?_
  have fk3 : Sta Z h0 "java/lang/String" "COMPACT_STRINGS" "Z" (.int gz1) := G0.ext O0.2
  refine Go.getS X2 hx hZ hown (host := "") (Or.inl (tw_55 hw)) Via.refl e2 fk3 (pc' := 22) rfl (hb hby d12_19) ?_
  intro T4 e4 X4
  refine Go.ifNo X4 hx (pc' := 25) rfl (hb hby d12_22) (feq G2).1 ?_
  refine Go.aloadN X4 hx (pc' := 26) rfl (hb hby d12_25) rfl rfl ?_
  refine Go.getF X4 hx hZ hown (host := "") (Or.inl (tw_29 hw)) Via.refl e4 P1 (pc' := 29) rfl (hb hby d12_26) ?_
  intro T5 e5 X5
  refine Go.aloadN X5 hx (pc' := 30) rfl (hb hby d12_29) rfl rfl ?_
  refine Go.getF X5 hx hZ hown (host := "") (Or.inl (tw_29 hw)) Via.refl e5 P4 (pc' := 33) rfl (hb hby d12_30) ?_
  intro T6 e6 X6
  refine Go.icmpNo X6 hx (pc' := 36) rfl (hb hby d12_33) (by decide) ?_
  refine Go.aloadN X6 hx (pc' := 37) rfl (hb hby d12_36) rfl rfl ?_
  refine Go.getF X6 hx hZ hown (host := "") (Or.inl (tw_28 hw)) Via.refl e6 P2 (pc' := 40) rfl (hb hby d12_37) ?_
  intro T7 e7 X7
  refine Go.aloadN X7 hx (pc' := 41) rfl (hb hby d12_40) rfl rfl ?_
  refine Go.getF X7 hx hZ hown (host := "") (Or.inl (tw_28 hw)) Via.refl e7 P5 (pc' := 44) rfl (hb hby d12_41) ?_
  intro T8 e8 X8
  refine Go.callS X8 hx hZ hown (tw_66 hw) (tw_67 hw) (tw_68 hw) (tw_69 hw) (by decide) (tw_69 hw) (tw_68 hw) (au_83 l Z a0 hw x2 x3 kk0 p0 p1 p2 kk1 h0 n0 Z0 P6 P8) e8 (argsL := [(.ref x2), (.ref x3)]) (rest := []) (pc' := 47) rfl (by rw [hml]; rfl) (lenOf pd_8 rfl) rfl rfl (W := 0) (Nat.le_of_eq rfl) (by decide) (by decide) (by decide) (by decide) (hb hby d12_44) ?_
  intro v9 T9 L9 q9 X9
  obtain ⟨rfl, N9, e9⟩ := q9
  show Go _ _ _ _ (T9.setTop (mkF m 47 #[.val (.ref x0), .val (.ref x1), .val (.ref x1)] [(.int 0)]))
  refine Go.ifYes X9 hx (pc' := 54) (hb hby d12_47) (by decide) (by decide) (by decide) ?_
  refine Go.iconst X9 hx (pc' := 55) rfl (hb hby d12_54) (v := (0 : Int32)) rfl ?_
  subst hFF
  refine Go.retN X9 hx hlk (t := .boolean) hret (by simp) (hb hby d12_55) (by decide) (by decide) ?_
  rw [e9]
  exact ⟨(congrArg (fun z => some (Value.int z)) (by decide : nar .boolean (0 : Int32) = (0 : Int32))), (Fr.app (Fr.nil n0) N9), rfl⟩
-- java/lang/StringLatin1.equals
set_option maxRecDepth 65536 in
set_option maxHeartbeats 4000000 in
theorem au_85 (l : Launch) (Z : State) (a0 : Array Value) (hw : ∀ d ∈ tables_1, d.before a0 Z = true) (x0 : Addr) (x1 : Addr) (kk0 : ClassId) (p0 : Int32) (p1 : Int32) (p2 : Int32) (kk1 : ClassId) (p3 : Int32) (p4 : Int32) (p5 : Int32) (h0 : Heap) (n0 : Nat) (Z0 : n0 ≤ h0.size) (P0 : Arv Z h0 x0 kk0 .byte (3 : Int32) [(.int p0), (.int p1), (.int p2)] (.int 0)) (P2 : Arv Z h0 x1 kk1 .byte (3 : Int32) [(.int 47), (.int 117), (.int 105)] (.int 0)) (R_p3 : 0 ≤ p3.toInt ∧ p3.toInt ≤ 255) (R_p4 : 0 ≤ p4.toInt ∧ p4.toInt ≤ 255) (R_p5 : 0 ≤ p5.toInt ∧ p5.toInt ≤ 255) (B_p0 : (p3.toInt8.toInt32) = p0) (B_p1 : (p4.toInt8.toInt32) = p1) (B_p2 : (p5.toInt8.toInt32) = p2) :
    Ctr l Z (⟨"java/lang/StringLatin1", "equals", "([B[B)Z"⟩ : MethodName) jdk_43_method_13_code 3 (some .boolean) ({ frames := 0, cells := 0, slots := 0, locals := 0 } : Room) #[(.ref x0), (.ref x1)] h0 (fun v h L => (p3 = (47 : Int32) ∧ p4 = (117 : Int32) ∧ p5 = (105 : Int32) ∧ v = some (.int 1) ∧ Fr n0 L ∧ h = h0) ∨ (p3 = (47 : Int32) ∧ p4 = (117 : Int32) ∧ ¬ (p5 = (105 : Int32)) ∧ v = some (.int 0) ∧ Fr n0 L ∧ h = h0) ∨ (p3 = (47 : Int32) ∧ ¬ (p4 = (117 : Int32)) ∧ v = some (.int 0) ∧ Fr n0 L ∧ h = h0) ∨ (¬ (p3 = (47 : Int32)) ∧ v = some (.int 0) ∧ Fr n0 L ∧ h = h0)) := by
  refine Ctr.of (plainFor_of_name pn_c2) ?_
  intro p e s m below meth c T0 hx hZ hby hml hown hnm hret hlk e0 es X0
  refine Go.cast (ef_13_RR m x0 x1) ?_
  generalize hFF : EndN s _ _ _ = FF
  refine Go.aloadN X0 hx (pc' := 1) rfl (hb hby d13_0) rfl rfl ?_
  refine Go.arraylength X0 hx hZ e0 P0 (pc' := 2) rfl (hb hby d13_1) ?_
  refine Go.aloadN X0 hx (pc' := 3) rfl (hb hby d13_2) rfl rfl ?_
  refine Go.arraylength X0 hx hZ e0 P2 (pc' := 4) rfl (hb hby d13_3) ?_
  refine Go.icmpNo X0 hx (pc' := 7) rfl (hb hby d13_4) (by decide) ?_
  refine Go.iconst X0 hx (pc' := 8) rfl (hb hby d13_7) (v := (0 : Int32)) rfl ?_
  refine Go.istoreN X0 hx (pc' := 9) rfl (hb hby d13_8) (Ls' := #[.val (.ref x0), .val (.ref x1), .val (.int 0)]) rfl ?_
  refine Go.iloadN X0 hx (pc' := 10) rfl (hb hby d13_9) rfl ?_
  refine Go.aloadN X0 hx (pc' := 11) rfl (hb hby d13_10) rfl rfl ?_
  refine Go.arraylength X0 hx hZ e0 P0 (pc' := 12) rfl (hb hby d13_11) ?_
  refine Go.icmpNo X0 hx (pc' := 15) rfl (hb hby d13_12) (by decide) ?_
  refine Go.aloadN X0 hx (pc' := 16) rfl (hb hby d13_15) rfl rfl ?_
  refine Go.iloadN X0 hx (pc' := 17) rfl (hb hby d13_16) rfl ?_
  refine Go.baload X0 hx hZ e0 P0 (v := (.int p0)) ⟨by decide, by decide⟩ rfl (pc' := 18) rfl (hb hby d13_17) ?_
  refine Go.aloadN X0 hx (pc' := 19) rfl (hb hby d13_18) rfl rfl ?_
  refine Go.iloadN X0 hx (pc' := 20) rfl (hb hby d13_19) rfl ?_
  refine Go.baload X0 hx hZ e0 P2 (v := (.int 47)) ⟨by decide, by decide⟩ rfl (pc' := 21) rfl (hb hby d13_20) ?_
  by_cases hc1 : p3 = (47 : Int32)
  · refine Go.icmpYes X0 hx (pc' := 26) (hb hby d13_21) (teq (own_lat_eq B_p0 (by decide : ((47 : Int32)).toInt8.toInt32 = (47 : Int32)) hc1)).1 (by decide) (by decide) ?_
    refine Go.iinc X0 hx (pc' := 29) rfl (hb hby d13_26) rfl (y := (1 : Int32)) (by decide) (Ls' := #[.val (.ref x0), .val (.ref x1), .val (.int 1)]) rfl ?_
    refine Go.goto X0 hx (pc' := 9) (hb hby d13_29) (by decide) (by decide) ?_
    refine Go.iloadN X0 hx (pc' := 10) rfl (hb hby d13_9) rfl ?_
    refine Go.aloadN X0 hx (pc' := 11) rfl (hb hby d13_10) rfl rfl ?_
    refine Go.arraylength X0 hx hZ e0 P0 (pc' := 12) rfl (hb hby d13_11) ?_
    refine Go.icmpNo X0 hx (pc' := 15) rfl (hb hby d13_12) (by decide) ?_
    refine Go.aloadN X0 hx (pc' := 16) rfl (hb hby d13_15) rfl rfl ?_
    refine Go.iloadN X0 hx (pc' := 17) rfl (hb hby d13_16) rfl ?_
    refine Go.baload X0 hx hZ e0 P0 (v := (.int p1)) ⟨by decide, by decide⟩ rfl (pc' := 18) rfl (hb hby d13_17) ?_
    refine Go.aloadN X0 hx (pc' := 19) rfl (hb hby d13_18) rfl rfl ?_
    refine Go.iloadN X0 hx (pc' := 20) rfl (hb hby d13_19) rfl ?_
    refine Go.baload X0 hx hZ e0 P2 (v := (.int 117)) ⟨by decide, by decide⟩ rfl (pc' := 21) rfl (hb hby d13_20) ?_
    by_cases hc2 : p4 = (117 : Int32)
    · refine Go.icmpYes X0 hx (pc' := 26) (hb hby d13_21) (teq (own_lat_eq B_p1 (by decide : ((117 : Int32)).toInt8.toInt32 = (117 : Int32)) hc2)).1 (by decide) (by decide) ?_
      refine Go.iinc X0 hx (pc' := 29) rfl (hb hby d13_26) rfl (y := (2 : Int32)) (by decide) (Ls' := #[.val (.ref x0), .val (.ref x1), .val (.int 2)]) rfl ?_
      refine Go.goto X0 hx (pc' := 9) (hb hby d13_29) (by decide) (by decide) ?_
      refine Go.iloadN X0 hx (pc' := 10) rfl (hb hby d13_9) rfl ?_
      refine Go.aloadN X0 hx (pc' := 11) rfl (hb hby d13_10) rfl rfl ?_
      refine Go.arraylength X0 hx hZ e0 P0 (pc' := 12) rfl (hb hby d13_11) ?_
      refine Go.icmpNo X0 hx (pc' := 15) rfl (hb hby d13_12) (by decide) ?_
      refine Go.aloadN X0 hx (pc' := 16) rfl (hb hby d13_15) rfl rfl ?_
      refine Go.iloadN X0 hx (pc' := 17) rfl (hb hby d13_16) rfl ?_
      refine Go.baload X0 hx hZ e0 P0 (v := (.int p2)) ⟨by decide, by decide⟩ rfl (pc' := 18) rfl (hb hby d13_17) ?_
      refine Go.aloadN X0 hx (pc' := 19) rfl (hb hby d13_18) rfl rfl ?_
      refine Go.iloadN X0 hx (pc' := 20) rfl (hb hby d13_19) rfl ?_
      refine Go.baload X0 hx hZ e0 P2 (v := (.int 105)) ⟨by decide, by decide⟩ rfl (pc' := 21) rfl (hb hby d13_20) ?_
      by_cases hc3 : p5 = (105 : Int32)
      · refine Go.icmpYes X0 hx (pc' := 26) (hb hby d13_21) (teq (own_lat_eq B_p2 (by decide : ((105 : Int32)).toInt8.toInt32 = (105 : Int32)) hc3)).1 (by decide) (by decide) ?_
        refine Go.iinc X0 hx (pc' := 29) rfl (hb hby d13_26) rfl (y := (3 : Int32)) (by decide) (Ls' := #[.val (.ref x0), .val (.ref x1), .val (.int 3)]) rfl ?_
        refine Go.goto X0 hx (pc' := 9) (hb hby d13_29) (by decide) (by decide) ?_
        refine Go.iloadN X0 hx (pc' := 10) rfl (hb hby d13_9) rfl ?_
        refine Go.aloadN X0 hx (pc' := 11) rfl (hb hby d13_10) rfl rfl ?_
        refine Go.arraylength X0 hx hZ e0 P0 (pc' := 12) rfl (hb hby d13_11) ?_
        refine Go.icmpYes X0 hx (pc' := 32) (hb hby d13_12) (by decide) (by decide) (by decide) ?_
        refine Go.iconst X0 hx (pc' := 33) rfl (hb hby d13_32) (v := (1 : Int32)) rfl ?_
        subst hFF
        refine Go.retN X0 hx hlk (t := .boolean) hret (by simp) (hb hby d13_33) (by decide) (by decide) ?_
        rw [e0]
        exact Or.inl ⟨hc1, hc2, hc3, (congrArg (fun z => some (Value.int z)) (by decide : nar .boolean (1 : Int32) = (1 : Int32))), (Fr.nil n0), rfl⟩
      · refine Go.icmpNo X0 hx (pc' := 24) rfl (hb hby d13_21) (feq (own_lat_ne B_p2 (by decide : ((105 : Int32)).toInt8.toInt32 = (105 : Int32)) R_p5 (own_rlit (n := 105) (by decide)) (by decide) hc3)).1 ?_
        refine Go.iconst X0 hx (pc' := 25) rfl (hb hby d13_24) (v := (0 : Int32)) rfl ?_
        subst hFF
        refine Go.retN X0 hx hlk (t := .boolean) hret (by simp) (hb hby d13_25) (by decide) (by decide) ?_
        rw [e0]
        exact Or.inr (Or.inl ⟨hc1, hc2, hc3, (congrArg (fun z => some (Value.int z)) (by decide : nar .boolean (0 : Int32) = (0 : Int32))), (Fr.nil n0), rfl⟩)
    · refine Go.icmpNo X0 hx (pc' := 24) rfl (hb hby d13_21) (feq (own_lat_ne B_p1 (by decide : ((117 : Int32)).toInt8.toInt32 = (117 : Int32)) R_p4 (own_rlit (n := 117) (by decide)) (by decide) hc2)).1 ?_
      refine Go.iconst X0 hx (pc' := 25) rfl (hb hby d13_24) (v := (0 : Int32)) rfl ?_
      subst hFF
      refine Go.retN X0 hx hlk (t := .boolean) hret (by simp) (hb hby d13_25) (by decide) (by decide) ?_
      rw [e0]
      exact Or.inr (Or.inr (Or.inl ⟨hc1, hc2, (congrArg (fun z => some (Value.int z)) (by decide : nar .boolean (0 : Int32) = (0 : Int32))), (Fr.nil n0), rfl⟩))
  · refine Go.icmpNo X0 hx (pc' := 24) rfl (hb hby d13_21) (feq (own_lat_ne B_p0 (by decide : ((47 : Int32)).toInt8.toInt32 = (47 : Int32)) R_p3 (own_rlit (n := 47) (by decide)) (by decide) hc1)).1 ?_
    refine Go.iconst X0 hx (pc' := 25) rfl (hb hby d13_24) (v := (0 : Int32)) rfl ?_
    subst hFF
    refine Go.retN X0 hx hlk (t := .boolean) hret (by simp) (hb hby d13_25) (by decide) (by decide) ?_
    rw [e0]
    exact Or.inr (Or.inr (Or.inr (⟨hc1, (congrArg (fun z => some (Value.int z)) (by decide : nar .boolean (0 : Int32) = (0 : Int32))), (Fr.nil n0), rfl⟩)))
-- java/lang/String.equals
set_option maxRecDepth 65536 in
set_option maxHeartbeats 4000000 in
theorem au_84 (l : Launch) (Z : State) (a0 : Array Value) (hw : ∀ d ∈ tables_1, d.before a0 Z = true) (x0 : Addr) (x1 : Addr) (x2 : Addr) (x3 : Addr) (kk0 : ClassId) (p0 : Int32) (p1 : Int32) (p2 : Int32) (kk1 : ClassId) (p3 : Int32) (p4 : Int32) (p5 : Int32) (gz1 : Int32) (gv5 : Value) (h0 : Heap) (n0 : Nat) (Z0 : n0 ≤ h0.size) (O0 : Old Z n0 h0) (G : Glob Z gz1 gv5) (P1 : Fld Z h0 x0 "java/lang/String" "coder" "B" (.int 0)) (P2 : Fld Z h0 x0 "java/lang/String" "value" "[B" (.ref x2)) (P3 : Exa Z h0 x1 "java/lang/String") (P4 : Fld Z h0 x1 "java/lang/String" "coder" "B" (.int 0)) (P5 : Fld Z h0 x1 "java/lang/String" "value" "[B" (.ref x3)) (P6 : Arv Z h0 x2 kk0 .byte (3 : Int32) [(.int p0), (.int p1), (.int p2)] (.int 0)) (P8 : Arv Z h0 x3 kk1 .byte (3 : Int32) [(.int 47), (.int 117), (.int 105)] (.int 0)) (R_p3 : 0 ≤ p3.toInt ∧ p3.toInt ≤ 255) (R_p4 : 0 ≤ p4.toInt ∧ p4.toInt ≤ 255) (R_p5 : 0 ≤ p5.toInt ∧ p5.toInt ≤ 255) (B_p0 : (p3.toInt8.toInt32) = p0) (B_p1 : (p4.toInt8.toInt32) = p1) (B_p2 : (p5.toInt8.toInt32) = p2) (ne_x0_x1 : x0 ≠ x1) :
    Ctr l Z (⟨"java/lang/String", "equals", "(Ljava/lang/Object;)Z"⟩ : MethodName) jdk_42_method_66_code 3 (some .boolean) ({ frames := 1, cells := 0, slots := 0, locals := 14 } : Room) #[(.ref x0), (.ref x1)] h0 (fun v h L => (p3 = (47 : Int32) ∧ p4 = (117 : Int32) ∧ p5 = (105 : Int32) ∧ v = some (.int 1) ∧ Fr n0 L ∧ h = h0) ∨ (p3 = (47 : Int32) ∧ p4 = (117 : Int32) ∧ ¬ (p5 = (105 : Int32)) ∧ v = some (.int 0) ∧ Fr n0 L ∧ h = h0) ∨ (p3 = (47 : Int32) ∧ ¬ (p4 = (117 : Int32)) ∧ v = some (.int 0) ∧ Fr n0 L ∧ h = h0) ∨ (¬ (p3 = (47 : Int32)) ∧ v = some (.int 0) ∧ Fr n0 L ∧ h = h0)) := by
  refine Ctr.of (plainFor_of_name pn_c1) ?_
  intro p e s m below meth c T0 hx hZ hby hml hown hnm hret hlk e0 es X0
  have G' := G
  obtain ⟨G0, -, G2, -⟩ := G'
  refine Go.cast (ef_12_RR m x0 x1) ?_
  generalize hFF : EndN s _ _ _ = FF
  refine Go.aloadN X0 hx (pc' := 1) rfl (hb hby d12_0) rfl rfl ?_
  refine Go.aloadN X0 hx (pc' := 2) rfl (hb hby d12_1) rfl rfl ?_
  refine Go.acmp X0 hx (pc' := 7) (same := false) (hb hby d12_2) rfl rfl (decide_eq_false (fun q => ne_x0_x1 (Value.ref.inj q))) (by decide) (by decide) ?_
  refine Go.aloadN X0 hx (pc' := 8) rfl (hb hby d12_7) rfl rfl ?_
  refine Go.instY X0 hx hZ hown (tw_65 hw) e0 (Ins.self P3) (pc' := 11) rfl (hb hby d12_8) ?_
  intro T1 e1 X1
  refine Go.ifNo X1 hx (pc' := 14) rfl (hb hby d12_11) (by decide) ?_
  refine Go.aloadN X1 hx (pc' := 15) rfl (hb hby d12_14) rfl rfl ?_
  refine Go.castY X1 hx hZ hown (tw_65 hw) e1 (Ins.self P3) (pc' := 18) rfl (hb hby d12_15) ?_
  intro T2 e2 X2
  refine Go.astoreN X2 hx (pc' := 19) rfl (hb hby d12_18) (Ls' := #[.val (.ref x0), .val (.ref x1), .val (.ref x1)]) rfl rfl ?_
  have fk3 : Sta Z h0 "java/lang/String" "COMPACT_STRINGS" "Z" (.int gz1) := G0.ext O0.2
  refine Go.getS X2 hx hZ hown (host := "") (Or.inl (tw_55 hw)) Via.refl e2 fk3 (pc' := 22) rfl (hb hby d12_19) ?_
  intro T4 e4 X4
  refine Go.ifNo X4 hx (pc' := 25) rfl (hb hby d12_22) (feq G2).1 ?_
  refine Go.aloadN X4 hx (pc' := 26) rfl (hb hby d12_25) rfl rfl ?_
  refine Go.getF X4 hx hZ hown (host := "") (Or.inl (tw_29 hw)) Via.refl e4 P1 (pc' := 29) rfl (hb hby d12_26) ?_
  intro T5 e5 X5
  refine Go.aloadN X5 hx (pc' := 30) rfl (hb hby d12_29) rfl rfl ?_
  refine Go.getF X5 hx hZ hown (host := "") (Or.inl (tw_29 hw)) Via.refl e5 P4 (pc' := 33) rfl (hb hby d12_30) ?_
  intro T6 e6 X6
  refine Go.icmpNo X6 hx (pc' := 36) rfl (hb hby d12_33) (by decide) ?_
  refine Go.aloadN X6 hx (pc' := 37) rfl (hb hby d12_36) rfl rfl ?_
  refine Go.getF X6 hx hZ hown (host := "") (Or.inl (tw_28 hw)) Via.refl e6 P2 (pc' := 40) rfl (hb hby d12_37) ?_
  intro T7 e7 X7
  refine Go.aloadN X7 hx (pc' := 41) rfl (hb hby d12_40) rfl rfl ?_
  refine Go.getF X7 hx hZ hown (host := "") (Or.inl (tw_28 hw)) Via.refl e7 P5 (pc' := 44) rfl (hb hby d12_41) ?_
  intro T8 e8 X8
  refine Go.callS X8 hx hZ hown (tw_66 hw) (tw_67 hw) (tw_68 hw) (tw_69 hw) (by decide) (tw_69 hw) (tw_68 hw) (au_85 l Z a0 hw x2 x3 kk0 p0 p1 p2 kk1 p3 p4 p5 h0 n0 Z0 P6 P8 R_p3 R_p4 R_p5 B_p0 B_p1 B_p2) e8 (argsL := [(.ref x2), (.ref x3)]) (rest := []) (pc' := 47) rfl (by rw [hml]; rfl) (lenOf pd_8 rfl) rfl rfl (W := 0) (Nat.le_of_eq rfl) (by decide) (by decide) (by decide) (by decide) (hb hby d12_44) ?_
  intro v9 T9 L9 q9 X9
  rcases q9 with ⟨c9_0_0, c9_0_1, c9_0_2, rfl, N9_0, e9_0⟩ | ⟨c9_1_0, c9_1_1, c9_1_2, rfl, N9_1, e9_1⟩ | ⟨c9_2_0, c9_2_1, rfl, N9_2, e9_2⟩ | ⟨c9_3_0, rfl, N9_3, e9_3⟩
  · show Go _ _ _ _ (T9.setTop (mkF m 47 #[.val (.ref x0), .val (.ref x1), .val (.ref x1)] [(.int 1)]))
    refine Go.ifNo X9 hx (pc' := 50) rfl (hb hby d12_47) (by decide) ?_
    refine Go.iconst X9 hx (pc' := 51) rfl (hb hby d12_50) (v := (1 : Int32)) rfl ?_
    refine Go.goto X9 hx (pc' := 55) (hb hby d12_51) (by decide) (by decide) ?_
    subst hFF
    refine Go.retN X9 hx hlk (t := .boolean) hret (by simp) (hb hby d12_55) (by decide) (by decide) ?_
    rw [e9_0]
    exact Or.inl ⟨c9_0_0, c9_0_1, c9_0_2, (congrArg (fun z => some (Value.int z)) (by decide : nar .boolean (1 : Int32) = (1 : Int32))), (Fr.app (Fr.nil n0) N9_0), rfl⟩
  · show Go _ _ _ _ (T9.setTop (mkF m 47 #[.val (.ref x0), .val (.ref x1), .val (.ref x1)] [(.int 0)]))
    refine Go.ifYes X9 hx (pc' := 54) (hb hby d12_47) (by decide) (by decide) (by decide) ?_
    refine Go.iconst X9 hx (pc' := 55) rfl (hb hby d12_54) (v := (0 : Int32)) rfl ?_
    subst hFF
    refine Go.retN X9 hx hlk (t := .boolean) hret (by simp) (hb hby d12_55) (by decide) (by decide) ?_
    rw [e9_1]
    exact Or.inr (Or.inl ⟨c9_1_0, c9_1_1, c9_1_2, (congrArg (fun z => some (Value.int z)) (by decide : nar .boolean (0 : Int32) = (0 : Int32))), (Fr.app (Fr.nil n0) N9_1), rfl⟩)
  · show Go _ _ _ _ (T9.setTop (mkF m 47 #[.val (.ref x0), .val (.ref x1), .val (.ref x1)] [(.int 0)]))
    refine Go.ifYes X9 hx (pc' := 54) (hb hby d12_47) (by decide) (by decide) (by decide) ?_
    refine Go.iconst X9 hx (pc' := 55) rfl (hb hby d12_54) (v := (0 : Int32)) rfl ?_
    subst hFF
    refine Go.retN X9 hx hlk (t := .boolean) hret (by simp) (hb hby d12_55) (by decide) (by decide) ?_
    rw [e9_2]
    exact Or.inr (Or.inr (Or.inl ⟨c9_2_0, c9_2_1, (congrArg (fun z => some (Value.int z)) (by decide : nar .boolean (0 : Int32) = (0 : Int32))), (Fr.app (Fr.nil n0) N9_2), rfl⟩))
  · show Go _ _ _ _ (T9.setTop (mkF m 47 #[.val (.ref x0), .val (.ref x1), .val (.ref x1)] [(.int 0)]))
    refine Go.ifYes X9 hx (pc' := 54) (hb hby d12_47) (by decide) (by decide) (by decide) ?_
    refine Go.iconst X9 hx (pc' := 55) rfl (hb hby d12_54) (v := (0 : Int32)) rfl ?_
    subst hFF
    refine Go.retN X9 hx hlk (t := .boolean) hret (by simp) (hb hby d12_55) (by decide) (by decide) ?_
    rw [e9_3]
    exact Or.inr (Or.inr (Or.inr (⟨c9_3_0, (congrArg (fun z => some (Value.int z)) (by decide : nar .boolean (0 : Int32) = (0 : Int32))), (Fr.app (Fr.nil n0) N9_3), rfl⟩)))
-- com/example/roles_over_datacenter/rolesoverdatacenter/Page.redirects
set_option maxRecDepth 65536 in
set_option maxHeartbeats 4000000 in
theorem au_81 (l : Launch) (Z : State) (a0 : Array Value) (hw : ∀ d ∈ tables_1, d.before a0 Z = true) (x0 : Addr) (x1 : Addr) (kk0 : ClassId) (p0 : Int32) (p1 : Int32) (p2 : Int32) (p3 : Int32) (p4 : Int32) (p5 : Int32) (gz1 : Int32) (gv5 : Value) (h0 : Heap) (n0 : Nat) (Z0 : n0 ≤ h0.size) (O0 : Old Z n0 h0) (G : Glob Z gz1 gv5) (P0 : Exa Z h0 x0 "java/lang/String") (P1 : Fld Z h0 x0 "java/lang/String" "coder" "B" (.int 0)) (P2 : Fld Z h0 x0 "java/lang/String" "value" "[B" (.ref x1)) (P3 : Arv Z h0 x1 kk0 .byte (3 : Int32) [(.int p0), (.int p1), (.int p2)] (.int 0)) (R_p3 : 0 ≤ p3.toInt ∧ p3.toInt ≤ 255) (R_p4 : 0 ≤ p4.toInt ∧ p4.toInt ≤ 255) (R_p5 : 0 ≤ p5.toInt ∧ p5.toInt ≤ 255) (B_p0 : (p3.toInt8.toInt32) = p0) (B_p1 : (p4.toInt8.toInt32) = p1) (B_p2 : (p5.toInt8.toInt32) = p2) :
    CtrW l Z EL0 (⟨"com/example/roles_over_datacenter/rolesoverdatacenter/Page", "redirects", "(Ljava/lang/String;)Z"⟩ : MethodName) prog_11_method_4_code 1 (some .boolean) ({ frames := 5, cells := 8, slots := 55, locals := 81 } : Room) #[(.ref x0)] h0 [x0] (fun v vm h L => (p3 = (47 : Int32) ∧ p4 = (117 : Int32) ∧ p5 = (105 : Int32) ∧ v = some (.int 1) ∧ Fr n0 L ∧ Keep h0 h []) ∨ (p3 = (47 : Int32) ∧ p4 = (117 : Int32) ∧ ¬ (p5 = (105 : Int32)) ∧ v = some (.int 0) ∧ Fr n0 L ∧ Keep h0 h []) ∨ (p3 = (47 : Int32) ∧ ¬ (p4 = (117 : Int32)) ∧ v = some (.int 0) ∧ Fr n0 L ∧ Keep h0 h []) ∨ (¬ (p3 = (47 : Int32)) ∧ v = some (.int 0) ∧ Fr n0 L ∧ Keep h0 h [])) := by
  refine CtrW.of (plainFor_of_name pn_c5) ?_
  intro p e s m below meth c T0 hx hZ hby hml hown hnm hret hlk e0 es hS0 C0 hsf X0
  have G' := G
  obtain ⟨-, G1, -, -⟩ := G'
  refine Go.cast (ef_11_R m x0) ?_
  generalize hFF : EndW Z EL0 s _ _ _ = FF
  refine Go.aloadN X0 hx (pc' := 1) rfl (hb hby d11_0) rfl rfl ?_
  refine Go.ldcCH X0 hx hZ hown (tw_59 hw) (own_SA hw) e0 hS0 (Nat.le_refl _) (own_EW hw) (List.mem_of_getElem? (i := 1) rfl) C0.1 (vs := [(.int (47 : Int32))]) (z := (1 : Int32)) (by decide) (by decide) rfl (n := 4) (by decide) (by decide) (by decide) (by decide) (pc' := 3) rfl (hb hby d11_1) ?_
  intro a1 T1 h1 j1 b1 k1 e1 E1 S1 i1 Z1 O1 A1 F1 G1 V1 C1 D1 X1
  have Kp3 : Keep h0 h1 [] := ((Keep.refl h0 []).ext E1)
  have Zn2 : n0 ≤ h1.size := Nat.le_trans Z0 Kp3.1
  have O4 := (O0.ext E1)
  have fk5 : Fld Z h1 x0 "java/lang/String" "coder" "B" (.int 0) := (P1.ext E1)
  have fk6 : Fld Z h1 x0 "java/lang/String" "value" "[B" (.ref x1) := (P2.ext E1)
  have fk7 := (P3.ext E1)
  have fk8 : Safe Z EL0 T1.vm h1 x0 := (C1.safe P0.lt (hsf _ (List.mem_of_getElem? (i := 0) rfl)))
  have fk9 : Exa Z h1 x0 "java/lang/String" := (P0.ext E1)
  refine Go.callV X1 hx Z1 O1 (tw_60 hw) (tw_61 hw) (notFace_of_selects (args := #[]) (mvT Z1 (tw_63 hw))) (tw_63 hw) (tw_62 hw) (by decide) (tw_64 hw) (tw_10 hw) (au_82 l Z a0 hw x0 a1 x1 b1 kk0 p0 p1 p2 k1 gz1 gv5 h1 n0 Zn2 O4 G fk5 fk6 A1 F1 G1 fk7 V1 (D1 x0 fk8).1) e1 fk9 (argsL := [(.ref a1)]) (rest := []) (pc' := 6) rfl (by rw [hml]; rfl) (lenOf pd_9 rfl) rfl rfl (W := 0) (Nat.le_of_eq rfl) (by decide) (by decide) (by decide) (by decide) (hb hby d11_3) ?_
  intro v10 T10 L10 q10 X10
  obtain ⟨rfl, N10, e10⟩ := q10
  show Go _ _ _ _ (T10.setTop (mkF m 6 #[.val (.ref x0)] [(.int 0)]))
  refine Go.ifNo X10 hx (pc' := 9) rfl (hb hby d11_6) (by decide) ?_
  refine Go.aloadN X10 hx (pc' := 10) rfl (hb hby d11_9) rfl rfl ?_
  have C11 : CHr Z EL0 s.vm s.heap T1.vm h1 := (C0.trans C1)
  refine Go.ldcCH X10 hx Z1 O1 (tw_34 hw) (own_SA hw) e10 S1 i1 (own_EW hw) (List.mem_of_getElem? (i := 0) rfl) C11.1 (vs := [(.int (47 : Int32)), (.int (117 : Int32)), (.int (105 : Int32)), (.int (47 : Int32))]) (z := (4 : Int32)) (by decide) (by decide) rfl (n := 16) (by decide) (by decide) (by decide) (by decide) (pc' := 12) rfl (hb hby d11_10) ?_
  intro a12 T12 h12 j12 b12 k12 e12 E12 S12 i12 Z12 O12 A12 F12 G12 V12 C12 D12 X12
  refine Go.iconst X12 hx (pc' := 13) rfl (hb hby d11_12) (v := (0 : Int32)) rfl ?_
  have C13 : CHr Z EL0 s.vm s.heap T12.vm h12 := (C11.trans C12)
  refine Go.ldcCH X12 hx Z12 O12 (tw_34 hw) (own_SA hw) e12 S12 i12 (own_EW hw) (List.mem_of_getElem? (i := 0) rfl) C13.1 (vs := [(.int (47 : Int32)), (.int (117 : Int32)), (.int (105 : Int32)), (.int (47 : Int32))]) (z := (4 : Int32)) (by decide) (by decide) rfl (n := 16) (by decide) (by decide) (by decide) (by decide) (pc' := 15) rfl (hb hby d11_13) ?_
  intro a14 T14 h14 j14 b14 k14 e14 E14 S14 i14 Z14 O14 A14 F14 G14 V14 C14 D14 X14
  have Kp16 : Keep h0 h12 [] := (Kp3.ext E12)
  have Kp17 : Keep h0 h14 [] := (Kp16.ext E14)
  have Zn15 : n0 ≤ h14.size := Nat.le_trans Z0 Kp17.1
  have O18 := (O4.ext E12)
  have O19 := (O18.ext E14)
  refine Go.callV X14 hx Z14 O14 (tw_70 hw) (tw_46 hw) (notFace_of_selects (args := #[]) (mvT Z14 (tw_48 hw))) (tw_48 hw) (tw_47 hw) (by decide) (tw_49 hw) (tw_10 hw) (au_14 l Z a0 hw a14 b14 k14 gz1 gv5 h14 n0 Zn15 O19 G A14 F14 G14 V14) e14 A14 (argsL := []) (rest := [(.int 0), (.ref a12), (.ref x0)]) (pc' := 18) rfl (by rw [hml]; rfl) (lenOf pd_5 rfl) rfl rfl (W := 3) (Nat.le_of_eq rfl) (by decide) (by decide) (by decide) (by decide) (hb hby d11_15) ?_
  intro v20 T20 L20 q20 X20
  obtain ⟨rfl, N20, e20⟩ := q20
  show Go _ _ _ _ (T20.setTop (mkF m 18 #[.val (.ref x0)] [(.int 4), (.int 0), (.ref a12), (.ref x0)]))
  refine Go.iconst X20 hx (pc' := 19) rfl (hb hby d11_18) (v := (1 : Int32)) rfl ?_
  refine Go.isub X20 hx (pc' := 20) rfl (hb hby d11_19) ?_
  rw [show ((4 : Int32) - (1 : Int32)) = (3 : Int32) from by decide]
  have fk21 : Exa Z h14 a12 "java/lang/String" := (A12.ext E14)
  have fk22 : Fld Z h14 a12 "java/lang/String" "coder" "B" (.int 0) := (F12.ext E14)
  have fk23 : Fld Z h14 a12 "java/lang/String" "value" "[B" (.ref b12) := (G12.ext E14)
  have fk24 := (V12.ext E14)
  refine Go.callV X20 hx Z14 O14 (tw_71 hw) (tw_72 hw) (notFace_of_selects (args := #[]) (mvT Z14 (tw_74 hw))) (tw_74 hw) (tw_73 hw) (by decide) (tw_75 hw) (tw_10 hw) (au_20 l Z a0 hw a12 b12 k12 gz1 gv5 h14 n0 Zn15 O19 G fk21 fk22 fk23 fk24) e20 fk21 (argsL := [(.int 0), (.int 3)]) (rest := [(.ref x0)]) (pc' := 23) rfl (by rw [hml]; rfl) (lenOf pd_18 rfl) rfl rfl (W := 1) (Nat.le_of_eq rfl) (by decide) (by decide) (by decide) (by decide) (hb hby d11_20) ?_
  intro v25 T25 L25 q25 X25
  obtain ⟨h25, e25⟩ : ∃ z, T25.heap = z := ⟨_, rfl⟩
  rw [e25] at q25
  obtain ⟨b25_0, b25_1, k25_0, rfl, N25, K25, s25_0, s25_1, n25_0, F25_0, F25_1, F25_2, F25_3, F25_4⟩ := q25
  show Go _ _ _ _ (T25.setTop (mkF m 23 #[.val (.ref x0)] [(.ref b25_0), (.ref x0)]))
  have Kp27 : Keep h0 h25 [] := (Kp17.trans K25 all0)
  have Zn26 : n0 ≤ h25.size := Nat.le_trans Z0 Kp27.1
  have O28 := (O19.keep K25 all0)
  have fk29 : Fld Z h25 x0 "java/lang/String" "coder" "B" (.int 0) := (((fk5.ext E12).ext E14).keep K25 nin0)
  have fk30 : Fld Z h25 x0 "java/lang/String" "value" "[B" (.ref x1) := (((fk6.ext E12).ext E14).keep K25 nin0)
  have fk31 := (((fk7.ext E12).ext E14).keep K25 nin0)
  have fk33 : Exa Z h14 x0 "java/lang/String" := ((fk9.ext E12).ext E14)
  have ne32 : x0 ≠ b25_0 := Nat.ne_of_lt (Nat.lt_of_lt_of_le fk33.lt s25_0)
  have fk34 : Exa Z h25 x0 "java/lang/String" := (fk33.keep K25)
  refine Go.callV X25 hx Z14 O14 (tw_60 hw) (tw_61 hw) (notFace_of_selects (args := #[]) (mvT Z14 (tw_63 hw))) (tw_63 hw) (tw_62 hw) (by decide) (tw_64 hw) (tw_10 hw) (au_84 l Z a0 hw x0 b25_0 x1 b25_1 kk0 p0 p1 p2 k25_0 p3 p4 p5 gz1 gv5 h25 n0 Zn26 O28 G fk29 fk30 F25_0 F25_1 F25_2 fk31 F25_3 R_p3 R_p4 R_p5 B_p0 B_p1 B_p2 ne32) e25 fk34 (argsL := [(.ref b25_0)]) (rest := []) (pc' := 26) rfl (by rw [hml]; rfl) (lenOf pd_9 rfl) rfl rfl (W := 0) (Nat.le_of_eq rfl) (by decide) (by decide) (by decide) (by decide) (hb hby d11_23) ?_
  intro v35 T35 L35 q35 X35
  rcases q35 with ⟨c35_0_0, c35_0_1, c35_0_2, rfl, N35_0, e35_0⟩ | ⟨c35_1_0, c35_1_1, c35_1_2, rfl, N35_1, e35_1⟩ | ⟨c35_2_0, c35_2_1, rfl, N35_2, e35_2⟩ | ⟨c35_3_0, rfl, N35_3, e35_3⟩
  · show Go _ _ _ _ (T35.setTop (mkF m 26 #[.val (.ref x0)] [(.int 1)]))
    refine Go.ifNo X35 hx (pc' := 29) rfl (hb hby d11_26) (by decide) ?_
    refine Go.iconst X35 hx (pc' := 30) rfl (hb hby d11_29) (v := (1 : Int32)) rfl ?_
    refine Go.goto X35 hx (pc' := 34) (hb hby d11_30) (by decide) (by decide) ?_
    subst hFF
    have C36 : CHr Z EL0 s.vm s.heap T14.vm h14 := (C13.trans C14)
    have C37 : CHr Z EL0 s.vm s.heap T14.vm h25 := (C36.trans (CHr.keep K25 sf0 C36.1))
    have hk38 := (Nat.le_trans i14 K25.1)
    refine Go.retNW X35 hx hlk Z14 (own_EW hw) e35_0 S14 hk38 C37 (t := .boolean) hret (by simp) (hb hby d11_34) (by decide) (by decide) (fun hat => ?_)
    exact Or.inl ⟨c35_0_0, c35_0_1, c35_0_2, (congrArg (fun z => some (Value.int z)) (by decide : nar .boolean (1 : Int32) = (1 : Int32))), (Fr.app (Fr.app (Fr.app (Fr.app (Fr.nil n0) N10) N20) N25) N35_0), Kp27⟩
  · show Go _ _ _ _ (T35.setTop (mkF m 26 #[.val (.ref x0)] [(.int 0)]))
    refine Go.ifYes X35 hx (pc' := 33) (hb hby d11_26) (by decide) (by decide) (by decide) ?_
    refine Go.iconst X35 hx (pc' := 34) rfl (hb hby d11_33) (v := (0 : Int32)) rfl ?_
    subst hFF
    have C39 : CHr Z EL0 s.vm s.heap T14.vm h14 := (C13.trans C14)
    have C40 : CHr Z EL0 s.vm s.heap T14.vm h25 := (C39.trans (CHr.keep K25 sf0 C39.1))
    have hk41 := (Nat.le_trans i14 K25.1)
    refine Go.retNW X35 hx hlk Z14 (own_EW hw) e35_1 S14 hk41 C40 (t := .boolean) hret (by simp) (hb hby d11_34) (by decide) (by decide) (fun hat => ?_)
    exact Or.inr (Or.inl ⟨c35_1_0, c35_1_1, c35_1_2, (congrArg (fun z => some (Value.int z)) (by decide : nar .boolean (0 : Int32) = (0 : Int32))), (Fr.app (Fr.app (Fr.app (Fr.app (Fr.nil n0) N10) N20) N25) N35_1), Kp27⟩)
  · show Go _ _ _ _ (T35.setTop (mkF m 26 #[.val (.ref x0)] [(.int 0)]))
    refine Go.ifYes X35 hx (pc' := 33) (hb hby d11_26) (by decide) (by decide) (by decide) ?_
    refine Go.iconst X35 hx (pc' := 34) rfl (hb hby d11_33) (v := (0 : Int32)) rfl ?_
    subst hFF
    have C42 : CHr Z EL0 s.vm s.heap T14.vm h14 := (C13.trans C14)
    have C43 : CHr Z EL0 s.vm s.heap T14.vm h25 := (C42.trans (CHr.keep K25 sf0 C42.1))
    have hk44 := (Nat.le_trans i14 K25.1)
    refine Go.retNW X35 hx hlk Z14 (own_EW hw) e35_2 S14 hk44 C43 (t := .boolean) hret (by simp) (hb hby d11_34) (by decide) (by decide) (fun hat => ?_)
    exact Or.inr (Or.inr (Or.inl ⟨c35_2_0, c35_2_1, (congrArg (fun z => some (Value.int z)) (by decide : nar .boolean (0 : Int32) = (0 : Int32))), (Fr.app (Fr.app (Fr.app (Fr.app (Fr.nil n0) N10) N20) N25) N35_2), Kp27⟩))
  · show Go _ _ _ _ (T35.setTop (mkF m 26 #[.val (.ref x0)] [(.int 0)]))
    refine Go.ifYes X35 hx (pc' := 33) (hb hby d11_26) (by decide) (by decide) (by decide) ?_
    refine Go.iconst X35 hx (pc' := 34) rfl (hb hby d11_33) (v := (0 : Int32)) rfl ?_
    subst hFF
    have C45 : CHr Z EL0 s.vm s.heap T14.vm h14 := (C13.trans C14)
    have C46 : CHr Z EL0 s.vm s.heap T14.vm h25 := (C45.trans (CHr.keep K25 sf0 C45.1))
    have hk47 := (Nat.le_trans i14 K25.1)
    refine Go.retNW X35 hx hlk Z14 (own_EW hw) e35_3 S14 hk47 C46 (t := .boolean) hret (by simp) (hb hby d11_34) (by decide) (by decide) (fun hat => ?_)
    exact Or.inr (Or.inr (Or.inr (⟨c35_3_0, (congrArg (fun z => some (Value.int z)) (by decide : nar .boolean (0 : Int32) = (0 : Int32))), (Fr.app (Fr.app (Fr.app (Fr.app (Fr.nil n0) N10) N20) N25) N35_3), Kp27⟩)))
-- com/example/roles_over_datacenter/rolesoverdatacenter/Page.serves
set_option maxRecDepth 65536 in
set_option maxHeartbeats 4000000 in
theorem au_75 (l : Launch) (Z : State) (a0 : Array Value) (hw : ∀ d ∈ tables_1, d.before a0 Z = true) (x0 : Addr) (x1 : Addr) (kk0 : ClassId) (p0 : Int32) (p1 : Int32) (p2 : Int32) (p3 : Int32) (p4 : Int32) (p5 : Int32) (gz1 : Int32) (gv5 : Value) (h0 : Heap) (n0 : Nat) (Z0 : n0 ≤ h0.size) (O0 : Old Z n0 h0) (G : Glob Z gz1 gv5) (P0 : Exa Z h0 x0 "java/lang/String") (P1 : Fld Z h0 x0 "java/lang/String" "coder" "B" (.int 0)) (P2 : Fld Z h0 x0 "java/lang/String" "value" "[B" (.ref x1)) (P3 : Arv Z h0 x1 kk0 .byte (3 : Int32) [(.int p0), (.int p1), (.int p2)] (.int 0)) (R_p3 : 0 ≤ p3.toInt ∧ p3.toInt ≤ 255) (R_p4 : 0 ≤ p4.toInt ∧ p4.toInt ≤ 255) (R_p5 : 0 ≤ p5.toInt ∧ p5.toInt ≤ 255) (B_p0 : (p3.toInt8.toInt32) = p0) (B_p1 : (p4.toInt8.toInt32) = p1) (B_p2 : (p5.toInt8.toInt32) = p2) :
    CtrW l Z EL0 (⟨"com/example/roles_over_datacenter/rolesoverdatacenter/Page", "serves", "(Ljava/lang/String;)Z"⟩ : MethodName) prog_11_method_3_code 1 (some .boolean) ({ frames := 6, cells := 10, slots := 75, locals := 93 } : Room) #[(.ref x0)] h0 [x0] (fun v vm h L => (p3 = (47 : Int32) ∧ p4 = (117 : Int32) ∧ p5 = (105 : Int32) ∧ v = some (.int 1) ∧ Fr n0 L ∧ Keep h0 h []) ∨ (p3 = (47 : Int32) ∧ p4 = (117 : Int32) ∧ ¬ (p5 = (105 : Int32)) ∧ v = some (.int 0) ∧ Fr n0 L ∧ Keep h0 h []) ∨ (p3 = (47 : Int32) ∧ ¬ (p4 = (117 : Int32)) ∧ v = some (.int 0) ∧ Fr n0 L ∧ Keep h0 h []) ∨ (¬ (p3 = (47 : Int32)) ∧ v = some (.int 0) ∧ Fr n0 L ∧ Keep h0 h [])) := by
  refine CtrW.of (plainFor_of_name pn_c5) ?_
  intro p e s m below meth c T0 hx hZ hby hml hown hnm hret hlk e0 es hS0 C0 hsf X0
  have G' := G
  obtain ⟨-, G1, -, -⟩ := G'
  refine Go.cast (ef_6_R m x0) ?_
  generalize hFF : EndW Z EL0 s _ _ _ = FF
  refine Go.aloadN X0 hx (pc' := 1) rfl (hb hby d6_0) rfl rfl ?_
  refine Go.ldcCH X0 hx hZ hown (tw_34 hw) (own_SA hw) e0 hS0 (Nat.le_refl _) (own_EW hw) (List.mem_of_getElem? (i := 0) rfl) C0.1 (vs := [(.int (47 : Int32)), (.int (117 : Int32)), (.int (105 : Int32)), (.int (47 : Int32))]) (z := (4 : Int32)) (by decide) (by decide) rfl (n := 16) (by decide) (by decide) (by decide) (by decide) (pc' := 3) rfl (hb hby d6_1) ?_
  intro a1 T1 h1 j1 b1 k1 e1 E1 S1 i1 Z1 O1 A1 F1 G1 V1 C1 D1 X1
  have Kp3 : Keep h0 h1 [] := ((Keep.refl h0 []).ext E1)
  have Zn2 : n0 ≤ h1.size := Nat.le_trans Z0 Kp3.1
  have O4 := (O0.ext E1)
  have fk5 : Exa Z h1 x0 "java/lang/String" := (P0.ext E1)
  have fk6 : Fld Z h1 x0 "java/lang/String" "coder" "B" (.int 0) := (P1.ext E1)
  have fk7 : Fld Z h1 x0 "java/lang/String" "value" "[B" (.ref x1) := (P2.ext E1)
  have fk8 := (P3.ext E1)
  refine Go.callV X1 hx Z1 O1 (tw_35 hw) (tw_36 hw) (notFace_of_selects (args := #[]) (mvT Z1 (tw_38 hw))) (tw_38 hw) (tw_37 hw) (by decide) (tw_39 hw) (tw_10 hw) (au_76 l Z a0 hw x0 a1 x1 b1 kk0 p0 p1 p2 k1 gz1 gv5 h1 n0 Zn2 O4 G fk5 fk6 fk7 A1 F1 G1 fk8 V1) e1 fk5 (argsL := [(.ref a1)]) (rest := []) (pc' := 6) rfl (by rw [hml]; rfl) (lenOf pd_7 rfl) rfl rfl (W := 0) (Nat.le_of_eq rfl) (by decide) (by decide) (by decide) (by decide) (hb hby d6_3) ?_
  intro v9 T9 L9 q9 X9
  obtain ⟨rfl, N9, e9⟩ := q9
  show Go _ _ _ _ (T9.setTop (mkF m 6 #[.val (.ref x0)] [(.int 0)]))
  refine Go.ifNo X9 hx (pc' := 9) rfl (hb hby d6_6) (by decide) ?_
  refine Go.aloadN X9 hx (pc' := 10) rfl (hb hby d6_9) rfl rfl ?_
  have C10 : CHr Z EL0 s.vm s.heap T1.vm h1 := (C0.trans C1)
  have fk11 : Safe Z EL0 T1.vm h1 x0 := (C1.safe P0.lt (hsf _ (List.mem_of_getElem? (i := 0) rfl)))
  refine Go.callSW X9 hx Z1 O1 (tw_56 hw) (tw_57 hw) (tw_32 hw) (tw_58 hw) (by decide) (tw_58 hw) (tw_32 hw) (au_81 l Z a0 hw x0 x1 kk0 p0 p1 p2 p3 p4 p5 gz1 gv5 h1 n0 Zn2 O4 G fk5 fk6 fk7 fk8 R_p3 R_p4 R_p5 B_p0 B_p1 B_p2) (own_EW hw) C10.1 (allS ⟨fk5.lt, fk11⟩ all0) S1 i1 e9 (argsL := [(.ref x0)]) (rest := []) (pc' := 13) rfl (by rw [hml]; rfl) (lenOf pd_7 rfl) rfl rfl (W := 0) (Nat.le_of_eq rfl) (by decide) (by decide) (by decide) (by decide) (hb hby d6_10) ?_
  intro v12 T12 L12 h12 e12 q12 C12 S12 Z12 O12 X12
  rcases q12 with ⟨c12_0_0, c12_0_1, c12_0_2, rfl, N12_0, K12_0⟩ | ⟨c12_1_0, c12_1_1, c12_1_2, rfl, N12_1, K12_1⟩ | ⟨c12_2_0, c12_2_1, rfl, N12_2, K12_2⟩ | ⟨c12_3_0, rfl, N12_3, K12_3⟩
  · show Go _ _ _ _ (T12.setTop (mkF m 13 #[.val (.ref x0)] [(.int 1)]))
    refine Go.ifNo X12 hx (pc' := 16) rfl (hb hby d6_13) (by decide) ?_
    refine Go.iconst X12 hx (pc' := 17) rfl (hb hby d6_16) (v := (1 : Int32)) rfl ?_
    refine Go.goto X12 hx (pc' := 21) (hb hby d6_17) (by decide) (by decide) ?_
    subst hFF
    have C13 : CHr Z EL0 s.vm s.heap T12.vm h12 := (C10.trans C12)
    refine Go.retNW X12 hx hlk Z12 (own_EW hw) e12 S12 (Nat.le_refl _) C13 (t := .boolean) hret (by simp) (hb hby d6_21) (by decide) (by decide) (fun hat => ?_)
    have Kp14 : Keep h0 h12 [] := (Kp3.trans K12_0 all0)
    exact Or.inl ⟨c12_0_0, c12_0_1, c12_0_2, (congrArg (fun z => some (Value.int z)) (by decide : nar .boolean (1 : Int32) = (1 : Int32))), (Fr.app (Fr.app (Fr.nil n0) N9) N12_0), Kp14⟩
  · show Go _ _ _ _ (T12.setTop (mkF m 13 #[.val (.ref x0)] [(.int 0)]))
    refine Go.ifYes X12 hx (pc' := 20) (hb hby d6_13) (by decide) (by decide) (by decide) ?_
    refine Go.iconst X12 hx (pc' := 21) rfl (hb hby d6_20) (v := (0 : Int32)) rfl ?_
    subst hFF
    have C15 : CHr Z EL0 s.vm s.heap T12.vm h12 := (C10.trans C12)
    refine Go.retNW X12 hx hlk Z12 (own_EW hw) e12 S12 (Nat.le_refl _) C15 (t := .boolean) hret (by simp) (hb hby d6_21) (by decide) (by decide) (fun hat => ?_)
    have Kp16 : Keep h0 h12 [] := (Kp3.trans K12_1 all0)
    exact Or.inr (Or.inl ⟨c12_1_0, c12_1_1, c12_1_2, (congrArg (fun z => some (Value.int z)) (by decide : nar .boolean (0 : Int32) = (0 : Int32))), (Fr.app (Fr.app (Fr.nil n0) N9) N12_1), Kp16⟩)
  · show Go _ _ _ _ (T12.setTop (mkF m 13 #[.val (.ref x0)] [(.int 0)]))
    refine Go.ifYes X12 hx (pc' := 20) (hb hby d6_13) (by decide) (by decide) (by decide) ?_
    refine Go.iconst X12 hx (pc' := 21) rfl (hb hby d6_20) (v := (0 : Int32)) rfl ?_
    subst hFF
    have C17 : CHr Z EL0 s.vm s.heap T12.vm h12 := (C10.trans C12)
    refine Go.retNW X12 hx hlk Z12 (own_EW hw) e12 S12 (Nat.le_refl _) C17 (t := .boolean) hret (by simp) (hb hby d6_21) (by decide) (by decide) (fun hat => ?_)
    have Kp18 : Keep h0 h12 [] := (Kp3.trans K12_2 all0)
    exact Or.inr (Or.inr (Or.inl ⟨c12_2_0, c12_2_1, (congrArg (fun z => some (Value.int z)) (by decide : nar .boolean (0 : Int32) = (0 : Int32))), (Fr.app (Fr.app (Fr.nil n0) N9) N12_2), Kp18⟩))
  · show Go _ _ _ _ (T12.setTop (mkF m 13 #[.val (.ref x0)] [(.int 0)]))
    refine Go.ifYes X12 hx (pc' := 20) (hb hby d6_13) (by decide) (by decide) (by decide) ?_
    refine Go.iconst X12 hx (pc' := 21) rfl (hb hby d6_20) (v := (0 : Int32)) rfl ?_
    subst hFF
    have C19 : CHr Z EL0 s.vm s.heap T12.vm h12 := (C10.trans C12)
    refine Go.retNW X12 hx hlk Z12 (own_EW hw) e12 S12 (Nat.le_refl _) C19 (t := .boolean) hret (by simp) (hb hby d6_21) (by decide) (by decide) (fun hat => ?_)
    have Kp20 : Keep h0 h12 [] := (Kp3.trans K12_3 all0)
    exact Or.inr (Or.inr (Or.inr (⟨c12_3_0, (congrArg (fun z => some (Value.int z)) (by decide : nar .boolean (0 : Int32) = (0 : Int32))), (Fr.app (Fr.app (Fr.nil n0) N9) N12_3), Kp20⟩)))
theorem d2_87 : decode method_3_code 87 = .ok (.iload_n 0, 1) := by decide +kernel
theorem d2_88 : decode method_3_code 88 = .ok (.iconst 4, 1) := by decide +kernel
theorem d2_89 : decode method_3_code 89 = .ok (.if_icmp .ne 31, 3) := by decide +kernel
theorem d2_92 : decode method_3_code 92 = .ok (.new 7, 3) := by decide +kernel
theorem d2_95 : decode method_3_code 95 = .ok (.dup, 1) := by decide +kernel
theorem d2_96 : decode method_3_code 96 = .ok (.iconst 4, 1) := by decide +kernel
theorem d2_97 : decode method_3_code 97 = .ok (.newarray .char, 2) := by decide +kernel
theorem d2_99 : decode method_3_code 99 = .ok (.dup, 1) := by decide +kernel
theorem d2_100 : decode method_3_code 100 = .ok (.iconst 0, 1) := by decide +kernel
theorem d2_101 : decode method_3_code 101 = .ok (.iload_n 1, 1) := by decide +kernel
theorem d2_102 : decode method_3_code 102 = .ok (.castore, 1) := by decide +kernel
theorem d2_103 : decode method_3_code 103 = .ok (.dup, 1) := by decide +kernel
theorem d2_104 : decode method_3_code 104 = .ok (.iconst 1, 1) := by decide +kernel
theorem d2_105 : decode method_3_code 105 = .ok (.iload_n 2, 1) := by decide +kernel
theorem d2_106 : decode method_3_code 106 = .ok (.castore, 1) := by decide +kernel
theorem d2_107 : decode method_3_code 107 = .ok (.dup, 1) := by decide +kernel
theorem d2_108 : decode method_3_code 108 = .ok (.iconst 2, 1) := by decide +kernel
theorem d2_109 : decode method_3_code 109 = .ok (.iload_n 3, 1) := by decide +kernel
theorem d2_110 : decode method_3_code 110 = .ok (.castore, 1) := by decide +kernel
theorem d2_111 : decode method_3_code 111 = .ok (.dup, 1) := by decide +kernel
theorem d2_112 : decode method_3_code 112 = .ok (.iconst 3, 1) := by decide +kernel
theorem d2_113 : decode method_3_code 113 = .ok (.iload 4, 2) := by decide +kernel
theorem d2_115 : decode method_3_code 115 = .ok (.castore, 1) := by decide +kernel
-- java/lang/StringUTF16.compress
set_option maxRecDepth 65536 in
set_option maxHeartbeats 4000000 in
theorem au_90 (l : Launch) (Z : State) (a0 : Array Value) (hw : ∀ d ∈ tables_1, d.before a0 Z = true) (x0 : Addr) (x1 : Addr) (kk0 : ClassId) (p0 : Int32) (p1 : Int32) (p2 : Int32) (p3 : Int32) (kk1 : ClassId) (h0 : Heap) (n0 : Nat) (Z0 : n0 ≤ h0.size) (P0 : Arv Z h0 x0 kk0 .char (4 : Int32) [(.int p0), (.int p1), (.int p2), (.int p3)] (.int 0)) (P2 : Arv Z h0 x1 kk1 .byte (4 : Int32) [(.int 0), (.int 0), (.int 0), (.int 0)] (.int 0)) (P3 : Exa Z h0 x1 "[B") (R_p0 : 0 ≤ p0.toInt ∧ p0.toInt ≤ 255) (R_p1 : 0 ≤ p1.toInt ∧ p1.toInt ≤ 255) (R_p2 : 0 ≤ p2.toInt ∧ p2.toInt ≤ 255) (R_p3 : 0 ≤ p3.toInt ∧ p3.toInt ≤ 255) (g_x1 : n0 ≤ x1) (ne_x0_x1 : x0 ≠ x1) :
    Ctr l Z (⟨"java/lang/StringUTF16", "compress", "([CI[BII)I"⟩ : MethodName) jdk_52_method_21_code 7 (some .int) ({ frames := 0, cells := 0, slots := 0, locals := 0 } : Room) #[(.ref x0), (.int 0), (.ref x1), (.int 0), (.int 4)] h0 (fun v h L => ∃ (z1 : Int32) (z5 : Int32) (z9 : Int32) (z13 : Int32), (p0.toInt8.toInt32) = z1 ∧ (p1.toInt8.toInt32) = z5 ∧ (p2.toInt8.toInt32) = z9 ∧ (p3.toInt8.toInt32) = z13 ∧ v = some (.int 4) ∧ Fr n0 L ∧ Keep h0 h [x1] ∧ Arv Z h x1 kk1 .byte (4 : Int32) [(.int z1), (.int z5), (.int z9), (.int z13)] (.int 0) ∧ Exa Z h x1 "[B") := by
  refine Ctr.of (plainFor_of_name pn_c6) ?_
  intro p e s m below meth c T0 hx hZ hby hml hown hnm hret hlk e0 es X0
  refine Go.cast (ef_25_RIRII m x0 (0 : Int32) x1 (0 : Int32) (4 : Int32)) ?_
  generalize hFF : EndN s _ _ _ = FF
  refine Go.iconst X0 hx (pc' := 1) rfl (hb hby d25_0) (v := (0 : Int32)) rfl ?_
  refine Go.istore X0 hx (pc' := 3) rfl (hb hby d25_1) (Ls' := #[.val (.ref x0), .val (.int 0), .val (.ref x1), .val (.int 0), .val (.int 4), .val (.int 0), .unset]) rfl ?_
  refine Go.iload X0 hx (pc' := 5) rfl (hb hby d25_3) rfl ?_
  refine Go.iload X0 hx (pc' := 7) rfl (hb hby d25_5) rfl ?_
  refine Go.icmpNo X0 hx (pc' := 10) rfl (hb hby d25_7) (by decide) ?_
  refine Go.aloadN X0 hx (pc' := 11) rfl (hb hby d25_10) rfl rfl ?_
  refine Go.iloadN X0 hx (pc' := 12) rfl (hb hby d25_11) rfl ?_
  refine Go.caload X0 hx hZ e0 P0 (v := (.int p0)) ⟨by decide, by decide⟩ rfl (pc' := 13) rfl (hb hby d25_12) ?_
  refine Go.istore X0 hx (pc' := 15) rfl (hb hby d25_13) (Ls' := #[.val (.ref x0), .val (.int 0), .val (.ref x1), .val (.int 0), .val (.int 4), .val (.int 0), .val (.int p0)]) rfl ?_
  refine Go.iload X0 hx (pc' := 17) rfl (hb hby d25_15) rfl ?_
  refine Go.sipush X0 hx (pc' := 20) rfl (hb hby d25_17) (v := (255 : Int32)) (by decide) ?_
  refine Go.icmpYes X0 hx (pc' := 26) (hb hby d25_20) (flt (own_nlt_r (own_rlit (n := 255) (by decide)) R_p0 (by decide))).2.2.2 (by decide) (by decide) ?_
  refine Go.aloadN X0 hx (pc' := 27) rfl (hb hby d25_26) rfl rfl ?_
  refine Go.iloadN X0 hx (pc' := 28) rfl (hb hby d25_27) rfl ?_
  refine Go.iload X0 hx (pc' := 30) rfl (hb hby d25_28) rfl ?_
  refine Go.i2b X0 hx (pc' := 31) rfl (hb hby d25_30) ?_
  generalize hz1 : (p0.toInt8.toInt32) = z1
  have r2 : -128 ≤ z1.toInt ∧ z1.toInt ≤ 127 := own_ri2b hz1
  refine Go.bastore X0 hx hZ e0 P2 z1 (own_nar_byte r2 (by decide) (by decide)) ⟨by decide, by decide⟩ 0 rfl (Nat.le_of_ble_eq_true rfl) (pc' := 32) rfl (hb hby d25_31) ?_
  intro T3 h3 e3 W3 V3 X3
  have N3 := Fr.snoc X3 (Fr.nil n0) g_x1
  refine Go.iinc X3 hx (pc' := 35) rfl (hb hby d25_32) rfl (y := (1 : Int32)) (by decide) (Ls' := #[.val (.ref x0), .val (.int 1), .val (.ref x1), .val (.int 0), .val (.int 4), .val (.int 0), .val (.int p0)]) rfl ?_
  refine Go.iinc X3 hx (pc' := 38) rfl (hb hby d25_35) rfl (y := (1 : Int32)) (by decide) (Ls' := #[.val (.ref x0), .val (.int 1), .val (.ref x1), .val (.int 1), .val (.int 4), .val (.int 0), .val (.int p0)]) rfl ?_
  refine Go.iinc X3 hx (pc' := 41) rfl (hb hby d25_38) rfl (y := (1 : Int32)) (by decide) (Ls' := #[.val (.ref x0), .val (.int 1), .val (.ref x1), .val (.int 1), .val (.int 4), .val (.int 1), .val (.int p0)]) rfl ?_
  refine Go.goto X3 hx (pc' := 3) (hb hby d25_41) (by decide) (by decide) ?_
  refine Go.iload X3 hx (pc' := 5) rfl (hb hby d25_3) rfl ?_
  refine Go.iload X3 hx (pc' := 7) rfl (hb hby d25_5) rfl ?_
  refine Go.icmpNo X3 hx (pc' := 10) rfl (hb hby d25_7) (by decide) ?_
  refine Go.aloadN X3 hx (pc' := 11) rfl (hb hby d25_10) rfl rfl ?_
  refine Go.iloadN X3 hx (pc' := 12) rfl (hb hby d25_11) rfl ?_
  have fk4 := (P0.other W3 ne_x0_x1)
  refine Go.caload X3 hx hZ e3 fk4 (v := (.int p1)) ⟨by decide, by decide⟩ rfl (pc' := 13) rfl (hb hby d25_12) ?_
  refine Go.istore X3 hx (pc' := 15) rfl (hb hby d25_13) (Ls' := #[.val (.ref x0), .val (.int 1), .val (.ref x1), .val (.int 1), .val (.int 4), .val (.int 1), .val (.int p1)]) rfl ?_
  refine Go.iload X3 hx (pc' := 17) rfl (hb hby d25_15) rfl ?_
  refine Go.sipush X3 hx (pc' := 20) rfl (hb hby d25_17) (v := (255 : Int32)) (by decide) ?_
  refine Go.icmpYes X3 hx (pc' := 26) (hb hby d25_20) (flt (own_nlt_r (own_rlit (n := 255) (by decide)) R_p1 (by decide))).2.2.2 (by decide) (by decide) ?_
  refine Go.aloadN X3 hx (pc' := 27) rfl (hb hby d25_26) rfl rfl ?_
  refine Go.iloadN X3 hx (pc' := 28) rfl (hb hby d25_27) rfl ?_
  refine Go.iload X3 hx (pc' := 30) rfl (hb hby d25_28) rfl ?_
  refine Go.i2b X3 hx (pc' := 31) rfl (hb hby d25_30) ?_
  generalize hz5 : (p1.toInt8.toInt32) = z5
  have r6 : -128 ≤ z5.toInt ∧ z5.toInt ≤ 127 := own_ri2b hz5
  refine Go.bastore X3 hx hZ e3 V3 z5 (own_nar_byte r6 (by decide) (by decide)) ⟨by decide, by decide⟩ 1 rfl (Nat.le_of_ble_eq_true rfl) (pc' := 32) rfl (hb hby d25_31) ?_
  intro T7 h7 e7 W7 V7 X7
  have N7 := Fr.snoc X7 N3 g_x1
  refine Go.iinc X7 hx (pc' := 35) rfl (hb hby d25_32) rfl (y := (2 : Int32)) (by decide) (Ls' := #[.val (.ref x0), .val (.int 2), .val (.ref x1), .val (.int 1), .val (.int 4), .val (.int 1), .val (.int p1)]) rfl ?_
  refine Go.iinc X7 hx (pc' := 38) rfl (hb hby d25_35) rfl (y := (2 : Int32)) (by decide) (Ls' := #[.val (.ref x0), .val (.int 2), .val (.ref x1), .val (.int 2), .val (.int 4), .val (.int 1), .val (.int p1)]) rfl ?_
  refine Go.iinc X7 hx (pc' := 41) rfl (hb hby d25_38) rfl (y := (2 : Int32)) (by decide) (Ls' := #[.val (.ref x0), .val (.int 2), .val (.ref x1), .val (.int 2), .val (.int 4), .val (.int 2), .val (.int p1)]) rfl ?_
  refine Go.goto X7 hx (pc' := 3) (hb hby d25_41) (by decide) (by decide) ?_
  refine Go.iload X7 hx (pc' := 5) rfl (hb hby d25_3) rfl ?_
  refine Go.iload X7 hx (pc' := 7) rfl (hb hby d25_5) rfl ?_
  refine Go.icmpNo X7 hx (pc' := 10) rfl (hb hby d25_7) (by decide) ?_
  refine Go.aloadN X7 hx (pc' := 11) rfl (hb hby d25_10) rfl rfl ?_
  refine Go.iloadN X7 hx (pc' := 12) rfl (hb hby d25_11) rfl ?_
  have fk8 := (fk4.other W7 ne_x0_x1)
  refine Go.caload X7 hx hZ e7 fk8 (v := (.int p2)) ⟨by decide, by decide⟩ rfl (pc' := 13) rfl (hb hby d25_12) ?_
  refine Go.istore X7 hx (pc' := 15) rfl (hb hby d25_13) (Ls' := #[.val (.ref x0), .val (.int 2), .val (.ref x1), .val (.int 2), .val (.int 4), .val (.int 2), .val (.int p2)]) rfl ?_
  refine Go.iload X7 hx (pc' := 17) rfl (hb hby d25_15) rfl ?_
  refine Go.sipush X7 hx (pc' := 20) rfl (hb hby d25_17) (v := (255 : Int32)) (by decide) ?_
  refine Go.icmpYes X7 hx (pc' := 26) (hb hby d25_20) (flt (own_nlt_r (own_rlit (n := 255) (by decide)) R_p2 (by decide))).2.2.2 (by decide) (by decide) ?_
  refine Go.aloadN X7 hx (pc' := 27) rfl (hb hby d25_26) rfl rfl ?_
  refine Go.iloadN X7 hx (pc' := 28) rfl (hb hby d25_27) rfl ?_
  refine Go.iload X7 hx (pc' := 30) rfl (hb hby d25_28) rfl ?_
  refine Go.i2b X7 hx (pc' := 31) rfl (hb hby d25_30) ?_
  generalize hz9 : (p2.toInt8.toInt32) = z9
  have r10 : -128 ≤ z9.toInt ∧ z9.toInt ≤ 127 := own_ri2b hz9
  refine Go.bastore X7 hx hZ e7 V7 z9 (own_nar_byte r10 (by decide) (by decide)) ⟨by decide, by decide⟩ 2 rfl (Nat.le_of_ble_eq_true rfl) (pc' := 32) rfl (hb hby d25_31) ?_
  intro T11 h11 e11 W11 V11 X11
  have N11 := Fr.snoc X11 N7 g_x1
  refine Go.iinc X11 hx (pc' := 35) rfl (hb hby d25_32) rfl (y := (3 : Int32)) (by decide) (Ls' := #[.val (.ref x0), .val (.int 3), .val (.ref x1), .val (.int 2), .val (.int 4), .val (.int 2), .val (.int p2)]) rfl ?_
  refine Go.iinc X11 hx (pc' := 38) rfl (hb hby d25_35) rfl (y := (3 : Int32)) (by decide) (Ls' := #[.val (.ref x0), .val (.int 3), .val (.ref x1), .val (.int 3), .val (.int 4), .val (.int 2), .val (.int p2)]) rfl ?_
  refine Go.iinc X11 hx (pc' := 41) rfl (hb hby d25_38) rfl (y := (3 : Int32)) (by decide) (Ls' := #[.val (.ref x0), .val (.int 3), .val (.ref x1), .val (.int 3), .val (.int 4), .val (.int 3), .val (.int p2)]) rfl ?_
  refine Go.goto X11 hx (pc' := 3) (hb hby d25_41) (by decide) (by decide) ?_
  refine Go.iload X11 hx (pc' := 5) rfl (hb hby d25_3) rfl ?_
  refine Go.iload X11 hx (pc' := 7) rfl (hb hby d25_5) rfl ?_
  refine Go.icmpNo X11 hx (pc' := 10) rfl (hb hby d25_7) (by decide) ?_
  refine Go.aloadN X11 hx (pc' := 11) rfl (hb hby d25_10) rfl rfl ?_
  refine Go.iloadN X11 hx (pc' := 12) rfl (hb hby d25_11) rfl ?_
  have fk12 := (fk8.other W11 ne_x0_x1)
  refine Go.caload X11 hx hZ e11 fk12 (v := (.int p3)) ⟨by decide, by decide⟩ rfl (pc' := 13) rfl (hb hby d25_12) ?_
  refine Go.istore X11 hx (pc' := 15) rfl (hb hby d25_13) (Ls' := #[.val (.ref x0), .val (.int 3), .val (.ref x1), .val (.int 3), .val (.int 4), .val (.int 3), .val (.int p3)]) rfl ?_
  refine Go.iload X11 hx (pc' := 17) rfl (hb hby d25_15) rfl ?_
  refine Go.sipush X11 hx (pc' := 20) rfl (hb hby d25_17) (v := (255 : Int32)) (by decide) ?_
  refine Go.icmpYes X11 hx (pc' := 26) (hb hby d25_20) (flt (own_nlt_r (own_rlit (n := 255) (by decide)) R_p3 (by decide))).2.2.2 (by decide) (by decide) ?_
  refine Go.aloadN X11 hx (pc' := 27) rfl (hb hby d25_26) rfl rfl ?_
  refine Go.iloadN X11 hx (pc' := 28) rfl (hb hby d25_27) rfl ?_
  refine Go.iload X11 hx (pc' := 30) rfl (hb hby d25_28) rfl ?_
  refine Go.i2b X11 hx (pc' := 31) rfl (hb hby d25_30) ?_
  generalize hz13 : (p3.toInt8.toInt32) = z13
  have V14 : Arv Z h11 x1 kk1 .byte (4 : Int32) [(.int z1), (.int z5), (.int z9), (.int 0)] (.int 0) := V11
  have r15 : -128 ≤ z13.toInt ∧ z13.toInt ≤ 127 := own_ri2b hz13
  refine Go.bastore X11 hx hZ e11 V14 z13 (own_nar_byte r15 (by decide) (by decide)) ⟨by decide, by decide⟩ 3 rfl (Nat.le_of_ble_eq_true rfl) (pc' := 32) rfl (hb hby d25_31) ?_
  intro T16 h16 e16 W16 V16 X16
  have N16 := Fr.snoc X16 N11 g_x1
  refine Go.iinc X16 hx (pc' := 35) rfl (hb hby d25_32) rfl (y := (4 : Int32)) (by decide) (Ls' := #[.val (.ref x0), .val (.int 4), .val (.ref x1), .val (.int 3), .val (.int 4), .val (.int 3), .val (.int p3)]) rfl ?_
  refine Go.iinc X16 hx (pc' := 38) rfl (hb hby d25_35) rfl (y := (4 : Int32)) (by decide) (Ls' := #[.val (.ref x0), .val (.int 4), .val (.ref x1), .val (.int 4), .val (.int 4), .val (.int 3), .val (.int p3)]) rfl ?_
  refine Go.iinc X16 hx (pc' := 41) rfl (hb hby d25_38) rfl (y := (4 : Int32)) (by decide) (Ls' := #[.val (.ref x0), .val (.int 4), .val (.ref x1), .val (.int 4), .val (.int 4), .val (.int 4), .val (.int p3)]) rfl ?_
  refine Go.goto X16 hx (pc' := 3) (hb hby d25_41) (by decide) (by decide) ?_
  refine Go.iload X16 hx (pc' := 5) rfl (hb hby d25_3) rfl ?_
  refine Go.iload X16 hx (pc' := 7) rfl (hb hby d25_5) rfl ?_
  refine Go.icmpYes X16 hx (pc' := 44) (hb hby d25_7) (by decide) (by decide) (by decide) ?_
  refine Go.iload X16 hx (pc' := 46) rfl (hb hby d25_44) rfl ?_
  subst hFF
  refine Go.retI X16 hx hlk hret (hb hby d25_46) (by decide) (by decide) ?_
  rw [e16]
  have V17 : Arv Z h16 x1 kk1 .byte (4 : Int32) [(.int z1), (.int z5), (.int z9), (.int z13)] (.int 0) := V16
  have fk18 : Exa Z h16 x1 "[B" := ((((P3.wr W3).wr W7).wr W11).wr W16)
  have Kp19 : Keep h0 h3 [x1] := ((Keep.refl h0 [x1]).wr W3 (Or.inl (List.mem_of_getElem? (i := 0) rfl)))
  have Kp20 : Keep h0 h7 [x1] := (Kp19.wr W7 (Or.inl (List.mem_of_getElem? (i := 0) rfl)))
  have Kp21 : Keep h0 h11 [x1] := (Kp20.wr W11 (Or.inl (List.mem_of_getElem? (i := 0) rfl)))
  have Kp22 : Keep h0 h16 [x1] := (Kp21.wr W16 (Or.inl (List.mem_of_getElem? (i := 0) rfl)))
  exact ⟨z1, z5, z9, z13, hz1, hz5, hz9, hz13, rfl, N16, Kp22, V17, fk18⟩
-- java/lang/StringUTF16.compress
set_option maxRecDepth 65536 in
set_option maxHeartbeats 4000000 in
theorem au_89 (l : Launch) (Z : State) (a0 : Array Value) (hw : ∀ d ∈ tables_1, d.before a0 Z = true) (x0 : Addr) (kk0 : ClassId) (p0 : Int32) (p1 : Int32) (p2 : Int32) (p3 : Int32) (h0 : Heap) (n0 : Nat) (Z0 : n0 ≤ h0.size) (P0 : Arv Z h0 x0 kk0 .char (4 : Int32) [(.int p0), (.int p1), (.int p2), (.int p3)] (.int 0)) (R_p0 : 0 ≤ p0.toInt ∧ p0.toInt ≤ 255) (R_p1 : 0 ≤ p1.toInt ∧ p1.toInt ≤ 255) (R_p2 : 0 ≤ p2.toInt ∧ p2.toInt ≤ 255) (R_p3 : 0 ≤ p3.toInt ∧ p3.toInt ≤ 255) :
    Ctr l Z (⟨"java/lang/StringUTF16", "compress", "([CII)[B"⟩ : MethodName) jdk_52_method_16_code 6 (some (.array .byte)) ({ frames := 1, cells := 1, slots := 4, locals := 18 } : Room) #[(.ref x0), (.int 0), (.int 4)] h0 (fun v h L => ∃ (z8_0 : Int32) (z8_1 : Int32) (z8_2 : Int32) (z8_3 : Int32) (b1 : Addr) (k1 : ClassId), (p0.toInt8.toInt32) = z8_0 ∧ (p1.toInt8.toInt32) = z8_1 ∧ (p2.toInt8.toInt32) = z8_2 ∧ (p3.toInt8.toInt32) = z8_3 ∧ v = some (.ref b1) ∧ Fr n0 L ∧ Keep h0 h [] ∧ h0.size ≤ b1 ∧ Arv Z h b1 k1 .byte (4 : Int32) [(.int z8_0), (.int z8_1), (.int z8_2), (.int z8_3)] (.int 0) ∧ Exa Z h b1 "[B") := by
  refine Ctr.of (plainFor_of_name pn_c6) ?_
  intro p e s m below meth c T0 hx hZ hby hml hown hnm hret hlk e0 es X0
  refine Go.cast (ef_24_RII m x0 (0 : Int32) (4 : Int32)) ?_
  generalize hFF : EndN s _ _ _ = FF
  refine Go.iloadN X0 hx (pc' := 1) rfl (hb hby d24_0) rfl ?_
  refine Go.newarray X0 hx hZ (ty := .byte) rfl (tw_23 hw) e0 (by decide) (cap := 4) (by decide) (by decide) (by decide) (by decide) (ad := "[B") (by decide) 4 (pc' := 3) rfl (hb hby d24_1) ?_
  intro T1 h1 b1 k1 e1 E1 g1 V1 A1 X1
  have V1' : Arv Z h1 b1 k1 .byte (4 : Int32) [(.int 0), (.int 0), (.int 0), (.int 0)] (.int 0) := V1
  refine Go.astoreN X1 hx (pc' := 4) rfl (hb hby d24_3) (Ls' := #[.val (.ref x0), .val (.int 0), .val (.int 4), .val (.ref b1), .unset, .unset]) rfl rfl ?_
  refine Go.aloadN X1 hx (pc' := 5) rfl (hb hby d24_4) rfl rfl ?_
  refine Go.iloadN X1 hx (pc' := 6) rfl (hb hby d24_5) rfl ?_
  refine Go.aloadN X1 hx (pc' := 7) rfl (hb hby d24_6) rfl rfl ?_
  refine Go.iconst X1 hx (pc' := 8) rfl (hb hby d24_7) (v := (0 : Int32)) rfl ?_
  refine Go.iloadN X1 hx (pc' := 9) rfl (hb hby d24_8) rfl ?_
  have Kp3 : Keep h0 h1 [] := ((Keep.refl h0 []).ext E1)
  have Zn2 : n0 ≤ h1.size := Nat.le_trans Z0 Kp3.1
  have fk4 := (P0.ext E1)
  have sz6 : h0.size ≤ b1 := Nat.le_trans (Keep.refl h0 []).1 (Nat.le_of_eq g1.symm)
  have ge5 : n0 ≤ b1 := Nat.le_trans Z0 sz6
  have ne7 : x0 ≠ b1 := Nat.ne_of_lt (Nat.lt_of_lt_of_le P0.lt (Nat.le_of_eq g1.symm))
  refine Go.callS X1 hx hZ hown (tw_118 hw) (tw_119 hw) (tw_116 hw) (tw_120 hw) (by decide) (tw_120 hw) (tw_116 hw) (au_90 l Z a0 hw x0 b1 kk0 p0 p1 p2 p3 k1 h1 n0 Zn2 fk4 V1' A1 R_p0 R_p1 R_p2 R_p3 ge5 ne7) e1 (argsL := [(.ref x0), (.int 0), (.ref b1), (.int 0), (.int 4)]) (rest := []) (pc' := 12) rfl (by rw [hml]; rfl) (lenOf pd_19 rfl) rfl rfl (W := 0) (Nat.le_of_eq rfl) (by decide) (by decide) (by decide) (by decide) (hb hby d24_9) ?_
  intro v8 T8 L8 q8 X8
  obtain ⟨h8, e8⟩ : ∃ z, T8.heap = z := ⟨_, rfl⟩
  rw [e8] at q8
  obtain ⟨z8_0, z8_1, z8_2, z8_3, d8_0, d8_1, d8_2, d8_3, rfl, N8, K8, F8_0, F8_1⟩ := q8
  show Go _ _ _ _ (T8.setTop (mkF m 12 #[.val (.ref x0), .val (.int 0), .val (.int 4), .val (.ref b1), .unset, .unset] [(.int 4)]))
  refine Go.istore X8 hx (pc' := 14) rfl (hb hby d24_12) (Ls' := #[.val (.ref x0), .val (.int 0), .val (.int 4), .val (.ref b1), .val (.int 4), .unset]) rfl ?_
  refine Go.iload X8 hx (pc' := 16) rfl (hb hby d24_14) rfl ?_
  refine Go.iloadN X8 hx (pc' := 17) rfl (hb hby d24_16) rfl ?_
  refine Go.icmpYes X8 hx (pc' := 57) (hb hby d24_17) (by decide) (by decide) (by decide) ?_
  refine Go.aloadN X8 hx (pc' := 58) rfl (hb hby d24_57) rfl rfl ?_
  subst hFF
  refine Go.retR X8 hx hlk (t := (.array .byte)) hret rfl rfl (hb hby d24_58) (by decide) (by decide) ?_
  rw [e8]
  have Kp9 : Keep h0 h8 [] := (Kp3.trans K8 (allS (Or.inr sz6) all0))
  exact ⟨z8_0, z8_1, z8_2, z8_3, b1, k1, d8_0, d8_1, d8_2, d8_3, rfl, (Fr.app (Fr.nil n0) N8), Kp9, sz6, F8_0, F8_1⟩
-- java/lang/StringUTF16.coderFromArrayLen
set_option maxRecDepth 65536 in
set_option maxHeartbeats 4000000 in
theorem au_91 (l : Launch) (Z : State) (a0 : Array Value) (hw : ∀ d ∈ tables_1, d.before a0 Z = true) (x0 : Addr) (kk0 : ClassId) (p0 : Int32) (p1 : Int32) (p2 : Int32) (p3 : Int32) (h0 : Heap) (n0 : Nat) (Z0 : n0 ≤ h0.size) (P0 : Arv Z h0 x0 kk0 .byte (4 : Int32) [(.int p0), (.int p1), (.int p2), (.int p3)] (.int 0)) :
    Ctr l Z (⟨"java/lang/StringUTF16", "coderFromArrayLen", "([BI)B"⟩ : MethodName) jdk_52_method_15_code 2 (some .byte) ({ frames := 0, cells := 0, slots := 0, locals := 0 } : Room) #[(.ref x0), (.int 4)] h0 (fun v h L => v = some (.int 0) ∧ Fr n0 L ∧ h = h0) := by
  refine Ctr.of (plainFor_of_name pn_c6) ?_
  intro p e s m below meth c T0 hx hZ hby hml hown hnm hret hlk e0 es X0
  refine Go.cast (ef_26_RI m x0 (4 : Int32)) ?_
  generalize hFF : EndN s _ _ _ = FF
  refine Go.iloadN X0 hx (pc' := 1) rfl (hb hby d26_0) rfl ?_
  refine Go.aloadN X0 hx (pc' := 2) rfl (hb hby d26_1) rfl rfl ?_
  refine Go.arraylength X0 hx hZ e0 P0 (pc' := 3) rfl (hb hby d26_2) ?_
  refine Go.isub X0 hx (pc' := 4) rfl (hb hby d26_3) ?_
  rw [show ((4 : Int32) - (4 : Int32)) = (0 : Int32) from by decide]
  refine Go.bipush X0 hx (pc' := 6) rfl (hb hby d26_4) (v := (31 : Int32)) (by decide) ?_
  refine Go.iushr X0 hx (pc' := 7) rfl (hb hby d26_6) ?_
  rw [show (((0 : Int32).toUInt32 >>> ((31 : Int32) &&& 31).toUInt32).toInt32) = (0 : Int32) from by decide]
  refine Go.i2b X0 hx (pc' := 8) rfl (hb hby d26_7) ?_
  rw [show ((0 : Int32).toInt8.toInt32) = (0 : Int32) from by decide]
  subst hFF
  refine Go.retN X0 hx hlk (t := .byte) hret (by simp) (hb hby d26_8) (by decide) (by decide) ?_
  rw [e0]
  exact ⟨(congrArg (fun z => some (Value.int z)) (by decide : nar .byte (0 : Int32) = (0 : Int32))), (Fr.nil n0), rfl⟩
-- java/lang/String.init
set_option maxRecDepth 65536 in
set_option maxHeartbeats 4000000 in
theorem au_88 (l : Launch) (Z : State) (a0 : Array Value) (hw : ∀ d ∈ tables_1, d.before a0 Z = true) (x0 : Addr) (x1 : Addr) (kk0 : ClassId) (p0 : Int32) (p1 : Int32) (p2 : Int32) (p3 : Int32) (gz1 : Int32) (gv5 : Value) (h0 : Heap) (n0 : Nat) (Z0 : n0 ≤ h0.size) (O0 : Old Z n0 h0) (G : Glob Z gz1 gv5) (P0 : Exa Z h0 x0 "java/lang/String") (P1 : Fld Z h0 x0 "java/lang/String" "coder" "B" (.int 0)) (P2 : Fld Z h0 x0 "java/lang/String" "value" "[B" .null) (P3 : Arv Z h0 x1 kk0 .char (4 : Int32) [(.int p0), (.int p1), (.int p2), (.int p3)] (.int 0)) (R_p0 : 0 ≤ p0.toInt ∧ p0.toInt ≤ 255) (R_p1 : 0 ≤ p1.toInt ∧ p1.toInt ≤ 255) (R_p2 : 0 ≤ p2.toInt ∧ p2.toInt ≤ 255) (R_p3 : 0 ≤ p3.toInt ∧ p3.toInt ≤ 255) (g_x0 : n0 ≤ x0) :
    Ctr l Z (⟨"java/lang/String", "<init>", "([CIILjava/lang/Void;)V"⟩ : MethodName) jdk_42_method_149_code 6 none ({ frames := 2, cells := 1, slots := 4, locals := 35 } : Room) #[(.ref x0), (.ref x1), (.int 0), (.int 4), .null] h0 (fun v h L => ∃ (z4_0 : Int32) (z4_1 : Int32) (z4_2 : Int32) (z4_3 : Int32) (b4_0 : Addr) (k4_0 : ClassId), (p0.toInt8.toInt32) = z4_0 ∧ (p1.toInt8.toInt32) = z4_1 ∧ (p2.toInt8.toInt32) = z4_2 ∧ (p3.toInt8.toInt32) = z4_3 ∧ v = none ∧ Fr n0 L ∧ Keep h0 h [x0] ∧ h0.size ≤ b4_0 ∧ Exa Z h x0 "java/lang/String" ∧ Fld Z h x0 "java/lang/String" "coder" "B" (.int 0) ∧ Fld Z h x0 "java/lang/String" "value" "[B" (.ref b4_0) ∧ Arv Z h b4_0 k4_0 .byte (4 : Int32) [(.int z4_0), (.int z4_1), (.int z4_2), (.int z4_3)] (.int 0) ∧ Exa Z h b4_0 "[B") := by
  refine Ctr.of (plainFor_of_name pn_c1) ?_
  intro p e s m below meth c T0 hx hZ hby hml hown hnm hret hlk e0 es X0
  have G' := G
  obtain ⟨G0, -, G2, -⟩ := G'
  refine Go.cast (ef_4_RRIIN m x0 x1 (0 : Int32) (4 : Int32)) ?_
  generalize hFF : EndN s _ _ _ = FF
  refine Go.aloadN X0 hx (pc' := 1) rfl (hb hby d4_0) rfl rfl ?_
  refine Go.initO X0 hx hZ hown (tw_19 hw) (tw_20 hw) (tw_21 hw) e0 (by decide) (W := 0) (by rw [hml]; rfl) (Nat.le_of_eq rfl) (by decide) (pc' := 4) rfl (hb hby d4_1) ?_
  intro T1 e1 X1
  refine Go.iloadN X1 hx (pc' := 5) rfl (hb hby d4_4) rfl ?_
  refine Go.ifYes X1 hx (pc' := 27) (hb hby d4_5) (by decide) (by decide) (by decide) ?_
  have fk2 : Sta Z h0 "java/lang/String" "COMPACT_STRINGS" "Z" (.int gz1) := G0.ext O0.2
  refine Go.getS X1 hx hZ hown (host := "") (Or.inl (tw_55 hw)) Via.refl e1 fk2 (pc' := 30) rfl (hb hby d4_27) ?_
  intro T3 e3 X3
  refine Go.ifNo X3 hx (pc' := 33) rfl (hb hby d4_30) (feq G2).1 ?_
  refine Go.aloadN X3 hx (pc' := 34) rfl (hb hby d4_33) rfl rfl ?_
  refine Go.iloadN X3 hx (pc' := 35) rfl (hb hby d4_34) rfl ?_
  refine Go.iloadN X3 hx (pc' := 36) rfl (hb hby d4_35) rfl ?_
  refine Go.callS X3 hx hZ hown (tw_114 hw) (tw_115 hw) (tw_116 hw) (tw_117 hw) (by decide) (tw_117 hw) (tw_116 hw) (au_89 l Z a0 hw x1 kk0 p0 p1 p2 p3 h0 n0 Z0 P3 R_p0 R_p1 R_p2 R_p3) e3 (argsL := [(.ref x1), (.int 0), (.int 4)]) (rest := []) (pc' := 39) rfl (by rw [hml]; rfl) (lenOf pd_20 rfl) rfl rfl (W := 0) (Nat.le_of_eq rfl) (by decide) (by decide) (by decide) (by decide) (hb hby d4_36) ?_
  intro v4 T4 L4 q4 X4
  obtain ⟨h4, e4⟩ : ∃ z, T4.heap = z := ⟨_, rfl⟩
  rw [e4] at q4
  obtain ⟨z4_0, z4_1, z4_2, z4_3, b4_0, k4_0, d4_0, d4_1, d4_2, d4_3, rfl, N4, K4, s4_0, F4_0, F4_1⟩ := q4
  show Go _ _ _ _ (T4.setTop (mkF m 39 #[.val (.ref x0), .val (.ref x1), .val (.int 0), .val (.int 4), .val .null, .unset] [(.ref b4_0)]))
  refine Go.astore X4 hx (pc' := 41) rfl (hb hby d4_39) (Ls' := #[.val (.ref x0), .val (.ref x1), .val (.int 0), .val (.int 4), .val .null, .val (.ref b4_0)]) rfl rfl ?_
  refine Go.aloadN X4 hx (pc' := 42) rfl (hb hby d4_41) rfl rfl ?_
  refine Go.aload X4 hx (pc' := 44) rfl (hb hby d4_42) rfl rfl ?_
  refine Go.iloadN X4 hx (pc' := 45) rfl (hb hby d4_44) rfl ?_
  have r5 : -128 ≤ z4_0.toInt ∧ z4_0.toInt ≤ 127 := own_ri2b d4_0
  have r6 : -128 ≤ z4_1.toInt ∧ z4_1.toInt ≤ 127 := own_ri2b d4_1
  have r7 : -128 ≤ z4_2.toInt ∧ z4_2.toInt ≤ 127 := own_ri2b d4_2
  have r8 : -128 ≤ z4_3.toInt ∧ z4_3.toInt ≤ 127 := own_ri2b d4_3
  have Kp10 : Keep h0 h4 [x0] := ((Keep.refl h0 [x0]).trans K4 all0)
  have Zn9 : n0 ≤ h4.size := Nat.le_trans Z0 Kp10.1
  refine Go.callS X4 hx hZ hown (tw_121 hw) (tw_122 hw) (tw_116 hw) (tw_123 hw) (by decide) (tw_123 hw) (tw_116 hw) (au_91 l Z a0 hw b4_0 k4_0 z4_0 z4_1 z4_2 z4_3 h4 n0 Zn9 F4_0) e4 (argsL := [(.ref b4_0), (.int 4)]) (rest := [(.ref x0)]) (pc' := 48) rfl (by rw [hml]; rfl) (lenOf pd_21 rfl) rfl rfl (W := 1) (Nat.le_of_eq rfl) (by decide) (by decide) (by decide) (by decide) (hb hby d4_45) ?_
  intro v11 T11 L11 q11 X11
  obtain ⟨rfl, N11, e11⟩ := q11
  show Go _ _ _ _ (T11.setTop (mkF m 48 #[.val (.ref x0), .val (.ref x1), .val (.int 0), .val (.int 4), .val .null, .val (.ref b4_0)] [(.int 0), (.ref x0)]))
  have fk12 : Fld Z h4 x0 "java/lang/String" "coder" "B" (.int 0) := (P1.keep K4 nin0)
  have fk13 : Exa Z h4 x0 "java/lang/String" := (P0.keep K4)
  refine Go.putFN X11 hx hZ hown (tw_29 hw) Via.refl e11 fk12 fk13 (Or.inr ⟨(tw_25 hw), rfl, hnm⟩) (tw_9 hw) (ty := .byte) (v' := (.int 0)) (by decide) (by decide) (by decide) (pc' := 51) rfl (hb hby d4_48) ?_
  intro T14 h14 e14 W14 F14 X14
  have N14 := Fr.snoc X14 (Fr.app (Fr.app (Fr.nil n0) N4) N11) g_x0
  refine Go.aloadN X14 hx (pc' := 52) rfl (hb hby d4_51) rfl rfl ?_
  refine Go.aload X14 hx (pc' := 54) rfl (hb hby d4_52) rfl rfl ?_
  have fk15 : Fld Z h14 x0 "java/lang/String" "value" "[B" .null := ((P2.keep K4 nin0).other W14 (Or.inr (slot_ne (Or.inr (tw_24 hw)) (Or.inr (tw_25 hw)) (by decide) (t := (.array .byte)) (t' := .byte) (by decide) (by decide))))
  have fk16 : Exa Z h14 x0 "java/lang/String" := (fk13.wr W14)
  refine Go.putF X14 hx hZ hown (host := "") (Or.inl (tw_28 hw)) Via.refl e14 fk15 fk16 (Or.inr ⟨(tw_24 hw), rfl, hnm⟩) (tw_9 hw) (ty := (.array .byte)) (by decide) rfl rfl (pc' := 57) rfl (hb hby d4_54) ?_
  intro T17 h17 e17 W17 F17 X17
  have N17 := Fr.snoc X17 N14 g_x0
  subst hFF
  refine Go.ret0 X17 hx hlk hret (hb hby d4_57) (by decide) (by decide) ?_
  rw [e17]
  have fk18 : Exa Z h17 x0 "java/lang/String" := (fk16.wr W17)
  have fk19 : Fld Z h17 x0 "java/lang/String" "coder" "B" (.int 0) := (F14.other W17 (Or.inr (slot_ne (Or.inr (tw_25 hw)) (Or.inr (tw_24 hw)) (by decide) (t := .byte) (t' := (.array .byte)) (by decide) (by decide))))
  have ne20 : x0 ≠ b4_0 := Nat.ne_of_lt (Nat.lt_of_lt_of_le P0.lt s4_0)
  have fk21 := ((F4_0.other W14 (Ne.symm ne20)).other W17 (Ne.symm ne20))
  have fk22 : Exa Z h17 b4_0 "[B" := ((F4_1.wr W14).wr W17)
  have Kp23 : Keep h0 h14 [x0] := (Kp10.wr W14 (Or.inl (List.mem_of_getElem? (i := 0) rfl)))
  have Kp24 : Keep h0 h17 [x0] := (Kp23.wr W17 (Or.inl (List.mem_of_getElem? (i := 0) rfl)))
  have sz25 : h0.size ≤ b4_0 := Nat.le_trans (Keep.refl h0 [x0]).1 s4_0
  exact ⟨z4_0, z4_1, z4_2, z4_3, b4_0, k4_0, d4_0, d4_1, d4_2, d4_3, rfl, N17, Kp24, sz25, fk18, fk19, F17, fk21, fk22⟩
-- java/lang/String.init
set_option maxRecDepth 65536 in
set_option maxHeartbeats 4000000 in
theorem au_87 (l : Launch) (Z : State) (a0 : Array Value) (hw : ∀ d ∈ tables_1, d.before a0 Z = true) (x0 : Addr) (x1 : Addr) (kk0 : ClassId) (p0 : Int32) (p1 : Int32) (p2 : Int32) (p3 : Int32) (gz1 : Int32) (gv5 : Value) (h0 : Heap) (n0 : Nat) (Z0 : n0 ≤ h0.size) (O0 : Old Z n0 h0) (G : Glob Z gz1 gv5) (P0 : Exa Z h0 x0 "java/lang/String") (P1 : Fld Z h0 x0 "java/lang/String" "coder" "B" (.int 0)) (P2 : Fld Z h0 x0 "java/lang/String" "value" "[B" .null) (P3 : Arv Z h0 x1 kk0 .char (4 : Int32) [(.int p0), (.int p1), (.int p2), (.int p3)] (.int 0)) (R_p0 : 0 ≤ p0.toInt ∧ p0.toInt ≤ 255) (R_p1 : 0 ≤ p1.toInt ∧ p1.toInt ≤ 255) (R_p2 : 0 ≤ p2.toInt ∧ p2.toInt ≤ 255) (R_p3 : 0 ≤ p3.toInt ∧ p3.toInt ≤ 255) (g_x0 : n0 ≤ x0) :
    Ctr l Z (⟨"java/lang/String", "<init>", "([C)V"⟩ : MethodName) jdk_42_method_3_code 2 none ({ frames := 3, cells := 1, slots := 4, locals := 52 } : Room) #[(.ref x0), (.ref x1)] h0 (fun v h L => ∃ (z1_0 : Int32) (z1_1 : Int32) (z1_2 : Int32) (z1_3 : Int32) (b1_0 : Addr) (k1_0 : ClassId), (p0.toInt8.toInt32) = z1_0 ∧ (p1.toInt8.toInt32) = z1_1 ∧ (p2.toInt8.toInt32) = z1_2 ∧ (p3.toInt8.toInt32) = z1_3 ∧ v = none ∧ Fr n0 L ∧ Keep h0 h [x0] ∧ h0.size ≤ b1_0 ∧ Exa Z h x0 "java/lang/String" ∧ Fld Z h x0 "java/lang/String" "coder" "B" (.int 0) ∧ Fld Z h x0 "java/lang/String" "value" "[B" (.ref b1_0) ∧ Arv Z h b1_0 k1_0 .byte (4 : Int32) [(.int z1_0), (.int z1_1), (.int z1_2), (.int z1_3)] (.int 0) ∧ Exa Z h b1_0 "[B") := by
  refine Ctr.of (plainFor_of_name pn_c1) ?_
  intro p e s m below meth c T0 hx hZ hby hml hown hnm hret hlk e0 es X0
  refine Go.cast (ef_3_RR m x0 x1) ?_
  generalize hFF : EndN s _ _ _ = FF
  refine Go.aloadN X0 hx (pc' := 1) rfl (hb hby d3_0) rfl rfl ?_
  refine Go.aloadN X0 hx (pc' := 2) rfl (hb hby d3_1) rfl rfl ?_
  refine Go.iconst X0 hx (pc' := 3) rfl (hb hby d3_2) (v := (0 : Int32)) rfl ?_
  refine Go.aloadN X0 hx (pc' := 4) rfl (hb hby d3_3) rfl rfl ?_
  refine Go.arraylength X0 hx hZ e0 P3 (pc' := 5) rfl (hb hby d3_4) ?_
  refine Go.anull X0 hx (pc' := 6) rfl (hb hby d3_5) ?_
  refine Go.callN X0 hx hZ hown rfl (tw_15 hw) (tw_16 hw) (tw_18 hw) (by decide) (tw_18 hw) (tw_10 hw) (au_88 l Z a0 hw x0 x1 kk0 p0 p1 p2 p3 gz1 gv5 h0 n0 Z0 O0 G P0 P1 P2 P3 R_p0 R_p1 R_p2 R_p3 g_x0) e0 (a := x0) (argsL := [(.ref x1), (.int 0), (.int 4), .null]) (rest := []) (pc' := 9) rfl (by rw [hml]; rfl) (lenOf pd_1 rfl) rfl rfl (W := 0) (Nat.le_of_eq rfl) (by decide) (by decide) (by decide) (by decide) (hb hby d3_6) ?_
  intro v1 T1 L1 q1 X1
  obtain ⟨h1, e1⟩ : ∃ z, T1.heap = z := ⟨_, rfl⟩
  rw [e1] at q1
  obtain ⟨z1_0, z1_1, z1_2, z1_3, b1_0, k1_0, d1_0, d1_1, d1_2, d1_3, rfl, N1, K1, s1_0, F1_0, F1_1, F1_2, F1_3, F1_4⟩ := q1
  show Go _ _ _ _ (T1.setTop (mkF m 9 #[.val (.ref x0), .val (.ref x1)] []))
  subst hFF
  refine Go.ret0 X1 hx hlk hret (hb hby d3_9) (by decide) (by decide) ?_
  rw [e1]
  have Kp2 : Keep h0 h1 [x0] := ((Keep.refl h0 [x0]).trans K1 (allS (Or.inl (List.mem_of_getElem? (i := 0) rfl)) all0))
  have sz3 : h0.size ≤ b1_0 := Nat.le_trans (Keep.refl h0 [x0]).1 s1_0
  exact ⟨z1_0, z1_1, z1_2, z1_3, b1_0, k1_0, d1_0, d1_1, d1_2, d1_3, rfl, (Fr.app (Fr.nil n0) N1), Kp2, sz3, F1_0, F1_1, F1_2, F1_3, F1_4⟩
theorem d2_116 : decode method_3_code 116 = .ok (.invokespecial 9, 3) := by decide +kernel
theorem d2_119 : decode method_3_code 119 = .ok (.areturn, 1) := by decide +kernel
-- com/example/roles_over_datacenter/rolesoverdatacenter/PageServesPinLaw.make
set_option maxRecDepth 65536 in
set_option maxHeartbeats 4000000 in
theorem au_86 (l : Launch) (Z : State) (a0 : Array Value) (hw : ∀ d ∈ tables_1, d.before a0 Z = true) (p0 : Int32) (p1 : Int32) (p2 : Int32) (p3 : Int32) (p4 : Int32) (gz1 : Int32) (gv5 : Value) (h0 : Heap) (n0 : Nat) (Z0 : n0 ≤ h0.size) (O0 : Old Z n0 h0) (G : Glob Z gz1 gv5) (R_p0 : 0 ≤ p0.toInt ∧ p0.toInt ≤ 255) (R_p1 : 0 ≤ p1.toInt ∧ p1.toInt ≤ 255) (R_p2 : 0 ≤ p2.toInt ∧ p2.toInt ≤ 255) (R_p3 : 0 ≤ p3.toInt ∧ p3.toInt ≤ 255) :
    Ctr l Z (⟨"com/example/roles_over_datacenter/rolesoverdatacenter/PageServesPinLaw", "make", "(ICCCCC)Ljava/lang/String;"⟩ : MethodName) method_3_code 6 (some (.object "java/lang/String")) ({ frames := 4, cells := 3, slots := 12, locals := 66 } : Room) #[(.int 4), (.int p0), (.int p1), (.int p2), (.int p3), (.int p4)] h0 (fun v h L => ∃ (z30_0 : Int32) (z30_1 : Int32) (z30_2 : Int32) (z30_3 : Int32) (b1 : Addr) (b30_0 : Addr) (k30_0 : ClassId), (p0.toInt8.toInt32) = z30_0 ∧ (p1.toInt8.toInt32) = z30_1 ∧ (p2.toInt8.toInt32) = z30_2 ∧ (p3.toInt8.toInt32) = z30_3 ∧ v = some (.ref b1) ∧ Fr n0 L ∧ Keep h0 h [] ∧ h0.size ≤ b1 ∧ h0.size ≤ b30_0 ∧ b30_0 ≠ b1 ∧ Exa Z h b1 "java/lang/String" ∧ Fld Z h b1 "java/lang/String" "coder" "B" (.int 0) ∧ Fld Z h b1 "java/lang/String" "value" "[B" (.ref b30_0) ∧ Arv Z h b30_0 k30_0 .byte (4 : Int32) [(.int z30_0), (.int z30_1), (.int z30_2), (.int z30_3)] (.int 0) ∧ Exa Z h b30_0 "[B") := by
  refine Ctr.of (plainFor_of_name pn_c0) ?_
  intro p e s m below meth c T0 hx hZ hby hml hown hnm hret hlk e0 es X0
  refine Go.cast (ef_2_IIIIII m (4 : Int32) p0 p1 p2 p3 p4) ?_
  generalize hFF : EndN s _ _ _ = FF
  refine Go.iloadN X0 hx (pc' := 1) rfl (hb hby d2_0) rfl ?_
  refine Go.ifYes X0 hx (pc' := 15) (hb hby d2_1) (by decide) (by decide) (by decide) ?_
  refine Go.iloadN X0 hx (pc' := 16) rfl (hb hby d2_15) rfl ?_
  refine Go.iconst X0 hx (pc' := 17) rfl (hb hby d2_16) (v := (1 : Int32)) rfl ?_
  refine Go.icmpYes X0 hx (pc' := 35) (hb hby d2_17) (by decide) (by decide) (by decide) ?_
  refine Go.iloadN X0 hx (pc' := 36) rfl (hb hby d2_35) rfl ?_
  refine Go.iconst X0 hx (pc' := 37) rfl (hb hby d2_36) (v := (2 : Int32)) rfl ?_
  refine Go.icmpYes X0 hx (pc' := 59) (hb hby d2_37) (by decide) (by decide) (by decide) ?_
  refine Go.iloadN X0 hx (pc' := 60) rfl (hb hby d2_59) rfl ?_
  refine Go.iconst X0 hx (pc' := 61) rfl (hb hby d2_60) (v := (3 : Int32)) rfl ?_
  refine Go.icmpYes X0 hx (pc' := 87) (hb hby d2_61) (by decide) (by decide) (by decide) ?_
  refine Go.iloadN X0 hx (pc' := 88) rfl (hb hby d2_87) rfl ?_
  refine Go.iconst X0 hx (pc' := 89) rfl (hb hby d2_88) (v := (4 : Int32)) rfl ?_
  refine Go.icmpNo X0 hx (pc' := 92) rfl (hb hby d2_89) (by decide) ?_
  refine Go.new X0 hx hZ hown (tw_8 hw) (tw_9 hw) (tw_10 hw) e0 (by decide) (by decide) (pc' := 95) rfl (hb hby d2_92) ?_
  intro T1 h1 b1 e1 E1 g1 A1 D1 X1
  have b1_value : Fld Z h1 b1 "java/lang/String" "value" "[B" .null := D1 (Or.inr (tw_24 hw)) (ty := (.array .byte)) (by decide)
  have b1_coder : Fld Z h1 b1 "java/lang/String" "coder" "B" (.int 0) := D1 (Or.inr (tw_25 hw)) (ty := .byte) (by decide)
  refine Go.dup X1 hx (pc' := 96) rfl (hb hby d2_95) rfl ?_
  refine Go.iconst X1 hx (pc' := 97) rfl (hb hby d2_96) (v := (4 : Int32)) rfl ?_
  refine Go.newarray X1 hx hZ (ty := .char) rfl (tw_11 hw) e1 (by decide) (cap := 4) (by decide) (by decide) (by decide) (by decide) (ad := "[C") (by decide) 4 (pc' := 99) rfl (hb hby d2_97) ?_
  intro T2 h2 b2 k2 e2 E2 g2 V2 A2 X2
  have V2' : Arv Z h2 b2 k2 .char (4 : Int32) [(.int 0), (.int 0), (.int 0), (.int 0)] (.int 0) := V2
  refine Go.dup X2 hx (pc' := 100) rfl (hb hby d2_99) rfl ?_
  refine Go.iconst X2 hx (pc' := 101) rfl (hb hby d2_100) (v := (0 : Int32)) rfl ?_
  refine Go.iloadN X2 hx (pc' := 102) rfl (hb hby d2_101) rfl ?_
  have Kp5 : Keep h0 h1 [] := ((Keep.refl h0 []).ext E1)
  have sz4 : h0.size ≤ b2 := Nat.le_trans Kp5.1 (Nat.le_of_eq g2.symm)
  have ge3 : n0 ≤ b2 := Nat.le_trans Z0 sz4
  refine Go.castore X2 hx hZ e2 V2' p0 (own_nar_char R_p0 (by decide) (by decide)) ⟨by decide, by decide⟩ 0 rfl (Nat.le_of_ble_eq_true rfl) (pc' := 103) rfl (hb hby d2_102) ?_
  intro T6 h6 e6 W6 V6 X6
  have N6 := Fr.snoc X6 (Fr.nil n0) ge3
  refine Go.dup X6 hx (pc' := 104) rfl (hb hby d2_103) rfl ?_
  refine Go.iconst X6 hx (pc' := 105) rfl (hb hby d2_104) (v := (1 : Int32)) rfl ?_
  refine Go.iloadN X6 hx (pc' := 106) rfl (hb hby d2_105) rfl ?_
  refine Go.castore X6 hx hZ e6 V6 p1 (own_nar_char R_p1 (by decide) (by decide)) ⟨by decide, by decide⟩ 1 rfl (Nat.le_of_ble_eq_true rfl) (pc' := 107) rfl (hb hby d2_106) ?_
  intro T7 h7 e7 W7 V7 X7
  have N7 := Fr.snoc X7 N6 ge3
  refine Go.dup X7 hx (pc' := 108) rfl (hb hby d2_107) rfl ?_
  refine Go.iconst X7 hx (pc' := 109) rfl (hb hby d2_108) (v := (2 : Int32)) rfl ?_
  refine Go.iloadN X7 hx (pc' := 110) rfl (hb hby d2_109) rfl ?_
  refine Go.castore X7 hx hZ e7 V7 p2 (own_nar_char R_p2 (by decide) (by decide)) ⟨by decide, by decide⟩ 2 rfl (Nat.le_of_ble_eq_true rfl) (pc' := 111) rfl (hb hby d2_110) ?_
  intro T8 h8 e8 W8 V8 X8
  have N8 := Fr.snoc X8 N7 ge3
  refine Go.dup X8 hx (pc' := 112) rfl (hb hby d2_111) rfl ?_
  refine Go.iconst X8 hx (pc' := 113) rfl (hb hby d2_112) (v := (3 : Int32)) rfl ?_
  refine Go.iload X8 hx (pc' := 115) rfl (hb hby d2_113) rfl ?_
  have V9 : Arv Z h8 b2 k2 .char (4 : Int32) [(.int p0), (.int p1), (.int p2), (.int 0)] (.int 0) := V8
  refine Go.castore X8 hx hZ e8 V9 p3 (own_nar_char R_p3 (by decide) (by decide)) ⟨by decide, by decide⟩ 3 rfl (Nat.le_of_ble_eq_true rfl) (pc' := 116) rfl (hb hby d2_115) ?_
  intro T10 h10 e10 W10 V10 X10
  have N10 := Fr.snoc X10 N8 ge3
  have Kp12 : Keep h0 h2 [] := (Kp5.ext E2)
  have Kp13 : Keep h0 h6 [] := (Kp12.wr W6 (Or.inr sz4))
  have Kp14 : Keep h0 h7 [] := (Kp13.wr W7 (Or.inr sz4))
  have Kp15 : Keep h0 h8 [] := (Kp14.wr W8 (Or.inr sz4))
  have Kp16 : Keep h0 h10 [] := (Kp15.wr W10 (Or.inr sz4))
  have Zn11 : n0 ≤ h10.size := Nat.le_trans Z0 Kp16.1
  have O17 := (O0.ext E1)
  have O18 := (O17.ext E2)
  have O19 := (O18.wr W6 ge3)
  have O20 := (O19.wr W7 ge3)
  have O21 := (O20.wr W8 ge3)
  have O22 := (O21.wr W10 ge3)
  have fk23 : Exa Z h10 b1 "java/lang/String" := (((((A1.ext E2).wr W6).wr W7).wr W8).wr W10)
  have ne24 : b1 ≠ b2 := Nat.ne_of_lt (Nat.lt_of_lt_of_le A1.lt (Nat.le_of_eq g2.symm))
  have fk25 : Fld Z h10 b1 "java/lang/String" "coder" "B" (.int 0) := (((((b1_coder.ext E2).other W6 (Or.inl ne24)).other W7 (Or.inl ne24)).other W8 (Or.inl ne24)).other W10 (Or.inl ne24))
  have fk26 : Fld Z h10 b1 "java/lang/String" "value" "[B" .null := (((((b1_value.ext E2).other W6 (Or.inl ne24)).other W7 (Or.inl ne24)).other W8 (Or.inl ne24)).other W10 (Or.inl ne24))
  have V27 : Arv Z h10 b2 k2 .char (4 : Int32) [(.int p0), (.int p1), (.int p2), (.int p3)] (.int 0) := V10
  have sz29 : h0.size ≤ b1 := Nat.le_trans (Keep.refl h0 []).1 (Nat.le_of_eq g1.symm)
  have ge28 : n0 ≤ b1 := Nat.le_trans Z0 sz29
  refine Go.callN X10 hx hZ hown rfl (tw_12 hw) (tw_13 hw) (tw_14 hw) (by decide) (tw_14 hw) (tw_10 hw) (au_87 l Z a0 hw b1 b2 k2 p0 p1 p2 p3 gz1 gv5 h10 n0 Zn11 O22 G fk23 fk25 fk26 V27 R_p0 R_p1 R_p2 R_p3 ge28) e10 (a := b1) (argsL := [(.ref b2)]) (rest := [(.ref b1)]) (pc' := 119) rfl (by rw [hml]; rfl) (lenOf pd_2 rfl) rfl rfl (W := 1) (Nat.le_of_eq rfl) (by decide) (by decide) (by decide) (by decide) (hb hby d2_116) ?_
  intro v30 T30 L30 q30 X30
  obtain ⟨h30, e30⟩ : ∃ z, T30.heap = z := ⟨_, rfl⟩
  rw [e30] at q30
  obtain ⟨z30_0, z30_1, z30_2, z30_3, b30_0, k30_0, d30_0, d30_1, d30_2, d30_3, rfl, N30, K30, s30_0, F30_0, F30_1, F30_2, F30_3, F30_4⟩ := q30
  show Go _ _ _ _ (T30.setTop (mkF m 119 #[.val (.int 4), .val (.int p0), .val (.int p1), .val (.int p2), .val (.int p3), .val (.int p4)] [(.ref b1)]))
  subst hFF
  refine Go.retR X30 hx hlk (t := (.object "java/lang/String")) hret rfl rfl (hb hby d2_119) (by decide) (by decide) ?_
  rw [e30]
  have Kp31 : Keep h0 h30 [] := (Kp16.trans K30 (allS (Or.inr sz29) all0))
  have sz32 : h0.size ≤ b30_0 := Nat.le_trans Kp16.1 s30_0
  have ne33 : b1 ≠ b30_0 := Nat.ne_of_lt (Nat.lt_of_lt_of_le fk23.lt s30_0)
  exact ⟨z30_0, z30_1, z30_2, z30_3, b1, b30_0, k30_0, d30_0, d30_1, d30_2, d30_3, rfl, (Fr.app N10 N30), Kp31, sz29, sz32, (Ne.symm ne33), F30_0, F30_1, F30_2, F30_3, F30_4⟩
-- java/lang/String.coder
set_option maxRecDepth 65536 in
set_option maxHeartbeats 4000000 in
theorem au_97 (l : Launch) (Z : State) (a0 : Array Value) (hw : ∀ d ∈ tables_1, d.before a0 Z = true) (x0 : Addr) (gz1 : Int32) (gv5 : Value) (h0 : Heap) (n0 : Nat) (Z0 : n0 ≤ h0.size) (O0 : Old Z n0 h0) (G : Glob Z gz1 gv5) (P1 : Fld Z h0 x0 "java/lang/String" "coder" "B" (.int 0)) :
    Ctr l Z (⟨"java/lang/String", "coder", "()B"⟩ : MethodName) jdk_42_method_152_code 1 (some .byte) ({ frames := 0, cells := 0, slots := 0, locals := 0 } : Room) #[(.ref x0)] h0 (fun v h L => v = some (.int 0) ∧ Fr n0 L ∧ h = h0) := by
  refine Ctr.of (plainFor_of_name pn_c1) ?_
  intro p e s m below meth c T0 hx hZ hby hml hown hnm hret hlk e0 es X0
  have G' := G
  obtain ⟨G0, -, G2, -⟩ := G'
  refine Go.cast (ef_10_R m x0) ?_
  generalize hFF : EndN s _ _ _ = FF
  have fk1 : Sta Z h0 "java/lang/String" "COMPACT_STRINGS" "Z" (.int gz1) := G0.ext O0.2
  refine Go.getS X0 hx hZ hown (host := "") (Or.inl (tw_55 hw)) Via.refl e0 fk1 (pc' := 3) rfl (hb hby d10_0) ?_
  intro T2 e2 X2
  refine Go.ifNo X2 hx (pc' := 6) rfl (hb hby d10_3) (feq G2).1 ?_
  refine Go.aloadN X2 hx (pc' := 7) rfl (hb hby d10_6) rfl rfl ?_
  refine Go.getF X2 hx hZ hown (host := "") (Or.inl (tw_29 hw)) Via.refl e2 P1 (pc' := 10) rfl (hb hby d10_7) ?_
  intro T3 e3 X3
  refine Go.goto X3 hx (pc' := 14) (hb hby d10_10) (by decide) (by decide) ?_
  subst hFF
  refine Go.retN X3 hx hlk (t := .byte) hret (by simp) (hb hby d10_14) (by decide) (by decide) ?_
  rw [e3]
  exact ⟨(congrArg (fun z => some (Value.int z)) (by decide : nar .byte (0 : Int32) = (0 : Int32))), (Fr.nil n0), rfl⟩
-- java/lang/String.length
set_option maxRecDepth 65536 in
set_option maxHeartbeats 4000000 in
theorem au_96 (l : Launch) (Z : State) (a0 : Array Value) (hw : ∀ d ∈ tables_1, d.before a0 Z = true) (x0 : Addr) (x1 : Addr) (kk0 : ClassId) (p0 : Int32) (p1 : Int32) (p2 : Int32) (p3 : Int32) (gz1 : Int32) (gv5 : Value) (h0 : Heap) (n0 : Nat) (Z0 : n0 ≤ h0.size) (O0 : Old Z n0 h0) (G : Glob Z gz1 gv5) (P0 : Exa Z h0 x0 "java/lang/String") (P1 : Fld Z h0 x0 "java/lang/String" "coder" "B" (.int 0)) (P2 : Fld Z h0 x0 "java/lang/String" "value" "[B" (.ref x1)) (P3 : Arv Z h0 x1 kk0 .byte (4 : Int32) [(.int p0), (.int p1), (.int p2), (.int p3)] (.int 0)) :
    Ctr l Z (⟨"java/lang/String", "length", "()I"⟩ : MethodName) jdk_42_method_54_code 1 (some .int) ({ frames := 1, cells := 0, slots := 0, locals := 13 } : Room) #[(.ref x0)] h0 (fun v h L => v = some (.int 4) ∧ Fr n0 L ∧ h = h0) := by
  refine Ctr.of (plainFor_of_name pn_c1) ?_
  intro p e s m below meth c T0 hx hZ hby hml hown hnm hret hlk e0 es X0
  refine Go.cast (ef_9_R m x0) ?_
  generalize hFF : EndN s _ _ _ = FF
  refine Go.aloadN X0 hx (pc' := 1) rfl (hb hby d9_0) rfl rfl ?_
  refine Go.getF X0 hx hZ hown (host := "") (Or.inl (tw_28 hw)) Via.refl e0 P2 (pc' := 4) rfl (hb hby d9_1) ?_
  intro T1 e1 X1
  refine Go.arraylength X1 hx hZ e1 P3 (pc' := 5) rfl (hb hby d9_4) ?_
  refine Go.aloadN X1 hx (pc' := 6) rfl (hb hby d9_5) rfl rfl ?_
  refine Go.callV X1 hx hZ hown (tw_50 hw) (tw_51 hw) (notFace_of_selects (args := #[]) (mvT hZ (tw_53 hw))) (tw_53 hw) (tw_52 hw) (by decide) (tw_54 hw) (tw_10 hw) (au_97 l Z a0 hw x0 gz1 gv5 h0 n0 Z0 O0 G P1) e1 P0 (argsL := []) (rest := [(.int 4)]) (pc' := 9) rfl (by rw [hml]; rfl) (lenOf pd_4 rfl) rfl rfl (W := 1) (Nat.le_of_eq rfl) (by decide) (by decide) (by decide) (by decide) (hb hby d9_6) ?_
  intro v2 T2 L2 q2 X2
  obtain ⟨rfl, N2, e2⟩ := q2
  show Go _ _ _ _ (T2.setTop (mkF m 9 #[.val (.ref x0)] [(.int 0), (.int 4)]))
  refine Go.ishr X2 hx (pc' := 10) rfl (hb hby d9_9) ?_
  rw [show ((4 : Int32) >>> ((0 : Int32) &&& 31)) = (4 : Int32) from by decide]
  subst hFF
  refine Go.retI X2 hx hlk hret (hb hby d9_10) (by decide) (by decide) ?_
  rw [e2]
  exact ⟨rfl, (Fr.app (Fr.nil n0) N2), rfl⟩
theorem d8_19 : decode jdk_42_method_75_code 19 = .ok (.aload_n 0, 1) := by decide +kernel
theorem d8_20 : decode jdk_42_method_75_code 20 = .ok (.getfield 9, 3) := by decide +kernel
theorem d8_23 : decode jdk_42_method_75_code 23 = .ok (.astore_n 3, 1) := by decide +kernel
theorem d8_24 : decode jdk_42_method_75_code 24 = .ok (.aload_n 1, 1) := by decide +kernel
theorem d8_25 : decode jdk_42_method_75_code 25 = .ok (.getfield 9, 3) := by decide +kernel
theorem d8_28 : decode jdk_42_method_75_code 28 = .ok (.astore 4, 2) := by decide +kernel
theorem d8_30 : decode jdk_42_method_75_code 30 = .ok (.iconst 0, 1) := by decide +kernel
theorem d8_31 : decode jdk_42_method_75_code 31 = .ok (.istore 5, 2) := by decide +kernel
theorem d8_33 : decode jdk_42_method_75_code 33 = .ok (.aload 4, 2) := by decide +kernel
theorem d8_35 : decode jdk_42_method_75_code 35 = .ok (.arraylength, 1) := by decide +kernel
theorem d8_36 : decode jdk_42_method_75_code 36 = .ok (.istore 6, 2) := by decide +kernel
theorem d8_38 : decode jdk_42_method_75_code 38 = .ok (.aload_n 0, 1) := by decide +kernel
theorem d8_39 : decode jdk_42_method_75_code 39 = .ok (.invokevirtual 335, 3) := by decide +kernel
theorem d8_42 : decode jdk_42_method_75_code 42 = .ok (.istore 7, 2) := by decide +kernel
theorem d8_44 : decode jdk_42_method_75_code 44 = .ok (.iload 7, 2) := by decide +kernel
theorem d8_46 : decode jdk_42_method_75_code 46 = .ok (.aload_n 1, 1) := by decide +kernel
theorem d8_47 : decode jdk_42_method_75_code 47 = .ok (.invokevirtual 335, 3) := by decide +kernel
theorem d8_50 : decode jdk_42_method_75_code 50 = .ok (.if_icmp .ne 32, 3) := by decide +kernel
theorem d8_53 : decode jdk_42_method_75_code 53 = .ok (.iload 7, 2) := by decide +kernel
theorem d8_55 : decode jdk_42_method_75_code 55 = .ok (.iconst 1, 1) := by decide +kernel
theorem d8_56 : decode jdk_42_method_75_code 56 = .ok (.if_icmp .ne 7, 3) := by decide +kernel
theorem d8_63 : decode jdk_42_method_75_code 63 = .ok (.aload_n 3, 1) := by decide +kernel
theorem d8_64 : decode jdk_42_method_75_code 64 = .ok (.iload_n 2, 1) := by decide +kernel
theorem d8_65 : decode jdk_42_method_75_code 65 = .ok (.aload 4, 2) := by decide +kernel
theorem d8_67 : decode jdk_42_method_75_code 67 = .ok (.iconst 0, 1) := by decide +kernel
theorem d8_68 : decode jdk_42_method_75_code 68 = .ok (.iload 6, 2) := by decide +kernel
theorem d27_0 : decode jdk_48_method_14_code 0 = .ok (.iconst 0, 1) := by decide +kernel
theorem d27_1 : decode jdk_48_method_14_code 1 = .ok (.istore 5, 2) := by decide +kernel
theorem d27_3 : decode jdk_48_method_14_code 3 = .ok (.iload 4, 2) := by decide +kernel
theorem d27_5 : decode jdk_48_method_14_code 5 = .ok (.bipush 7, 2) := by decide +kernel
theorem d27_7 : decode jdk_48_method_14_code 7 = .ok (.if_icmp .le 63, 3) := by decide +kernel
theorem d27_70 : decode jdk_48_method_14_code 70 = .ok (.iload 5, 2) := by decide +kernel
theorem d27_72 : decode jdk_48_method_14_code 72 = .ok (.iload 4, 2) := by decide +kernel
theorem d27_74 : decode jdk_48_method_14_code 74 = .ok (.if_icmp .ge 27, 3) := by decide +kernel
theorem d27_77 : decode jdk_48_method_14_code 77 = .ok (.aload_n 0, 1) := by decide +kernel
theorem d27_78 : decode jdk_48_method_14_code 78 = .ok (.iload_n 1, 1) := by decide +kernel
theorem d27_79 : decode jdk_48_method_14_code 79 = .ok (.iload 5, 2) := by decide +kernel
theorem d27_81 : decode jdk_48_method_14_code 81 = .ok (.iadd, 1) := by decide +kernel
theorem d27_82 : decode jdk_48_method_14_code 82 = .ok (.baload, 1) := by decide +kernel
theorem d27_83 : decode jdk_48_method_14_code 83 = .ok (.aload_n 2, 1) := by decide +kernel
theorem d27_84 : decode jdk_48_method_14_code 84 = .ok (.iload_n 3, 1) := by decide +kernel
theorem d27_85 : decode jdk_48_method_14_code 85 = .ok (.iload 5, 2) := by decide +kernel
theorem d27_87 : decode jdk_48_method_14_code 87 = .ok (.iadd, 1) := by decide +kernel
theorem d27_88 : decode jdk_48_method_14_code 88 = .ok (.baload, 1) := by decide +kernel
theorem d27_89 : decode jdk_48_method_14_code 89 = .ok (.if_icmp .eq 6, 3) := by decide +kernel
theorem d27_95 : decode jdk_48_method_14_code 95 = .ok (.iinc 5 1, 3) := by decide +kernel
theorem d27_98 : decode jdk_48_method_14_code 98 = .ok (.goto (-28), 3) := by decide +kernel
theorem d27_101 : decode jdk_48_method_14_code 101 = .ok (.iconst (-1), 1) := by decide +kernel
theorem d27_102 : decode jdk_48_method_14_code 102 = .ok (.ireturn, 1) := by decide +kernel
theorem d27_92 : decode jdk_48_method_14_code 92 = .ok (.iload 5, 2) := by decide +kernel
theorem d27_94 : decode jdk_48_method_14_code 94 = .ok (.ireturn, 1) := by decide +kernel
theorem ef_27_RIRII (m : MethodId) (x0 : Addr) (x1 : Int32) (x2 : Addr) (x3 : Int32) (x4 : Int32) : entryFrame m #[(.ref x0), (.int x1), (.ref x2), (.int x3), (.int x4)] 8 = mkF m 0 #[.val (.ref x0), .val (.int x1), .val (.ref x2), .val (.int x3), .val (.int x4), .unset, .unset, .unset] [] := by first | (simp [entryFrame, mkF, argsToLocals, Value.category]; done) | rfl
theorem pn_c7 : plainName "jdk/internal/util/ArraysSupport" = true := by first | (simp [plainName, overriddenIn]; done) | decide +kernel
-- jdk/internal/util/ArraysSupport.mismatch
set_option maxRecDepth 65536 in
set_option maxHeartbeats 4000000 in
theorem au_98 (l : Launch) (Z : State) (a0 : Array Value) (hw : ∀ d ∈ tables_1, d.before a0 Z = true) (x0 : Addr) (x1 : Addr) (kk0 : ClassId) (p0 : Int32) (p1 : Int32) (p2 : Int32) (p3 : Int32) (kk1 : ClassId) (p4 : Int32) (p5 : Int32) (p6 : Int32) (p7 : Int32) (h0 : Heap) (n0 : Nat) (Z0 : n0 ≤ h0.size) (P0 : Arv Z h0 x0 kk0 .byte (4 : Int32) [(.int p0), (.int p1), (.int p2), (.int p3)] (.int 0)) (P2 : Arv Z h0 x1 kk1 .byte (4 : Int32) [(.int 47), (.int 117), (.int 105), (.int 47)] (.int (0 : Int32))) (R_p4 : 0 ≤ p4.toInt ∧ p4.toInt ≤ 255) (R_p5 : 0 ≤ p5.toInt ∧ p5.toInt ≤ 255) (R_p6 : 0 ≤ p6.toInt ∧ p6.toInt ≤ 255) (R_p7 : 0 ≤ p7.toInt ∧ p7.toInt ≤ 255) (B_p0 : (p4.toInt8.toInt32) = p0) (B_p1 : (p5.toInt8.toInt32) = p1) (B_p2 : (p6.toInt8.toInt32) = p2) (B_p3 : (p7.toInt8.toInt32) = p3) :
    Ctr l Z (⟨"jdk/internal/util/ArraysSupport", "mismatch", "([BI[BII)I"⟩ : MethodName) jdk_48_method_14_code 8 (some .int) ({ frames := 0, cells := 0, slots := 0, locals := 0 } : Room) #[(.ref x0), (.int 0), (.ref x1), (.int 0), (.int 4)] h0 (fun v h L => (p4 = (47 : Int32) ∧ p5 = (117 : Int32) ∧ p6 = (105 : Int32) ∧ p7 = (47 : Int32) ∧ v = some (.int (-1)) ∧ Fr n0 L ∧ h = h0) ∨ (p4 = (47 : Int32) ∧ p5 = (117 : Int32) ∧ p6 = (105 : Int32) ∧ ¬ (p7 = (47 : Int32)) ∧ v = some (.int 3) ∧ Fr n0 L ∧ h = h0) ∨ (p4 = (47 : Int32) ∧ p5 = (117 : Int32) ∧ ¬ (p6 = (105 : Int32)) ∧ v = some (.int 2) ∧ Fr n0 L ∧ h = h0) ∨ (p4 = (47 : Int32) ∧ ¬ (p5 = (117 : Int32)) ∧ v = some (.int 1) ∧ Fr n0 L ∧ h = h0) ∨ (¬ (p4 = (47 : Int32)) ∧ v = some (.int 0) ∧ Fr n0 L ∧ h = h0)) := by
  refine Ctr.of (plainFor_of_name pn_c7) ?_
  intro p e s m below meth c T0 hx hZ hby hml hown hnm hret hlk e0 es X0
  refine Go.cast (ef_27_RIRII m x0 (0 : Int32) x1 (0 : Int32) (4 : Int32)) ?_
  generalize hFF : EndN s _ _ _ = FF
  refine Go.iconst X0 hx (pc' := 1) rfl (hb hby d27_0) (v := (0 : Int32)) rfl ?_
  refine Go.istore X0 hx (pc' := 3) rfl (hb hby d27_1) (Ls' := #[.val (.ref x0), .val (.int 0), .val (.ref x1), .val (.int 0), .val (.int 4), .val (.int 0), .unset, .unset]) rfl ?_
  refine Go.iload X0 hx (pc' := 5) rfl (hb hby d27_3) rfl ?_
  refine Go.bipush X0 hx (pc' := 7) rfl (hb hby d27_5) (v := (7 : Int32)) (by decide) ?_
  refine Go.icmpYes X0 hx (pc' := 70) (hb hby d27_7) (by decide) (by decide) (by decide) ?_
  refine Go.iload X0 hx (pc' := 72) rfl (hb hby d27_70) rfl ?_
  refine Go.iload X0 hx (pc' := 74) rfl (hb hby d27_72) rfl ?_
  refine Go.icmpNo X0 hx (pc' := 77) rfl (hb hby d27_74) (by decide) ?_
  refine Go.aloadN X0 hx (pc' := 78) rfl (hb hby d27_77) rfl rfl ?_
  refine Go.iloadN X0 hx (pc' := 79) rfl (hb hby d27_78) rfl ?_
  refine Go.iload X0 hx (pc' := 81) rfl (hb hby d27_79) rfl ?_
  refine Go.iadd X0 hx (pc' := 82) rfl (hb hby d27_81) ?_
  rw [show ((0 : Int32) + (0 : Int32)) = (0 : Int32) from by decide]
  refine Go.baload X0 hx hZ e0 P0 (v := (.int p0)) ⟨by decide, by decide⟩ rfl (pc' := 83) rfl (hb hby d27_82) ?_
  refine Go.aloadN X0 hx (pc' := 84) rfl (hb hby d27_83) rfl rfl ?_
  refine Go.iloadN X0 hx (pc' := 85) rfl (hb hby d27_84) rfl ?_
  refine Go.iload X0 hx (pc' := 87) rfl (hb hby d27_85) rfl ?_
  refine Go.iadd X0 hx (pc' := 88) rfl (hb hby d27_87) ?_
  rw [show ((0 : Int32) + (0 : Int32)) = (0 : Int32) from by decide]
  refine Go.baload X0 hx hZ e0 P2 (v := (.int 47)) ⟨by decide, by decide⟩ rfl (pc' := 89) rfl (hb hby d27_88) ?_
  by_cases hc1 : p4 = (47 : Int32)
  · refine Go.icmpYes X0 hx (pc' := 95) (hb hby d27_89) (teq (own_lat_eq B_p0 (by decide : ((47 : Int32)).toInt8.toInt32 = (47 : Int32)) hc1)).1 (by decide) (by decide) ?_
    refine Go.iinc X0 hx (pc' := 98) rfl (hb hby d27_95) rfl (y := (1 : Int32)) (by decide) (Ls' := #[.val (.ref x0), .val (.int 0), .val (.ref x1), .val (.int 0), .val (.int 4), .val (.int 1), .unset, .unset]) rfl ?_
    refine Go.goto X0 hx (pc' := 70) (hb hby d27_98) (by decide) (by decide) ?_
    refine Go.iload X0 hx (pc' := 72) rfl (hb hby d27_70) rfl ?_
    refine Go.iload X0 hx (pc' := 74) rfl (hb hby d27_72) rfl ?_
    refine Go.icmpNo X0 hx (pc' := 77) rfl (hb hby d27_74) (by decide) ?_
    refine Go.aloadN X0 hx (pc' := 78) rfl (hb hby d27_77) rfl rfl ?_
    refine Go.iloadN X0 hx (pc' := 79) rfl (hb hby d27_78) rfl ?_
    refine Go.iload X0 hx (pc' := 81) rfl (hb hby d27_79) rfl ?_
    refine Go.iadd X0 hx (pc' := 82) rfl (hb hby d27_81) ?_
    rw [show ((0 : Int32) + (1 : Int32)) = (1 : Int32) from by decide]
    refine Go.baload X0 hx hZ e0 P0 (v := (.int p1)) ⟨by decide, by decide⟩ rfl (pc' := 83) rfl (hb hby d27_82) ?_
    refine Go.aloadN X0 hx (pc' := 84) rfl (hb hby d27_83) rfl rfl ?_
    refine Go.iloadN X0 hx (pc' := 85) rfl (hb hby d27_84) rfl ?_
    refine Go.iload X0 hx (pc' := 87) rfl (hb hby d27_85) rfl ?_
    refine Go.iadd X0 hx (pc' := 88) rfl (hb hby d27_87) ?_
    rw [show ((0 : Int32) + (1 : Int32)) = (1 : Int32) from by decide]
    refine Go.baload X0 hx hZ e0 P2 (v := (.int 117)) ⟨by decide, by decide⟩ rfl (pc' := 89) rfl (hb hby d27_88) ?_
    by_cases hc2 : p5 = (117 : Int32)
    · refine Go.icmpYes X0 hx (pc' := 95) (hb hby d27_89) (teq (own_lat_eq B_p1 (by decide : ((117 : Int32)).toInt8.toInt32 = (117 : Int32)) hc2)).1 (by decide) (by decide) ?_
      refine Go.iinc X0 hx (pc' := 98) rfl (hb hby d27_95) rfl (y := (2 : Int32)) (by decide) (Ls' := #[.val (.ref x0), .val (.int 0), .val (.ref x1), .val (.int 0), .val (.int 4), .val (.int 2), .unset, .unset]) rfl ?_
      refine Go.goto X0 hx (pc' := 70) (hb hby d27_98) (by decide) (by decide) ?_
      refine Go.iload X0 hx (pc' := 72) rfl (hb hby d27_70) rfl ?_
      refine Go.iload X0 hx (pc' := 74) rfl (hb hby d27_72) rfl ?_
      refine Go.icmpNo X0 hx (pc' := 77) rfl (hb hby d27_74) (by decide) ?_
      refine Go.aloadN X0 hx (pc' := 78) rfl (hb hby d27_77) rfl rfl ?_
      refine Go.iloadN X0 hx (pc' := 79) rfl (hb hby d27_78) rfl ?_
      refine Go.iload X0 hx (pc' := 81) rfl (hb hby d27_79) rfl ?_
      refine Go.iadd X0 hx (pc' := 82) rfl (hb hby d27_81) ?_
      rw [show ((0 : Int32) + (2 : Int32)) = (2 : Int32) from by decide]
      refine Go.baload X0 hx hZ e0 P0 (v := (.int p2)) ⟨by decide, by decide⟩ rfl (pc' := 83) rfl (hb hby d27_82) ?_
      refine Go.aloadN X0 hx (pc' := 84) rfl (hb hby d27_83) rfl rfl ?_
      refine Go.iloadN X0 hx (pc' := 85) rfl (hb hby d27_84) rfl ?_
      refine Go.iload X0 hx (pc' := 87) rfl (hb hby d27_85) rfl ?_
      refine Go.iadd X0 hx (pc' := 88) rfl (hb hby d27_87) ?_
      rw [show ((0 : Int32) + (2 : Int32)) = (2 : Int32) from by decide]
      refine Go.baload X0 hx hZ e0 P2 (v := (.int 105)) ⟨by decide, by decide⟩ rfl (pc' := 89) rfl (hb hby d27_88) ?_
      by_cases hc3 : p6 = (105 : Int32)
      · refine Go.icmpYes X0 hx (pc' := 95) (hb hby d27_89) (teq (own_lat_eq B_p2 (by decide : ((105 : Int32)).toInt8.toInt32 = (105 : Int32)) hc3)).1 (by decide) (by decide) ?_
        refine Go.iinc X0 hx (pc' := 98) rfl (hb hby d27_95) rfl (y := (3 : Int32)) (by decide) (Ls' := #[.val (.ref x0), .val (.int 0), .val (.ref x1), .val (.int 0), .val (.int 4), .val (.int 3), .unset, .unset]) rfl ?_
        refine Go.goto X0 hx (pc' := 70) (hb hby d27_98) (by decide) (by decide) ?_
        refine Go.iload X0 hx (pc' := 72) rfl (hb hby d27_70) rfl ?_
        refine Go.iload X0 hx (pc' := 74) rfl (hb hby d27_72) rfl ?_
        refine Go.icmpNo X0 hx (pc' := 77) rfl (hb hby d27_74) (by decide) ?_
        refine Go.aloadN X0 hx (pc' := 78) rfl (hb hby d27_77) rfl rfl ?_
        refine Go.iloadN X0 hx (pc' := 79) rfl (hb hby d27_78) rfl ?_
        refine Go.iload X0 hx (pc' := 81) rfl (hb hby d27_79) rfl ?_
        refine Go.iadd X0 hx (pc' := 82) rfl (hb hby d27_81) ?_
        rw [show ((0 : Int32) + (3 : Int32)) = (3 : Int32) from by decide]
        refine Go.baload X0 hx hZ e0 P0 (v := (.int p3)) ⟨by decide, by decide⟩ rfl (pc' := 83) rfl (hb hby d27_82) ?_
        refine Go.aloadN X0 hx (pc' := 84) rfl (hb hby d27_83) rfl rfl ?_
        refine Go.iloadN X0 hx (pc' := 85) rfl (hb hby d27_84) rfl ?_
        refine Go.iload X0 hx (pc' := 87) rfl (hb hby d27_85) rfl ?_
        refine Go.iadd X0 hx (pc' := 88) rfl (hb hby d27_87) ?_
        rw [show ((0 : Int32) + (3 : Int32)) = (3 : Int32) from by decide]
        refine Go.baload X0 hx hZ e0 P2 (v := (.int 47)) ⟨by decide, by decide⟩ rfl (pc' := 89) rfl (hb hby d27_88) ?_
        by_cases hc4 : p7 = (47 : Int32)
        · refine Go.icmpYes X0 hx (pc' := 95) (hb hby d27_89) (teq (own_lat_eq B_p3 (by decide : ((47 : Int32)).toInt8.toInt32 = (47 : Int32)) hc4)).1 (by decide) (by decide) ?_
          refine Go.iinc X0 hx (pc' := 98) rfl (hb hby d27_95) rfl (y := (4 : Int32)) (by decide) (Ls' := #[.val (.ref x0), .val (.int 0), .val (.ref x1), .val (.int 0), .val (.int 4), .val (.int 4), .unset, .unset]) rfl ?_
          refine Go.goto X0 hx (pc' := 70) (hb hby d27_98) (by decide) (by decide) ?_
          refine Go.iload X0 hx (pc' := 72) rfl (hb hby d27_70) rfl ?_
          refine Go.iload X0 hx (pc' := 74) rfl (hb hby d27_72) rfl ?_
          refine Go.icmpYes X0 hx (pc' := 101) (hb hby d27_74) (by decide) (by decide) (by decide) ?_
          refine Go.iconst X0 hx (pc' := 102) rfl (hb hby d27_101) (v := (-1 : Int32)) rfl ?_
          subst hFF
          refine Go.retI X0 hx hlk hret (hb hby d27_102) (by decide) (by decide) ?_
          rw [e0]
          exact Or.inl ⟨hc1, hc2, hc3, hc4, rfl, (Fr.nil n0), rfl⟩
        · refine Go.icmpNo X0 hx (pc' := 92) rfl (hb hby d27_89) (feq (own_lat_ne B_p3 (by decide : ((47 : Int32)).toInt8.toInt32 = (47 : Int32)) R_p7 (own_rlit (n := 47) (by decide)) (by decide) hc4)).1 ?_
          refine Go.iload X0 hx (pc' := 94) rfl (hb hby d27_92) rfl ?_
          subst hFF
          refine Go.retI X0 hx hlk hret (hb hby d27_94) (by decide) (by decide) ?_
          rw [e0]
          exact Or.inr (Or.inl ⟨hc1, hc2, hc3, hc4, rfl, (Fr.nil n0), rfl⟩)
      · refine Go.icmpNo X0 hx (pc' := 92) rfl (hb hby d27_89) (feq (own_lat_ne B_p2 (by decide : ((105 : Int32)).toInt8.toInt32 = (105 : Int32)) R_p6 (own_rlit (n := 105) (by decide)) (by decide) hc3)).1 ?_
        refine Go.iload X0 hx (pc' := 94) rfl (hb hby d27_92) rfl ?_
        subst hFF
        refine Go.retI X0 hx hlk hret (hb hby d27_94) (by decide) (by decide) ?_
        rw [e0]
        exact Or.inr (Or.inr (Or.inl ⟨hc1, hc2, hc3, rfl, (Fr.nil n0), rfl⟩))
    · refine Go.icmpNo X0 hx (pc' := 92) rfl (hb hby d27_89) (feq (own_lat_ne B_p1 (by decide : ((117 : Int32)).toInt8.toInt32 = (117 : Int32)) R_p5 (own_rlit (n := 117) (by decide)) (by decide) hc2)).1 ?_
      refine Go.iload X0 hx (pc' := 94) rfl (hb hby d27_92) rfl ?_
      subst hFF
      refine Go.retI X0 hx hlk hret (hb hby d27_94) (by decide) (by decide) ?_
      rw [e0]
      exact Or.inr (Or.inr (Or.inr (Or.inl ⟨hc1, hc2, rfl, (Fr.nil n0), rfl⟩)))
  · refine Go.icmpNo X0 hx (pc' := 92) rfl (hb hby d27_89) (feq (own_lat_ne B_p0 (by decide : ((47 : Int32)).toInt8.toInt32 = (47 : Int32)) R_p4 (own_rlit (n := 47) (by decide)) (by decide) hc1)).1 ?_
    refine Go.iload X0 hx (pc' := 94) rfl (hb hby d27_92) rfl ?_
    subst hFF
    refine Go.retI X0 hx hlk hret (hb hby d27_94) (by decide) (by decide) ?_
    rw [e0]
    exact Or.inr (Or.inr (Or.inr (Or.inr (⟨hc1, rfl, (Fr.nil n0), rfl⟩))))
theorem pd_22 : parseMethodDescriptor "([BI[BII)I" = some ⟨[(.array .byte), .int, (.array .byte), .int, .int], some .int⟩ := by decide +kernel
theorem d8_70 : decode jdk_42_method_75_code 70 = .ok (.invokestatic 607, 3) := by decide +kernel
theorem d8_73 : decode jdk_42_method_75_code 73 = .ok (.ifCond .ge 7, 3) := by decide +kernel
theorem d8_76 : decode jdk_42_method_75_code 76 = .ok (.iconst 1, 1) := by decide +kernel
theorem d8_77 : decode jdk_42_method_75_code 77 = .ok (.goto 4, 3) := by decide +kernel
theorem d8_81 : decode jdk_42_method_75_code 81 = .ok (.ireturn, 1) := by decide +kernel
theorem d8_80 : decode jdk_42_method_75_code 80 = .ok (.iconst 0, 1) := by decide +kernel
-- java/lang/String.startsWith
set_option maxRecDepth 65536 in
set_option maxHeartbeats 4000000 in
theorem au_95 (l : Launch) (Z : State) (a0 : Array Value) (hw : ∀ d ∈ tables_1, d.before a0 Z = true) (x0 : Addr) (x1 : Addr) (x2 : Addr) (x3 : Addr) (kk0 : ClassId) (p0 : Int32) (p1 : Int32) (p2 : Int32) (p3 : Int32) (kk1 : ClassId) (p4 : Int32) (p5 : Int32) (p6 : Int32) (p7 : Int32) (gz1 : Int32) (gv5 : Value) (h0 : Heap) (n0 : Nat) (Z0 : n0 ≤ h0.size) (O0 : Old Z n0 h0) (G : Glob Z gz1 gv5) (P0 : Exa Z h0 x0 "java/lang/String") (P1 : Fld Z h0 x0 "java/lang/String" "coder" "B" (.int 0)) (P2 : Fld Z h0 x0 "java/lang/String" "value" "[B" (.ref x2)) (P3 : Exa Z h0 x1 "java/lang/String") (P4 : Fld Z h0 x1 "java/lang/String" "coder" "B" (.int 0)) (P5 : Fld Z h0 x1 "java/lang/String" "value" "[B" (.ref x3)) (P6 : Arv Z h0 x2 kk0 .byte (4 : Int32) [(.int p0), (.int p1), (.int p2), (.int p3)] (.int 0)) (P8 : Arv Z h0 x3 kk1 .byte (4 : Int32) [(.int 47), (.int 117), (.int 105), (.int 47)] (.int (0 : Int32))) (R_p4 : 0 ≤ p4.toInt ∧ p4.toInt ≤ 255) (R_p5 : 0 ≤ p5.toInt ∧ p5.toInt ≤ 255) (R_p6 : 0 ≤ p6.toInt ∧ p6.toInt ≤ 255) (R_p7 : 0 ≤ p7.toInt ∧ p7.toInt ≤ 255) (B_p0 : (p4.toInt8.toInt32) = p0) (B_p1 : (p5.toInt8.toInt32) = p1) (B_p2 : (p6.toInt8.toInt32) = p2) (B_p3 : (p7.toInt8.toInt32) = p3) :
    Ctr l Z (⟨"java/lang/String", "startsWith", "(Ljava/lang/String;I)Z"⟩ : MethodName) jdk_42_method_75_code 8 (some .boolean) ({ frames := 2, cells := 0, slots := 0, locals := 27 } : Room) #[(.ref x0), (.ref x1), (.int 0)] h0 (fun v h L => (p4 = (47 : Int32) ∧ p5 = (117 : Int32) ∧ p6 = (105 : Int32) ∧ p7 = (47 : Int32) ∧ v = some (.int 1) ∧ Fr n0 L ∧ h = h0) ∨ (p4 = (47 : Int32) ∧ p5 = (117 : Int32) ∧ p6 = (105 : Int32) ∧ ¬ (p7 = (47 : Int32)) ∧ v = some (.int 0) ∧ Fr n0 L ∧ h = h0) ∨ (p4 = (47 : Int32) ∧ p5 = (117 : Int32) ∧ ¬ (p6 = (105 : Int32)) ∧ v = some (.int 0) ∧ Fr n0 L ∧ h = h0) ∨ (p4 = (47 : Int32) ∧ ¬ (p5 = (117 : Int32)) ∧ v = some (.int 0) ∧ Fr n0 L ∧ h = h0) ∨ (¬ (p4 = (47 : Int32)) ∧ v = some (.int 0) ∧ Fr n0 L ∧ h = h0)) := by
  refine Ctr.of (plainFor_of_name pn_c1) ?_
  intro p e s m below meth c T0 hx hZ hby hml hown hnm hret hlk e0 es X0
  refine Go.cast (ef_8_RRI m x0 x1 (0 : Int32)) ?_
  generalize hFF : EndN s _ _ _ = FF
  refine Go.iloadN X0 hx (pc' := 1) rfl (hb hby d8_0) rfl ?_
  refine Go.ifNo X0 hx (pc' := 4) rfl (hb hby d8_1) (by decide) ?_
  refine Go.iloadN X0 hx (pc' := 5) rfl (hb hby d8_4) rfl ?_
  refine Go.aloadN X0 hx (pc' := 6) rfl (hb hby d8_5) rfl rfl ?_
  refine Go.callV X0 hx hZ hown (tw_45 hw) (tw_46 hw) (notFace_of_selects (args := #[]) (mvT hZ (tw_48 hw))) (tw_48 hw) (tw_47 hw) (by decide) (tw_49 hw) (tw_10 hw) (au_96 l Z a0 hw x0 x2 kk0 p0 p1 p2 p3 gz1 gv5 h0 n0 Z0 O0 G P0 P1 P2 P6) e0 P0 (argsL := []) (rest := [(.int 0)]) (pc' := 9) rfl (by rw [hml]; rfl) (lenOf pd_5 rfl) rfl rfl (W := 1) (Nat.le_of_eq rfl) (by decide) (by decide) (by decide) (by decide) (hb hby d8_6) ?_
  intro v1 T1 L1 q1 X1
  obtain ⟨rfl, N1, e1⟩ := q1
  show Go _ _ _ _ (T1.setTop (mkF m 9 #[.val (.ref x0), .val (.ref x1), .val (.int 0), .unset, .unset, .unset, .unset, .unset] [(.int 4), (.int 0)]))
  refine Go.aloadN X1 hx (pc' := 10) rfl (hb hby d8_9) rfl rfl ?_
  refine Go.callV X1 hx hZ hown (tw_45 hw) (tw_46 hw) (notFace_of_selects (args := #[]) (mvT hZ (tw_48 hw))) (tw_48 hw) (tw_47 hw) (by decide) (tw_49 hw) (tw_10 hw) (au_14 l Z a0 hw x1 x3 kk1 gz1 gv5 h0 n0 Z0 O0 G P3 P4 P5 P8) e1 P3 (argsL := []) (rest := [(.int 4), (.int 0)]) (pc' := 13) rfl (by rw [hml]; rfl) (lenOf pd_5 rfl) rfl rfl (W := 2) (Nat.le_of_eq rfl) (by decide) (by decide) (by decide) (by decide) (hb hby d8_10) ?_
  intro v2 T2 L2 q2 X2
  obtain ⟨rfl, N2, e2⟩ := q2
  show Go _ _ _ _ (T2.setTop (mkF m 13 #[.val (.ref x0), .val (.ref x1), .val (.int 0), .unset, .unset, .unset, .unset, .unset] [(.int 4), (.int 4), (.int 0)]))
  refine Go.isub X2 hx (pc' := 14) rfl (hb hby d8_13) ?_
  rw [show ((4 : Int32) - (4 : Int32)) = (0 : Int32) from by decide]
  refine Go.icmpYes X2 hx (pc' := 19) (hb hby d8_14) (by decide) (by decide) (by decide) ?_
  refine Go.aloadN X2 hx (pc' := 20) rfl (hb hby d8_19) rfl rfl ?_
  refine Go.getF X2 hx hZ hown (host := "") (Or.inl (tw_28 hw)) Via.refl e2 P2 (pc' := 23) rfl (hb hby d8_20) ?_
  intro T3 e3 X3
  refine Go.astoreN X3 hx (pc' := 24) rfl (hb hby d8_23) (Ls' := #[.val (.ref x0), .val (.ref x1), .val (.int 0), .val (.ref x2), .unset, .unset, .unset, .unset]) rfl rfl ?_
  refine Go.aloadN X3 hx (pc' := 25) rfl (hb hby d8_24) rfl rfl ?_
  refine Go.getF X3 hx hZ hown (host := "") (Or.inl (tw_28 hw)) Via.refl e3 P5 (pc' := 28) rfl (hb hby d8_25) ?_
  intro T4 e4 X4
  refine Go.astore X4 hx (pc' := 30) rfl (hb hby d8_28) (Ls' := #[.val (.ref x0), .val (.ref x1), .val (.int 0), .val (.ref x2), .val (.ref x3), .unset, .unset, .unset]) rfl rfl ?_
  refine Go.iconst X4 hx (pc' := 31) rfl (hb hby d8_30) (v := (0 : Int32)) rfl ?_
  refine Go.istore X4 hx (pc' := 33) rfl (hb hby d8_31) (Ls' := #[.val (.ref x0), .val (.ref x1), .val (.int 0), .val (.ref x2), .val (.ref x3), .val (.int 0), .unset, .unset]) rfl ?_
  refine Go.aload X4 hx (pc' := 35) rfl (hb hby d8_33) rfl rfl ?_
  refine Go.arraylength X4 hx hZ e4 P8 (pc' := 36) rfl (hb hby d8_35) ?_
  refine Go.istore X4 hx (pc' := 38) rfl (hb hby d8_36) (Ls' := #[.val (.ref x0), .val (.ref x1), .val (.int 0), .val (.ref x2), .val (.ref x3), .val (.int 0), .val (.int 4), .unset]) rfl ?_
  refine Go.aloadN X4 hx (pc' := 39) rfl (hb hby d8_38) rfl rfl ?_
  refine Go.callV X4 hx hZ hown (tw_50 hw) (tw_51 hw) (notFace_of_selects (args := #[]) (mvT hZ (tw_53 hw))) (tw_53 hw) (tw_52 hw) (by decide) (tw_54 hw) (tw_10 hw) (au_97 l Z a0 hw x0 gz1 gv5 h0 n0 Z0 O0 G P1) e4 P0 (argsL := []) (rest := []) (pc' := 42) rfl (by rw [hml]; rfl) (lenOf pd_4 rfl) rfl rfl (W := 0) (Nat.le_of_eq rfl) (by decide) (by decide) (by decide) (by decide) (hb hby d8_39) ?_
  intro v5 T5 L5 q5 X5
  obtain ⟨rfl, N5, e5⟩ := q5
  show Go _ _ _ _ (T5.setTop (mkF m 42 #[.val (.ref x0), .val (.ref x1), .val (.int 0), .val (.ref x2), .val (.ref x3), .val (.int 0), .val (.int 4), .unset] [(.int 0)]))
  refine Go.istore X5 hx (pc' := 44) rfl (hb hby d8_42) (Ls' := #[.val (.ref x0), .val (.ref x1), .val (.int 0), .val (.ref x2), .val (.ref x3), .val (.int 0), .val (.int 4), .val (.int 0)]) rfl ?_
  refine Go.iload X5 hx (pc' := 46) rfl (hb hby d8_44) rfl ?_
  refine Go.aloadN X5 hx (pc' := 47) rfl (hb hby d8_46) rfl rfl ?_
  refine Go.callV X5 hx hZ hown (tw_50 hw) (tw_51 hw) (notFace_of_selects (args := #[]) (mvT hZ (tw_53 hw))) (tw_53 hw) (tw_52 hw) (by decide) (tw_54 hw) (tw_10 hw) (au_15 l Z a0 hw x1 gz1 gv5 h0 n0 Z0 O0 G P4) e5 P3 (argsL := []) (rest := [(.int 0)]) (pc' := 50) rfl (by rw [hml]; rfl) (lenOf pd_4 rfl) rfl rfl (W := 1) (Nat.le_of_eq rfl) (by decide) (by decide) (by decide) (by decide) (hb hby d8_47) ?_
  intro v6 T6 L6 q6 X6
  obtain ⟨rfl, N6, e6⟩ := q6
  show Go _ _ _ _ (T6.setTop (mkF m 50 #[.val (.ref x0), .val (.ref x1), .val (.int 0), .val (.ref x2), .val (.ref x3), .val (.int 0), .val (.int 4), .val (.int 0)] [(.int 0), (.int 0)]))
  refine Go.icmpNo X6 hx (pc' := 53) rfl (hb hby d8_50) (by decide) ?_
  refine Go.iload X6 hx (pc' := 55) rfl (hb hby d8_53) rfl ?_
  refine Go.iconst X6 hx (pc' := 56) rfl (hb hby d8_55) (v := (1 : Int32)) rfl ?_
  refine Go.icmpYes X6 hx (pc' := 63) (hb hby d8_56) (by decide) (by decide) (by decide) ?_
  refine Go.aloadN X6 hx (pc' := 64) rfl (hb hby d8_63) rfl rfl ?_
  refine Go.iloadN X6 hx (pc' := 65) rfl (hb hby d8_64) rfl ?_
  refine Go.aload X6 hx (pc' := 67) rfl (hb hby d8_65) rfl rfl ?_
  refine Go.iconst X6 hx (pc' := 68) rfl (hb hby d8_67) (v := (0 : Int32)) rfl ?_
  refine Go.iload X6 hx (pc' := 70) rfl (hb hby d8_68) rfl ?_
  refine Go.callS X6 hx hZ hown (tw_124 hw) (tw_125 hw) (tw_126 hw) (tw_127 hw) (by decide) (tw_127 hw) (tw_126 hw) (au_98 l Z a0 hw x2 x3 kk0 p0 p1 p2 p3 kk1 p4 p5 p6 p7 h0 n0 Z0 P6 P8 R_p4 R_p5 R_p6 R_p7 B_p0 B_p1 B_p2 B_p3) e6 (argsL := [(.ref x2), (.int 0), (.ref x3), (.int 0), (.int 4)]) (rest := []) (pc' := 73) rfl (by rw [hml]; rfl) (lenOf pd_22 rfl) rfl rfl (W := 0) (Nat.le_of_eq rfl) (by decide) (by decide) (by decide) (by decide) (hb hby d8_70) ?_
  intro v7 T7 L7 q7 X7
  rcases q7 with ⟨c7_0_0, c7_0_1, c7_0_2, c7_0_3, rfl, N7_0, e7_0⟩ | ⟨c7_1_0, c7_1_1, c7_1_2, c7_1_3, rfl, N7_1, e7_1⟩ | ⟨c7_2_0, c7_2_1, c7_2_2, rfl, N7_2, e7_2⟩ | ⟨c7_3_0, c7_3_1, rfl, N7_3, e7_3⟩ | ⟨c7_4_0, rfl, N7_4, e7_4⟩
  · show Go _ _ _ _ (T7.setTop (mkF m 73 #[.val (.ref x0), .val (.ref x1), .val (.int 0), .val (.ref x2), .val (.ref x3), .val (.int 0), .val (.int 4), .val (.int 0)] [(.int (-1))]))
    refine Go.ifNo X7 hx (pc' := 76) rfl (hb hby d8_73) (by decide) ?_
    refine Go.iconst X7 hx (pc' := 77) rfl (hb hby d8_76) (v := (1 : Int32)) rfl ?_
    refine Go.goto X7 hx (pc' := 81) (hb hby d8_77) (by decide) (by decide) ?_
    subst hFF
    refine Go.retN X7 hx hlk (t := .boolean) hret (by simp) (hb hby d8_81) (by decide) (by decide) ?_
    rw [e7_0]
    exact Or.inl ⟨c7_0_0, c7_0_1, c7_0_2, c7_0_3, (congrArg (fun z => some (Value.int z)) (by decide : nar .boolean (1 : Int32) = (1 : Int32))), (Fr.app (Fr.app (Fr.app (Fr.app (Fr.app (Fr.nil n0) N1) N2) N5) N6) N7_0), rfl⟩
  · show Go _ _ _ _ (T7.setTop (mkF m 73 #[.val (.ref x0), .val (.ref x1), .val (.int 0), .val (.ref x2), .val (.ref x3), .val (.int 0), .val (.int 4), .val (.int 0)] [(.int 3)]))
    refine Go.ifYes X7 hx (pc' := 80) (hb hby d8_73) (by decide) (by decide) (by decide) ?_
    refine Go.iconst X7 hx (pc' := 81) rfl (hb hby d8_80) (v := (0 : Int32)) rfl ?_
    subst hFF
    refine Go.retN X7 hx hlk (t := .boolean) hret (by simp) (hb hby d8_81) (by decide) (by decide) ?_
    rw [e7_1]
    exact Or.inr (Or.inl ⟨c7_1_0, c7_1_1, c7_1_2, c7_1_3, (congrArg (fun z => some (Value.int z)) (by decide : nar .boolean (0 : Int32) = (0 : Int32))), (Fr.app (Fr.app (Fr.app (Fr.app (Fr.app (Fr.nil n0) N1) N2) N5) N6) N7_1), rfl⟩)
  · show Go _ _ _ _ (T7.setTop (mkF m 73 #[.val (.ref x0), .val (.ref x1), .val (.int 0), .val (.ref x2), .val (.ref x3), .val (.int 0), .val (.int 4), .val (.int 0)] [(.int 2)]))
    refine Go.ifYes X7 hx (pc' := 80) (hb hby d8_73) (by decide) (by decide) (by decide) ?_
    refine Go.iconst X7 hx (pc' := 81) rfl (hb hby d8_80) (v := (0 : Int32)) rfl ?_
    subst hFF
    refine Go.retN X7 hx hlk (t := .boolean) hret (by simp) (hb hby d8_81) (by decide) (by decide) ?_
    rw [e7_2]
    exact Or.inr (Or.inr (Or.inl ⟨c7_2_0, c7_2_1, c7_2_2, (congrArg (fun z => some (Value.int z)) (by decide : nar .boolean (0 : Int32) = (0 : Int32))), (Fr.app (Fr.app (Fr.app (Fr.app (Fr.app (Fr.nil n0) N1) N2) N5) N6) N7_2), rfl⟩))
  · show Go _ _ _ _ (T7.setTop (mkF m 73 #[.val (.ref x0), .val (.ref x1), .val (.int 0), .val (.ref x2), .val (.ref x3), .val (.int 0), .val (.int 4), .val (.int 0)] [(.int 1)]))
    refine Go.ifYes X7 hx (pc' := 80) (hb hby d8_73) (by decide) (by decide) (by decide) ?_
    refine Go.iconst X7 hx (pc' := 81) rfl (hb hby d8_80) (v := (0 : Int32)) rfl ?_
    subst hFF
    refine Go.retN X7 hx hlk (t := .boolean) hret (by simp) (hb hby d8_81) (by decide) (by decide) ?_
    rw [e7_3]
    exact Or.inr (Or.inr (Or.inr (Or.inl ⟨c7_3_0, c7_3_1, (congrArg (fun z => some (Value.int z)) (by decide : nar .boolean (0 : Int32) = (0 : Int32))), (Fr.app (Fr.app (Fr.app (Fr.app (Fr.app (Fr.nil n0) N1) N2) N5) N6) N7_3), rfl⟩)))
  · show Go _ _ _ _ (T7.setTop (mkF m 73 #[.val (.ref x0), .val (.ref x1), .val (.int 0), .val (.ref x2), .val (.ref x3), .val (.int 0), .val (.int 4), .val (.int 0)] [(.int 0)]))
    refine Go.ifYes X7 hx (pc' := 80) (hb hby d8_73) (by decide) (by decide) (by decide) ?_
    refine Go.iconst X7 hx (pc' := 81) rfl (hb hby d8_80) (v := (0 : Int32)) rfl ?_
    subst hFF
    refine Go.retN X7 hx hlk (t := .boolean) hret (by simp) (hb hby d8_81) (by decide) (by decide) ?_
    rw [e7_4]
    exact Or.inr (Or.inr (Or.inr (Or.inr (⟨c7_4_0, (congrArg (fun z => some (Value.int z)) (by decide : nar .boolean (0 : Int32) = (0 : Int32))), (Fr.app (Fr.app (Fr.app (Fr.app (Fr.app (Fr.nil n0) N1) N2) N5) N6) N7_4), rfl⟩))))
-- java/lang/String.startsWith
set_option maxRecDepth 65536 in
set_option maxHeartbeats 4000000 in
theorem au_94 (l : Launch) (Z : State) (a0 : Array Value) (hw : ∀ d ∈ tables_1, d.before a0 Z = true) (x0 : Addr) (x1 : Addr) (x2 : Addr) (x3 : Addr) (kk0 : ClassId) (p0 : Int32) (p1 : Int32) (p2 : Int32) (p3 : Int32) (kk1 : ClassId) (p4 : Int32) (p5 : Int32) (p6 : Int32) (p7 : Int32) (gz1 : Int32) (gv5 : Value) (h0 : Heap) (n0 : Nat) (Z0 : n0 ≤ h0.size) (O0 : Old Z n0 h0) (G : Glob Z gz1 gv5) (P0 : Exa Z h0 x0 "java/lang/String") (P1 : Fld Z h0 x0 "java/lang/String" "coder" "B" (.int 0)) (P2 : Fld Z h0 x0 "java/lang/String" "value" "[B" (.ref x2)) (P3 : Exa Z h0 x1 "java/lang/String") (P4 : Fld Z h0 x1 "java/lang/String" "coder" "B" (.int 0)) (P5 : Fld Z h0 x1 "java/lang/String" "value" "[B" (.ref x3)) (P6 : Arv Z h0 x2 kk0 .byte (4 : Int32) [(.int p0), (.int p1), (.int p2), (.int p3)] (.int 0)) (P8 : Arv Z h0 x3 kk1 .byte (4 : Int32) [(.int 47), (.int 117), (.int 105), (.int 47)] (.int (0 : Int32))) (R_p4 : 0 ≤ p4.toInt ∧ p4.toInt ≤ 255) (R_p5 : 0 ≤ p5.toInt ∧ p5.toInt ≤ 255) (R_p6 : 0 ≤ p6.toInt ∧ p6.toInt ≤ 255) (R_p7 : 0 ≤ p7.toInt ∧ p7.toInt ≤ 255) (B_p0 : (p4.toInt8.toInt32) = p0) (B_p1 : (p5.toInt8.toInt32) = p1) (B_p2 : (p6.toInt8.toInt32) = p2) (B_p3 : (p7.toInt8.toInt32) = p3) :
    Ctr l Z (⟨"java/lang/String", "startsWith", "(Ljava/lang/String;)Z"⟩ : MethodName) jdk_42_method_76_code 2 (some .boolean) ({ frames := 3, cells := 0, slots := 0, locals := 46 } : Room) #[(.ref x0), (.ref x1)] h0 (fun v h L => (p4 = (47 : Int32) ∧ p5 = (117 : Int32) ∧ p6 = (105 : Int32) ∧ p7 = (47 : Int32) ∧ v = some (.int 1) ∧ Fr n0 L ∧ h = h0) ∨ (p4 = (47 : Int32) ∧ p5 = (117 : Int32) ∧ p6 = (105 : Int32) ∧ ¬ (p7 = (47 : Int32)) ∧ v = some (.int 0) ∧ Fr n0 L ∧ h = h0) ∨ (p4 = (47 : Int32) ∧ p5 = (117 : Int32) ∧ ¬ (p6 = (105 : Int32)) ∧ v = some (.int 0) ∧ Fr n0 L ∧ h = h0) ∨ (p4 = (47 : Int32) ∧ ¬ (p5 = (117 : Int32)) ∧ v = some (.int 0) ∧ Fr n0 L ∧ h = h0) ∨ (¬ (p4 = (47 : Int32)) ∧ v = some (.int 0) ∧ Fr n0 L ∧ h = h0)) := by
  refine Ctr.of (plainFor_of_name pn_c1) ?_
  intro p e s m below meth c T0 hx hZ hby hml hown hnm hret hlk e0 es X0
  refine Go.cast (ef_7_RR m x0 x1) ?_
  generalize hFF : EndN s _ _ _ = FF
  refine Go.aloadN X0 hx (pc' := 1) rfl (hb hby d7_0) rfl rfl ?_
  refine Go.aloadN X0 hx (pc' := 2) rfl (hb hby d7_1) rfl rfl ?_
  refine Go.iconst X0 hx (pc' := 3) rfl (hb hby d7_2) (v := (0 : Int32)) rfl ?_
  refine Go.callV X0 hx hZ hown (tw_40 hw) (tw_41 hw) (notFace_of_selects (args := #[]) (mvT hZ (tw_43 hw))) (tw_43 hw) (tw_42 hw) (by decide) (tw_44 hw) (tw_10 hw) (au_95 l Z a0 hw x0 x1 x2 x3 kk0 p0 p1 p2 p3 kk1 p4 p5 p6 p7 gz1 gv5 h0 n0 Z0 O0 G P0 P1 P2 P3 P4 P5 P6 P8 R_p4 R_p5 R_p6 R_p7 B_p0 B_p1 B_p2 B_p3) e0 P0 (argsL := [(.ref x1), (.int 0)]) (rest := []) (pc' := 6) rfl (by rw [hml]; rfl) (lenOf pd_6 rfl) rfl rfl (W := 0) (Nat.le_of_eq rfl) (by decide) (by decide) (by decide) (by decide) (hb hby d7_3) ?_
  intro v1 T1 L1 q1 X1
  rcases q1 with ⟨c1_0_0, c1_0_1, c1_0_2, c1_0_3, rfl, N1_0, e1_0⟩ | ⟨c1_1_0, c1_1_1, c1_1_2, c1_1_3, rfl, N1_1, e1_1⟩ | ⟨c1_2_0, c1_2_1, c1_2_2, rfl, N1_2, e1_2⟩ | ⟨c1_3_0, c1_3_1, rfl, N1_3, e1_3⟩ | ⟨c1_4_0, rfl, N1_4, e1_4⟩
  · show Go _ _ _ _ (T1.setTop (mkF m 6 #[.val (.ref x0), .val (.ref x1)] [(.int 1)]))
    subst hFF
    refine Go.retN X1 hx hlk (t := .boolean) hret (by simp) (hb hby d7_6) (by decide) (by decide) ?_
    rw [e1_0]
    exact Or.inl ⟨c1_0_0, c1_0_1, c1_0_2, c1_0_3, (congrArg (fun z => some (Value.int z)) (by decide : nar .boolean (1 : Int32) = (1 : Int32))), (Fr.app (Fr.nil n0) N1_0), rfl⟩
  · show Go _ _ _ _ (T1.setTop (mkF m 6 #[.val (.ref x0), .val (.ref x1)] [(.int 0)]))
    subst hFF
    refine Go.retN X1 hx hlk (t := .boolean) hret (by simp) (hb hby d7_6) (by decide) (by decide) ?_
    rw [e1_1]
    exact Or.inr (Or.inl ⟨c1_1_0, c1_1_1, c1_1_2, c1_1_3, (congrArg (fun z => some (Value.int z)) (by decide : nar .boolean (0 : Int32) = (0 : Int32))), (Fr.app (Fr.nil n0) N1_1), rfl⟩)
  · show Go _ _ _ _ (T1.setTop (mkF m 6 #[.val (.ref x0), .val (.ref x1)] [(.int 0)]))
    subst hFF
    refine Go.retN X1 hx hlk (t := .boolean) hret (by simp) (hb hby d7_6) (by decide) (by decide) ?_
    rw [e1_2]
    exact Or.inr (Or.inr (Or.inl ⟨c1_2_0, c1_2_1, c1_2_2, (congrArg (fun z => some (Value.int z)) (by decide : nar .boolean (0 : Int32) = (0 : Int32))), (Fr.app (Fr.nil n0) N1_2), rfl⟩))
  · show Go _ _ _ _ (T1.setTop (mkF m 6 #[.val (.ref x0), .val (.ref x1)] [(.int 0)]))
    subst hFF
    refine Go.retN X1 hx hlk (t := .boolean) hret (by simp) (hb hby d7_6) (by decide) (by decide) ?_
    rw [e1_3]
    exact Or.inr (Or.inr (Or.inr (Or.inl ⟨c1_3_0, c1_3_1, (congrArg (fun z => some (Value.int z)) (by decide : nar .boolean (0 : Int32) = (0 : Int32))), (Fr.app (Fr.nil n0) N1_3), rfl⟩)))
  · show Go _ _ _ _ (T1.setTop (mkF m 6 #[.val (.ref x0), .val (.ref x1)] [(.int 0)]))
    subst hFF
    refine Go.retN X1 hx hlk (t := .boolean) hret (by simp) (hb hby d7_6) (by decide) (by decide) ?_
    rw [e1_4]
    exact Or.inr (Or.inr (Or.inr (Or.inr (⟨c1_4_0, (congrArg (fun z => some (Value.int z)) (by decide : nar .boolean (0 : Int32) = (0 : Int32))), (Fr.app (Fr.nil n0) N1_4), rfl⟩))))
-- java/lang/StringLatin1.equals
set_option maxRecDepth 65536 in
set_option maxHeartbeats 4000000 in
theorem au_102 (l : Launch) (Z : State) (a0 : Array Value) (hw : ∀ d ∈ tables_1, d.before a0 Z = true) (x0 : Addr) (x1 : Addr) (kk0 : ClassId) (p0 : Int32) (p1 : Int32) (p2 : Int32) (p3 : Int32) (kk1 : ClassId) (h0 : Heap) (n0 : Nat) (Z0 : n0 ≤ h0.size) (P0 : Arv Z h0 x0 kk0 .byte (4 : Int32) [(.int p0), (.int p1), (.int p2), (.int p3)] (.int 0)) (P2 : Arv Z h0 x1 kk1 .byte (1 : Int32) [(.int 47)] (.int (0 : Int32))) :
    Ctr l Z (⟨"java/lang/StringLatin1", "equals", "([B[B)Z"⟩ : MethodName) jdk_43_method_13_code 3 (some .boolean) ({ frames := 0, cells := 0, slots := 0, locals := 0 } : Room) #[(.ref x0), (.ref x1)] h0 (fun v h L => v = some (.int 0) ∧ Fr n0 L ∧ h = h0) := by
  refine Ctr.of (plainFor_of_name pn_c2) ?_
  intro p e s m below meth c T0 hx hZ hby hml hown hnm hret hlk e0 es X0
  refine Go.cast (ef_13_RR m x0 x1) ?_
  generalize hFF : EndN s _ _ _ = FF
  refine Go.aloadN X0 hx (pc' := 1) rfl (hb hby d13_0) rfl rfl ?_
  refine Go.arraylength X0 hx hZ e0 P0 (pc' := 2) rfl (hb hby d13_1) ?_
  refine Go.aloadN X0 hx (pc' := 3) rfl (hb hby d13_2) rfl rfl ?_
  refine Go.arraylength X0 hx hZ e0 P2 (pc' := 4) rfl (hb hby d13_3) ?_
  refine Go.icmpYes X0 hx (pc' := 34) (hb hby d13_4) (by decide) (by decide) (by decide) ?_
  refine Go.iconst X0 hx (pc' := 35) rfl (hb hby d13_34) (v := (0 : Int32)) rfl ?_
  subst hFF
  refine Go.retN X0 hx hlk (t := .boolean) hret (by simp) (hb hby d13_35) (by decide) (by decide) ?_
  rw [e0]
  exact ⟨(congrArg (fun z => some (Value.int z)) (by decide : nar .boolean (0 : Int32) = (0 : Int32))), (Fr.nil n0), rfl⟩
-- java/lang/String.equals
set_option maxRecDepth 65536 in
set_option maxHeartbeats 4000000 in
theorem au_101 (l : Launch) (Z : State) (a0 : Array Value) (hw : ∀ d ∈ tables_1, d.before a0 Z = true) (x0 : Addr) (x1 : Addr) (x2 : Addr) (x3 : Addr) (kk0 : ClassId) (p0 : Int32) (p1 : Int32) (p2 : Int32) (p3 : Int32) (kk1 : ClassId) (gz1 : Int32) (gv5 : Value) (h0 : Heap) (n0 : Nat) (Z0 : n0 ≤ h0.size) (O0 : Old Z n0 h0) (G : Glob Z gz1 gv5) (P1 : Fld Z h0 x0 "java/lang/String" "coder" "B" (.int 0)) (P2 : Fld Z h0 x0 "java/lang/String" "value" "[B" (.ref x2)) (P3 : Exa Z h0 x1 "java/lang/String") (P4 : Fld Z h0 x1 "java/lang/String" "coder" "B" (.int 0)) (P5 : Fld Z h0 x1 "java/lang/String" "value" "[B" (.ref x3)) (P6 : Arv Z h0 x2 kk0 .byte (4 : Int32) [(.int p0), (.int p1), (.int p2), (.int p3)] (.int 0)) (P8 : Arv Z h0 x3 kk1 .byte (1 : Int32) [(.int 47)] (.int (0 : Int32))) (ne_x0_x1 : x0 ≠ x1) :
    Ctr l Z (⟨"java/lang/String", "equals", "(Ljava/lang/Object;)Z"⟩ : MethodName) jdk_42_method_66_code 3 (some .boolean) ({ frames := 1, cells := 0, slots := 0, locals := 14 } : Room) #[(.ref x0), (.ref x1)] h0 (fun v h L => v = some (.int 0) ∧ Fr n0 L ∧ h = h0) := by
  refine Ctr.of (plainFor_of_name pn_c1) ?_
  intro p e s m below meth c T0 hx hZ hby hml hown hnm hret hlk e0 es X0
  have G' := G
  obtain ⟨G0, -, G2, -⟩ := G'
  refine Go.cast (ef_12_RR m x0 x1) ?_
  generalize hFF : EndN s _ _ _ = FF
  refine Go.aloadN X0 hx (pc' := 1) rfl (hb hby d12_0) rfl rfl ?_
  refine Go.aloadN X0 hx (pc' := 2) rfl (hb hby d12_1) rfl rfl ?_
  refine Go.acmp X0 hx (pc' := 7) (same := false) (hb hby d12_2) rfl rfl (decide_eq_false (fun q => ne_x0_x1 (Value.ref.inj q))) (by decide) (by decide) ?_
  refine Go.aloadN X0 hx (pc' := 8) rfl (hb hby d12_7) rfl rfl ?_
  refine Go.instY X0 hx hZ hown (tw_65 hw) e0 (Ins.self P3) (pc' := 11) rfl (hb hby d12_8) ?_
  intro T1 e1 X1
  refine Go.ifNo X1 hx (pc' := 14) rfl (hb hby d12_11) (by decide) ?_
  refine Go.aloadN X1 hx (pc' := 15) rfl (hb hby d12_14) rfl rfl ?_
  refine Go.castY X1 hx hZ hown (tw_65 hw) e1 (Ins.self P3) (pc' := 18) rfl (hb hby d12_15) ?_
  intro T2 e2 X2
  refine Go.astoreN X2 hx (pc' := 19) rfl (hb hby d12_18) (Ls' := #[.val (.ref x0), .val (.ref x1), .val (.ref x1)]) rfl rfl ?_
  have fk3 : Sta Z h0 "java/lang/String" "COMPACT_STRINGS" "Z" (.int gz1) := G0.ext O0.2
  refine Go.getS X2 hx hZ hown (host := "") (Or.inl (tw_55 hw)) Via.refl e2 fk3 (pc' := 22) rfl (hb hby d12_19) ?_
  intro T4 e4 X4
  refine Go.ifNo X4 hx (pc' := 25) rfl (hb hby d12_22) (feq G2).1 ?_
  refine Go.aloadN X4 hx (pc' := 26) rfl (hb hby d12_25) rfl rfl ?_
  refine Go.getF X4 hx hZ hown (host := "") (Or.inl (tw_29 hw)) Via.refl e4 P1 (pc' := 29) rfl (hb hby d12_26) ?_
  intro T5 e5 X5
  refine Go.aloadN X5 hx (pc' := 30) rfl (hb hby d12_29) rfl rfl ?_
  refine Go.getF X5 hx hZ hown (host := "") (Or.inl (tw_29 hw)) Via.refl e5 P4 (pc' := 33) rfl (hb hby d12_30) ?_
  intro T6 e6 X6
  refine Go.icmpNo X6 hx (pc' := 36) rfl (hb hby d12_33) (by decide) ?_
  refine Go.aloadN X6 hx (pc' := 37) rfl (hb hby d12_36) rfl rfl ?_
  refine Go.getF X6 hx hZ hown (host := "") (Or.inl (tw_28 hw)) Via.refl e6 P2 (pc' := 40) rfl (hb hby d12_37) ?_
  intro T7 e7 X7
  refine Go.aloadN X7 hx (pc' := 41) rfl (hb hby d12_40) rfl rfl ?_
  refine Go.getF X7 hx hZ hown (host := "") (Or.inl (tw_28 hw)) Via.refl e7 P5 (pc' := 44) rfl (hb hby d12_41) ?_
  intro T8 e8 X8
  refine Go.callS X8 hx hZ hown (tw_66 hw) (tw_67 hw) (tw_68 hw) (tw_69 hw) (by decide) (tw_69 hw) (tw_68 hw) (au_102 l Z a0 hw x2 x3 kk0 p0 p1 p2 p3 kk1 h0 n0 Z0 P6 P8) e8 (argsL := [(.ref x2), (.ref x3)]) (rest := []) (pc' := 47) rfl (by rw [hml]; rfl) (lenOf pd_8 rfl) rfl rfl (W := 0) (Nat.le_of_eq rfl) (by decide) (by decide) (by decide) (by decide) (hb hby d12_44) ?_
  intro v9 T9 L9 q9 X9
  obtain ⟨rfl, N9, e9⟩ := q9
  show Go _ _ _ _ (T9.setTop (mkF m 47 #[.val (.ref x0), .val (.ref x1), .val (.ref x1)] [(.int 0)]))
  refine Go.ifYes X9 hx (pc' := 54) (hb hby d12_47) (by decide) (by decide) (by decide) ?_
  refine Go.iconst X9 hx (pc' := 55) rfl (hb hby d12_54) (v := (0 : Int32)) rfl ?_
  subst hFF
  refine Go.retN X9 hx hlk (t := .boolean) hret (by simp) (hb hby d12_55) (by decide) (by decide) ?_
  rw [e9]
  exact ⟨(congrArg (fun z => some (Value.int z)) (by decide : nar .boolean (0 : Int32) = (0 : Int32))), (Fr.app (Fr.nil n0) N9), rfl⟩
-- java/lang/StringLatin1.equals
set_option maxRecDepth 65536 in
set_option maxHeartbeats 4000000 in
theorem au_104 (l : Launch) (Z : State) (a0 : Array Value) (hw : ∀ d ∈ tables_1, d.before a0 Z = true) (x0 : Addr) (x1 : Addr) (kk0 : ClassId) (p0 : Int32) (p1 : Int32) (p2 : Int32) (p3 : Int32) (kk1 : ClassId) (h0 : Heap) (n0 : Nat) (Z0 : n0 ≤ h0.size) (P0 : Arv Z h0 x0 kk0 .byte (4 : Int32) [(.int p0), (.int p1), (.int p2), (.int p3)] (.int 0)) (P2 : Arv Z h0 x1 kk1 .byte (3 : Int32) [(.int 47), (.int 117), (.int 105)] (.int 0)) :
    Ctr l Z (⟨"java/lang/StringLatin1", "equals", "([B[B)Z"⟩ : MethodName) jdk_43_method_13_code 3 (some .boolean) ({ frames := 0, cells := 0, slots := 0, locals := 0 } : Room) #[(.ref x0), (.ref x1)] h0 (fun v h L => v = some (.int 0) ∧ Fr n0 L ∧ h = h0) := by
  refine Ctr.of (plainFor_of_name pn_c2) ?_
  intro p e s m below meth c T0 hx hZ hby hml hown hnm hret hlk e0 es X0
  refine Go.cast (ef_13_RR m x0 x1) ?_
  generalize hFF : EndN s _ _ _ = FF
  refine Go.aloadN X0 hx (pc' := 1) rfl (hb hby d13_0) rfl rfl ?_
  refine Go.arraylength X0 hx hZ e0 P0 (pc' := 2) rfl (hb hby d13_1) ?_
  refine Go.aloadN X0 hx (pc' := 3) rfl (hb hby d13_2) rfl rfl ?_
  refine Go.arraylength X0 hx hZ e0 P2 (pc' := 4) rfl (hb hby d13_3) ?_
  refine Go.icmpYes X0 hx (pc' := 34) (hb hby d13_4) (by decide) (by decide) (by decide) ?_
  refine Go.iconst X0 hx (pc' := 35) rfl (hb hby d13_34) (v := (0 : Int32)) rfl ?_
  subst hFF
  refine Go.retN X0 hx hlk (t := .boolean) hret (by simp) (hb hby d13_35) (by decide) (by decide) ?_
  rw [e0]
  exact ⟨(congrArg (fun z => some (Value.int z)) (by decide : nar .boolean (0 : Int32) = (0 : Int32))), (Fr.nil n0), rfl⟩
-- java/lang/String.equals
set_option maxRecDepth 65536 in
set_option maxHeartbeats 4000000 in
theorem au_103 (l : Launch) (Z : State) (a0 : Array Value) (hw : ∀ d ∈ tables_1, d.before a0 Z = true) (x0 : Addr) (x1 : Addr) (x2 : Addr) (x3 : Addr) (kk0 : ClassId) (p0 : Int32) (p1 : Int32) (p2 : Int32) (p3 : Int32) (kk1 : ClassId) (gz1 : Int32) (gv5 : Value) (h0 : Heap) (n0 : Nat) (Z0 : n0 ≤ h0.size) (O0 : Old Z n0 h0) (G : Glob Z gz1 gv5) (P1 : Fld Z h0 x0 "java/lang/String" "coder" "B" (.int 0)) (P2 : Fld Z h0 x0 "java/lang/String" "value" "[B" (.ref x2)) (P3 : Exa Z h0 x1 "java/lang/String") (P4 : Fld Z h0 x1 "java/lang/String" "coder" "B" (.int 0)) (P5 : Fld Z h0 x1 "java/lang/String" "value" "[B" (.ref x3)) (P6 : Arv Z h0 x2 kk0 .byte (4 : Int32) [(.int p0), (.int p1), (.int p2), (.int p3)] (.int 0)) (P8 : Arv Z h0 x3 kk1 .byte (3 : Int32) [(.int 47), (.int 117), (.int 105)] (.int 0)) (ne_x0_x1 : x0 ≠ x1) :
    Ctr l Z (⟨"java/lang/String", "equals", "(Ljava/lang/Object;)Z"⟩ : MethodName) jdk_42_method_66_code 3 (some .boolean) ({ frames := 1, cells := 0, slots := 0, locals := 14 } : Room) #[(.ref x0), (.ref x1)] h0 (fun v h L => v = some (.int 0) ∧ Fr n0 L ∧ h = h0) := by
  refine Ctr.of (plainFor_of_name pn_c1) ?_
  intro p e s m below meth c T0 hx hZ hby hml hown hnm hret hlk e0 es X0
  have G' := G
  obtain ⟨G0, -, G2, -⟩ := G'
  refine Go.cast (ef_12_RR m x0 x1) ?_
  generalize hFF : EndN s _ _ _ = FF
  refine Go.aloadN X0 hx (pc' := 1) rfl (hb hby d12_0) rfl rfl ?_
  refine Go.aloadN X0 hx (pc' := 2) rfl (hb hby d12_1) rfl rfl ?_
  refine Go.acmp X0 hx (pc' := 7) (same := false) (hb hby d12_2) rfl rfl (decide_eq_false (fun q => ne_x0_x1 (Value.ref.inj q))) (by decide) (by decide) ?_
  refine Go.aloadN X0 hx (pc' := 8) rfl (hb hby d12_7) rfl rfl ?_
  refine Go.instY X0 hx hZ hown (tw_65 hw) e0 (Ins.self P3) (pc' := 11) rfl (hb hby d12_8) ?_
  intro T1 e1 X1
  refine Go.ifNo X1 hx (pc' := 14) rfl (hb hby d12_11) (by decide) ?_
  refine Go.aloadN X1 hx (pc' := 15) rfl (hb hby d12_14) rfl rfl ?_
  refine Go.castY X1 hx hZ hown (tw_65 hw) e1 (Ins.self P3) (pc' := 18) rfl (hb hby d12_15) ?_
  intro T2 e2 X2
  refine Go.astoreN X2 hx (pc' := 19) rfl (hb hby d12_18) (Ls' := #[.val (.ref x0), .val (.ref x1), .val (.ref x1)]) rfl rfl ?_
  have fk3 : Sta Z h0 "java/lang/String" "COMPACT_STRINGS" "Z" (.int gz1) := G0.ext O0.2
  refine Go.getS X2 hx hZ hown (host := "") (Or.inl (tw_55 hw)) Via.refl e2 fk3 (pc' := 22) rfl (hb hby d12_19) ?_
  intro T4 e4 X4
  refine Go.ifNo X4 hx (pc' := 25) rfl (hb hby d12_22) (feq G2).1 ?_
  refine Go.aloadN X4 hx (pc' := 26) rfl (hb hby d12_25) rfl rfl ?_
  refine Go.getF X4 hx hZ hown (host := "") (Or.inl (tw_29 hw)) Via.refl e4 P1 (pc' := 29) rfl (hb hby d12_26) ?_
  intro T5 e5 X5
  refine Go.aloadN X5 hx (pc' := 30) rfl (hb hby d12_29) rfl rfl ?_
  refine Go.getF X5 hx hZ hown (host := "") (Or.inl (tw_29 hw)) Via.refl e5 P4 (pc' := 33) rfl (hb hby d12_30) ?_
  intro T6 e6 X6
  refine Go.icmpNo X6 hx (pc' := 36) rfl (hb hby d12_33) (by decide) ?_
  refine Go.aloadN X6 hx (pc' := 37) rfl (hb hby d12_36) rfl rfl ?_
  refine Go.getF X6 hx hZ hown (host := "") (Or.inl (tw_28 hw)) Via.refl e6 P2 (pc' := 40) rfl (hb hby d12_37) ?_
  intro T7 e7 X7
  refine Go.aloadN X7 hx (pc' := 41) rfl (hb hby d12_40) rfl rfl ?_
  refine Go.getF X7 hx hZ hown (host := "") (Or.inl (tw_28 hw)) Via.refl e7 P5 (pc' := 44) rfl (hb hby d12_41) ?_
  intro T8 e8 X8
  refine Go.callS X8 hx hZ hown (tw_66 hw) (tw_67 hw) (tw_68 hw) (tw_69 hw) (by decide) (tw_69 hw) (tw_68 hw) (au_104 l Z a0 hw x2 x3 kk0 p0 p1 p2 p3 kk1 h0 n0 Z0 P6 P8) e8 (argsL := [(.ref x2), (.ref x3)]) (rest := []) (pc' := 47) rfl (by rw [hml]; rfl) (lenOf pd_8 rfl) rfl rfl (W := 0) (Nat.le_of_eq rfl) (by decide) (by decide) (by decide) (by decide) (hb hby d12_44) ?_
  intro v9 T9 L9 q9 X9
  obtain ⟨rfl, N9, e9⟩ := q9
  show Go _ _ _ _ (T9.setTop (mkF m 47 #[.val (.ref x0), .val (.ref x1), .val (.ref x1)] [(.int 0)]))
  refine Go.ifYes X9 hx (pc' := 54) (hb hby d12_47) (by decide) (by decide) (by decide) ?_
  refine Go.iconst X9 hx (pc' := 55) rfl (hb hby d12_54) (v := (0 : Int32)) rfl ?_
  subst hFF
  refine Go.retN X9 hx hlk (t := .boolean) hret (by simp) (hb hby d12_55) (by decide) (by decide) ?_
  rw [e9]
  exact ⟨(congrArg (fun z => some (Value.int z)) (by decide : nar .boolean (0 : Int32) = (0 : Int32))), (Fr.app (Fr.nil n0) N9), rfl⟩
-- com/example/roles_over_datacenter/rolesoverdatacenter/Page.redirects
set_option maxRecDepth 65536 in
set_option maxHeartbeats 4000000 in
theorem au_100 (l : Launch) (Z : State) (a0 : Array Value) (hw : ∀ d ∈ tables_1, d.before a0 Z = true) (x0 : Addr) (x1 : Addr) (kk0 : ClassId) (p0 : Int32) (p1 : Int32) (p2 : Int32) (p3 : Int32) (gz1 : Int32) (gv5 : Value) (h0 : Heap) (n0 : Nat) (Z0 : n0 ≤ h0.size) (O0 : Old Z n0 h0) (G : Glob Z gz1 gv5) (P0 : Exa Z h0 x0 "java/lang/String") (P1 : Fld Z h0 x0 "java/lang/String" "coder" "B" (.int 0)) (P2 : Fld Z h0 x0 "java/lang/String" "value" "[B" (.ref x1)) (P3 : Arv Z h0 x1 kk0 .byte (4 : Int32) [(.int p0), (.int p1), (.int p2), (.int p3)] (.int 0)) :
    CtrW l Z EL0 (⟨"com/example/roles_over_datacenter/rolesoverdatacenter/Page", "redirects", "(Ljava/lang/String;)Z"⟩ : MethodName) prog_11_method_4_code 1 (some .boolean) ({ frames := 5, cells := 8, slots := 55, locals := 81 } : Room) #[(.ref x0)] h0 [x0] (fun v vm h L => v = some (.int 0) ∧ Fr n0 L ∧ Keep h0 h []) := by
  refine CtrW.of (plainFor_of_name pn_c5) ?_
  intro p e s m below meth c T0 hx hZ hby hml hown hnm hret hlk e0 es hS0 C0 hsf X0
  have G' := G
  obtain ⟨-, G1, -, -⟩ := G'
  refine Go.cast (ef_11_R m x0) ?_
  generalize hFF : EndW Z EL0 s _ _ _ = FF
  refine Go.aloadN X0 hx (pc' := 1) rfl (hb hby d11_0) rfl rfl ?_
  refine Go.ldcCH X0 hx hZ hown (tw_59 hw) (own_SA hw) e0 hS0 (Nat.le_refl _) (own_EW hw) (List.mem_of_getElem? (i := 1) rfl) C0.1 (vs := [(.int (47 : Int32))]) (z := (1 : Int32)) (by decide) (by decide) rfl (n := 4) (by decide) (by decide) (by decide) (by decide) (pc' := 3) rfl (hb hby d11_1) ?_
  intro a1 T1 h1 j1 b1 k1 e1 E1 S1 i1 Z1 O1 A1 F1 G1 V1 C1 D1 X1
  have Kp3 : Keep h0 h1 [] := ((Keep.refl h0 []).ext E1)
  have Zn2 : n0 ≤ h1.size := Nat.le_trans Z0 Kp3.1
  have O4 := (O0.ext E1)
  have fk5 : Fld Z h1 x0 "java/lang/String" "coder" "B" (.int 0) := (P1.ext E1)
  have fk6 : Fld Z h1 x0 "java/lang/String" "value" "[B" (.ref x1) := (P2.ext E1)
  have fk7 := (P3.ext E1)
  have fk8 : Safe Z EL0 T1.vm h1 x0 := (C1.safe P0.lt (hsf _ (List.mem_of_getElem? (i := 0) rfl)))
  have fk9 : Exa Z h1 x0 "java/lang/String" := (P0.ext E1)
  refine Go.callV X1 hx Z1 O1 (tw_60 hw) (tw_61 hw) (notFace_of_selects (args := #[]) (mvT Z1 (tw_63 hw))) (tw_63 hw) (tw_62 hw) (by decide) (tw_64 hw) (tw_10 hw) (au_101 l Z a0 hw x0 a1 x1 b1 kk0 p0 p1 p2 p3 k1 gz1 gv5 h1 n0 Zn2 O4 G fk5 fk6 A1 F1 G1 fk7 V1 (D1 x0 fk8).1) e1 fk9 (argsL := [(.ref a1)]) (rest := []) (pc' := 6) rfl (by rw [hml]; rfl) (lenOf pd_9 rfl) rfl rfl (W := 0) (Nat.le_of_eq rfl) (by decide) (by decide) (by decide) (by decide) (hb hby d11_3) ?_
  intro v10 T10 L10 q10 X10
  obtain ⟨rfl, N10, e10⟩ := q10
  show Go _ _ _ _ (T10.setTop (mkF m 6 #[.val (.ref x0)] [(.int 0)]))
  refine Go.ifNo X10 hx (pc' := 9) rfl (hb hby d11_6) (by decide) ?_
  refine Go.aloadN X10 hx (pc' := 10) rfl (hb hby d11_9) rfl rfl ?_
  have C11 : CHr Z EL0 s.vm s.heap T1.vm h1 := (C0.trans C1)
  refine Go.ldcCH X10 hx Z1 O1 (tw_34 hw) (own_SA hw) e10 S1 i1 (own_EW hw) (List.mem_of_getElem? (i := 0) rfl) C11.1 (vs := [(.int (47 : Int32)), (.int (117 : Int32)), (.int (105 : Int32)), (.int (47 : Int32))]) (z := (4 : Int32)) (by decide) (by decide) rfl (n := 16) (by decide) (by decide) (by decide) (by decide) (pc' := 12) rfl (hb hby d11_10) ?_
  intro a12 T12 h12 j12 b12 k12 e12 E12 S12 i12 Z12 O12 A12 F12 G12 V12 C12 D12 X12
  refine Go.iconst X12 hx (pc' := 13) rfl (hb hby d11_12) (v := (0 : Int32)) rfl ?_
  have C13 : CHr Z EL0 s.vm s.heap T12.vm h12 := (C11.trans C12)
  refine Go.ldcCH X12 hx Z12 O12 (tw_34 hw) (own_SA hw) e12 S12 i12 (own_EW hw) (List.mem_of_getElem? (i := 0) rfl) C13.1 (vs := [(.int (47 : Int32)), (.int (117 : Int32)), (.int (105 : Int32)), (.int (47 : Int32))]) (z := (4 : Int32)) (by decide) (by decide) rfl (n := 16) (by decide) (by decide) (by decide) (by decide) (pc' := 15) rfl (hb hby d11_13) ?_
  intro a14 T14 h14 j14 b14 k14 e14 E14 S14 i14 Z14 O14 A14 F14 G14 V14 C14 D14 X14
  have Kp16 : Keep h0 h12 [] := (Kp3.ext E12)
  have Kp17 : Keep h0 h14 [] := (Kp16.ext E14)
  have Zn15 : n0 ≤ h14.size := Nat.le_trans Z0 Kp17.1
  have O18 := (O4.ext E12)
  have O19 := (O18.ext E14)
  refine Go.callV X14 hx Z14 O14 (tw_70 hw) (tw_46 hw) (notFace_of_selects (args := #[]) (mvT Z14 (tw_48 hw))) (tw_48 hw) (tw_47 hw) (by decide) (tw_49 hw) (tw_10 hw) (au_14 l Z a0 hw a14 b14 k14 gz1 gv5 h14 n0 Zn15 O19 G A14 F14 G14 V14) e14 A14 (argsL := []) (rest := [(.int 0), (.ref a12), (.ref x0)]) (pc' := 18) rfl (by rw [hml]; rfl) (lenOf pd_5 rfl) rfl rfl (W := 3) (Nat.le_of_eq rfl) (by decide) (by decide) (by decide) (by decide) (hb hby d11_15) ?_
  intro v20 T20 L20 q20 X20
  obtain ⟨rfl, N20, e20⟩ := q20
  show Go _ _ _ _ (T20.setTop (mkF m 18 #[.val (.ref x0)] [(.int 4), (.int 0), (.ref a12), (.ref x0)]))
  refine Go.iconst X20 hx (pc' := 19) rfl (hb hby d11_18) (v := (1 : Int32)) rfl ?_
  refine Go.isub X20 hx (pc' := 20) rfl (hb hby d11_19) ?_
  rw [show ((4 : Int32) - (1 : Int32)) = (3 : Int32) from by decide]
  have fk21 : Exa Z h14 a12 "java/lang/String" := (A12.ext E14)
  have fk22 : Fld Z h14 a12 "java/lang/String" "coder" "B" (.int 0) := (F12.ext E14)
  have fk23 : Fld Z h14 a12 "java/lang/String" "value" "[B" (.ref b12) := (G12.ext E14)
  have fk24 := (V12.ext E14)
  refine Go.callV X20 hx Z14 O14 (tw_71 hw) (tw_72 hw) (notFace_of_selects (args := #[]) (mvT Z14 (tw_74 hw))) (tw_74 hw) (tw_73 hw) (by decide) (tw_75 hw) (tw_10 hw) (au_20 l Z a0 hw a12 b12 k12 gz1 gv5 h14 n0 Zn15 O19 G fk21 fk22 fk23 fk24) e20 fk21 (argsL := [(.int 0), (.int 3)]) (rest := [(.ref x0)]) (pc' := 23) rfl (by rw [hml]; rfl) (lenOf pd_18 rfl) rfl rfl (W := 1) (Nat.le_of_eq rfl) (by decide) (by decide) (by decide) (by decide) (hb hby d11_20) ?_
  intro v25 T25 L25 q25 X25
  obtain ⟨h25, e25⟩ : ∃ z, T25.heap = z := ⟨_, rfl⟩
  rw [e25] at q25
  obtain ⟨b25_0, b25_1, k25_0, rfl, N25, K25, s25_0, s25_1, n25_0, F25_0, F25_1, F25_2, F25_3, F25_4⟩ := q25
  show Go _ _ _ _ (T25.setTop (mkF m 23 #[.val (.ref x0)] [(.ref b25_0), (.ref x0)]))
  have Kp27 : Keep h0 h25 [] := (Kp17.trans K25 all0)
  have Zn26 : n0 ≤ h25.size := Nat.le_trans Z0 Kp27.1
  have O28 := (O19.keep K25 all0)
  have fk29 : Fld Z h25 x0 "java/lang/String" "coder" "B" (.int 0) := (((fk5.ext E12).ext E14).keep K25 nin0)
  have fk30 : Fld Z h25 x0 "java/lang/String" "value" "[B" (.ref x1) := (((fk6.ext E12).ext E14).keep K25 nin0)
  have fk31 := (((fk7.ext E12).ext E14).keep K25 nin0)
  have fk33 : Exa Z h14 x0 "java/lang/String" := ((fk9.ext E12).ext E14)
  have ne32 : x0 ≠ b25_0 := Nat.ne_of_lt (Nat.lt_of_lt_of_le fk33.lt s25_0)
  have fk34 : Exa Z h25 x0 "java/lang/String" := (fk33.keep K25)
  refine Go.callV X25 hx Z14 O14 (tw_60 hw) (tw_61 hw) (notFace_of_selects (args := #[]) (mvT Z14 (tw_63 hw))) (tw_63 hw) (tw_62 hw) (by decide) (tw_64 hw) (tw_10 hw) (au_103 l Z a0 hw x0 b25_0 x1 b25_1 kk0 p0 p1 p2 p3 k25_0 gz1 gv5 h25 n0 Zn26 O28 G fk29 fk30 F25_0 F25_1 F25_2 fk31 F25_3 ne32) e25 fk34 (argsL := [(.ref b25_0)]) (rest := []) (pc' := 26) rfl (by rw [hml]; rfl) (lenOf pd_9 rfl) rfl rfl (W := 0) (Nat.le_of_eq rfl) (by decide) (by decide) (by decide) (by decide) (hb hby d11_23) ?_
  intro v35 T35 L35 q35 X35
  obtain ⟨rfl, N35, e35⟩ := q35
  show Go _ _ _ _ (T35.setTop (mkF m 26 #[.val (.ref x0)] [(.int 0)]))
  refine Go.ifYes X35 hx (pc' := 33) (hb hby d11_26) (by decide) (by decide) (by decide) ?_
  refine Go.iconst X35 hx (pc' := 34) rfl (hb hby d11_33) (v := (0 : Int32)) rfl ?_
  subst hFF
  have C36 : CHr Z EL0 s.vm s.heap T14.vm h14 := (C13.trans C14)
  have C37 : CHr Z EL0 s.vm s.heap T14.vm h25 := (C36.trans (CHr.keep K25 sf0 C36.1))
  have hk38 := (Nat.le_trans i14 K25.1)
  refine Go.retNW X35 hx hlk Z14 (own_EW hw) e35 S14 hk38 C37 (t := .boolean) hret (by simp) (hb hby d11_34) (by decide) (by decide) (fun hat => ?_)
  exact ⟨(congrArg (fun z => some (Value.int z)) (by decide : nar .boolean (0 : Int32) = (0 : Int32))), (Fr.app (Fr.app (Fr.app (Fr.app (Fr.nil n0) N10) N20) N25) N35), Kp27⟩
-- com/example/roles_over_datacenter/rolesoverdatacenter/Page.serves
set_option maxRecDepth 65536 in
set_option maxHeartbeats 4000000 in
theorem au_93 (l : Launch) (Z : State) (a0 : Array Value) (hw : ∀ d ∈ tables_1, d.before a0 Z = true) (x0 : Addr) (x1 : Addr) (kk0 : ClassId) (p0 : Int32) (p1 : Int32) (p2 : Int32) (p3 : Int32) (p4 : Int32) (p5 : Int32) (p6 : Int32) (p7 : Int32) (gz1 : Int32) (gv5 : Value) (h0 : Heap) (n0 : Nat) (Z0 : n0 ≤ h0.size) (O0 : Old Z n0 h0) (G : Glob Z gz1 gv5) (P0 : Exa Z h0 x0 "java/lang/String") (P1 : Fld Z h0 x0 "java/lang/String" "coder" "B" (.int 0)) (P2 : Fld Z h0 x0 "java/lang/String" "value" "[B" (.ref x1)) (P3 : Arv Z h0 x1 kk0 .byte (4 : Int32) [(.int p0), (.int p1), (.int p2), (.int p3)] (.int 0)) (R_p4 : 0 ≤ p4.toInt ∧ p4.toInt ≤ 255) (R_p5 : 0 ≤ p5.toInt ∧ p5.toInt ≤ 255) (R_p6 : 0 ≤ p6.toInt ∧ p6.toInt ≤ 255) (R_p7 : 0 ≤ p7.toInt ∧ p7.toInt ≤ 255) (B_p0 : (p4.toInt8.toInt32) = p0) (B_p1 : (p5.toInt8.toInt32) = p1) (B_p2 : (p6.toInt8.toInt32) = p2) (B_p3 : (p7.toInt8.toInt32) = p3) :
    CtrW l Z EL0 (⟨"com/example/roles_over_datacenter/rolesoverdatacenter/Page", "serves", "(Ljava/lang/String;)Z"⟩ : MethodName) prog_11_method_3_code 1 (some .boolean) ({ frames := 6, cells := 10, slots := 75, locals := 93 } : Room) #[(.ref x0)] h0 [x0] (fun v vm h L => (p4 = (47 : Int32) ∧ p5 = (117 : Int32) ∧ p6 = (105 : Int32) ∧ p7 = (47 : Int32) ∧ v = some (.int 1) ∧ Fr n0 L ∧ Keep h0 h []) ∨ (p4 = (47 : Int32) ∧ p5 = (117 : Int32) ∧ p6 = (105 : Int32) ∧ ¬ (p7 = (47 : Int32)) ∧ v = some (.int 0) ∧ Fr n0 L ∧ Keep h0 h []) ∨ (p4 = (47 : Int32) ∧ p5 = (117 : Int32) ∧ ¬ (p6 = (105 : Int32)) ∧ v = some (.int 0) ∧ Fr n0 L ∧ Keep h0 h []) ∨ (p4 = (47 : Int32) ∧ ¬ (p5 = (117 : Int32)) ∧ v = some (.int 0) ∧ Fr n0 L ∧ Keep h0 h []) ∨ (¬ (p4 = (47 : Int32)) ∧ v = some (.int 0) ∧ Fr n0 L ∧ Keep h0 h [])) := by
  refine CtrW.of (plainFor_of_name pn_c5) ?_
  intro p e s m below meth c T0 hx hZ hby hml hown hnm hret hlk e0 es hS0 C0 hsf X0
  have G' := G
  obtain ⟨-, G1, -, -⟩ := G'
  refine Go.cast (ef_6_R m x0) ?_
  generalize hFF : EndW Z EL0 s _ _ _ = FF
  refine Go.aloadN X0 hx (pc' := 1) rfl (hb hby d6_0) rfl rfl ?_
  refine Go.ldcCH X0 hx hZ hown (tw_34 hw) (own_SA hw) e0 hS0 (Nat.le_refl _) (own_EW hw) (List.mem_of_getElem? (i := 0) rfl) C0.1 (vs := [(.int (47 : Int32)), (.int (117 : Int32)), (.int (105 : Int32)), (.int (47 : Int32))]) (z := (4 : Int32)) (by decide) (by decide) rfl (n := 16) (by decide) (by decide) (by decide) (by decide) (pc' := 3) rfl (hb hby d6_1) ?_
  intro a1 T1 h1 j1 b1 k1 e1 E1 S1 i1 Z1 O1 A1 F1 G1 V1 C1 D1 X1
  have Kp3 : Keep h0 h1 [] := ((Keep.refl h0 []).ext E1)
  have Zn2 : n0 ≤ h1.size := Nat.le_trans Z0 Kp3.1
  have O4 := (O0.ext E1)
  have fk5 : Exa Z h1 x0 "java/lang/String" := (P0.ext E1)
  have fk6 : Fld Z h1 x0 "java/lang/String" "coder" "B" (.int 0) := (P1.ext E1)
  have fk7 : Fld Z h1 x0 "java/lang/String" "value" "[B" (.ref x1) := (P2.ext E1)
  have fk8 := (P3.ext E1)
  refine Go.callV X1 hx Z1 O1 (tw_35 hw) (tw_36 hw) (notFace_of_selects (args := #[]) (mvT Z1 (tw_38 hw))) (tw_38 hw) (tw_37 hw) (by decide) (tw_39 hw) (tw_10 hw) (au_94 l Z a0 hw x0 a1 x1 b1 kk0 p0 p1 p2 p3 k1 p4 p5 p6 p7 gz1 gv5 h1 n0 Zn2 O4 G fk5 fk6 fk7 A1 F1 G1 fk8 V1 R_p4 R_p5 R_p6 R_p7 B_p0 B_p1 B_p2 B_p3) e1 fk5 (argsL := [(.ref a1)]) (rest := []) (pc' := 6) rfl (by rw [hml]; rfl) (lenOf pd_7 rfl) rfl rfl (W := 0) (Nat.le_of_eq rfl) (by decide) (by decide) (by decide) (by decide) (hb hby d6_3) ?_
  intro v9 T9 L9 q9 X9
  rcases q9 with ⟨c9_0_0, c9_0_1, c9_0_2, c9_0_3, rfl, N9_0, e9_0⟩ | ⟨c9_1_0, c9_1_1, c9_1_2, c9_1_3, rfl, N9_1, e9_1⟩ | ⟨c9_2_0, c9_2_1, c9_2_2, rfl, N9_2, e9_2⟩ | ⟨c9_3_0, c9_3_1, rfl, N9_3, e9_3⟩ | ⟨c9_4_0, rfl, N9_4, e9_4⟩
  · show Go _ _ _ _ (T9.setTop (mkF m 6 #[.val (.ref x0)] [(.int 1)]))
    refine Go.ifYes X9 hx (pc' := 16) (hb hby d6_6) (by decide) (by decide) (by decide) ?_
    refine Go.iconst X9 hx (pc' := 17) rfl (hb hby d6_16) (v := (1 : Int32)) rfl ?_
    refine Go.goto X9 hx (pc' := 21) (hb hby d6_17) (by decide) (by decide) ?_
    subst hFF
    have C10 : CHr Z EL0 s.vm s.heap T1.vm h1 := (C0.trans C1)
    refine Go.retNW X9 hx hlk Z1 (own_EW hw) e9_0 S1 i1 C10 (t := .boolean) hret (by simp) (hb hby d6_21) (by decide) (by decide) (fun hat => ?_)
    exact Or.inl ⟨c9_0_0, c9_0_1, c9_0_2, c9_0_3, (congrArg (fun z => some (Value.int z)) (by decide : nar .boolean (1 : Int32) = (1 : Int32))), (Fr.app (Fr.nil n0) N9_0), Kp3⟩
  · show Go _ _ _ _ (T9.setTop (mkF m 6 #[.val (.ref x0)] [(.int 0)]))
    refine Go.ifNo X9 hx (pc' := 9) rfl (hb hby d6_6) (by decide) ?_
    refine Go.aloadN X9 hx (pc' := 10) rfl (hb hby d6_9) rfl rfl ?_
    have C11 : CHr Z EL0 s.vm s.heap T1.vm h1 := (C0.trans C1)
    have fk12 : Safe Z EL0 T1.vm h1 x0 := (C1.safe P0.lt (hsf _ (List.mem_of_getElem? (i := 0) rfl)))
    refine Go.callSW X9 hx Z1 O1 (tw_56 hw) (tw_57 hw) (tw_32 hw) (tw_58 hw) (by decide) (tw_58 hw) (tw_32 hw) (au_100 l Z a0 hw x0 x1 kk0 p0 p1 p2 p3 gz1 gv5 h1 n0 Zn2 O4 G fk5 fk6 fk7 fk8) (own_EW hw) C11.1 (allS ⟨fk5.lt, fk12⟩ all0) S1 i1 e9_1 (argsL := [(.ref x0)]) (rest := []) (pc' := 13) rfl (by rw [hml]; rfl) (lenOf pd_7 rfl) rfl rfl (W := 0) (Nat.le_of_eq rfl) (by decide) (by decide) (by decide) (by decide) (hb hby d6_10) ?_
    intro v13 T13 L13 h13 e13 q13 C13 S13 Z13 O13 X13
    obtain ⟨rfl, N13, K13⟩ := q13
    show Go _ _ _ _ (T13.setTop (mkF m 13 #[.val (.ref x0)] [(.int 0)]))
    refine Go.ifYes X13 hx (pc' := 20) (hb hby d6_13) (by decide) (by decide) (by decide) ?_
    refine Go.iconst X13 hx (pc' := 21) rfl (hb hby d6_20) (v := (0 : Int32)) rfl ?_
    subst hFF
    have C14 : CHr Z EL0 s.vm s.heap T13.vm h13 := (C11.trans C13)
    refine Go.retNW X13 hx hlk Z13 (own_EW hw) e13 S13 (Nat.le_refl _) C14 (t := .boolean) hret (by simp) (hb hby d6_21) (by decide) (by decide) (fun hat => ?_)
    have Kp15 : Keep h0 h13 [] := (Kp3.trans K13 all0)
    exact Or.inr (Or.inl ⟨c9_1_0, c9_1_1, c9_1_2, c9_1_3, (congrArg (fun z => some (Value.int z)) (by decide : nar .boolean (0 : Int32) = (0 : Int32))), (Fr.app (Fr.app (Fr.nil n0) N9_1) N13), Kp15⟩)
  · show Go _ _ _ _ (T9.setTop (mkF m 6 #[.val (.ref x0)] [(.int 0)]))
    refine Go.ifNo X9 hx (pc' := 9) rfl (hb hby d6_6) (by decide) ?_
    refine Go.aloadN X9 hx (pc' := 10) rfl (hb hby d6_9) rfl rfl ?_
    have C16 : CHr Z EL0 s.vm s.heap T1.vm h1 := (C0.trans C1)
    have fk17 : Safe Z EL0 T1.vm h1 x0 := (C1.safe P0.lt (hsf _ (List.mem_of_getElem? (i := 0) rfl)))
    refine Go.callSW X9 hx Z1 O1 (tw_56 hw) (tw_57 hw) (tw_32 hw) (tw_58 hw) (by decide) (tw_58 hw) (tw_32 hw) (au_100 l Z a0 hw x0 x1 kk0 p0 p1 p2 p3 gz1 gv5 h1 n0 Zn2 O4 G fk5 fk6 fk7 fk8) (own_EW hw) C16.1 (allS ⟨fk5.lt, fk17⟩ all0) S1 i1 e9_2 (argsL := [(.ref x0)]) (rest := []) (pc' := 13) rfl (by rw [hml]; rfl) (lenOf pd_7 rfl) rfl rfl (W := 0) (Nat.le_of_eq rfl) (by decide) (by decide) (by decide) (by decide) (hb hby d6_10) ?_
    intro v18 T18 L18 h18 e18 q18 C18 S18 Z18 O18 X18
    obtain ⟨rfl, N18, K18⟩ := q18
    show Go _ _ _ _ (T18.setTop (mkF m 13 #[.val (.ref x0)] [(.int 0)]))
    refine Go.ifYes X18 hx (pc' := 20) (hb hby d6_13) (by decide) (by decide) (by decide) ?_
    refine Go.iconst X18 hx (pc' := 21) rfl (hb hby d6_20) (v := (0 : Int32)) rfl ?_
    subst hFF
    have C19 : CHr Z EL0 s.vm s.heap T18.vm h18 := (C16.trans C18)
    refine Go.retNW X18 hx hlk Z18 (own_EW hw) e18 S18 (Nat.le_refl _) C19 (t := .boolean) hret (by simp) (hb hby d6_21) (by decide) (by decide) (fun hat => ?_)
    have Kp20 : Keep h0 h18 [] := (Kp3.trans K18 all0)
    exact Or.inr (Or.inr (Or.inl ⟨c9_2_0, c9_2_1, c9_2_2, (congrArg (fun z => some (Value.int z)) (by decide : nar .boolean (0 : Int32) = (0 : Int32))), (Fr.app (Fr.app (Fr.nil n0) N9_2) N18), Kp20⟩))
  · show Go _ _ _ _ (T9.setTop (mkF m 6 #[.val (.ref x0)] [(.int 0)]))
    refine Go.ifNo X9 hx (pc' := 9) rfl (hb hby d6_6) (by decide) ?_
    refine Go.aloadN X9 hx (pc' := 10) rfl (hb hby d6_9) rfl rfl ?_
    have C21 : CHr Z EL0 s.vm s.heap T1.vm h1 := (C0.trans C1)
    have fk22 : Safe Z EL0 T1.vm h1 x0 := (C1.safe P0.lt (hsf _ (List.mem_of_getElem? (i := 0) rfl)))
    refine Go.callSW X9 hx Z1 O1 (tw_56 hw) (tw_57 hw) (tw_32 hw) (tw_58 hw) (by decide) (tw_58 hw) (tw_32 hw) (au_100 l Z a0 hw x0 x1 kk0 p0 p1 p2 p3 gz1 gv5 h1 n0 Zn2 O4 G fk5 fk6 fk7 fk8) (own_EW hw) C21.1 (allS ⟨fk5.lt, fk22⟩ all0) S1 i1 e9_3 (argsL := [(.ref x0)]) (rest := []) (pc' := 13) rfl (by rw [hml]; rfl) (lenOf pd_7 rfl) rfl rfl (W := 0) (Nat.le_of_eq rfl) (by decide) (by decide) (by decide) (by decide) (hb hby d6_10) ?_
    intro v23 T23 L23 h23 e23 q23 C23 S23 Z23 O23 X23
    obtain ⟨rfl, N23, K23⟩ := q23
    show Go _ _ _ _ (T23.setTop (mkF m 13 #[.val (.ref x0)] [(.int 0)]))
    refine Go.ifYes X23 hx (pc' := 20) (hb hby d6_13) (by decide) (by decide) (by decide) ?_
    refine Go.iconst X23 hx (pc' := 21) rfl (hb hby d6_20) (v := (0 : Int32)) rfl ?_
    subst hFF
    have C24 : CHr Z EL0 s.vm s.heap T23.vm h23 := (C21.trans C23)
    refine Go.retNW X23 hx hlk Z23 (own_EW hw) e23 S23 (Nat.le_refl _) C24 (t := .boolean) hret (by simp) (hb hby d6_21) (by decide) (by decide) (fun hat => ?_)
    have Kp25 : Keep h0 h23 [] := (Kp3.trans K23 all0)
    exact Or.inr (Or.inr (Or.inr (Or.inl ⟨c9_3_0, c9_3_1, (congrArg (fun z => some (Value.int z)) (by decide : nar .boolean (0 : Int32) = (0 : Int32))), (Fr.app (Fr.app (Fr.nil n0) N9_3) N23), Kp25⟩)))
  · show Go _ _ _ _ (T9.setTop (mkF m 6 #[.val (.ref x0)] [(.int 0)]))
    refine Go.ifNo X9 hx (pc' := 9) rfl (hb hby d6_6) (by decide) ?_
    refine Go.aloadN X9 hx (pc' := 10) rfl (hb hby d6_9) rfl rfl ?_
    have C26 : CHr Z EL0 s.vm s.heap T1.vm h1 := (C0.trans C1)
    have fk27 : Safe Z EL0 T1.vm h1 x0 := (C1.safe P0.lt (hsf _ (List.mem_of_getElem? (i := 0) rfl)))
    refine Go.callSW X9 hx Z1 O1 (tw_56 hw) (tw_57 hw) (tw_32 hw) (tw_58 hw) (by decide) (tw_58 hw) (tw_32 hw) (au_100 l Z a0 hw x0 x1 kk0 p0 p1 p2 p3 gz1 gv5 h1 n0 Zn2 O4 G fk5 fk6 fk7 fk8) (own_EW hw) C26.1 (allS ⟨fk5.lt, fk27⟩ all0) S1 i1 e9_4 (argsL := [(.ref x0)]) (rest := []) (pc' := 13) rfl (by rw [hml]; rfl) (lenOf pd_7 rfl) rfl rfl (W := 0) (Nat.le_of_eq rfl) (by decide) (by decide) (by decide) (by decide) (hb hby d6_10) ?_
    intro v28 T28 L28 h28 e28 q28 C28 S28 Z28 O28 X28
    obtain ⟨rfl, N28, K28⟩ := q28
    show Go _ _ _ _ (T28.setTop (mkF m 13 #[.val (.ref x0)] [(.int 0)]))
    refine Go.ifYes X28 hx (pc' := 20) (hb hby d6_13) (by decide) (by decide) (by decide) ?_
    refine Go.iconst X28 hx (pc' := 21) rfl (hb hby d6_20) (v := (0 : Int32)) rfl ?_
    subst hFF
    have C29 : CHr Z EL0 s.vm s.heap T28.vm h28 := (C26.trans C28)
    refine Go.retNW X28 hx hlk Z28 (own_EW hw) e28 S28 (Nat.le_refl _) C29 (t := .boolean) hret (by simp) (hb hby d6_21) (by decide) (by decide) (fun hat => ?_)
    have Kp30 : Keep h0 h28 [] := (Kp3.trans K28 all0)
    exact Or.inr (Or.inr (Or.inr (Or.inr (⟨c9_4_0, (congrArg (fun z => some (Value.int z)) (by decide : nar .boolean (0 : Int32) = (0 : Int32))), (Fr.app (Fr.app (Fr.nil n0) N9_4) N28), Kp30⟩))))
theorem d2_120 : decode method_3_code 120 = .ok (.new 7, 3) := by decide +kernel
theorem d2_123 : decode method_3_code 123 = .ok (.dup, 1) := by decide +kernel
theorem d2_124 : decode method_3_code 124 = .ok (.iconst 5, 1) := by decide +kernel
theorem d2_125 : decode method_3_code 125 = .ok (.newarray .char, 2) := by decide +kernel
theorem d2_127 : decode method_3_code 127 = .ok (.dup, 1) := by decide +kernel
theorem d2_128 : decode method_3_code 128 = .ok (.iconst 0, 1) := by decide +kernel
theorem d2_129 : decode method_3_code 129 = .ok (.iload_n 1, 1) := by decide +kernel
theorem d2_130 : decode method_3_code 130 = .ok (.castore, 1) := by decide +kernel
theorem d2_131 : decode method_3_code 131 = .ok (.dup, 1) := by decide +kernel
theorem d2_132 : decode method_3_code 132 = .ok (.iconst 1, 1) := by decide +kernel
theorem d2_133 : decode method_3_code 133 = .ok (.iload_n 2, 1) := by decide +kernel
theorem d2_134 : decode method_3_code 134 = .ok (.castore, 1) := by decide +kernel
theorem d2_135 : decode method_3_code 135 = .ok (.dup, 1) := by decide +kernel
theorem d2_136 : decode method_3_code 136 = .ok (.iconst 2, 1) := by decide +kernel
theorem d2_137 : decode method_3_code 137 = .ok (.iload_n 3, 1) := by decide +kernel
theorem d2_138 : decode method_3_code 138 = .ok (.castore, 1) := by decide +kernel
theorem d2_139 : decode method_3_code 139 = .ok (.dup, 1) := by decide +kernel
theorem d2_140 : decode method_3_code 140 = .ok (.iconst 3, 1) := by decide +kernel
theorem d2_141 : decode method_3_code 141 = .ok (.iload 4, 2) := by decide +kernel
theorem d2_143 : decode method_3_code 143 = .ok (.castore, 1) := by decide +kernel
theorem d2_144 : decode method_3_code 144 = .ok (.dup, 1) := by decide +kernel
theorem d2_145 : decode method_3_code 145 = .ok (.iconst 4, 1) := by decide +kernel
theorem d2_146 : decode method_3_code 146 = .ok (.iload 5, 2) := by decide +kernel
theorem d2_148 : decode method_3_code 148 = .ok (.castore, 1) := by decide +kernel
-- java/lang/StringUTF16.compress
set_option maxRecDepth 65536 in
set_option maxHeartbeats 4000000 in
theorem au_109 (l : Launch) (Z : State) (a0 : Array Value) (hw : ∀ d ∈ tables_1, d.before a0 Z = true) (x0 : Addr) (x1 : Addr) (kk0 : ClassId) (p0 : Int32) (p1 : Int32) (p2 : Int32) (p3 : Int32) (p4 : Int32) (kk1 : ClassId) (h0 : Heap) (n0 : Nat) (Z0 : n0 ≤ h0.size) (P0 : Arv Z h0 x0 kk0 .char (5 : Int32) [(.int p0), (.int p1), (.int p2), (.int p3), (.int p4)] (.int 0)) (P2 : Arv Z h0 x1 kk1 .byte (5 : Int32) [(.int 0), (.int 0), (.int 0), (.int 0), (.int 0)] (.int 0)) (P3 : Exa Z h0 x1 "[B") (R_p0 : 0 ≤ p0.toInt ∧ p0.toInt ≤ 255) (R_p1 : 0 ≤ p1.toInt ∧ p1.toInt ≤ 255) (R_p2 : 0 ≤ p2.toInt ∧ p2.toInt ≤ 255) (R_p3 : 0 ≤ p3.toInt ∧ p3.toInt ≤ 255) (R_p4 : 0 ≤ p4.toInt ∧ p4.toInt ≤ 255) (g_x1 : n0 ≤ x1) (ne_x0_x1 : x0 ≠ x1) :
    Ctr l Z (⟨"java/lang/StringUTF16", "compress", "([CI[BII)I"⟩ : MethodName) jdk_52_method_21_code 7 (some .int) ({ frames := 0, cells := 0, slots := 0, locals := 0 } : Room) #[(.ref x0), (.int 0), (.ref x1), (.int 0), (.int 5)] h0 (fun v h L => ∃ (z1 : Int32) (z5 : Int32) (z9 : Int32) (z13 : Int32) (z18 : Int32), (p0.toInt8.toInt32) = z1 ∧ (p1.toInt8.toInt32) = z5 ∧ (p2.toInt8.toInt32) = z9 ∧ (p3.toInt8.toInt32) = z13 ∧ (p4.toInt8.toInt32) = z18 ∧ v = some (.int 5) ∧ Fr n0 L ∧ Keep h0 h [x1] ∧ Arv Z h x1 kk1 .byte (5 : Int32) [(.int z1), (.int z5), (.int z9), (.int z13), (.int z18)] (.int 0) ∧ Exa Z h x1 "[B") := by
  refine Ctr.of (plainFor_of_name pn_c6) ?_
  intro p e s m below meth c T0 hx hZ hby hml hown hnm hret hlk e0 es X0
  refine Go.cast (ef_25_RIRII m x0 (0 : Int32) x1 (0 : Int32) (5 : Int32)) ?_
  generalize hFF : EndN s _ _ _ = FF
  refine Go.iconst X0 hx (pc' := 1) rfl (hb hby d25_0) (v := (0 : Int32)) rfl ?_
  refine Go.istore X0 hx (pc' := 3) rfl (hb hby d25_1) (Ls' := #[.val (.ref x0), .val (.int 0), .val (.ref x1), .val (.int 0), .val (.int 5), .val (.int 0), .unset]) rfl ?_
  refine Go.iload X0 hx (pc' := 5) rfl (hb hby d25_3) rfl ?_
  refine Go.iload X0 hx (pc' := 7) rfl (hb hby d25_5) rfl ?_
  refine Go.icmpNo X0 hx (pc' := 10) rfl (hb hby d25_7) (by decide) ?_
  refine Go.aloadN X0 hx (pc' := 11) rfl (hb hby d25_10) rfl rfl ?_
  refine Go.iloadN X0 hx (pc' := 12) rfl (hb hby d25_11) rfl ?_
  refine Go.caload X0 hx hZ e0 P0 (v := (.int p0)) ⟨by decide, by decide⟩ rfl (pc' := 13) rfl (hb hby d25_12) ?_
  refine Go.istore X0 hx (pc' := 15) rfl (hb hby d25_13) (Ls' := #[.val (.ref x0), .val (.int 0), .val (.ref x1), .val (.int 0), .val (.int 5), .val (.int 0), .val (.int p0)]) rfl ?_
  refine Go.iload X0 hx (pc' := 17) rfl (hb hby d25_15) rfl ?_
  refine Go.sipush X0 hx (pc' := 20) rfl (hb hby d25_17) (v := (255 : Int32)) (by decide) ?_
  refine Go.icmpYes X0 hx (pc' := 26) (hb hby d25_20) (flt (own_nlt_r (own_rlit (n := 255) (by decide)) R_p0 (by decide))).2.2.2 (by decide) (by decide) ?_
  refine Go.aloadN X0 hx (pc' := 27) rfl (hb hby d25_26) rfl rfl ?_
  refine Go.iloadN X0 hx (pc' := 28) rfl (hb hby d25_27) rfl ?_
  refine Go.iload X0 hx (pc' := 30) rfl (hb hby d25_28) rfl ?_
  refine Go.i2b X0 hx (pc' := 31) rfl (hb hby d25_30) ?_
  generalize hz1 : (p0.toInt8.toInt32) = z1
  have r2 : -128 ≤ z1.toInt ∧ z1.toInt ≤ 127 := own_ri2b hz1
  refine Go.bastore X0 hx hZ e0 P2 z1 (own_nar_byte r2 (by decide) (by decide)) ⟨by decide, by decide⟩ 0 rfl (Nat.le_of_ble_eq_true rfl) (pc' := 32) rfl (hb hby d25_31) ?_
  intro T3 h3 e3 W3 V3 X3
  have N3 := Fr.snoc X3 (Fr.nil n0) g_x1
  refine Go.iinc X3 hx (pc' := 35) rfl (hb hby d25_32) rfl (y := (1 : Int32)) (by decide) (Ls' := #[.val (.ref x0), .val (.int 1), .val (.ref x1), .val (.int 0), .val (.int 5), .val (.int 0), .val (.int p0)]) rfl ?_
  refine Go.iinc X3 hx (pc' := 38) rfl (hb hby d25_35) rfl (y := (1 : Int32)) (by decide) (Ls' := #[.val (.ref x0), .val (.int 1), .val (.ref x1), .val (.int 1), .val (.int 5), .val (.int 0), .val (.int p0)]) rfl ?_
  refine Go.iinc X3 hx (pc' := 41) rfl (hb hby d25_38) rfl (y := (1 : Int32)) (by decide) (Ls' := #[.val (.ref x0), .val (.int 1), .val (.ref x1), .val (.int 1), .val (.int 5), .val (.int 1), .val (.int p0)]) rfl ?_
  refine Go.goto X3 hx (pc' := 3) (hb hby d25_41) (by decide) (by decide) ?_
  refine Go.iload X3 hx (pc' := 5) rfl (hb hby d25_3) rfl ?_
  refine Go.iload X3 hx (pc' := 7) rfl (hb hby d25_5) rfl ?_
  refine Go.icmpNo X3 hx (pc' := 10) rfl (hb hby d25_7) (by decide) ?_
  refine Go.aloadN X3 hx (pc' := 11) rfl (hb hby d25_10) rfl rfl ?_
  refine Go.iloadN X3 hx (pc' := 12) rfl (hb hby d25_11) rfl ?_
  have fk4 := (P0.other W3 ne_x0_x1)
  refine Go.caload X3 hx hZ e3 fk4 (v := (.int p1)) ⟨by decide, by decide⟩ rfl (pc' := 13) rfl (hb hby d25_12) ?_
  refine Go.istore X3 hx (pc' := 15) rfl (hb hby d25_13) (Ls' := #[.val (.ref x0), .val (.int 1), .val (.ref x1), .val (.int 1), .val (.int 5), .val (.int 1), .val (.int p1)]) rfl ?_
  refine Go.iload X3 hx (pc' := 17) rfl (hb hby d25_15) rfl ?_
  refine Go.sipush X3 hx (pc' := 20) rfl (hb hby d25_17) (v := (255 : Int32)) (by decide) ?_
  refine Go.icmpYes X3 hx (pc' := 26) (hb hby d25_20) (flt (own_nlt_r (own_rlit (n := 255) (by decide)) R_p1 (by decide))).2.2.2 (by decide) (by decide) ?_
  refine Go.aloadN X3 hx (pc' := 27) rfl (hb hby d25_26) rfl rfl ?_
  refine Go.iloadN X3 hx (pc' := 28) rfl (hb hby d25_27) rfl ?_
  refine Go.iload X3 hx (pc' := 30) rfl (hb hby d25_28) rfl ?_
  refine Go.i2b X3 hx (pc' := 31) rfl (hb hby d25_30) ?_
  generalize hz5 : (p1.toInt8.toInt32) = z5
  have r6 : -128 ≤ z5.toInt ∧ z5.toInt ≤ 127 := own_ri2b hz5
  refine Go.bastore X3 hx hZ e3 V3 z5 (own_nar_byte r6 (by decide) (by decide)) ⟨by decide, by decide⟩ 1 rfl (Nat.le_of_ble_eq_true rfl) (pc' := 32) rfl (hb hby d25_31) ?_
  intro T7 h7 e7 W7 V7 X7
  have N7 := Fr.snoc X7 N3 g_x1
  refine Go.iinc X7 hx (pc' := 35) rfl (hb hby d25_32) rfl (y := (2 : Int32)) (by decide) (Ls' := #[.val (.ref x0), .val (.int 2), .val (.ref x1), .val (.int 1), .val (.int 5), .val (.int 1), .val (.int p1)]) rfl ?_
  refine Go.iinc X7 hx (pc' := 38) rfl (hb hby d25_35) rfl (y := (2 : Int32)) (by decide) (Ls' := #[.val (.ref x0), .val (.int 2), .val (.ref x1), .val (.int 2), .val (.int 5), .val (.int 1), .val (.int p1)]) rfl ?_
  refine Go.iinc X7 hx (pc' := 41) rfl (hb hby d25_38) rfl (y := (2 : Int32)) (by decide) (Ls' := #[.val (.ref x0), .val (.int 2), .val (.ref x1), .val (.int 2), .val (.int 5), .val (.int 2), .val (.int p1)]) rfl ?_
  refine Go.goto X7 hx (pc' := 3) (hb hby d25_41) (by decide) (by decide) ?_
  refine Go.iload X7 hx (pc' := 5) rfl (hb hby d25_3) rfl ?_
  refine Go.iload X7 hx (pc' := 7) rfl (hb hby d25_5) rfl ?_
  refine Go.icmpNo X7 hx (pc' := 10) rfl (hb hby d25_7) (by decide) ?_
  refine Go.aloadN X7 hx (pc' := 11) rfl (hb hby d25_10) rfl rfl ?_
  refine Go.iloadN X7 hx (pc' := 12) rfl (hb hby d25_11) rfl ?_
  have fk8 := (fk4.other W7 ne_x0_x1)
  refine Go.caload X7 hx hZ e7 fk8 (v := (.int p2)) ⟨by decide, by decide⟩ rfl (pc' := 13) rfl (hb hby d25_12) ?_
  refine Go.istore X7 hx (pc' := 15) rfl (hb hby d25_13) (Ls' := #[.val (.ref x0), .val (.int 2), .val (.ref x1), .val (.int 2), .val (.int 5), .val (.int 2), .val (.int p2)]) rfl ?_
  refine Go.iload X7 hx (pc' := 17) rfl (hb hby d25_15) rfl ?_
  refine Go.sipush X7 hx (pc' := 20) rfl (hb hby d25_17) (v := (255 : Int32)) (by decide) ?_
  refine Go.icmpYes X7 hx (pc' := 26) (hb hby d25_20) (flt (own_nlt_r (own_rlit (n := 255) (by decide)) R_p2 (by decide))).2.2.2 (by decide) (by decide) ?_
  refine Go.aloadN X7 hx (pc' := 27) rfl (hb hby d25_26) rfl rfl ?_
  refine Go.iloadN X7 hx (pc' := 28) rfl (hb hby d25_27) rfl ?_
  refine Go.iload X7 hx (pc' := 30) rfl (hb hby d25_28) rfl ?_
  refine Go.i2b X7 hx (pc' := 31) rfl (hb hby d25_30) ?_
  generalize hz9 : (p2.toInt8.toInt32) = z9
  have r10 : -128 ≤ z9.toInt ∧ z9.toInt ≤ 127 := own_ri2b hz9
  refine Go.bastore X7 hx hZ e7 V7 z9 (own_nar_byte r10 (by decide) (by decide)) ⟨by decide, by decide⟩ 2 rfl (Nat.le_of_ble_eq_true rfl) (pc' := 32) rfl (hb hby d25_31) ?_
  intro T11 h11 e11 W11 V11 X11
  have N11 := Fr.snoc X11 N7 g_x1
  refine Go.iinc X11 hx (pc' := 35) rfl (hb hby d25_32) rfl (y := (3 : Int32)) (by decide) (Ls' := #[.val (.ref x0), .val (.int 3), .val (.ref x1), .val (.int 2), .val (.int 5), .val (.int 2), .val (.int p2)]) rfl ?_
  refine Go.iinc X11 hx (pc' := 38) rfl (hb hby d25_35) rfl (y := (3 : Int32)) (by decide) (Ls' := #[.val (.ref x0), .val (.int 3), .val (.ref x1), .val (.int 3), .val (.int 5), .val (.int 2), .val (.int p2)]) rfl ?_
  refine Go.iinc X11 hx (pc' := 41) rfl (hb hby d25_38) rfl (y := (3 : Int32)) (by decide) (Ls' := #[.val (.ref x0), .val (.int 3), .val (.ref x1), .val (.int 3), .val (.int 5), .val (.int 3), .val (.int p2)]) rfl ?_
  refine Go.goto X11 hx (pc' := 3) (hb hby d25_41) (by decide) (by decide) ?_
  refine Go.iload X11 hx (pc' := 5) rfl (hb hby d25_3) rfl ?_
  refine Go.iload X11 hx (pc' := 7) rfl (hb hby d25_5) rfl ?_
  refine Go.icmpNo X11 hx (pc' := 10) rfl (hb hby d25_7) (by decide) ?_
  refine Go.aloadN X11 hx (pc' := 11) rfl (hb hby d25_10) rfl rfl ?_
  refine Go.iloadN X11 hx (pc' := 12) rfl (hb hby d25_11) rfl ?_
  have fk12 := (fk8.other W11 ne_x0_x1)
  refine Go.caload X11 hx hZ e11 fk12 (v := (.int p3)) ⟨by decide, by decide⟩ rfl (pc' := 13) rfl (hb hby d25_12) ?_
  refine Go.istore X11 hx (pc' := 15) rfl (hb hby d25_13) (Ls' := #[.val (.ref x0), .val (.int 3), .val (.ref x1), .val (.int 3), .val (.int 5), .val (.int 3), .val (.int p3)]) rfl ?_
  refine Go.iload X11 hx (pc' := 17) rfl (hb hby d25_15) rfl ?_
  refine Go.sipush X11 hx (pc' := 20) rfl (hb hby d25_17) (v := (255 : Int32)) (by decide) ?_
  refine Go.icmpYes X11 hx (pc' := 26) (hb hby d25_20) (flt (own_nlt_r (own_rlit (n := 255) (by decide)) R_p3 (by decide))).2.2.2 (by decide) (by decide) ?_
  refine Go.aloadN X11 hx (pc' := 27) rfl (hb hby d25_26) rfl rfl ?_
  refine Go.iloadN X11 hx (pc' := 28) rfl (hb hby d25_27) rfl ?_
  refine Go.iload X11 hx (pc' := 30) rfl (hb hby d25_28) rfl ?_
  refine Go.i2b X11 hx (pc' := 31) rfl (hb hby d25_30) ?_
  generalize hz13 : (p3.toInt8.toInt32) = z13
  have V14 : Arv Z h11 x1 kk1 .byte (5 : Int32) [(.int z1), (.int z5), (.int z9), (.int 0), (.int 0)] (.int 0) := V11
  have r15 : -128 ≤ z13.toInt ∧ z13.toInt ≤ 127 := own_ri2b hz13
  refine Go.bastore X11 hx hZ e11 V14 z13 (own_nar_byte r15 (by decide) (by decide)) ⟨by decide, by decide⟩ 3 rfl (Nat.le_of_ble_eq_true rfl) (pc' := 32) rfl (hb hby d25_31) ?_
  intro T16 h16 e16 W16 V16 X16
  have N16 := Fr.snoc X16 N11 g_x1
  refine Go.iinc X16 hx (pc' := 35) rfl (hb hby d25_32) rfl (y := (4 : Int32)) (by decide) (Ls' := #[.val (.ref x0), .val (.int 4), .val (.ref x1), .val (.int 3), .val (.int 5), .val (.int 3), .val (.int p3)]) rfl ?_
  refine Go.iinc X16 hx (pc' := 38) rfl (hb hby d25_35) rfl (y := (4 : Int32)) (by decide) (Ls' := #[.val (.ref x0), .val (.int 4), .val (.ref x1), .val (.int 4), .val (.int 5), .val (.int 3), .val (.int p3)]) rfl ?_
  refine Go.iinc X16 hx (pc' := 41) rfl (hb hby d25_38) rfl (y := (4 : Int32)) (by decide) (Ls' := #[.val (.ref x0), .val (.int 4), .val (.ref x1), .val (.int 4), .val (.int 5), .val (.int 4), .val (.int p3)]) rfl ?_
  refine Go.goto X16 hx (pc' := 3) (hb hby d25_41) (by decide) (by decide) ?_
  refine Go.iload X16 hx (pc' := 5) rfl (hb hby d25_3) rfl ?_
  refine Go.iload X16 hx (pc' := 7) rfl (hb hby d25_5) rfl ?_
  refine Go.icmpNo X16 hx (pc' := 10) rfl (hb hby d25_7) (by decide) ?_
  refine Go.aloadN X16 hx (pc' := 11) rfl (hb hby d25_10) rfl rfl ?_
  refine Go.iloadN X16 hx (pc' := 12) rfl (hb hby d25_11) rfl ?_
  have fk17 := (fk12.other W16 ne_x0_x1)
  refine Go.caload X16 hx hZ e16 fk17 (v := (.int p4)) ⟨by decide, by decide⟩ rfl (pc' := 13) rfl (hb hby d25_12) ?_
  refine Go.istore X16 hx (pc' := 15) rfl (hb hby d25_13) (Ls' := #[.val (.ref x0), .val (.int 4), .val (.ref x1), .val (.int 4), .val (.int 5), .val (.int 4), .val (.int p4)]) rfl ?_
  refine Go.iload X16 hx (pc' := 17) rfl (hb hby d25_15) rfl ?_
  refine Go.sipush X16 hx (pc' := 20) rfl (hb hby d25_17) (v := (255 : Int32)) (by decide) ?_
  refine Go.icmpYes X16 hx (pc' := 26) (hb hby d25_20) (flt (own_nlt_r (own_rlit (n := 255) (by decide)) R_p4 (by decide))).2.2.2 (by decide) (by decide) ?_
  refine Go.aloadN X16 hx (pc' := 27) rfl (hb hby d25_26) rfl rfl ?_
  refine Go.iloadN X16 hx (pc' := 28) rfl (hb hby d25_27) rfl ?_
  refine Go.iload X16 hx (pc' := 30) rfl (hb hby d25_28) rfl ?_
  refine Go.i2b X16 hx (pc' := 31) rfl (hb hby d25_30) ?_
  generalize hz18 : (p4.toInt8.toInt32) = z18
  have r19 : -128 ≤ z18.toInt ∧ z18.toInt ≤ 127 := own_ri2b hz18
  refine Go.bastore X16 hx hZ e16 V16 z18 (own_nar_byte r19 (by decide) (by decide)) ⟨by decide, by decide⟩ 4 rfl (Nat.le_of_ble_eq_true rfl) (pc' := 32) rfl (hb hby d25_31) ?_
  intro T20 h20 e20 W20 V20 X20
  have N20 := Fr.snoc X20 N16 g_x1
  refine Go.iinc X20 hx (pc' := 35) rfl (hb hby d25_32) rfl (y := (5 : Int32)) (by decide) (Ls' := #[.val (.ref x0), .val (.int 5), .val (.ref x1), .val (.int 4), .val (.int 5), .val (.int 4), .val (.int p4)]) rfl ?_
  refine Go.iinc X20 hx (pc' := 38) rfl (hb hby d25_35) rfl (y := (5 : Int32)) (by decide) (Ls' := #[.val (.ref x0), .val (.int 5), .val (.ref x1), .val (.int 5), .val (.int 5), .val (.int 4), .val (.int p4)]) rfl ?_
  refine Go.iinc X20 hx (pc' := 41) rfl (hb hby d25_38) rfl (y := (5 : Int32)) (by decide) (Ls' := #[.val (.ref x0), .val (.int 5), .val (.ref x1), .val (.int 5), .val (.int 5), .val (.int 5), .val (.int p4)]) rfl ?_
  refine Go.goto X20 hx (pc' := 3) (hb hby d25_41) (by decide) (by decide) ?_
  refine Go.iload X20 hx (pc' := 5) rfl (hb hby d25_3) rfl ?_
  refine Go.iload X20 hx (pc' := 7) rfl (hb hby d25_5) rfl ?_
  refine Go.icmpYes X20 hx (pc' := 44) (hb hby d25_7) (by decide) (by decide) (by decide) ?_
  refine Go.iload X20 hx (pc' := 46) rfl (hb hby d25_44) rfl ?_
  subst hFF
  refine Go.retI X20 hx hlk hret (hb hby d25_46) (by decide) (by decide) ?_
  rw [e20]
  have V21 : Arv Z h20 x1 kk1 .byte (5 : Int32) [(.int z1), (.int z5), (.int z9), (.int z13), (.int z18)] (.int 0) := V20
  have fk22 : Exa Z h20 x1 "[B" := (((((P3.wr W3).wr W7).wr W11).wr W16).wr W20)
  have Kp23 : Keep h0 h3 [x1] := ((Keep.refl h0 [x1]).wr W3 (Or.inl (List.mem_of_getElem? (i := 0) rfl)))
  have Kp24 : Keep h0 h7 [x1] := (Kp23.wr W7 (Or.inl (List.mem_of_getElem? (i := 0) rfl)))
  have Kp25 : Keep h0 h11 [x1] := (Kp24.wr W11 (Or.inl (List.mem_of_getElem? (i := 0) rfl)))
  have Kp26 : Keep h0 h16 [x1] := (Kp25.wr W16 (Or.inl (List.mem_of_getElem? (i := 0) rfl)))
  have Kp27 : Keep h0 h20 [x1] := (Kp26.wr W20 (Or.inl (List.mem_of_getElem? (i := 0) rfl)))
  exact ⟨z1, z5, z9, z13, z18, hz1, hz5, hz9, hz13, hz18, rfl, N20, Kp27, V21, fk22⟩
-- java/lang/StringUTF16.compress
set_option maxRecDepth 65536 in
set_option maxHeartbeats 4000000 in
theorem au_108 (l : Launch) (Z : State) (a0 : Array Value) (hw : ∀ d ∈ tables_1, d.before a0 Z = true) (x0 : Addr) (kk0 : ClassId) (p0 : Int32) (p1 : Int32) (p2 : Int32) (p3 : Int32) (p4 : Int32) (h0 : Heap) (n0 : Nat) (Z0 : n0 ≤ h0.size) (P0 : Arv Z h0 x0 kk0 .char (5 : Int32) [(.int p0), (.int p1), (.int p2), (.int p3), (.int p4)] (.int 0)) (R_p0 : 0 ≤ p0.toInt ∧ p0.toInt ≤ 255) (R_p1 : 0 ≤ p1.toInt ∧ p1.toInt ≤ 255) (R_p2 : 0 ≤ p2.toInt ∧ p2.toInt ≤ 255) (R_p3 : 0 ≤ p3.toInt ∧ p3.toInt ≤ 255) (R_p4 : 0 ≤ p4.toInt ∧ p4.toInt ≤ 255) :
    Ctr l Z (⟨"java/lang/StringUTF16", "compress", "([CII)[B"⟩ : MethodName) jdk_52_method_16_code 6 (some (.array .byte)) ({ frames := 1, cells := 1, slots := 5, locals := 18 } : Room) #[(.ref x0), (.int 0), (.int 5)] h0 (fun v h L => ∃ (z8_0 : Int32) (z8_1 : Int32) (z8_2 : Int32) (z8_3 : Int32) (z8_4 : Int32) (b1 : Addr) (k1 : ClassId), (p0.toInt8.toInt32) = z8_0 ∧ (p1.toInt8.toInt32) = z8_1 ∧ (p2.toInt8.toInt32) = z8_2 ∧ (p3.toInt8.toInt32) = z8_3 ∧ (p4.toInt8.toInt32) = z8_4 ∧ v = some (.ref b1) ∧ Fr n0 L ∧ Keep h0 h [] ∧ h0.size ≤ b1 ∧ Arv Z h b1 k1 .byte (5 : Int32) [(.int z8_0), (.int z8_1), (.int z8_2), (.int z8_3), (.int z8_4)] (.int 0) ∧ Exa Z h b1 "[B") := by
  refine Ctr.of (plainFor_of_name pn_c6) ?_
  intro p e s m below meth c T0 hx hZ hby hml hown hnm hret hlk e0 es X0
  refine Go.cast (ef_24_RII m x0 (0 : Int32) (5 : Int32)) ?_
  generalize hFF : EndN s _ _ _ = FF
  refine Go.iloadN X0 hx (pc' := 1) rfl (hb hby d24_0) rfl ?_
  refine Go.newarray X0 hx hZ (ty := .byte) rfl (tw_23 hw) e0 (by decide) (cap := 5) (by decide) (by decide) (by decide) (by decide) (ad := "[B") (by decide) 5 (pc' := 3) rfl (hb hby d24_1) ?_
  intro T1 h1 b1 k1 e1 E1 g1 V1 A1 X1
  have V1' : Arv Z h1 b1 k1 .byte (5 : Int32) [(.int 0), (.int 0), (.int 0), (.int 0), (.int 0)] (.int 0) := V1
  refine Go.astoreN X1 hx (pc' := 4) rfl (hb hby d24_3) (Ls' := #[.val (.ref x0), .val (.int 0), .val (.int 5), .val (.ref b1), .unset, .unset]) rfl rfl ?_
  refine Go.aloadN X1 hx (pc' := 5) rfl (hb hby d24_4) rfl rfl ?_
  refine Go.iloadN X1 hx (pc' := 6) rfl (hb hby d24_5) rfl ?_
  refine Go.aloadN X1 hx (pc' := 7) rfl (hb hby d24_6) rfl rfl ?_
  refine Go.iconst X1 hx (pc' := 8) rfl (hb hby d24_7) (v := (0 : Int32)) rfl ?_
  refine Go.iloadN X1 hx (pc' := 9) rfl (hb hby d24_8) rfl ?_
  have Kp3 : Keep h0 h1 [] := ((Keep.refl h0 []).ext E1)
  have Zn2 : n0 ≤ h1.size := Nat.le_trans Z0 Kp3.1
  have fk4 := (P0.ext E1)
  have sz6 : h0.size ≤ b1 := Nat.le_trans (Keep.refl h0 []).1 (Nat.le_of_eq g1.symm)
  have ge5 : n0 ≤ b1 := Nat.le_trans Z0 sz6
  have ne7 : x0 ≠ b1 := Nat.ne_of_lt (Nat.lt_of_lt_of_le P0.lt (Nat.le_of_eq g1.symm))
  refine Go.callS X1 hx hZ hown (tw_118 hw) (tw_119 hw) (tw_116 hw) (tw_120 hw) (by decide) (tw_120 hw) (tw_116 hw) (au_109 l Z a0 hw x0 b1 kk0 p0 p1 p2 p3 p4 k1 h1 n0 Zn2 fk4 V1' A1 R_p0 R_p1 R_p2 R_p3 R_p4 ge5 ne7) e1 (argsL := [(.ref x0), (.int 0), (.ref b1), (.int 0), (.int 5)]) (rest := []) (pc' := 12) rfl (by rw [hml]; rfl) (lenOf pd_19 rfl) rfl rfl (W := 0) (Nat.le_of_eq rfl) (by decide) (by decide) (by decide) (by decide) (hb hby d24_9) ?_
  intro v8 T8 L8 q8 X8
  obtain ⟨h8, e8⟩ : ∃ z, T8.heap = z := ⟨_, rfl⟩
  rw [e8] at q8
  obtain ⟨z8_0, z8_1, z8_2, z8_3, z8_4, d8_0, d8_1, d8_2, d8_3, d8_4, rfl, N8, K8, F8_0, F8_1⟩ := q8
  show Go _ _ _ _ (T8.setTop (mkF m 12 #[.val (.ref x0), .val (.int 0), .val (.int 5), .val (.ref b1), .unset, .unset] [(.int 5)]))
  refine Go.istore X8 hx (pc' := 14) rfl (hb hby d24_12) (Ls' := #[.val (.ref x0), .val (.int 0), .val (.int 5), .val (.ref b1), .val (.int 5), .unset]) rfl ?_
  refine Go.iload X8 hx (pc' := 16) rfl (hb hby d24_14) rfl ?_
  refine Go.iloadN X8 hx (pc' := 17) rfl (hb hby d24_16) rfl ?_
  refine Go.icmpYes X8 hx (pc' := 57) (hb hby d24_17) (by decide) (by decide) (by decide) ?_
  refine Go.aloadN X8 hx (pc' := 58) rfl (hb hby d24_57) rfl rfl ?_
  subst hFF
  refine Go.retR X8 hx hlk (t := (.array .byte)) hret rfl rfl (hb hby d24_58) (by decide) (by decide) ?_
  rw [e8]
  have Kp9 : Keep h0 h8 [] := (Kp3.trans K8 (allS (Or.inr sz6) all0))
  exact ⟨z8_0, z8_1, z8_2, z8_3, z8_4, b1, k1, d8_0, d8_1, d8_2, d8_3, d8_4, rfl, (Fr.app (Fr.nil n0) N8), Kp9, sz6, F8_0, F8_1⟩
-- java/lang/StringUTF16.coderFromArrayLen
set_option maxRecDepth 65536 in
set_option maxHeartbeats 4000000 in
theorem au_110 (l : Launch) (Z : State) (a0 : Array Value) (hw : ∀ d ∈ tables_1, d.before a0 Z = true) (x0 : Addr) (kk0 : ClassId) (p0 : Int32) (p1 : Int32) (p2 : Int32) (p3 : Int32) (p4 : Int32) (h0 : Heap) (n0 : Nat) (Z0 : n0 ≤ h0.size) (P0 : Arv Z h0 x0 kk0 .byte (5 : Int32) [(.int p0), (.int p1), (.int p2), (.int p3), (.int p4)] (.int 0)) :
    Ctr l Z (⟨"java/lang/StringUTF16", "coderFromArrayLen", "([BI)B"⟩ : MethodName) jdk_52_method_15_code 2 (some .byte) ({ frames := 0, cells := 0, slots := 0, locals := 0 } : Room) #[(.ref x0), (.int 5)] h0 (fun v h L => v = some (.int 0) ∧ Fr n0 L ∧ h = h0) := by
  refine Ctr.of (plainFor_of_name pn_c6) ?_
  intro p e s m below meth c T0 hx hZ hby hml hown hnm hret hlk e0 es X0
  refine Go.cast (ef_26_RI m x0 (5 : Int32)) ?_
  generalize hFF : EndN s _ _ _ = FF
  refine Go.iloadN X0 hx (pc' := 1) rfl (hb hby d26_0) rfl ?_
  refine Go.aloadN X0 hx (pc' := 2) rfl (hb hby d26_1) rfl rfl ?_
  refine Go.arraylength X0 hx hZ e0 P0 (pc' := 3) rfl (hb hby d26_2) ?_
  refine Go.isub X0 hx (pc' := 4) rfl (hb hby d26_3) ?_
  rw [show ((5 : Int32) - (5 : Int32)) = (0 : Int32) from by decide]
  refine Go.bipush X0 hx (pc' := 6) rfl (hb hby d26_4) (v := (31 : Int32)) (by decide) ?_
  refine Go.iushr X0 hx (pc' := 7) rfl (hb hby d26_6) ?_
  rw [show (((0 : Int32).toUInt32 >>> ((31 : Int32) &&& 31).toUInt32).toInt32) = (0 : Int32) from by decide]
  refine Go.i2b X0 hx (pc' := 8) rfl (hb hby d26_7) ?_
  rw [show ((0 : Int32).toInt8.toInt32) = (0 : Int32) from by decide]
  subst hFF
  refine Go.retN X0 hx hlk (t := .byte) hret (by simp) (hb hby d26_8) (by decide) (by decide) ?_
  rw [e0]
  exact ⟨(congrArg (fun z => some (Value.int z)) (by decide : nar .byte (0 : Int32) = (0 : Int32))), (Fr.nil n0), rfl⟩
-- java/lang/String.init
set_option maxRecDepth 65536 in
set_option maxHeartbeats 4000000 in
theorem au_107 (l : Launch) (Z : State) (a0 : Array Value) (hw : ∀ d ∈ tables_1, d.before a0 Z = true) (x0 : Addr) (x1 : Addr) (kk0 : ClassId) (p0 : Int32) (p1 : Int32) (p2 : Int32) (p3 : Int32) (p4 : Int32) (gz1 : Int32) (gv5 : Value) (h0 : Heap) (n0 : Nat) (Z0 : n0 ≤ h0.size) (O0 : Old Z n0 h0) (G : Glob Z gz1 gv5) (P0 : Exa Z h0 x0 "java/lang/String") (P1 : Fld Z h0 x0 "java/lang/String" "coder" "B" (.int 0)) (P2 : Fld Z h0 x0 "java/lang/String" "value" "[B" .null) (P3 : Arv Z h0 x1 kk0 .char (5 : Int32) [(.int p0), (.int p1), (.int p2), (.int p3), (.int p4)] (.int 0)) (R_p0 : 0 ≤ p0.toInt ∧ p0.toInt ≤ 255) (R_p1 : 0 ≤ p1.toInt ∧ p1.toInt ≤ 255) (R_p2 : 0 ≤ p2.toInt ∧ p2.toInt ≤ 255) (R_p3 : 0 ≤ p3.toInt ∧ p3.toInt ≤ 255) (R_p4 : 0 ≤ p4.toInt ∧ p4.toInt ≤ 255) (g_x0 : n0 ≤ x0) :
    Ctr l Z (⟨"java/lang/String", "<init>", "([CIILjava/lang/Void;)V"⟩ : MethodName) jdk_42_method_149_code 6 none ({ frames := 2, cells := 1, slots := 5, locals := 35 } : Room) #[(.ref x0), (.ref x1), (.int 0), (.int 5), .null] h0 (fun v h L => ∃ (z4_0 : Int32) (z4_1 : Int32) (z4_2 : Int32) (z4_3 : Int32) (z4_4 : Int32) (b4_0 : Addr) (k4_0 : ClassId), (p0.toInt8.toInt32) = z4_0 ∧ (p1.toInt8.toInt32) = z4_1 ∧ (p2.toInt8.toInt32) = z4_2 ∧ (p3.toInt8.toInt32) = z4_3 ∧ (p4.toInt8.toInt32) = z4_4 ∧ v = none ∧ Fr n0 L ∧ Keep h0 h [x0] ∧ h0.size ≤ b4_0 ∧ Exa Z h x0 "java/lang/String" ∧ Fld Z h x0 "java/lang/String" "coder" "B" (.int 0) ∧ Fld Z h x0 "java/lang/String" "value" "[B" (.ref b4_0) ∧ Arv Z h b4_0 k4_0 .byte (5 : Int32) [(.int z4_0), (.int z4_1), (.int z4_2), (.int z4_3), (.int z4_4)] (.int 0) ∧ Exa Z h b4_0 "[B") := by
  refine Ctr.of (plainFor_of_name pn_c1) ?_
  intro p e s m below meth c T0 hx hZ hby hml hown hnm hret hlk e0 es X0
  have G' := G
  obtain ⟨G0, -, G2, -⟩ := G'
  refine Go.cast (ef_4_RRIIN m x0 x1 (0 : Int32) (5 : Int32)) ?_
  generalize hFF : EndN s _ _ _ = FF
  refine Go.aloadN X0 hx (pc' := 1) rfl (hb hby d4_0) rfl rfl ?_
  refine Go.initO X0 hx hZ hown (tw_19 hw) (tw_20 hw) (tw_21 hw) e0 (by decide) (W := 0) (by rw [hml]; rfl) (Nat.le_of_eq rfl) (by decide) (pc' := 4) rfl (hb hby d4_1) ?_
  intro T1 e1 X1
  refine Go.iloadN X1 hx (pc' := 5) rfl (hb hby d4_4) rfl ?_
  refine Go.ifYes X1 hx (pc' := 27) (hb hby d4_5) (by decide) (by decide) (by decide) ?_
  have fk2 : Sta Z h0 "java/lang/String" "COMPACT_STRINGS" "Z" (.int gz1) := G0.ext O0.2
  refine Go.getS X1 hx hZ hown (host := "") (Or.inl (tw_55 hw)) Via.refl e1 fk2 (pc' := 30) rfl (hb hby d4_27) ?_
  intro T3 e3 X3
  refine Go.ifNo X3 hx (pc' := 33) rfl (hb hby d4_30) (feq G2).1 ?_
  refine Go.aloadN X3 hx (pc' := 34) rfl (hb hby d4_33) rfl rfl ?_
  refine Go.iloadN X3 hx (pc' := 35) rfl (hb hby d4_34) rfl ?_
  refine Go.iloadN X3 hx (pc' := 36) rfl (hb hby d4_35) rfl ?_
  refine Go.callS X3 hx hZ hown (tw_114 hw) (tw_115 hw) (tw_116 hw) (tw_117 hw) (by decide) (tw_117 hw) (tw_116 hw) (au_108 l Z a0 hw x1 kk0 p0 p1 p2 p3 p4 h0 n0 Z0 P3 R_p0 R_p1 R_p2 R_p3 R_p4) e3 (argsL := [(.ref x1), (.int 0), (.int 5)]) (rest := []) (pc' := 39) rfl (by rw [hml]; rfl) (lenOf pd_20 rfl) rfl rfl (W := 0) (Nat.le_of_eq rfl) (by decide) (by decide) (by decide) (by decide) (hb hby d4_36) ?_
  intro v4 T4 L4 q4 X4
  obtain ⟨h4, e4⟩ : ∃ z, T4.heap = z := ⟨_, rfl⟩
  rw [e4] at q4
  obtain ⟨z4_0, z4_1, z4_2, z4_3, z4_4, b4_0, k4_0, d4_0, d4_1, d4_2, d4_3, d4_4, rfl, N4, K4, s4_0, F4_0, F4_1⟩ := q4
  show Go _ _ _ _ (T4.setTop (mkF m 39 #[.val (.ref x0), .val (.ref x1), .val (.int 0), .val (.int 5), .val .null, .unset] [(.ref b4_0)]))
  refine Go.astore X4 hx (pc' := 41) rfl (hb hby d4_39) (Ls' := #[.val (.ref x0), .val (.ref x1), .val (.int 0), .val (.int 5), .val .null, .val (.ref b4_0)]) rfl rfl ?_
  refine Go.aloadN X4 hx (pc' := 42) rfl (hb hby d4_41) rfl rfl ?_
  refine Go.aload X4 hx (pc' := 44) rfl (hb hby d4_42) rfl rfl ?_
  refine Go.iloadN X4 hx (pc' := 45) rfl (hb hby d4_44) rfl ?_
  have r5 : -128 ≤ z4_0.toInt ∧ z4_0.toInt ≤ 127 := own_ri2b d4_0
  have r6 : -128 ≤ z4_1.toInt ∧ z4_1.toInt ≤ 127 := own_ri2b d4_1
  have r7 : -128 ≤ z4_2.toInt ∧ z4_2.toInt ≤ 127 := own_ri2b d4_2
  have r8 : -128 ≤ z4_3.toInt ∧ z4_3.toInt ≤ 127 := own_ri2b d4_3
  have r9 : -128 ≤ z4_4.toInt ∧ z4_4.toInt ≤ 127 := own_ri2b d4_4
  have Kp11 : Keep h0 h4 [x0] := ((Keep.refl h0 [x0]).trans K4 all0)
  have Zn10 : n0 ≤ h4.size := Nat.le_trans Z0 Kp11.1
  refine Go.callS X4 hx hZ hown (tw_121 hw) (tw_122 hw) (tw_116 hw) (tw_123 hw) (by decide) (tw_123 hw) (tw_116 hw) (au_110 l Z a0 hw b4_0 k4_0 z4_0 z4_1 z4_2 z4_3 z4_4 h4 n0 Zn10 F4_0) e4 (argsL := [(.ref b4_0), (.int 5)]) (rest := [(.ref x0)]) (pc' := 48) rfl (by rw [hml]; rfl) (lenOf pd_21 rfl) rfl rfl (W := 1) (Nat.le_of_eq rfl) (by decide) (by decide) (by decide) (by decide) (hb hby d4_45) ?_
  intro v12 T12 L12 q12 X12
  obtain ⟨rfl, N12, e12⟩ := q12
  show Go _ _ _ _ (T12.setTop (mkF m 48 #[.val (.ref x0), .val (.ref x1), .val (.int 0), .val (.int 5), .val .null, .val (.ref b4_0)] [(.int 0), (.ref x0)]))
  have fk13 : Fld Z h4 x0 "java/lang/String" "coder" "B" (.int 0) := (P1.keep K4 nin0)
  have fk14 : Exa Z h4 x0 "java/lang/String" := (P0.keep K4)
  refine Go.putFN X12 hx hZ hown (tw_29 hw) Via.refl e12 fk13 fk14 (Or.inr ⟨(tw_25 hw), rfl, hnm⟩) (tw_9 hw) (ty := .byte) (v' := (.int 0)) (by decide) (by decide) (by decide) (pc' := 51) rfl (hb hby d4_48) ?_
  intro T15 h15 e15 W15 F15 X15
  have N15 := Fr.snoc X15 (Fr.app (Fr.app (Fr.nil n0) N4) N12) g_x0
  refine Go.aloadN X15 hx (pc' := 52) rfl (hb hby d4_51) rfl rfl ?_
  refine Go.aload X15 hx (pc' := 54) rfl (hb hby d4_52) rfl rfl ?_
  have fk16 : Fld Z h15 x0 "java/lang/String" "value" "[B" .null := ((P2.keep K4 nin0).other W15 (Or.inr (slot_ne (Or.inr (tw_24 hw)) (Or.inr (tw_25 hw)) (by decide) (t := (.array .byte)) (t' := .byte) (by decide) (by decide))))
  have fk17 : Exa Z h15 x0 "java/lang/String" := (fk14.wr W15)
  refine Go.putF X15 hx hZ hown (host := "") (Or.inl (tw_28 hw)) Via.refl e15 fk16 fk17 (Or.inr ⟨(tw_24 hw), rfl, hnm⟩) (tw_9 hw) (ty := (.array .byte)) (by decide) rfl rfl (pc' := 57) rfl (hb hby d4_54) ?_
  intro T18 h18 e18 W18 F18 X18
  have N18 := Fr.snoc X18 N15 g_x0
  subst hFF
  refine Go.ret0 X18 hx hlk hret (hb hby d4_57) (by decide) (by decide) ?_
  rw [e18]
  have fk19 : Exa Z h18 x0 "java/lang/String" := (fk17.wr W18)
  have fk20 : Fld Z h18 x0 "java/lang/String" "coder" "B" (.int 0) := (F15.other W18 (Or.inr (slot_ne (Or.inr (tw_25 hw)) (Or.inr (tw_24 hw)) (by decide) (t := .byte) (t' := (.array .byte)) (by decide) (by decide))))
  have ne21 : x0 ≠ b4_0 := Nat.ne_of_lt (Nat.lt_of_lt_of_le P0.lt s4_0)
  have fk22 := ((F4_0.other W15 (Ne.symm ne21)).other W18 (Ne.symm ne21))
  have fk23 : Exa Z h18 b4_0 "[B" := ((F4_1.wr W15).wr W18)
  have Kp24 : Keep h0 h15 [x0] := (Kp11.wr W15 (Or.inl (List.mem_of_getElem? (i := 0) rfl)))
  have Kp25 : Keep h0 h18 [x0] := (Kp24.wr W18 (Or.inl (List.mem_of_getElem? (i := 0) rfl)))
  have sz26 : h0.size ≤ b4_0 := Nat.le_trans (Keep.refl h0 [x0]).1 s4_0
  exact ⟨z4_0, z4_1, z4_2, z4_3, z4_4, b4_0, k4_0, d4_0, d4_1, d4_2, d4_3, d4_4, rfl, N18, Kp25, sz26, fk19, fk20, F18, fk22, fk23⟩
-- java/lang/String.init
set_option maxRecDepth 65536 in
set_option maxHeartbeats 4000000 in
theorem au_106 (l : Launch) (Z : State) (a0 : Array Value) (hw : ∀ d ∈ tables_1, d.before a0 Z = true) (x0 : Addr) (x1 : Addr) (kk0 : ClassId) (p0 : Int32) (p1 : Int32) (p2 : Int32) (p3 : Int32) (p4 : Int32) (gz1 : Int32) (gv5 : Value) (h0 : Heap) (n0 : Nat) (Z0 : n0 ≤ h0.size) (O0 : Old Z n0 h0) (G : Glob Z gz1 gv5) (P0 : Exa Z h0 x0 "java/lang/String") (P1 : Fld Z h0 x0 "java/lang/String" "coder" "B" (.int 0)) (P2 : Fld Z h0 x0 "java/lang/String" "value" "[B" .null) (P3 : Arv Z h0 x1 kk0 .char (5 : Int32) [(.int p0), (.int p1), (.int p2), (.int p3), (.int p4)] (.int 0)) (R_p0 : 0 ≤ p0.toInt ∧ p0.toInt ≤ 255) (R_p1 : 0 ≤ p1.toInt ∧ p1.toInt ≤ 255) (R_p2 : 0 ≤ p2.toInt ∧ p2.toInt ≤ 255) (R_p3 : 0 ≤ p3.toInt ∧ p3.toInt ≤ 255) (R_p4 : 0 ≤ p4.toInt ∧ p4.toInt ≤ 255) (g_x0 : n0 ≤ x0) :
    Ctr l Z (⟨"java/lang/String", "<init>", "([C)V"⟩ : MethodName) jdk_42_method_3_code 2 none ({ frames := 3, cells := 1, slots := 5, locals := 52 } : Room) #[(.ref x0), (.ref x1)] h0 (fun v h L => ∃ (z1_0 : Int32) (z1_1 : Int32) (z1_2 : Int32) (z1_3 : Int32) (z1_4 : Int32) (b1_0 : Addr) (k1_0 : ClassId), (p0.toInt8.toInt32) = z1_0 ∧ (p1.toInt8.toInt32) = z1_1 ∧ (p2.toInt8.toInt32) = z1_2 ∧ (p3.toInt8.toInt32) = z1_3 ∧ (p4.toInt8.toInt32) = z1_4 ∧ v = none ∧ Fr n0 L ∧ Keep h0 h [x0] ∧ h0.size ≤ b1_0 ∧ Exa Z h x0 "java/lang/String" ∧ Fld Z h x0 "java/lang/String" "coder" "B" (.int 0) ∧ Fld Z h x0 "java/lang/String" "value" "[B" (.ref b1_0) ∧ Arv Z h b1_0 k1_0 .byte (5 : Int32) [(.int z1_0), (.int z1_1), (.int z1_2), (.int z1_3), (.int z1_4)] (.int 0) ∧ Exa Z h b1_0 "[B") := by
  refine Ctr.of (plainFor_of_name pn_c1) ?_
  intro p e s m below meth c T0 hx hZ hby hml hown hnm hret hlk e0 es X0
  refine Go.cast (ef_3_RR m x0 x1) ?_
  generalize hFF : EndN s _ _ _ = FF
  refine Go.aloadN X0 hx (pc' := 1) rfl (hb hby d3_0) rfl rfl ?_
  refine Go.aloadN X0 hx (pc' := 2) rfl (hb hby d3_1) rfl rfl ?_
  refine Go.iconst X0 hx (pc' := 3) rfl (hb hby d3_2) (v := (0 : Int32)) rfl ?_
  refine Go.aloadN X0 hx (pc' := 4) rfl (hb hby d3_3) rfl rfl ?_
  refine Go.arraylength X0 hx hZ e0 P3 (pc' := 5) rfl (hb hby d3_4) ?_
  refine Go.anull X0 hx (pc' := 6) rfl (hb hby d3_5) ?_
  refine Go.callN X0 hx hZ hown rfl (tw_15 hw) (tw_16 hw) (tw_18 hw) (by decide) (tw_18 hw) (tw_10 hw) (au_107 l Z a0 hw x0 x1 kk0 p0 p1 p2 p3 p4 gz1 gv5 h0 n0 Z0 O0 G P0 P1 P2 P3 R_p0 R_p1 R_p2 R_p3 R_p4 g_x0) e0 (a := x0) (argsL := [(.ref x1), (.int 0), (.int 5), .null]) (rest := []) (pc' := 9) rfl (by rw [hml]; rfl) (lenOf pd_1 rfl) rfl rfl (W := 0) (Nat.le_of_eq rfl) (by decide) (by decide) (by decide) (by decide) (hb hby d3_6) ?_
  intro v1 T1 L1 q1 X1
  obtain ⟨h1, e1⟩ : ∃ z, T1.heap = z := ⟨_, rfl⟩
  rw [e1] at q1
  obtain ⟨z1_0, z1_1, z1_2, z1_3, z1_4, b1_0, k1_0, d1_0, d1_1, d1_2, d1_3, d1_4, rfl, N1, K1, s1_0, F1_0, F1_1, F1_2, F1_3, F1_4⟩ := q1
  show Go _ _ _ _ (T1.setTop (mkF m 9 #[.val (.ref x0), .val (.ref x1)] []))
  subst hFF
  refine Go.ret0 X1 hx hlk hret (hb hby d3_9) (by decide) (by decide) ?_
  rw [e1]
  have Kp2 : Keep h0 h1 [x0] := ((Keep.refl h0 [x0]).trans K1 (allS (Or.inl (List.mem_of_getElem? (i := 0) rfl)) all0))
  have sz3 : h0.size ≤ b1_0 := Nat.le_trans (Keep.refl h0 [x0]).1 s1_0
  exact ⟨z1_0, z1_1, z1_2, z1_3, z1_4, b1_0, k1_0, d1_0, d1_1, d1_2, d1_3, d1_4, rfl, (Fr.app (Fr.nil n0) N1), Kp2, sz3, F1_0, F1_1, F1_2, F1_3, F1_4⟩
theorem d2_149 : decode method_3_code 149 = .ok (.invokespecial 9, 3) := by decide +kernel
theorem d2_152 : decode method_3_code 152 = .ok (.areturn, 1) := by decide +kernel
-- com/example/roles_over_datacenter/rolesoverdatacenter/PageServesPinLaw.make
set_option maxRecDepth 65536 in
set_option maxHeartbeats 4000000 in
theorem au_105 (l : Launch) (Z : State) (a0 : Array Value) (hw : ∀ d ∈ tables_1, d.before a0 Z = true) (p0 : Int32) (p1 : Int32) (p2 : Int32) (p3 : Int32) (p4 : Int32) (gz1 : Int32) (gv5 : Value) (h0 : Heap) (n0 : Nat) (Z0 : n0 ≤ h0.size) (O0 : Old Z n0 h0) (G : Glob Z gz1 gv5) (R_p0 : 0 ≤ p0.toInt ∧ p0.toInt ≤ 255) (R_p1 : 0 ≤ p1.toInt ∧ p1.toInt ≤ 255) (R_p2 : 0 ≤ p2.toInt ∧ p2.toInt ≤ 255) (R_p3 : 0 ≤ p3.toInt ∧ p3.toInt ≤ 255) (R_p4 : 0 ≤ p4.toInt ∧ p4.toInt ≤ 255) :
    Ctr l Z (⟨"com/example/roles_over_datacenter/rolesoverdatacenter/PageServesPinLaw", "make", "(ICCCCC)Ljava/lang/String;"⟩ : MethodName) method_3_code 6 (some (.object "java/lang/String")) ({ frames := 4, cells := 3, slots := 14, locals := 66 } : Room) #[(.int 5), (.int p0), (.int p1), (.int p2), (.int p3), (.int p4)] h0 (fun v h L => ∃ (z33_0 : Int32) (z33_1 : Int32) (z33_2 : Int32) (z33_3 : Int32) (z33_4 : Int32) (b1 : Addr) (b33_0 : Addr) (k33_0 : ClassId), (p0.toInt8.toInt32) = z33_0 ∧ (p1.toInt8.toInt32) = z33_1 ∧ (p2.toInt8.toInt32) = z33_2 ∧ (p3.toInt8.toInt32) = z33_3 ∧ (p4.toInt8.toInt32) = z33_4 ∧ v = some (.ref b1) ∧ Fr n0 L ∧ Keep h0 h [] ∧ h0.size ≤ b1 ∧ h0.size ≤ b33_0 ∧ b33_0 ≠ b1 ∧ Exa Z h b1 "java/lang/String" ∧ Fld Z h b1 "java/lang/String" "coder" "B" (.int 0) ∧ Fld Z h b1 "java/lang/String" "value" "[B" (.ref b33_0) ∧ Arv Z h b33_0 k33_0 .byte (5 : Int32) [(.int z33_0), (.int z33_1), (.int z33_2), (.int z33_3), (.int z33_4)] (.int 0) ∧ Exa Z h b33_0 "[B") := by
  refine Ctr.of (plainFor_of_name pn_c0) ?_
  intro p e s m below meth c T0 hx hZ hby hml hown hnm hret hlk e0 es X0
  refine Go.cast (ef_2_IIIIII m (5 : Int32) p0 p1 p2 p3 p4) ?_
  generalize hFF : EndN s _ _ _ = FF
  refine Go.iloadN X0 hx (pc' := 1) rfl (hb hby d2_0) rfl ?_
  refine Go.ifYes X0 hx (pc' := 15) (hb hby d2_1) (by decide) (by decide) (by decide) ?_
  refine Go.iloadN X0 hx (pc' := 16) rfl (hb hby d2_15) rfl ?_
  refine Go.iconst X0 hx (pc' := 17) rfl (hb hby d2_16) (v := (1 : Int32)) rfl ?_
  refine Go.icmpYes X0 hx (pc' := 35) (hb hby d2_17) (by decide) (by decide) (by decide) ?_
  refine Go.iloadN X0 hx (pc' := 36) rfl (hb hby d2_35) rfl ?_
  refine Go.iconst X0 hx (pc' := 37) rfl (hb hby d2_36) (v := (2 : Int32)) rfl ?_
  refine Go.icmpYes X0 hx (pc' := 59) (hb hby d2_37) (by decide) (by decide) (by decide) ?_
  refine Go.iloadN X0 hx (pc' := 60) rfl (hb hby d2_59) rfl ?_
  refine Go.iconst X0 hx (pc' := 61) rfl (hb hby d2_60) (v := (3 : Int32)) rfl ?_
  refine Go.icmpYes X0 hx (pc' := 87) (hb hby d2_61) (by decide) (by decide) (by decide) ?_
  refine Go.iloadN X0 hx (pc' := 88) rfl (hb hby d2_87) rfl ?_
  refine Go.iconst X0 hx (pc' := 89) rfl (hb hby d2_88) (v := (4 : Int32)) rfl ?_
  refine Go.icmpYes X0 hx (pc' := 120) (hb hby d2_89) (by decide) (by decide) (by decide) ?_
  refine Go.new X0 hx hZ hown (tw_8 hw) (tw_9 hw) (tw_10 hw) e0 (by decide) (by decide) (pc' := 123) rfl (hb hby d2_120) ?_
  intro T1 h1 b1 e1 E1 g1 A1 D1 X1
  have b1_value : Fld Z h1 b1 "java/lang/String" "value" "[B" .null := D1 (Or.inr (tw_24 hw)) (ty := (.array .byte)) (by decide)
  have b1_coder : Fld Z h1 b1 "java/lang/String" "coder" "B" (.int 0) := D1 (Or.inr (tw_25 hw)) (ty := .byte) (by decide)
  refine Go.dup X1 hx (pc' := 124) rfl (hb hby d2_123) rfl ?_
  refine Go.iconst X1 hx (pc' := 125) rfl (hb hby d2_124) (v := (5 : Int32)) rfl ?_
  refine Go.newarray X1 hx hZ (ty := .char) rfl (tw_11 hw) e1 (by decide) (cap := 5) (by decide) (by decide) (by decide) (by decide) (ad := "[C") (by decide) 5 (pc' := 127) rfl (hb hby d2_125) ?_
  intro T2 h2 b2 k2 e2 E2 g2 V2 A2 X2
  have V2' : Arv Z h2 b2 k2 .char (5 : Int32) [(.int 0), (.int 0), (.int 0), (.int 0), (.int 0)] (.int 0) := V2
  refine Go.dup X2 hx (pc' := 128) rfl (hb hby d2_127) rfl ?_
  refine Go.iconst X2 hx (pc' := 129) rfl (hb hby d2_128) (v := (0 : Int32)) rfl ?_
  refine Go.iloadN X2 hx (pc' := 130) rfl (hb hby d2_129) rfl ?_
  have Kp5 : Keep h0 h1 [] := ((Keep.refl h0 []).ext E1)
  have sz4 : h0.size ≤ b2 := Nat.le_trans Kp5.1 (Nat.le_of_eq g2.symm)
  have ge3 : n0 ≤ b2 := Nat.le_trans Z0 sz4
  refine Go.castore X2 hx hZ e2 V2' p0 (own_nar_char R_p0 (by decide) (by decide)) ⟨by decide, by decide⟩ 0 rfl (Nat.le_of_ble_eq_true rfl) (pc' := 131) rfl (hb hby d2_130) ?_
  intro T6 h6 e6 W6 V6 X6
  have N6 := Fr.snoc X6 (Fr.nil n0) ge3
  refine Go.dup X6 hx (pc' := 132) rfl (hb hby d2_131) rfl ?_
  refine Go.iconst X6 hx (pc' := 133) rfl (hb hby d2_132) (v := (1 : Int32)) rfl ?_
  refine Go.iloadN X6 hx (pc' := 134) rfl (hb hby d2_133) rfl ?_
  refine Go.castore X6 hx hZ e6 V6 p1 (own_nar_char R_p1 (by decide) (by decide)) ⟨by decide, by decide⟩ 1 rfl (Nat.le_of_ble_eq_true rfl) (pc' := 135) rfl (hb hby d2_134) ?_
  intro T7 h7 e7 W7 V7 X7
  have N7 := Fr.snoc X7 N6 ge3
  refine Go.dup X7 hx (pc' := 136) rfl (hb hby d2_135) rfl ?_
  refine Go.iconst X7 hx (pc' := 137) rfl (hb hby d2_136) (v := (2 : Int32)) rfl ?_
  refine Go.iloadN X7 hx (pc' := 138) rfl (hb hby d2_137) rfl ?_
  refine Go.castore X7 hx hZ e7 V7 p2 (own_nar_char R_p2 (by decide) (by decide)) ⟨by decide, by decide⟩ 2 rfl (Nat.le_of_ble_eq_true rfl) (pc' := 139) rfl (hb hby d2_138) ?_
  intro T8 h8 e8 W8 V8 X8
  have N8 := Fr.snoc X8 N7 ge3
  refine Go.dup X8 hx (pc' := 140) rfl (hb hby d2_139) rfl ?_
  refine Go.iconst X8 hx (pc' := 141) rfl (hb hby d2_140) (v := (3 : Int32)) rfl ?_
  refine Go.iload X8 hx (pc' := 143) rfl (hb hby d2_141) rfl ?_
  have V9 : Arv Z h8 b2 k2 .char (5 : Int32) [(.int p0), (.int p1), (.int p2), (.int 0), (.int 0)] (.int 0) := V8
  refine Go.castore X8 hx hZ e8 V9 p3 (own_nar_char R_p3 (by decide) (by decide)) ⟨by decide, by decide⟩ 3 rfl (Nat.le_of_ble_eq_true rfl) (pc' := 144) rfl (hb hby d2_143) ?_
  intro T10 h10 e10 W10 V10 X10
  have N10 := Fr.snoc X10 N8 ge3
  refine Go.dup X10 hx (pc' := 145) rfl (hb hby d2_144) rfl ?_
  refine Go.iconst X10 hx (pc' := 146) rfl (hb hby d2_145) (v := (4 : Int32)) rfl ?_
  refine Go.iload X10 hx (pc' := 148) rfl (hb hby d2_146) rfl ?_
  refine Go.castore X10 hx hZ e10 V10 p4 (own_nar_char R_p4 (by decide) (by decide)) ⟨by decide, by decide⟩ 4 rfl (Nat.le_of_ble_eq_true rfl) (pc' := 149) rfl (hb hby d2_148) ?_
  intro T11 h11 e11 W11 V11 X11
  have N11 := Fr.snoc X11 N10 ge3
  have Kp13 : Keep h0 h2 [] := (Kp5.ext E2)
  have Kp14 : Keep h0 h6 [] := (Kp13.wr W6 (Or.inr sz4))
  have Kp15 : Keep h0 h7 [] := (Kp14.wr W7 (Or.inr sz4))
  have Kp16 : Keep h0 h8 [] := (Kp15.wr W8 (Or.inr sz4))
  have Kp17 : Keep h0 h10 [] := (Kp16.wr W10 (Or.inr sz4))
  have Kp18 : Keep h0 h11 [] := (Kp17.wr W11 (Or.inr sz4))
  have Zn12 : n0 ≤ h11.size := Nat.le_trans Z0 Kp18.1
  have O19 := (O0.ext E1)
  have O20 := (O19.ext E2)
  have O21 := (O20.wr W6 ge3)
  have O22 := (O21.wr W7 ge3)
  have O23 := (O22.wr W8 ge3)
  have O24 := (O23.wr W10 ge3)
  have O25 := (O24.wr W11 ge3)
  have fk26 : Exa Z h11 b1 "java/lang/String" := ((((((A1.ext E2).wr W6).wr W7).wr W8).wr W10).wr W11)
  have ne27 : b1 ≠ b2 := Nat.ne_of_lt (Nat.lt_of_lt_of_le A1.lt (Nat.le_of_eq g2.symm))
  have fk28 : Fld Z h11 b1 "java/lang/String" "coder" "B" (.int 0) := ((((((b1_coder.ext E2).other W6 (Or.inl ne27)).other W7 (Or.inl ne27)).other W8 (Or.inl ne27)).other W10 (Or.inl ne27)).other W11 (Or.inl ne27))
  have fk29 : Fld Z h11 b1 "java/lang/String" "value" "[B" .null := ((((((b1_value.ext E2).other W6 (Or.inl ne27)).other W7 (Or.inl ne27)).other W8 (Or.inl ne27)).other W10 (Or.inl ne27)).other W11 (Or.inl ne27))
  have V30 : Arv Z h11 b2 k2 .char (5 : Int32) [(.int p0), (.int p1), (.int p2), (.int p3), (.int p4)] (.int 0) := V11
  have sz32 : h0.size ≤ b1 := Nat.le_trans (Keep.refl h0 []).1 (Nat.le_of_eq g1.symm)
  have ge31 : n0 ≤ b1 := Nat.le_trans Z0 sz32
  refine Go.callN X11 hx hZ hown rfl (tw_12 hw) (tw_13 hw) (tw_14 hw) (by decide) (tw_14 hw) (tw_10 hw) (au_106 l Z a0 hw b1 b2 k2 p0 p1 p2 p3 p4 gz1 gv5 h11 n0 Zn12 O25 G fk26 fk28 fk29 V30 R_p0 R_p1 R_p2 R_p3 R_p4 ge31) e11 (a := b1) (argsL := [(.ref b2)]) (rest := [(.ref b1)]) (pc' := 152) rfl (by rw [hml]; rfl) (lenOf pd_2 rfl) rfl rfl (W := 1) (Nat.le_of_eq rfl) (by decide) (by decide) (by decide) (by decide) (hb hby d2_149) ?_
  intro v33 T33 L33 q33 X33
  obtain ⟨h33, e33⟩ : ∃ z, T33.heap = z := ⟨_, rfl⟩
  rw [e33] at q33
  obtain ⟨z33_0, z33_1, z33_2, z33_3, z33_4, b33_0, k33_0, d33_0, d33_1, d33_2, d33_3, d33_4, rfl, N33, K33, s33_0, F33_0, F33_1, F33_2, F33_3, F33_4⟩ := q33
  show Go _ _ _ _ (T33.setTop (mkF m 152 #[.val (.int 5), .val (.int p0), .val (.int p1), .val (.int p2), .val (.int p3), .val (.int p4)] [(.ref b1)]))
  subst hFF
  refine Go.retR X33 hx hlk (t := (.object "java/lang/String")) hret rfl rfl (hb hby d2_152) (by decide) (by decide) ?_
  rw [e33]
  have Kp34 : Keep h0 h33 [] := (Kp18.trans K33 (allS (Or.inr sz32) all0))
  have sz35 : h0.size ≤ b33_0 := Nat.le_trans Kp18.1 s33_0
  have ne36 : b1 ≠ b33_0 := Nat.ne_of_lt (Nat.lt_of_lt_of_le fk26.lt s33_0)
  exact ⟨z33_0, z33_1, z33_2, z33_3, z33_4, b1, b33_0, k33_0, d33_0, d33_1, d33_2, d33_3, d33_4, rfl, (Fr.app N11 N33), Kp34, sz32, sz35, (Ne.symm ne36), F33_0, F33_1, F33_2, F33_3, F33_4⟩
-- java/lang/String.coder
set_option maxRecDepth 65536 in
set_option maxHeartbeats 4000000 in
theorem au_116 (l : Launch) (Z : State) (a0 : Array Value) (hw : ∀ d ∈ tables_1, d.before a0 Z = true) (x0 : Addr) (gz1 : Int32) (gv5 : Value) (h0 : Heap) (n0 : Nat) (Z0 : n0 ≤ h0.size) (O0 : Old Z n0 h0) (G : Glob Z gz1 gv5) (P1 : Fld Z h0 x0 "java/lang/String" "coder" "B" (.int 0)) :
    Ctr l Z (⟨"java/lang/String", "coder", "()B"⟩ : MethodName) jdk_42_method_152_code 1 (some .byte) ({ frames := 0, cells := 0, slots := 0, locals := 0 } : Room) #[(.ref x0)] h0 (fun v h L => v = some (.int 0) ∧ Fr n0 L ∧ h = h0) := by
  refine Ctr.of (plainFor_of_name pn_c1) ?_
  intro p e s m below meth c T0 hx hZ hby hml hown hnm hret hlk e0 es X0
  have G' := G
  obtain ⟨G0, -, G2, -⟩ := G'
  refine Go.cast (ef_10_R m x0) ?_
  generalize hFF : EndN s _ _ _ = FF
  have fk1 : Sta Z h0 "java/lang/String" "COMPACT_STRINGS" "Z" (.int gz1) := G0.ext O0.2
  refine Go.getS X0 hx hZ hown (host := "") (Or.inl (tw_55 hw)) Via.refl e0 fk1 (pc' := 3) rfl (hb hby d10_0) ?_
  intro T2 e2 X2
  refine Go.ifNo X2 hx (pc' := 6) rfl (hb hby d10_3) (feq G2).1 ?_
  refine Go.aloadN X2 hx (pc' := 7) rfl (hb hby d10_6) rfl rfl ?_
  refine Go.getF X2 hx hZ hown (host := "") (Or.inl (tw_29 hw)) Via.refl e2 P1 (pc' := 10) rfl (hb hby d10_7) ?_
  intro T3 e3 X3
  refine Go.goto X3 hx (pc' := 14) (hb hby d10_10) (by decide) (by decide) ?_
  subst hFF
  refine Go.retN X3 hx hlk (t := .byte) hret (by simp) (hb hby d10_14) (by decide) (by decide) ?_
  rw [e3]
  exact ⟨(congrArg (fun z => some (Value.int z)) (by decide : nar .byte (0 : Int32) = (0 : Int32))), (Fr.nil n0), rfl⟩
-- java/lang/String.length
set_option maxRecDepth 65536 in
set_option maxHeartbeats 4000000 in
theorem au_115 (l : Launch) (Z : State) (a0 : Array Value) (hw : ∀ d ∈ tables_1, d.before a0 Z = true) (x0 : Addr) (x1 : Addr) (kk0 : ClassId) (p0 : Int32) (p1 : Int32) (p2 : Int32) (p3 : Int32) (p4 : Int32) (gz1 : Int32) (gv5 : Value) (h0 : Heap) (n0 : Nat) (Z0 : n0 ≤ h0.size) (O0 : Old Z n0 h0) (G : Glob Z gz1 gv5) (P0 : Exa Z h0 x0 "java/lang/String") (P1 : Fld Z h0 x0 "java/lang/String" "coder" "B" (.int 0)) (P2 : Fld Z h0 x0 "java/lang/String" "value" "[B" (.ref x1)) (P3 : Arv Z h0 x1 kk0 .byte (5 : Int32) [(.int p0), (.int p1), (.int p2), (.int p3), (.int p4)] (.int 0)) :
    Ctr l Z (⟨"java/lang/String", "length", "()I"⟩ : MethodName) jdk_42_method_54_code 1 (some .int) ({ frames := 1, cells := 0, slots := 0, locals := 13 } : Room) #[(.ref x0)] h0 (fun v h L => v = some (.int 5) ∧ Fr n0 L ∧ h = h0) := by
  refine Ctr.of (plainFor_of_name pn_c1) ?_
  intro p e s m below meth c T0 hx hZ hby hml hown hnm hret hlk e0 es X0
  refine Go.cast (ef_9_R m x0) ?_
  generalize hFF : EndN s _ _ _ = FF
  refine Go.aloadN X0 hx (pc' := 1) rfl (hb hby d9_0) rfl rfl ?_
  refine Go.getF X0 hx hZ hown (host := "") (Or.inl (tw_28 hw)) Via.refl e0 P2 (pc' := 4) rfl (hb hby d9_1) ?_
  intro T1 e1 X1
  refine Go.arraylength X1 hx hZ e1 P3 (pc' := 5) rfl (hb hby d9_4) ?_
  refine Go.aloadN X1 hx (pc' := 6) rfl (hb hby d9_5) rfl rfl ?_
  refine Go.callV X1 hx hZ hown (tw_50 hw) (tw_51 hw) (notFace_of_selects (args := #[]) (mvT hZ (tw_53 hw))) (tw_53 hw) (tw_52 hw) (by decide) (tw_54 hw) (tw_10 hw) (au_116 l Z a0 hw x0 gz1 gv5 h0 n0 Z0 O0 G P1) e1 P0 (argsL := []) (rest := [(.int 5)]) (pc' := 9) rfl (by rw [hml]; rfl) (lenOf pd_4 rfl) rfl rfl (W := 1) (Nat.le_of_eq rfl) (by decide) (by decide) (by decide) (by decide) (hb hby d9_6) ?_
  intro v2 T2 L2 q2 X2
  obtain ⟨rfl, N2, e2⟩ := q2
  show Go _ _ _ _ (T2.setTop (mkF m 9 #[.val (.ref x0)] [(.int 0), (.int 5)]))
  refine Go.ishr X2 hx (pc' := 10) rfl (hb hby d9_9) ?_
  rw [show ((5 : Int32) >>> ((0 : Int32) &&& 31)) = (5 : Int32) from by decide]
  subst hFF
  refine Go.retI X2 hx hlk hret (hb hby d9_10) (by decide) (by decide) ?_
  rw [e2]
  exact ⟨rfl, (Fr.app (Fr.nil n0) N2), rfl⟩
-- jdk/internal/util/ArraysSupport.mismatch
set_option maxRecDepth 65536 in
set_option maxHeartbeats 4000000 in
theorem au_117 (l : Launch) (Z : State) (a0 : Array Value) (hw : ∀ d ∈ tables_1, d.before a0 Z = true) (x0 : Addr) (x1 : Addr) (kk0 : ClassId) (p0 : Int32) (p1 : Int32) (p2 : Int32) (p3 : Int32) (p4 : Int32) (kk1 : ClassId) (p5 : Int32) (p6 : Int32) (p7 : Int32) (p8 : Int32) (h0 : Heap) (n0 : Nat) (Z0 : n0 ≤ h0.size) (P0 : Arv Z h0 x0 kk0 .byte (5 : Int32) [(.int p0), (.int p1), (.int p2), (.int p3), (.int p4)] (.int 0)) (P2 : Arv Z h0 x1 kk1 .byte (4 : Int32) [(.int 47), (.int 117), (.int 105), (.int 47)] (.int (0 : Int32))) (R_p5 : 0 ≤ p5.toInt ∧ p5.toInt ≤ 255) (R_p6 : 0 ≤ p6.toInt ∧ p6.toInt ≤ 255) (R_p7 : 0 ≤ p7.toInt ∧ p7.toInt ≤ 255) (R_p8 : 0 ≤ p8.toInt ∧ p8.toInt ≤ 255) (B_p0 : (p5.toInt8.toInt32) = p0) (B_p1 : (p6.toInt8.toInt32) = p1) (B_p2 : (p7.toInt8.toInt32) = p2) (B_p3 : (p8.toInt8.toInt32) = p3) :
    Ctr l Z (⟨"jdk/internal/util/ArraysSupport", "mismatch", "([BI[BII)I"⟩ : MethodName) jdk_48_method_14_code 8 (some .int) ({ frames := 0, cells := 0, slots := 0, locals := 0 } : Room) #[(.ref x0), (.int 0), (.ref x1), (.int 0), (.int 4)] h0 (fun v h L => (p5 = (47 : Int32) ∧ p6 = (117 : Int32) ∧ p7 = (105 : Int32) ∧ p8 = (47 : Int32) ∧ v = some (.int (-1)) ∧ Fr n0 L ∧ h = h0) ∨ (p5 = (47 : Int32) ∧ p6 = (117 : Int32) ∧ p7 = (105 : Int32) ∧ ¬ (p8 = (47 : Int32)) ∧ v = some (.int 3) ∧ Fr n0 L ∧ h = h0) ∨ (p5 = (47 : Int32) ∧ p6 = (117 : Int32) ∧ ¬ (p7 = (105 : Int32)) ∧ v = some (.int 2) ∧ Fr n0 L ∧ h = h0) ∨ (p5 = (47 : Int32) ∧ ¬ (p6 = (117 : Int32)) ∧ v = some (.int 1) ∧ Fr n0 L ∧ h = h0) ∨ (¬ (p5 = (47 : Int32)) ∧ v = some (.int 0) ∧ Fr n0 L ∧ h = h0)) := by
  refine Ctr.of (plainFor_of_name pn_c7) ?_
  intro p e s m below meth c T0 hx hZ hby hml hown hnm hret hlk e0 es X0
  refine Go.cast (ef_27_RIRII m x0 (0 : Int32) x1 (0 : Int32) (4 : Int32)) ?_
  generalize hFF : EndN s _ _ _ = FF
  refine Go.iconst X0 hx (pc' := 1) rfl (hb hby d27_0) (v := (0 : Int32)) rfl ?_
  refine Go.istore X0 hx (pc' := 3) rfl (hb hby d27_1) (Ls' := #[.val (.ref x0), .val (.int 0), .val (.ref x1), .val (.int 0), .val (.int 4), .val (.int 0), .unset, .unset]) rfl ?_
  refine Go.iload X0 hx (pc' := 5) rfl (hb hby d27_3) rfl ?_
  refine Go.bipush X0 hx (pc' := 7) rfl (hb hby d27_5) (v := (7 : Int32)) (by decide) ?_
  refine Go.icmpYes X0 hx (pc' := 70) (hb hby d27_7) (by decide) (by decide) (by decide) ?_
  refine Go.iload X0 hx (pc' := 72) rfl (hb hby d27_70) rfl ?_
  refine Go.iload X0 hx (pc' := 74) rfl (hb hby d27_72) rfl ?_
  refine Go.icmpNo X0 hx (pc' := 77) rfl (hb hby d27_74) (by decide) ?_
  refine Go.aloadN X0 hx (pc' := 78) rfl (hb hby d27_77) rfl rfl ?_
  refine Go.iloadN X0 hx (pc' := 79) rfl (hb hby d27_78) rfl ?_
  refine Go.iload X0 hx (pc' := 81) rfl (hb hby d27_79) rfl ?_
  refine Go.iadd X0 hx (pc' := 82) rfl (hb hby d27_81) ?_
  rw [show ((0 : Int32) + (0 : Int32)) = (0 : Int32) from by decide]
  refine Go.baload X0 hx hZ e0 P0 (v := (.int p0)) ⟨by decide, by decide⟩ rfl (pc' := 83) rfl (hb hby d27_82) ?_
  refine Go.aloadN X0 hx (pc' := 84) rfl (hb hby d27_83) rfl rfl ?_
  refine Go.iloadN X0 hx (pc' := 85) rfl (hb hby d27_84) rfl ?_
  refine Go.iload X0 hx (pc' := 87) rfl (hb hby d27_85) rfl ?_
  refine Go.iadd X0 hx (pc' := 88) rfl (hb hby d27_87) ?_
  rw [show ((0 : Int32) + (0 : Int32)) = (0 : Int32) from by decide]
  refine Go.baload X0 hx hZ e0 P2 (v := (.int 47)) ⟨by decide, by decide⟩ rfl (pc' := 89) rfl (hb hby d27_88) ?_
  by_cases hc1 : p5 = (47 : Int32)
  · refine Go.icmpYes X0 hx (pc' := 95) (hb hby d27_89) (teq (own_lat_eq B_p0 (by decide : ((47 : Int32)).toInt8.toInt32 = (47 : Int32)) hc1)).1 (by decide) (by decide) ?_
    refine Go.iinc X0 hx (pc' := 98) rfl (hb hby d27_95) rfl (y := (1 : Int32)) (by decide) (Ls' := #[.val (.ref x0), .val (.int 0), .val (.ref x1), .val (.int 0), .val (.int 4), .val (.int 1), .unset, .unset]) rfl ?_
    refine Go.goto X0 hx (pc' := 70) (hb hby d27_98) (by decide) (by decide) ?_
    refine Go.iload X0 hx (pc' := 72) rfl (hb hby d27_70) rfl ?_
    refine Go.iload X0 hx (pc' := 74) rfl (hb hby d27_72) rfl ?_
    refine Go.icmpNo X0 hx (pc' := 77) rfl (hb hby d27_74) (by decide) ?_
    refine Go.aloadN X0 hx (pc' := 78) rfl (hb hby d27_77) rfl rfl ?_
    refine Go.iloadN X0 hx (pc' := 79) rfl (hb hby d27_78) rfl ?_
    refine Go.iload X0 hx (pc' := 81) rfl (hb hby d27_79) rfl ?_
    refine Go.iadd X0 hx (pc' := 82) rfl (hb hby d27_81) ?_
    rw [show ((0 : Int32) + (1 : Int32)) = (1 : Int32) from by decide]
    refine Go.baload X0 hx hZ e0 P0 (v := (.int p1)) ⟨by decide, by decide⟩ rfl (pc' := 83) rfl (hb hby d27_82) ?_
    refine Go.aloadN X0 hx (pc' := 84) rfl (hb hby d27_83) rfl rfl ?_
    refine Go.iloadN X0 hx (pc' := 85) rfl (hb hby d27_84) rfl ?_
    refine Go.iload X0 hx (pc' := 87) rfl (hb hby d27_85) rfl ?_
    refine Go.iadd X0 hx (pc' := 88) rfl (hb hby d27_87) ?_
    rw [show ((0 : Int32) + (1 : Int32)) = (1 : Int32) from by decide]
    refine Go.baload X0 hx hZ e0 P2 (v := (.int 117)) ⟨by decide, by decide⟩ rfl (pc' := 89) rfl (hb hby d27_88) ?_
    by_cases hc2 : p6 = (117 : Int32)
    · refine Go.icmpYes X0 hx (pc' := 95) (hb hby d27_89) (teq (own_lat_eq B_p1 (by decide : ((117 : Int32)).toInt8.toInt32 = (117 : Int32)) hc2)).1 (by decide) (by decide) ?_
      refine Go.iinc X0 hx (pc' := 98) rfl (hb hby d27_95) rfl (y := (2 : Int32)) (by decide) (Ls' := #[.val (.ref x0), .val (.int 0), .val (.ref x1), .val (.int 0), .val (.int 4), .val (.int 2), .unset, .unset]) rfl ?_
      refine Go.goto X0 hx (pc' := 70) (hb hby d27_98) (by decide) (by decide) ?_
      refine Go.iload X0 hx (pc' := 72) rfl (hb hby d27_70) rfl ?_
      refine Go.iload X0 hx (pc' := 74) rfl (hb hby d27_72) rfl ?_
      refine Go.icmpNo X0 hx (pc' := 77) rfl (hb hby d27_74) (by decide) ?_
      refine Go.aloadN X0 hx (pc' := 78) rfl (hb hby d27_77) rfl rfl ?_
      refine Go.iloadN X0 hx (pc' := 79) rfl (hb hby d27_78) rfl ?_
      refine Go.iload X0 hx (pc' := 81) rfl (hb hby d27_79) rfl ?_
      refine Go.iadd X0 hx (pc' := 82) rfl (hb hby d27_81) ?_
      rw [show ((0 : Int32) + (2 : Int32)) = (2 : Int32) from by decide]
      refine Go.baload X0 hx hZ e0 P0 (v := (.int p2)) ⟨by decide, by decide⟩ rfl (pc' := 83) rfl (hb hby d27_82) ?_
      refine Go.aloadN X0 hx (pc' := 84) rfl (hb hby d27_83) rfl rfl ?_
      refine Go.iloadN X0 hx (pc' := 85) rfl (hb hby d27_84) rfl ?_
      refine Go.iload X0 hx (pc' := 87) rfl (hb hby d27_85) rfl ?_
      refine Go.iadd X0 hx (pc' := 88) rfl (hb hby d27_87) ?_
      rw [show ((0 : Int32) + (2 : Int32)) = (2 : Int32) from by decide]
      refine Go.baload X0 hx hZ e0 P2 (v := (.int 105)) ⟨by decide, by decide⟩ rfl (pc' := 89) rfl (hb hby d27_88) ?_
      by_cases hc3 : p7 = (105 : Int32)
      · refine Go.icmpYes X0 hx (pc' := 95) (hb hby d27_89) (teq (own_lat_eq B_p2 (by decide : ((105 : Int32)).toInt8.toInt32 = (105 : Int32)) hc3)).1 (by decide) (by decide) ?_
        refine Go.iinc X0 hx (pc' := 98) rfl (hb hby d27_95) rfl (y := (3 : Int32)) (by decide) (Ls' := #[.val (.ref x0), .val (.int 0), .val (.ref x1), .val (.int 0), .val (.int 4), .val (.int 3), .unset, .unset]) rfl ?_
        refine Go.goto X0 hx (pc' := 70) (hb hby d27_98) (by decide) (by decide) ?_
        refine Go.iload X0 hx (pc' := 72) rfl (hb hby d27_70) rfl ?_
        refine Go.iload X0 hx (pc' := 74) rfl (hb hby d27_72) rfl ?_
        refine Go.icmpNo X0 hx (pc' := 77) rfl (hb hby d27_74) (by decide) ?_
        refine Go.aloadN X0 hx (pc' := 78) rfl (hb hby d27_77) rfl rfl ?_
        refine Go.iloadN X0 hx (pc' := 79) rfl (hb hby d27_78) rfl ?_
        refine Go.iload X0 hx (pc' := 81) rfl (hb hby d27_79) rfl ?_
        refine Go.iadd X0 hx (pc' := 82) rfl (hb hby d27_81) ?_
        rw [show ((0 : Int32) + (3 : Int32)) = (3 : Int32) from by decide]
        refine Go.baload X0 hx hZ e0 P0 (v := (.int p3)) ⟨by decide, by decide⟩ rfl (pc' := 83) rfl (hb hby d27_82) ?_
        refine Go.aloadN X0 hx (pc' := 84) rfl (hb hby d27_83) rfl rfl ?_
        refine Go.iloadN X0 hx (pc' := 85) rfl (hb hby d27_84) rfl ?_
        refine Go.iload X0 hx (pc' := 87) rfl (hb hby d27_85) rfl ?_
        refine Go.iadd X0 hx (pc' := 88) rfl (hb hby d27_87) ?_
        rw [show ((0 : Int32) + (3 : Int32)) = (3 : Int32) from by decide]
        refine Go.baload X0 hx hZ e0 P2 (v := (.int 47)) ⟨by decide, by decide⟩ rfl (pc' := 89) rfl (hb hby d27_88) ?_
        by_cases hc4 : p8 = (47 : Int32)
        · refine Go.icmpYes X0 hx (pc' := 95) (hb hby d27_89) (teq (own_lat_eq B_p3 (by decide : ((47 : Int32)).toInt8.toInt32 = (47 : Int32)) hc4)).1 (by decide) (by decide) ?_
          refine Go.iinc X0 hx (pc' := 98) rfl (hb hby d27_95) rfl (y := (4 : Int32)) (by decide) (Ls' := #[.val (.ref x0), .val (.int 0), .val (.ref x1), .val (.int 0), .val (.int 4), .val (.int 4), .unset, .unset]) rfl ?_
          refine Go.goto X0 hx (pc' := 70) (hb hby d27_98) (by decide) (by decide) ?_
          refine Go.iload X0 hx (pc' := 72) rfl (hb hby d27_70) rfl ?_
          refine Go.iload X0 hx (pc' := 74) rfl (hb hby d27_72) rfl ?_
          refine Go.icmpYes X0 hx (pc' := 101) (hb hby d27_74) (by decide) (by decide) (by decide) ?_
          refine Go.iconst X0 hx (pc' := 102) rfl (hb hby d27_101) (v := (-1 : Int32)) rfl ?_
          subst hFF
          refine Go.retI X0 hx hlk hret (hb hby d27_102) (by decide) (by decide) ?_
          rw [e0]
          exact Or.inl ⟨hc1, hc2, hc3, hc4, rfl, (Fr.nil n0), rfl⟩
        · refine Go.icmpNo X0 hx (pc' := 92) rfl (hb hby d27_89) (feq (own_lat_ne B_p3 (by decide : ((47 : Int32)).toInt8.toInt32 = (47 : Int32)) R_p8 (own_rlit (n := 47) (by decide)) (by decide) hc4)).1 ?_
          refine Go.iload X0 hx (pc' := 94) rfl (hb hby d27_92) rfl ?_
          subst hFF
          refine Go.retI X0 hx hlk hret (hb hby d27_94) (by decide) (by decide) ?_
          rw [e0]
          exact Or.inr (Or.inl ⟨hc1, hc2, hc3, hc4, rfl, (Fr.nil n0), rfl⟩)
      · refine Go.icmpNo X0 hx (pc' := 92) rfl (hb hby d27_89) (feq (own_lat_ne B_p2 (by decide : ((105 : Int32)).toInt8.toInt32 = (105 : Int32)) R_p7 (own_rlit (n := 105) (by decide)) (by decide) hc3)).1 ?_
        refine Go.iload X0 hx (pc' := 94) rfl (hb hby d27_92) rfl ?_
        subst hFF
        refine Go.retI X0 hx hlk hret (hb hby d27_94) (by decide) (by decide) ?_
        rw [e0]
        exact Or.inr (Or.inr (Or.inl ⟨hc1, hc2, hc3, rfl, (Fr.nil n0), rfl⟩))
    · refine Go.icmpNo X0 hx (pc' := 92) rfl (hb hby d27_89) (feq (own_lat_ne B_p1 (by decide : ((117 : Int32)).toInt8.toInt32 = (117 : Int32)) R_p6 (own_rlit (n := 117) (by decide)) (by decide) hc2)).1 ?_
      refine Go.iload X0 hx (pc' := 94) rfl (hb hby d27_92) rfl ?_
      subst hFF
      refine Go.retI X0 hx hlk hret (hb hby d27_94) (by decide) (by decide) ?_
      rw [e0]
      exact Or.inr (Or.inr (Or.inr (Or.inl ⟨hc1, hc2, rfl, (Fr.nil n0), rfl⟩)))
  · refine Go.icmpNo X0 hx (pc' := 92) rfl (hb hby d27_89) (feq (own_lat_ne B_p0 (by decide : ((47 : Int32)).toInt8.toInt32 = (47 : Int32)) R_p5 (own_rlit (n := 47) (by decide)) (by decide) hc1)).1 ?_
    refine Go.iload X0 hx (pc' := 94) rfl (hb hby d27_92) rfl ?_
    subst hFF
    refine Go.retI X0 hx hlk hret (hb hby d27_94) (by decide) (by decide) ?_
    rw [e0]
    exact Or.inr (Or.inr (Or.inr (Or.inr (⟨hc1, rfl, (Fr.nil n0), rfl⟩))))
-- java/lang/String.startsWith
set_option maxRecDepth 65536 in
set_option maxHeartbeats 4000000 in
theorem au_114 (l : Launch) (Z : State) (a0 : Array Value) (hw : ∀ d ∈ tables_1, d.before a0 Z = true) (x0 : Addr) (x1 : Addr) (x2 : Addr) (x3 : Addr) (kk0 : ClassId) (p0 : Int32) (p1 : Int32) (p2 : Int32) (p3 : Int32) (p4 : Int32) (kk1 : ClassId) (p5 : Int32) (p6 : Int32) (p7 : Int32) (p8 : Int32) (gz1 : Int32) (gv5 : Value) (h0 : Heap) (n0 : Nat) (Z0 : n0 ≤ h0.size) (O0 : Old Z n0 h0) (G : Glob Z gz1 gv5) (P0 : Exa Z h0 x0 "java/lang/String") (P1 : Fld Z h0 x0 "java/lang/String" "coder" "B" (.int 0)) (P2 : Fld Z h0 x0 "java/lang/String" "value" "[B" (.ref x2)) (P3 : Exa Z h0 x1 "java/lang/String") (P4 : Fld Z h0 x1 "java/lang/String" "coder" "B" (.int 0)) (P5 : Fld Z h0 x1 "java/lang/String" "value" "[B" (.ref x3)) (P6 : Arv Z h0 x2 kk0 .byte (5 : Int32) [(.int p0), (.int p1), (.int p2), (.int p3), (.int p4)] (.int 0)) (P8 : Arv Z h0 x3 kk1 .byte (4 : Int32) [(.int 47), (.int 117), (.int 105), (.int 47)] (.int (0 : Int32))) (R_p5 : 0 ≤ p5.toInt ∧ p5.toInt ≤ 255) (R_p6 : 0 ≤ p6.toInt ∧ p6.toInt ≤ 255) (R_p7 : 0 ≤ p7.toInt ∧ p7.toInt ≤ 255) (R_p8 : 0 ≤ p8.toInt ∧ p8.toInt ≤ 255) (B_p0 : (p5.toInt8.toInt32) = p0) (B_p1 : (p6.toInt8.toInt32) = p1) (B_p2 : (p7.toInt8.toInt32) = p2) (B_p3 : (p8.toInt8.toInt32) = p3) :
    Ctr l Z (⟨"java/lang/String", "startsWith", "(Ljava/lang/String;I)Z"⟩ : MethodName) jdk_42_method_75_code 8 (some .boolean) ({ frames := 2, cells := 0, slots := 0, locals := 27 } : Room) #[(.ref x0), (.ref x1), (.int 0)] h0 (fun v h L => (p5 = (47 : Int32) ∧ p6 = (117 : Int32) ∧ p7 = (105 : Int32) ∧ p8 = (47 : Int32) ∧ v = some (.int 1) ∧ Fr n0 L ∧ h = h0) ∨ (p5 = (47 : Int32) ∧ p6 = (117 : Int32) ∧ p7 = (105 : Int32) ∧ ¬ (p8 = (47 : Int32)) ∧ v = some (.int 0) ∧ Fr n0 L ∧ h = h0) ∨ (p5 = (47 : Int32) ∧ p6 = (117 : Int32) ∧ ¬ (p7 = (105 : Int32)) ∧ v = some (.int 0) ∧ Fr n0 L ∧ h = h0) ∨ (p5 = (47 : Int32) ∧ ¬ (p6 = (117 : Int32)) ∧ v = some (.int 0) ∧ Fr n0 L ∧ h = h0) ∨ (¬ (p5 = (47 : Int32)) ∧ v = some (.int 0) ∧ Fr n0 L ∧ h = h0)) := by
  refine Ctr.of (plainFor_of_name pn_c1) ?_
  intro p e s m below meth c T0 hx hZ hby hml hown hnm hret hlk e0 es X0
  refine Go.cast (ef_8_RRI m x0 x1 (0 : Int32)) ?_
  generalize hFF : EndN s _ _ _ = FF
  refine Go.iloadN X0 hx (pc' := 1) rfl (hb hby d8_0) rfl ?_
  refine Go.ifNo X0 hx (pc' := 4) rfl (hb hby d8_1) (by decide) ?_
  refine Go.iloadN X0 hx (pc' := 5) rfl (hb hby d8_4) rfl ?_
  refine Go.aloadN X0 hx (pc' := 6) rfl (hb hby d8_5) rfl rfl ?_
  refine Go.callV X0 hx hZ hown (tw_45 hw) (tw_46 hw) (notFace_of_selects (args := #[]) (mvT hZ (tw_48 hw))) (tw_48 hw) (tw_47 hw) (by decide) (tw_49 hw) (tw_10 hw) (au_115 l Z a0 hw x0 x2 kk0 p0 p1 p2 p3 p4 gz1 gv5 h0 n0 Z0 O0 G P0 P1 P2 P6) e0 P0 (argsL := []) (rest := [(.int 0)]) (pc' := 9) rfl (by rw [hml]; rfl) (lenOf pd_5 rfl) rfl rfl (W := 1) (Nat.le_of_eq rfl) (by decide) (by decide) (by decide) (by decide) (hb hby d8_6) ?_
  intro v1 T1 L1 q1 X1
  obtain ⟨rfl, N1, e1⟩ := q1
  show Go _ _ _ _ (T1.setTop (mkF m 9 #[.val (.ref x0), .val (.ref x1), .val (.int 0), .unset, .unset, .unset, .unset, .unset] [(.int 5), (.int 0)]))
  refine Go.aloadN X1 hx (pc' := 10) rfl (hb hby d8_9) rfl rfl ?_
  refine Go.callV X1 hx hZ hown (tw_45 hw) (tw_46 hw) (notFace_of_selects (args := #[]) (mvT hZ (tw_48 hw))) (tw_48 hw) (tw_47 hw) (by decide) (tw_49 hw) (tw_10 hw) (au_14 l Z a0 hw x1 x3 kk1 gz1 gv5 h0 n0 Z0 O0 G P3 P4 P5 P8) e1 P3 (argsL := []) (rest := [(.int 5), (.int 0)]) (pc' := 13) rfl (by rw [hml]; rfl) (lenOf pd_5 rfl) rfl rfl (W := 2) (Nat.le_of_eq rfl) (by decide) (by decide) (by decide) (by decide) (hb hby d8_10) ?_
  intro v2 T2 L2 q2 X2
  obtain ⟨rfl, N2, e2⟩ := q2
  show Go _ _ _ _ (T2.setTop (mkF m 13 #[.val (.ref x0), .val (.ref x1), .val (.int 0), .unset, .unset, .unset, .unset, .unset] [(.int 4), (.int 5), (.int 0)]))
  refine Go.isub X2 hx (pc' := 14) rfl (hb hby d8_13) ?_
  rw [show ((5 : Int32) - (4 : Int32)) = (1 : Int32) from by decide]
  refine Go.icmpYes X2 hx (pc' := 19) (hb hby d8_14) (by decide) (by decide) (by decide) ?_
  refine Go.aloadN X2 hx (pc' := 20) rfl (hb hby d8_19) rfl rfl ?_
  refine Go.getF X2 hx hZ hown (host := "") (Or.inl (tw_28 hw)) Via.refl e2 P2 (pc' := 23) rfl (hb hby d8_20) ?_
  intro T3 e3 X3
  refine Go.astoreN X3 hx (pc' := 24) rfl (hb hby d8_23) (Ls' := #[.val (.ref x0), .val (.ref x1), .val (.int 0), .val (.ref x2), .unset, .unset, .unset, .unset]) rfl rfl ?_
  refine Go.aloadN X3 hx (pc' := 25) rfl (hb hby d8_24) rfl rfl ?_
  refine Go.getF X3 hx hZ hown (host := "") (Or.inl (tw_28 hw)) Via.refl e3 P5 (pc' := 28) rfl (hb hby d8_25) ?_
  intro T4 e4 X4
  refine Go.astore X4 hx (pc' := 30) rfl (hb hby d8_28) (Ls' := #[.val (.ref x0), .val (.ref x1), .val (.int 0), .val (.ref x2), .val (.ref x3), .unset, .unset, .unset]) rfl rfl ?_
  refine Go.iconst X4 hx (pc' := 31) rfl (hb hby d8_30) (v := (0 : Int32)) rfl ?_
  refine Go.istore X4 hx (pc' := 33) rfl (hb hby d8_31) (Ls' := #[.val (.ref x0), .val (.ref x1), .val (.int 0), .val (.ref x2), .val (.ref x3), .val (.int 0), .unset, .unset]) rfl ?_
  refine Go.aload X4 hx (pc' := 35) rfl (hb hby d8_33) rfl rfl ?_
  refine Go.arraylength X4 hx hZ e4 P8 (pc' := 36) rfl (hb hby d8_35) ?_
  refine Go.istore X4 hx (pc' := 38) rfl (hb hby d8_36) (Ls' := #[.val (.ref x0), .val (.ref x1), .val (.int 0), .val (.ref x2), .val (.ref x3), .val (.int 0), .val (.int 4), .unset]) rfl ?_
  refine Go.aloadN X4 hx (pc' := 39) rfl (hb hby d8_38) rfl rfl ?_
  refine Go.callV X4 hx hZ hown (tw_50 hw) (tw_51 hw) (notFace_of_selects (args := #[]) (mvT hZ (tw_53 hw))) (tw_53 hw) (tw_52 hw) (by decide) (tw_54 hw) (tw_10 hw) (au_116 l Z a0 hw x0 gz1 gv5 h0 n0 Z0 O0 G P1) e4 P0 (argsL := []) (rest := []) (pc' := 42) rfl (by rw [hml]; rfl) (lenOf pd_4 rfl) rfl rfl (W := 0) (Nat.le_of_eq rfl) (by decide) (by decide) (by decide) (by decide) (hb hby d8_39) ?_
  intro v5 T5 L5 q5 X5
  obtain ⟨rfl, N5, e5⟩ := q5
  show Go _ _ _ _ (T5.setTop (mkF m 42 #[.val (.ref x0), .val (.ref x1), .val (.int 0), .val (.ref x2), .val (.ref x3), .val (.int 0), .val (.int 4), .unset] [(.int 0)]))
  refine Go.istore X5 hx (pc' := 44) rfl (hb hby d8_42) (Ls' := #[.val (.ref x0), .val (.ref x1), .val (.int 0), .val (.ref x2), .val (.ref x3), .val (.int 0), .val (.int 4), .val (.int 0)]) rfl ?_
  refine Go.iload X5 hx (pc' := 46) rfl (hb hby d8_44) rfl ?_
  refine Go.aloadN X5 hx (pc' := 47) rfl (hb hby d8_46) rfl rfl ?_
  refine Go.callV X5 hx hZ hown (tw_50 hw) (tw_51 hw) (notFace_of_selects (args := #[]) (mvT hZ (tw_53 hw))) (tw_53 hw) (tw_52 hw) (by decide) (tw_54 hw) (tw_10 hw) (au_15 l Z a0 hw x1 gz1 gv5 h0 n0 Z0 O0 G P4) e5 P3 (argsL := []) (rest := [(.int 0)]) (pc' := 50) rfl (by rw [hml]; rfl) (lenOf pd_4 rfl) rfl rfl (W := 1) (Nat.le_of_eq rfl) (by decide) (by decide) (by decide) (by decide) (hb hby d8_47) ?_
  intro v6 T6 L6 q6 X6
  obtain ⟨rfl, N6, e6⟩ := q6
  show Go _ _ _ _ (T6.setTop (mkF m 50 #[.val (.ref x0), .val (.ref x1), .val (.int 0), .val (.ref x2), .val (.ref x3), .val (.int 0), .val (.int 4), .val (.int 0)] [(.int 0), (.int 0)]))
  refine Go.icmpNo X6 hx (pc' := 53) rfl (hb hby d8_50) (by decide) ?_
  refine Go.iload X6 hx (pc' := 55) rfl (hb hby d8_53) rfl ?_
  refine Go.iconst X6 hx (pc' := 56) rfl (hb hby d8_55) (v := (1 : Int32)) rfl ?_
  refine Go.icmpYes X6 hx (pc' := 63) (hb hby d8_56) (by decide) (by decide) (by decide) ?_
  refine Go.aloadN X6 hx (pc' := 64) rfl (hb hby d8_63) rfl rfl ?_
  refine Go.iloadN X6 hx (pc' := 65) rfl (hb hby d8_64) rfl ?_
  refine Go.aload X6 hx (pc' := 67) rfl (hb hby d8_65) rfl rfl ?_
  refine Go.iconst X6 hx (pc' := 68) rfl (hb hby d8_67) (v := (0 : Int32)) rfl ?_
  refine Go.iload X6 hx (pc' := 70) rfl (hb hby d8_68) rfl ?_
  refine Go.callS X6 hx hZ hown (tw_124 hw) (tw_125 hw) (tw_126 hw) (tw_127 hw) (by decide) (tw_127 hw) (tw_126 hw) (au_117 l Z a0 hw x2 x3 kk0 p0 p1 p2 p3 p4 kk1 p5 p6 p7 p8 h0 n0 Z0 P6 P8 R_p5 R_p6 R_p7 R_p8 B_p0 B_p1 B_p2 B_p3) e6 (argsL := [(.ref x2), (.int 0), (.ref x3), (.int 0), (.int 4)]) (rest := []) (pc' := 73) rfl (by rw [hml]; rfl) (lenOf pd_22 rfl) rfl rfl (W := 0) (Nat.le_of_eq rfl) (by decide) (by decide) (by decide) (by decide) (hb hby d8_70) ?_
  intro v7 T7 L7 q7 X7
  rcases q7 with ⟨c7_0_0, c7_0_1, c7_0_2, c7_0_3, rfl, N7_0, e7_0⟩ | ⟨c7_1_0, c7_1_1, c7_1_2, c7_1_3, rfl, N7_1, e7_1⟩ | ⟨c7_2_0, c7_2_1, c7_2_2, rfl, N7_2, e7_2⟩ | ⟨c7_3_0, c7_3_1, rfl, N7_3, e7_3⟩ | ⟨c7_4_0, rfl, N7_4, e7_4⟩
  · show Go _ _ _ _ (T7.setTop (mkF m 73 #[.val (.ref x0), .val (.ref x1), .val (.int 0), .val (.ref x2), .val (.ref x3), .val (.int 0), .val (.int 4), .val (.int 0)] [(.int (-1))]))
    refine Go.ifNo X7 hx (pc' := 76) rfl (hb hby d8_73) (by decide) ?_
    refine Go.iconst X7 hx (pc' := 77) rfl (hb hby d8_76) (v := (1 : Int32)) rfl ?_
    refine Go.goto X7 hx (pc' := 81) (hb hby d8_77) (by decide) (by decide) ?_
    subst hFF
    refine Go.retN X7 hx hlk (t := .boolean) hret (by simp) (hb hby d8_81) (by decide) (by decide) ?_
    rw [e7_0]
    exact Or.inl ⟨c7_0_0, c7_0_1, c7_0_2, c7_0_3, (congrArg (fun z => some (Value.int z)) (by decide : nar .boolean (1 : Int32) = (1 : Int32))), (Fr.app (Fr.app (Fr.app (Fr.app (Fr.app (Fr.nil n0) N1) N2) N5) N6) N7_0), rfl⟩
  · show Go _ _ _ _ (T7.setTop (mkF m 73 #[.val (.ref x0), .val (.ref x1), .val (.int 0), .val (.ref x2), .val (.ref x3), .val (.int 0), .val (.int 4), .val (.int 0)] [(.int 3)]))
    refine Go.ifYes X7 hx (pc' := 80) (hb hby d8_73) (by decide) (by decide) (by decide) ?_
    refine Go.iconst X7 hx (pc' := 81) rfl (hb hby d8_80) (v := (0 : Int32)) rfl ?_
    subst hFF
    refine Go.retN X7 hx hlk (t := .boolean) hret (by simp) (hb hby d8_81) (by decide) (by decide) ?_
    rw [e7_1]
    exact Or.inr (Or.inl ⟨c7_1_0, c7_1_1, c7_1_2, c7_1_3, (congrArg (fun z => some (Value.int z)) (by decide : nar .boolean (0 : Int32) = (0 : Int32))), (Fr.app (Fr.app (Fr.app (Fr.app (Fr.app (Fr.nil n0) N1) N2) N5) N6) N7_1), rfl⟩)
  · show Go _ _ _ _ (T7.setTop (mkF m 73 #[.val (.ref x0), .val (.ref x1), .val (.int 0), .val (.ref x2), .val (.ref x3), .val (.int 0), .val (.int 4), .val (.int 0)] [(.int 2)]))
    refine Go.ifYes X7 hx (pc' := 80) (hb hby d8_73) (by decide) (by decide) (by decide) ?_
    refine Go.iconst X7 hx (pc' := 81) rfl (hb hby d8_80) (v := (0 : Int32)) rfl ?_
    subst hFF
    refine Go.retN X7 hx hlk (t := .boolean) hret (by simp) (hb hby d8_81) (by decide) (by decide) ?_
    rw [e7_2]
    exact Or.inr (Or.inr (Or.inl ⟨c7_2_0, c7_2_1, c7_2_2, (congrArg (fun z => some (Value.int z)) (by decide : nar .boolean (0 : Int32) = (0 : Int32))), (Fr.app (Fr.app (Fr.app (Fr.app (Fr.app (Fr.nil n0) N1) N2) N5) N6) N7_2), rfl⟩))
  · show Go _ _ _ _ (T7.setTop (mkF m 73 #[.val (.ref x0), .val (.ref x1), .val (.int 0), .val (.ref x2), .val (.ref x3), .val (.int 0), .val (.int 4), .val (.int 0)] [(.int 1)]))
    refine Go.ifYes X7 hx (pc' := 80) (hb hby d8_73) (by decide) (by decide) (by decide) ?_
    refine Go.iconst X7 hx (pc' := 81) rfl (hb hby d8_80) (v := (0 : Int32)) rfl ?_
    subst hFF
    refine Go.retN X7 hx hlk (t := .boolean) hret (by simp) (hb hby d8_81) (by decide) (by decide) ?_
    rw [e7_3]
    exact Or.inr (Or.inr (Or.inr (Or.inl ⟨c7_3_0, c7_3_1, (congrArg (fun z => some (Value.int z)) (by decide : nar .boolean (0 : Int32) = (0 : Int32))), (Fr.app (Fr.app (Fr.app (Fr.app (Fr.app (Fr.nil n0) N1) N2) N5) N6) N7_3), rfl⟩)))
  · show Go _ _ _ _ (T7.setTop (mkF m 73 #[.val (.ref x0), .val (.ref x1), .val (.int 0), .val (.ref x2), .val (.ref x3), .val (.int 0), .val (.int 4), .val (.int 0)] [(.int 0)]))
    refine Go.ifYes X7 hx (pc' := 80) (hb hby d8_73) (by decide) (by decide) (by decide) ?_
    refine Go.iconst X7 hx (pc' := 81) rfl (hb hby d8_80) (v := (0 : Int32)) rfl ?_
    subst hFF
    refine Go.retN X7 hx hlk (t := .boolean) hret (by simp) (hb hby d8_81) (by decide) (by decide) ?_
    rw [e7_4]
    exact Or.inr (Or.inr (Or.inr (Or.inr (⟨c7_4_0, (congrArg (fun z => some (Value.int z)) (by decide : nar .boolean (0 : Int32) = (0 : Int32))), (Fr.app (Fr.app (Fr.app (Fr.app (Fr.app (Fr.nil n0) N1) N2) N5) N6) N7_4), rfl⟩))))
-- java/lang/String.startsWith
set_option maxRecDepth 65536 in
set_option maxHeartbeats 4000000 in
theorem au_113 (l : Launch) (Z : State) (a0 : Array Value) (hw : ∀ d ∈ tables_1, d.before a0 Z = true) (x0 : Addr) (x1 : Addr) (x2 : Addr) (x3 : Addr) (kk0 : ClassId) (p0 : Int32) (p1 : Int32) (p2 : Int32) (p3 : Int32) (p4 : Int32) (kk1 : ClassId) (p5 : Int32) (p6 : Int32) (p7 : Int32) (p8 : Int32) (gz1 : Int32) (gv5 : Value) (h0 : Heap) (n0 : Nat) (Z0 : n0 ≤ h0.size) (O0 : Old Z n0 h0) (G : Glob Z gz1 gv5) (P0 : Exa Z h0 x0 "java/lang/String") (P1 : Fld Z h0 x0 "java/lang/String" "coder" "B" (.int 0)) (P2 : Fld Z h0 x0 "java/lang/String" "value" "[B" (.ref x2)) (P3 : Exa Z h0 x1 "java/lang/String") (P4 : Fld Z h0 x1 "java/lang/String" "coder" "B" (.int 0)) (P5 : Fld Z h0 x1 "java/lang/String" "value" "[B" (.ref x3)) (P6 : Arv Z h0 x2 kk0 .byte (5 : Int32) [(.int p0), (.int p1), (.int p2), (.int p3), (.int p4)] (.int 0)) (P8 : Arv Z h0 x3 kk1 .byte (4 : Int32) [(.int 47), (.int 117), (.int 105), (.int 47)] (.int (0 : Int32))) (R_p5 : 0 ≤ p5.toInt ∧ p5.toInt ≤ 255) (R_p6 : 0 ≤ p6.toInt ∧ p6.toInt ≤ 255) (R_p7 : 0 ≤ p7.toInt ∧ p7.toInt ≤ 255) (R_p8 : 0 ≤ p8.toInt ∧ p8.toInt ≤ 255) (B_p0 : (p5.toInt8.toInt32) = p0) (B_p1 : (p6.toInt8.toInt32) = p1) (B_p2 : (p7.toInt8.toInt32) = p2) (B_p3 : (p8.toInt8.toInt32) = p3) :
    Ctr l Z (⟨"java/lang/String", "startsWith", "(Ljava/lang/String;)Z"⟩ : MethodName) jdk_42_method_76_code 2 (some .boolean) ({ frames := 3, cells := 0, slots := 0, locals := 46 } : Room) #[(.ref x0), (.ref x1)] h0 (fun v h L => (p5 = (47 : Int32) ∧ p6 = (117 : Int32) ∧ p7 = (105 : Int32) ∧ p8 = (47 : Int32) ∧ v = some (.int 1) ∧ Fr n0 L ∧ h = h0) ∨ (p5 = (47 : Int32) ∧ p6 = (117 : Int32) ∧ p7 = (105 : Int32) ∧ ¬ (p8 = (47 : Int32)) ∧ v = some (.int 0) ∧ Fr n0 L ∧ h = h0) ∨ (p5 = (47 : Int32) ∧ p6 = (117 : Int32) ∧ ¬ (p7 = (105 : Int32)) ∧ v = some (.int 0) ∧ Fr n0 L ∧ h = h0) ∨ (p5 = (47 : Int32) ∧ ¬ (p6 = (117 : Int32)) ∧ v = some (.int 0) ∧ Fr n0 L ∧ h = h0) ∨ (¬ (p5 = (47 : Int32)) ∧ v = some (.int 0) ∧ Fr n0 L ∧ h = h0)) := by
  refine Ctr.of (plainFor_of_name pn_c1) ?_
  intro p e s m below meth c T0 hx hZ hby hml hown hnm hret hlk e0 es X0
  refine Go.cast (ef_7_RR m x0 x1) ?_
  generalize hFF : EndN s _ _ _ = FF
  refine Go.aloadN X0 hx (pc' := 1) rfl (hb hby d7_0) rfl rfl ?_
  refine Go.aloadN X0 hx (pc' := 2) rfl (hb hby d7_1) rfl rfl ?_
  refine Go.iconst X0 hx (pc' := 3) rfl (hb hby d7_2) (v := (0 : Int32)) rfl ?_
  refine Go.callV X0 hx hZ hown (tw_40 hw) (tw_41 hw) (notFace_of_selects (args := #[]) (mvT hZ (tw_43 hw))) (tw_43 hw) (tw_42 hw) (by decide) (tw_44 hw) (tw_10 hw) (au_114 l Z a0 hw x0 x1 x2 x3 kk0 p0 p1 p2 p3 p4 kk1 p5 p6 p7 p8 gz1 gv5 h0 n0 Z0 O0 G P0 P1 P2 P3 P4 P5 P6 P8 R_p5 R_p6 R_p7 R_p8 B_p0 B_p1 B_p2 B_p3) e0 P0 (argsL := [(.ref x1), (.int 0)]) (rest := []) (pc' := 6) rfl (by rw [hml]; rfl) (lenOf pd_6 rfl) rfl rfl (W := 0) (Nat.le_of_eq rfl) (by decide) (by decide) (by decide) (by decide) (hb hby d7_3) ?_
  intro v1 T1 L1 q1 X1
  rcases q1 with ⟨c1_0_0, c1_0_1, c1_0_2, c1_0_3, rfl, N1_0, e1_0⟩ | ⟨c1_1_0, c1_1_1, c1_1_2, c1_1_3, rfl, N1_1, e1_1⟩ | ⟨c1_2_0, c1_2_1, c1_2_2, rfl, N1_2, e1_2⟩ | ⟨c1_3_0, c1_3_1, rfl, N1_3, e1_3⟩ | ⟨c1_4_0, rfl, N1_4, e1_4⟩
  · show Go _ _ _ _ (T1.setTop (mkF m 6 #[.val (.ref x0), .val (.ref x1)] [(.int 1)]))
    subst hFF
    refine Go.retN X1 hx hlk (t := .boolean) hret (by simp) (hb hby d7_6) (by decide) (by decide) ?_
    rw [e1_0]
    exact Or.inl ⟨c1_0_0, c1_0_1, c1_0_2, c1_0_3, (congrArg (fun z => some (Value.int z)) (by decide : nar .boolean (1 : Int32) = (1 : Int32))), (Fr.app (Fr.nil n0) N1_0), rfl⟩
  · show Go _ _ _ _ (T1.setTop (mkF m 6 #[.val (.ref x0), .val (.ref x1)] [(.int 0)]))
    subst hFF
    refine Go.retN X1 hx hlk (t := .boolean) hret (by simp) (hb hby d7_6) (by decide) (by decide) ?_
    rw [e1_1]
    exact Or.inr (Or.inl ⟨c1_1_0, c1_1_1, c1_1_2, c1_1_3, (congrArg (fun z => some (Value.int z)) (by decide : nar .boolean (0 : Int32) = (0 : Int32))), (Fr.app (Fr.nil n0) N1_1), rfl⟩)
  · show Go _ _ _ _ (T1.setTop (mkF m 6 #[.val (.ref x0), .val (.ref x1)] [(.int 0)]))
    subst hFF
    refine Go.retN X1 hx hlk (t := .boolean) hret (by simp) (hb hby d7_6) (by decide) (by decide) ?_
    rw [e1_2]
    exact Or.inr (Or.inr (Or.inl ⟨c1_2_0, c1_2_1, c1_2_2, (congrArg (fun z => some (Value.int z)) (by decide : nar .boolean (0 : Int32) = (0 : Int32))), (Fr.app (Fr.nil n0) N1_2), rfl⟩))
  · show Go _ _ _ _ (T1.setTop (mkF m 6 #[.val (.ref x0), .val (.ref x1)] [(.int 0)]))
    subst hFF
    refine Go.retN X1 hx hlk (t := .boolean) hret (by simp) (hb hby d7_6) (by decide) (by decide) ?_
    rw [e1_3]
    exact Or.inr (Or.inr (Or.inr (Or.inl ⟨c1_3_0, c1_3_1, (congrArg (fun z => some (Value.int z)) (by decide : nar .boolean (0 : Int32) = (0 : Int32))), (Fr.app (Fr.nil n0) N1_3), rfl⟩)))
  · show Go _ _ _ _ (T1.setTop (mkF m 6 #[.val (.ref x0), .val (.ref x1)] [(.int 0)]))
    subst hFF
    refine Go.retN X1 hx hlk (t := .boolean) hret (by simp) (hb hby d7_6) (by decide) (by decide) ?_
    rw [e1_4]
    exact Or.inr (Or.inr (Or.inr (Or.inr (⟨c1_4_0, (congrArg (fun z => some (Value.int z)) (by decide : nar .boolean (0 : Int32) = (0 : Int32))), (Fr.app (Fr.nil n0) N1_4), rfl⟩))))
-- java/lang/StringLatin1.equals
set_option maxRecDepth 65536 in
set_option maxHeartbeats 4000000 in
theorem au_121 (l : Launch) (Z : State) (a0 : Array Value) (hw : ∀ d ∈ tables_1, d.before a0 Z = true) (x0 : Addr) (x1 : Addr) (kk0 : ClassId) (p0 : Int32) (p1 : Int32) (p2 : Int32) (p3 : Int32) (p4 : Int32) (kk1 : ClassId) (h0 : Heap) (n0 : Nat) (Z0 : n0 ≤ h0.size) (P0 : Arv Z h0 x0 kk0 .byte (5 : Int32) [(.int p0), (.int p1), (.int p2), (.int p3), (.int p4)] (.int 0)) (P2 : Arv Z h0 x1 kk1 .byte (1 : Int32) [(.int 47)] (.int (0 : Int32))) :
    Ctr l Z (⟨"java/lang/StringLatin1", "equals", "([B[B)Z"⟩ : MethodName) jdk_43_method_13_code 3 (some .boolean) ({ frames := 0, cells := 0, slots := 0, locals := 0 } : Room) #[(.ref x0), (.ref x1)] h0 (fun v h L => v = some (.int 0) ∧ Fr n0 L ∧ h = h0) := by
  refine Ctr.of (plainFor_of_name pn_c2) ?_
  intro p e s m below meth c T0 hx hZ hby hml hown hnm hret hlk e0 es X0
  refine Go.cast (ef_13_RR m x0 x1) ?_
  generalize hFF : EndN s _ _ _ = FF
  refine Go.aloadN X0 hx (pc' := 1) rfl (hb hby d13_0) rfl rfl ?_
  refine Go.arraylength X0 hx hZ e0 P0 (pc' := 2) rfl (hb hby d13_1) ?_
  refine Go.aloadN X0 hx (pc' := 3) rfl (hb hby d13_2) rfl rfl ?_
  refine Go.arraylength X0 hx hZ e0 P2 (pc' := 4) rfl (hb hby d13_3) ?_
  refine Go.icmpYes X0 hx (pc' := 34) (hb hby d13_4) (by decide) (by decide) (by decide) ?_
  refine Go.iconst X0 hx (pc' := 35) rfl (hb hby d13_34) (v := (0 : Int32)) rfl ?_
  subst hFF
  refine Go.retN X0 hx hlk (t := .boolean) hret (by simp) (hb hby d13_35) (by decide) (by decide) ?_
  rw [e0]
  exact ⟨(congrArg (fun z => some (Value.int z)) (by decide : nar .boolean (0 : Int32) = (0 : Int32))), (Fr.nil n0), rfl⟩
-- java/lang/String.equals
set_option maxRecDepth 65536 in
set_option maxHeartbeats 4000000 in
theorem au_120 (l : Launch) (Z : State) (a0 : Array Value) (hw : ∀ d ∈ tables_1, d.before a0 Z = true) (x0 : Addr) (x1 : Addr) (x2 : Addr) (x3 : Addr) (kk0 : ClassId) (p0 : Int32) (p1 : Int32) (p2 : Int32) (p3 : Int32) (p4 : Int32) (kk1 : ClassId) (gz1 : Int32) (gv5 : Value) (h0 : Heap) (n0 : Nat) (Z0 : n0 ≤ h0.size) (O0 : Old Z n0 h0) (G : Glob Z gz1 gv5) (P1 : Fld Z h0 x0 "java/lang/String" "coder" "B" (.int 0)) (P2 : Fld Z h0 x0 "java/lang/String" "value" "[B" (.ref x2)) (P3 : Exa Z h0 x1 "java/lang/String") (P4 : Fld Z h0 x1 "java/lang/String" "coder" "B" (.int 0)) (P5 : Fld Z h0 x1 "java/lang/String" "value" "[B" (.ref x3)) (P6 : Arv Z h0 x2 kk0 .byte (5 : Int32) [(.int p0), (.int p1), (.int p2), (.int p3), (.int p4)] (.int 0)) (P8 : Arv Z h0 x3 kk1 .byte (1 : Int32) [(.int 47)] (.int (0 : Int32))) (ne_x0_x1 : x0 ≠ x1) :
    Ctr l Z (⟨"java/lang/String", "equals", "(Ljava/lang/Object;)Z"⟩ : MethodName) jdk_42_method_66_code 3 (some .boolean) ({ frames := 1, cells := 0, slots := 0, locals := 14 } : Room) #[(.ref x0), (.ref x1)] h0 (fun v h L => v = some (.int 0) ∧ Fr n0 L ∧ h = h0) := by
  refine Ctr.of (plainFor_of_name pn_c1) ?_
  intro p e s m below meth c T0 hx hZ hby hml hown hnm hret hlk e0 es X0
  have G' := G
  obtain ⟨G0, -, G2, -⟩ := G'
  refine Go.cast (ef_12_RR m x0 x1) ?_
  generalize hFF : EndN s _ _ _ = FF
  refine Go.aloadN X0 hx (pc' := 1) rfl (hb hby d12_0) rfl rfl ?_
  refine Go.aloadN X0 hx (pc' := 2) rfl (hb hby d12_1) rfl rfl ?_
  refine Go.acmp X0 hx (pc' := 7) (same := false) (hb hby d12_2) rfl rfl (decide_eq_false (fun q => ne_x0_x1 (Value.ref.inj q))) (by decide) (by decide) ?_
  refine Go.aloadN X0 hx (pc' := 8) rfl (hb hby d12_7) rfl rfl ?_
  refine Go.instY X0 hx hZ hown (tw_65 hw) e0 (Ins.self P3) (pc' := 11) rfl (hb hby d12_8) ?_
  intro T1 e1 X1
  refine Go.ifNo X1 hx (pc' := 14) rfl (hb hby d12_11) (by decide) ?_
  refine Go.aloadN X1 hx (pc' := 15) rfl (hb hby d12_14) rfl rfl ?_
  refine Go.castY X1 hx hZ hown (tw_65 hw) e1 (Ins.self P3) (pc' := 18) rfl (hb hby d12_15) ?_
  intro T2 e2 X2
  refine Go.astoreN X2 hx (pc' := 19) rfl (hb hby d12_18) (Ls' := #[.val (.ref x0), .val (.ref x1), .val (.ref x1)]) rfl rfl ?_
  have fk3 : Sta Z h0 "java/lang/String" "COMPACT_STRINGS" "Z" (.int gz1) := G0.ext O0.2
  refine Go.getS X2 hx hZ hown (host := "") (Or.inl (tw_55 hw)) Via.refl e2 fk3 (pc' := 22) rfl (hb hby d12_19) ?_
  intro T4 e4 X4
  refine Go.ifNo X4 hx (pc' := 25) rfl (hb hby d12_22) (feq G2).1 ?_
  refine Go.aloadN X4 hx (pc' := 26) rfl (hb hby d12_25) rfl rfl ?_
  refine Go.getF X4 hx hZ hown (host := "") (Or.inl (tw_29 hw)) Via.refl e4 P1 (pc' := 29) rfl (hb hby d12_26) ?_
  intro T5 e5 X5
  refine Go.aloadN X5 hx (pc' := 30) rfl (hb hby d12_29) rfl rfl ?_
  refine Go.getF X5 hx hZ hown (host := "") (Or.inl (tw_29 hw)) Via.refl e5 P4 (pc' := 33) rfl (hb hby d12_30) ?_
  intro T6 e6 X6
  refine Go.icmpNo X6 hx (pc' := 36) rfl (hb hby d12_33) (by decide) ?_
  refine Go.aloadN X6 hx (pc' := 37) rfl (hb hby d12_36) rfl rfl ?_
  refine Go.getF X6 hx hZ hown (host := "") (Or.inl (tw_28 hw)) Via.refl e6 P2 (pc' := 40) rfl (hb hby d12_37) ?_
  intro T7 e7 X7
  refine Go.aloadN X7 hx (pc' := 41) rfl (hb hby d12_40) rfl rfl ?_
  refine Go.getF X7 hx hZ hown (host := "") (Or.inl (tw_28 hw)) Via.refl e7 P5 (pc' := 44) rfl (hb hby d12_41) ?_
  intro T8 e8 X8
  refine Go.callS X8 hx hZ hown (tw_66 hw) (tw_67 hw) (tw_68 hw) (tw_69 hw) (by decide) (tw_69 hw) (tw_68 hw) (au_121 l Z a0 hw x2 x3 kk0 p0 p1 p2 p3 p4 kk1 h0 n0 Z0 P6 P8) e8 (argsL := [(.ref x2), (.ref x3)]) (rest := []) (pc' := 47) rfl (by rw [hml]; rfl) (lenOf pd_8 rfl) rfl rfl (W := 0) (Nat.le_of_eq rfl) (by decide) (by decide) (by decide) (by decide) (hb hby d12_44) ?_
  intro v9 T9 L9 q9 X9
  obtain ⟨rfl, N9, e9⟩ := q9
  show Go _ _ _ _ (T9.setTop (mkF m 47 #[.val (.ref x0), .val (.ref x1), .val (.ref x1)] [(.int 0)]))
  refine Go.ifYes X9 hx (pc' := 54) (hb hby d12_47) (by decide) (by decide) (by decide) ?_
  refine Go.iconst X9 hx (pc' := 55) rfl (hb hby d12_54) (v := (0 : Int32)) rfl ?_
  subst hFF
  refine Go.retN X9 hx hlk (t := .boolean) hret (by simp) (hb hby d12_55) (by decide) (by decide) ?_
  rw [e9]
  exact ⟨(congrArg (fun z => some (Value.int z)) (by decide : nar .boolean (0 : Int32) = (0 : Int32))), (Fr.app (Fr.nil n0) N9), rfl⟩
-- java/lang/StringLatin1.equals
set_option maxRecDepth 65536 in
set_option maxHeartbeats 4000000 in
theorem au_123 (l : Launch) (Z : State) (a0 : Array Value) (hw : ∀ d ∈ tables_1, d.before a0 Z = true) (x0 : Addr) (x1 : Addr) (kk0 : ClassId) (p0 : Int32) (p1 : Int32) (p2 : Int32) (p3 : Int32) (p4 : Int32) (kk1 : ClassId) (h0 : Heap) (n0 : Nat) (Z0 : n0 ≤ h0.size) (P0 : Arv Z h0 x0 kk0 .byte (5 : Int32) [(.int p0), (.int p1), (.int p2), (.int p3), (.int p4)] (.int 0)) (P2 : Arv Z h0 x1 kk1 .byte (3 : Int32) [(.int 47), (.int 117), (.int 105)] (.int 0)) :
    Ctr l Z (⟨"java/lang/StringLatin1", "equals", "([B[B)Z"⟩ : MethodName) jdk_43_method_13_code 3 (some .boolean) ({ frames := 0, cells := 0, slots := 0, locals := 0 } : Room) #[(.ref x0), (.ref x1)] h0 (fun v h L => v = some (.int 0) ∧ Fr n0 L ∧ h = h0) := by
  refine Ctr.of (plainFor_of_name pn_c2) ?_
  intro p e s m below meth c T0 hx hZ hby hml hown hnm hret hlk e0 es X0
  refine Go.cast (ef_13_RR m x0 x1) ?_
  generalize hFF : EndN s _ _ _ = FF
  refine Go.aloadN X0 hx (pc' := 1) rfl (hb hby d13_0) rfl rfl ?_
  refine Go.arraylength X0 hx hZ e0 P0 (pc' := 2) rfl (hb hby d13_1) ?_
  refine Go.aloadN X0 hx (pc' := 3) rfl (hb hby d13_2) rfl rfl ?_
  refine Go.arraylength X0 hx hZ e0 P2 (pc' := 4) rfl (hb hby d13_3) ?_
  refine Go.icmpYes X0 hx (pc' := 34) (hb hby d13_4) (by decide) (by decide) (by decide) ?_
  refine Go.iconst X0 hx (pc' := 35) rfl (hb hby d13_34) (v := (0 : Int32)) rfl ?_
  subst hFF
  refine Go.retN X0 hx hlk (t := .boolean) hret (by simp) (hb hby d13_35) (by decide) (by decide) ?_
  rw [e0]
  exact ⟨(congrArg (fun z => some (Value.int z)) (by decide : nar .boolean (0 : Int32) = (0 : Int32))), (Fr.nil n0), rfl⟩
-- java/lang/String.equals
set_option maxRecDepth 65536 in
set_option maxHeartbeats 4000000 in
theorem au_122 (l : Launch) (Z : State) (a0 : Array Value) (hw : ∀ d ∈ tables_1, d.before a0 Z = true) (x0 : Addr) (x1 : Addr) (x2 : Addr) (x3 : Addr) (kk0 : ClassId) (p0 : Int32) (p1 : Int32) (p2 : Int32) (p3 : Int32) (p4 : Int32) (kk1 : ClassId) (gz1 : Int32) (gv5 : Value) (h0 : Heap) (n0 : Nat) (Z0 : n0 ≤ h0.size) (O0 : Old Z n0 h0) (G : Glob Z gz1 gv5) (P1 : Fld Z h0 x0 "java/lang/String" "coder" "B" (.int 0)) (P2 : Fld Z h0 x0 "java/lang/String" "value" "[B" (.ref x2)) (P3 : Exa Z h0 x1 "java/lang/String") (P4 : Fld Z h0 x1 "java/lang/String" "coder" "B" (.int 0)) (P5 : Fld Z h0 x1 "java/lang/String" "value" "[B" (.ref x3)) (P6 : Arv Z h0 x2 kk0 .byte (5 : Int32) [(.int p0), (.int p1), (.int p2), (.int p3), (.int p4)] (.int 0)) (P8 : Arv Z h0 x3 kk1 .byte (3 : Int32) [(.int 47), (.int 117), (.int 105)] (.int 0)) (ne_x0_x1 : x0 ≠ x1) :
    Ctr l Z (⟨"java/lang/String", "equals", "(Ljava/lang/Object;)Z"⟩ : MethodName) jdk_42_method_66_code 3 (some .boolean) ({ frames := 1, cells := 0, slots := 0, locals := 14 } : Room) #[(.ref x0), (.ref x1)] h0 (fun v h L => v = some (.int 0) ∧ Fr n0 L ∧ h = h0) := by
  refine Ctr.of (plainFor_of_name pn_c1) ?_
  intro p e s m below meth c T0 hx hZ hby hml hown hnm hret hlk e0 es X0
  have G' := G
  obtain ⟨G0, -, G2, -⟩ := G'
  refine Go.cast (ef_12_RR m x0 x1) ?_
  generalize hFF : EndN s _ _ _ = FF
  refine Go.aloadN X0 hx (pc' := 1) rfl (hb hby d12_0) rfl rfl ?_
  refine Go.aloadN X0 hx (pc' := 2) rfl (hb hby d12_1) rfl rfl ?_
  refine Go.acmp X0 hx (pc' := 7) (same := false) (hb hby d12_2) rfl rfl (decide_eq_false (fun q => ne_x0_x1 (Value.ref.inj q))) (by decide) (by decide) ?_
  refine Go.aloadN X0 hx (pc' := 8) rfl (hb hby d12_7) rfl rfl ?_
  refine Go.instY X0 hx hZ hown (tw_65 hw) e0 (Ins.self P3) (pc' := 11) rfl (hb hby d12_8) ?_
  intro T1 e1 X1
  refine Go.ifNo X1 hx (pc' := 14) rfl (hb hby d12_11) (by decide) ?_
  refine Go.aloadN X1 hx (pc' := 15) rfl (hb hby d12_14) rfl rfl ?_
  refine Go.castY X1 hx hZ hown (tw_65 hw) e1 (Ins.self P3) (pc' := 18) rfl (hb hby d12_15) ?_
  intro T2 e2 X2
  refine Go.astoreN X2 hx (pc' := 19) rfl (hb hby d12_18) (Ls' := #[.val (.ref x0), .val (.ref x1), .val (.ref x1)]) rfl rfl ?_
  have fk3 : Sta Z h0 "java/lang/String" "COMPACT_STRINGS" "Z" (.int gz1) := G0.ext O0.2
  refine Go.getS X2 hx hZ hown (host := "") (Or.inl (tw_55 hw)) Via.refl e2 fk3 (pc' := 22) rfl (hb hby d12_19) ?_
  intro T4 e4 X4
  refine Go.ifNo X4 hx (pc' := 25) rfl (hb hby d12_22) (feq G2).1 ?_
  refine Go.aloadN X4 hx (pc' := 26) rfl (hb hby d12_25) rfl rfl ?_
  refine Go.getF X4 hx hZ hown (host := "") (Or.inl (tw_29 hw)) Via.refl e4 P1 (pc' := 29) rfl (hb hby d12_26) ?_
  intro T5 e5 X5
  refine Go.aloadN X5 hx (pc' := 30) rfl (hb hby d12_29) rfl rfl ?_
  refine Go.getF X5 hx hZ hown (host := "") (Or.inl (tw_29 hw)) Via.refl e5 P4 (pc' := 33) rfl (hb hby d12_30) ?_
  intro T6 e6 X6
  refine Go.icmpNo X6 hx (pc' := 36) rfl (hb hby d12_33) (by decide) ?_
  refine Go.aloadN X6 hx (pc' := 37) rfl (hb hby d12_36) rfl rfl ?_
  refine Go.getF X6 hx hZ hown (host := "") (Or.inl (tw_28 hw)) Via.refl e6 P2 (pc' := 40) rfl (hb hby d12_37) ?_
  intro T7 e7 X7
  refine Go.aloadN X7 hx (pc' := 41) rfl (hb hby d12_40) rfl rfl ?_
  refine Go.getF X7 hx hZ hown (host := "") (Or.inl (tw_28 hw)) Via.refl e7 P5 (pc' := 44) rfl (hb hby d12_41) ?_
  intro T8 e8 X8
  refine Go.callS X8 hx hZ hown (tw_66 hw) (tw_67 hw) (tw_68 hw) (tw_69 hw) (by decide) (tw_69 hw) (tw_68 hw) (au_123 l Z a0 hw x2 x3 kk0 p0 p1 p2 p3 p4 kk1 h0 n0 Z0 P6 P8) e8 (argsL := [(.ref x2), (.ref x3)]) (rest := []) (pc' := 47) rfl (by rw [hml]; rfl) (lenOf pd_8 rfl) rfl rfl (W := 0) (Nat.le_of_eq rfl) (by decide) (by decide) (by decide) (by decide) (hb hby d12_44) ?_
  intro v9 T9 L9 q9 X9
  obtain ⟨rfl, N9, e9⟩ := q9
  show Go _ _ _ _ (T9.setTop (mkF m 47 #[.val (.ref x0), .val (.ref x1), .val (.ref x1)] [(.int 0)]))
  refine Go.ifYes X9 hx (pc' := 54) (hb hby d12_47) (by decide) (by decide) (by decide) ?_
  refine Go.iconst X9 hx (pc' := 55) rfl (hb hby d12_54) (v := (0 : Int32)) rfl ?_
  subst hFF
  refine Go.retN X9 hx hlk (t := .boolean) hret (by simp) (hb hby d12_55) (by decide) (by decide) ?_
  rw [e9]
  exact ⟨(congrArg (fun z => some (Value.int z)) (by decide : nar .boolean (0 : Int32) = (0 : Int32))), (Fr.app (Fr.nil n0) N9), rfl⟩
-- com/example/roles_over_datacenter/rolesoverdatacenter/Page.redirects
set_option maxRecDepth 65536 in
set_option maxHeartbeats 4000000 in
theorem au_119 (l : Launch) (Z : State) (a0 : Array Value) (hw : ∀ d ∈ tables_1, d.before a0 Z = true) (x0 : Addr) (x1 : Addr) (kk0 : ClassId) (p0 : Int32) (p1 : Int32) (p2 : Int32) (p3 : Int32) (p4 : Int32) (gz1 : Int32) (gv5 : Value) (h0 : Heap) (n0 : Nat) (Z0 : n0 ≤ h0.size) (O0 : Old Z n0 h0) (G : Glob Z gz1 gv5) (P0 : Exa Z h0 x0 "java/lang/String") (P1 : Fld Z h0 x0 "java/lang/String" "coder" "B" (.int 0)) (P2 : Fld Z h0 x0 "java/lang/String" "value" "[B" (.ref x1)) (P3 : Arv Z h0 x1 kk0 .byte (5 : Int32) [(.int p0), (.int p1), (.int p2), (.int p3), (.int p4)] (.int 0)) :
    CtrW l Z EL0 (⟨"com/example/roles_over_datacenter/rolesoverdatacenter/Page", "redirects", "(Ljava/lang/String;)Z"⟩ : MethodName) prog_11_method_4_code 1 (some .boolean) ({ frames := 5, cells := 8, slots := 55, locals := 81 } : Room) #[(.ref x0)] h0 [x0] (fun v vm h L => v = some (.int 0) ∧ Fr n0 L ∧ Keep h0 h []) := by
  refine CtrW.of (plainFor_of_name pn_c5) ?_
  intro p e s m below meth c T0 hx hZ hby hml hown hnm hret hlk e0 es hS0 C0 hsf X0
  have G' := G
  obtain ⟨-, G1, -, -⟩ := G'
  refine Go.cast (ef_11_R m x0) ?_
  generalize hFF : EndW Z EL0 s _ _ _ = FF
  refine Go.aloadN X0 hx (pc' := 1) rfl (hb hby d11_0) rfl rfl ?_
  refine Go.ldcCH X0 hx hZ hown (tw_59 hw) (own_SA hw) e0 hS0 (Nat.le_refl _) (own_EW hw) (List.mem_of_getElem? (i := 1) rfl) C0.1 (vs := [(.int (47 : Int32))]) (z := (1 : Int32)) (by decide) (by decide) rfl (n := 4) (by decide) (by decide) (by decide) (by decide) (pc' := 3) rfl (hb hby d11_1) ?_
  intro a1 T1 h1 j1 b1 k1 e1 E1 S1 i1 Z1 O1 A1 F1 G1 V1 C1 D1 X1
  have Kp3 : Keep h0 h1 [] := ((Keep.refl h0 []).ext E1)
  have Zn2 : n0 ≤ h1.size := Nat.le_trans Z0 Kp3.1
  have O4 := (O0.ext E1)
  have fk5 : Fld Z h1 x0 "java/lang/String" "coder" "B" (.int 0) := (P1.ext E1)
  have fk6 : Fld Z h1 x0 "java/lang/String" "value" "[B" (.ref x1) := (P2.ext E1)
  have fk7 := (P3.ext E1)
  have fk8 : Safe Z EL0 T1.vm h1 x0 := (C1.safe P0.lt (hsf _ (List.mem_of_getElem? (i := 0) rfl)))
  have fk9 : Exa Z h1 x0 "java/lang/String" := (P0.ext E1)
  refine Go.callV X1 hx Z1 O1 (tw_60 hw) (tw_61 hw) (notFace_of_selects (args := #[]) (mvT Z1 (tw_63 hw))) (tw_63 hw) (tw_62 hw) (by decide) (tw_64 hw) (tw_10 hw) (au_120 l Z a0 hw x0 a1 x1 b1 kk0 p0 p1 p2 p3 p4 k1 gz1 gv5 h1 n0 Zn2 O4 G fk5 fk6 A1 F1 G1 fk7 V1 (D1 x0 fk8).1) e1 fk9 (argsL := [(.ref a1)]) (rest := []) (pc' := 6) rfl (by rw [hml]; rfl) (lenOf pd_9 rfl) rfl rfl (W := 0) (Nat.le_of_eq rfl) (by decide) (by decide) (by decide) (by decide) (hb hby d11_3) ?_
  intro v10 T10 L10 q10 X10
  obtain ⟨rfl, N10, e10⟩ := q10
  show Go _ _ _ _ (T10.setTop (mkF m 6 #[.val (.ref x0)] [(.int 0)]))
  refine Go.ifNo X10 hx (pc' := 9) rfl (hb hby d11_6) (by decide) ?_
  refine Go.aloadN X10 hx (pc' := 10) rfl (hb hby d11_9) rfl rfl ?_
  have C11 : CHr Z EL0 s.vm s.heap T1.vm h1 := (C0.trans C1)
  refine Go.ldcCH X10 hx Z1 O1 (tw_34 hw) (own_SA hw) e10 S1 i1 (own_EW hw) (List.mem_of_getElem? (i := 0) rfl) C11.1 (vs := [(.int (47 : Int32)), (.int (117 : Int32)), (.int (105 : Int32)), (.int (47 : Int32))]) (z := (4 : Int32)) (by decide) (by decide) rfl (n := 16) (by decide) (by decide) (by decide) (by decide) (pc' := 12) rfl (hb hby d11_10) ?_
  intro a12 T12 h12 j12 b12 k12 e12 E12 S12 i12 Z12 O12 A12 F12 G12 V12 C12 D12 X12
  refine Go.iconst X12 hx (pc' := 13) rfl (hb hby d11_12) (v := (0 : Int32)) rfl ?_
  have C13 : CHr Z EL0 s.vm s.heap T12.vm h12 := (C11.trans C12)
  refine Go.ldcCH X12 hx Z12 O12 (tw_34 hw) (own_SA hw) e12 S12 i12 (own_EW hw) (List.mem_of_getElem? (i := 0) rfl) C13.1 (vs := [(.int (47 : Int32)), (.int (117 : Int32)), (.int (105 : Int32)), (.int (47 : Int32))]) (z := (4 : Int32)) (by decide) (by decide) rfl (n := 16) (by decide) (by decide) (by decide) (by decide) (pc' := 15) rfl (hb hby d11_13) ?_
  intro a14 T14 h14 j14 b14 k14 e14 E14 S14 i14 Z14 O14 A14 F14 G14 V14 C14 D14 X14
  have Kp16 : Keep h0 h12 [] := (Kp3.ext E12)
  have Kp17 : Keep h0 h14 [] := (Kp16.ext E14)
  have Zn15 : n0 ≤ h14.size := Nat.le_trans Z0 Kp17.1
  have O18 := (O4.ext E12)
  have O19 := (O18.ext E14)
  refine Go.callV X14 hx Z14 O14 (tw_70 hw) (tw_46 hw) (notFace_of_selects (args := #[]) (mvT Z14 (tw_48 hw))) (tw_48 hw) (tw_47 hw) (by decide) (tw_49 hw) (tw_10 hw) (au_14 l Z a0 hw a14 b14 k14 gz1 gv5 h14 n0 Zn15 O19 G A14 F14 G14 V14) e14 A14 (argsL := []) (rest := [(.int 0), (.ref a12), (.ref x0)]) (pc' := 18) rfl (by rw [hml]; rfl) (lenOf pd_5 rfl) rfl rfl (W := 3) (Nat.le_of_eq rfl) (by decide) (by decide) (by decide) (by decide) (hb hby d11_15) ?_
  intro v20 T20 L20 q20 X20
  obtain ⟨rfl, N20, e20⟩ := q20
  show Go _ _ _ _ (T20.setTop (mkF m 18 #[.val (.ref x0)] [(.int 4), (.int 0), (.ref a12), (.ref x0)]))
  refine Go.iconst X20 hx (pc' := 19) rfl (hb hby d11_18) (v := (1 : Int32)) rfl ?_
  refine Go.isub X20 hx (pc' := 20) rfl (hb hby d11_19) ?_
  rw [show ((4 : Int32) - (1 : Int32)) = (3 : Int32) from by decide]
  have fk21 : Exa Z h14 a12 "java/lang/String" := (A12.ext E14)
  have fk22 : Fld Z h14 a12 "java/lang/String" "coder" "B" (.int 0) := (F12.ext E14)
  have fk23 : Fld Z h14 a12 "java/lang/String" "value" "[B" (.ref b12) := (G12.ext E14)
  have fk24 := (V12.ext E14)
  refine Go.callV X20 hx Z14 O14 (tw_71 hw) (tw_72 hw) (notFace_of_selects (args := #[]) (mvT Z14 (tw_74 hw))) (tw_74 hw) (tw_73 hw) (by decide) (tw_75 hw) (tw_10 hw) (au_20 l Z a0 hw a12 b12 k12 gz1 gv5 h14 n0 Zn15 O19 G fk21 fk22 fk23 fk24) e20 fk21 (argsL := [(.int 0), (.int 3)]) (rest := [(.ref x0)]) (pc' := 23) rfl (by rw [hml]; rfl) (lenOf pd_18 rfl) rfl rfl (W := 1) (Nat.le_of_eq rfl) (by decide) (by decide) (by decide) (by decide) (hb hby d11_20) ?_
  intro v25 T25 L25 q25 X25
  obtain ⟨h25, e25⟩ : ∃ z, T25.heap = z := ⟨_, rfl⟩
  rw [e25] at q25
  obtain ⟨b25_0, b25_1, k25_0, rfl, N25, K25, s25_0, s25_1, n25_0, F25_0, F25_1, F25_2, F25_3, F25_4⟩ := q25
  show Go _ _ _ _ (T25.setTop (mkF m 23 #[.val (.ref x0)] [(.ref b25_0), (.ref x0)]))
  have Kp27 : Keep h0 h25 [] := (Kp17.trans K25 all0)
  have Zn26 : n0 ≤ h25.size := Nat.le_trans Z0 Kp27.1
  have O28 := (O19.keep K25 all0)
  have fk29 : Fld Z h25 x0 "java/lang/String" "coder" "B" (.int 0) := (((fk5.ext E12).ext E14).keep K25 nin0)
  have fk30 : Fld Z h25 x0 "java/lang/String" "value" "[B" (.ref x1) := (((fk6.ext E12).ext E14).keep K25 nin0)
  have fk31 := (((fk7.ext E12).ext E14).keep K25 nin0)
  have fk33 : Exa Z h14 x0 "java/lang/String" := ((fk9.ext E12).ext E14)
  have ne32 : x0 ≠ b25_0 := Nat.ne_of_lt (Nat.lt_of_lt_of_le fk33.lt s25_0)
  have fk34 : Exa Z h25 x0 "java/lang/String" := (fk33.keep K25)
  refine Go.callV X25 hx Z14 O14 (tw_60 hw) (tw_61 hw) (notFace_of_selects (args := #[]) (mvT Z14 (tw_63 hw))) (tw_63 hw) (tw_62 hw) (by decide) (tw_64 hw) (tw_10 hw) (au_122 l Z a0 hw x0 b25_0 x1 b25_1 kk0 p0 p1 p2 p3 p4 k25_0 gz1 gv5 h25 n0 Zn26 O28 G fk29 fk30 F25_0 F25_1 F25_2 fk31 F25_3 ne32) e25 fk34 (argsL := [(.ref b25_0)]) (rest := []) (pc' := 26) rfl (by rw [hml]; rfl) (lenOf pd_9 rfl) rfl rfl (W := 0) (Nat.le_of_eq rfl) (by decide) (by decide) (by decide) (by decide) (hb hby d11_23) ?_
  intro v35 T35 L35 q35 X35
  obtain ⟨rfl, N35, e35⟩ := q35
  show Go _ _ _ _ (T35.setTop (mkF m 26 #[.val (.ref x0)] [(.int 0)]))
  refine Go.ifYes X35 hx (pc' := 33) (hb hby d11_26) (by decide) (by decide) (by decide) ?_
  refine Go.iconst X35 hx (pc' := 34) rfl (hb hby d11_33) (v := (0 : Int32)) rfl ?_
  subst hFF
  have C36 : CHr Z EL0 s.vm s.heap T14.vm h14 := (C13.trans C14)
  have C37 : CHr Z EL0 s.vm s.heap T14.vm h25 := (C36.trans (CHr.keep K25 sf0 C36.1))
  have hk38 := (Nat.le_trans i14 K25.1)
  refine Go.retNW X35 hx hlk Z14 (own_EW hw) e35 S14 hk38 C37 (t := .boolean) hret (by simp) (hb hby d11_34) (by decide) (by decide) (fun hat => ?_)
  exact ⟨(congrArg (fun z => some (Value.int z)) (by decide : nar .boolean (0 : Int32) = (0 : Int32))), (Fr.app (Fr.app (Fr.app (Fr.app (Fr.nil n0) N10) N20) N25) N35), Kp27⟩
-- com/example/roles_over_datacenter/rolesoverdatacenter/Page.serves
set_option maxRecDepth 65536 in
set_option maxHeartbeats 4000000 in
theorem au_112 (l : Launch) (Z : State) (a0 : Array Value) (hw : ∀ d ∈ tables_1, d.before a0 Z = true) (x0 : Addr) (x1 : Addr) (kk0 : ClassId) (p0 : Int32) (p1 : Int32) (p2 : Int32) (p3 : Int32) (p4 : Int32) (p5 : Int32) (p6 : Int32) (p7 : Int32) (p8 : Int32) (gz1 : Int32) (gv5 : Value) (h0 : Heap) (n0 : Nat) (Z0 : n0 ≤ h0.size) (O0 : Old Z n0 h0) (G : Glob Z gz1 gv5) (P0 : Exa Z h0 x0 "java/lang/String") (P1 : Fld Z h0 x0 "java/lang/String" "coder" "B" (.int 0)) (P2 : Fld Z h0 x0 "java/lang/String" "value" "[B" (.ref x1)) (P3 : Arv Z h0 x1 kk0 .byte (5 : Int32) [(.int p0), (.int p1), (.int p2), (.int p3), (.int p4)] (.int 0)) (R_p5 : 0 ≤ p5.toInt ∧ p5.toInt ≤ 255) (R_p6 : 0 ≤ p6.toInt ∧ p6.toInt ≤ 255) (R_p7 : 0 ≤ p7.toInt ∧ p7.toInt ≤ 255) (R_p8 : 0 ≤ p8.toInt ∧ p8.toInt ≤ 255) (B_p0 : (p5.toInt8.toInt32) = p0) (B_p1 : (p6.toInt8.toInt32) = p1) (B_p2 : (p7.toInt8.toInt32) = p2) (B_p3 : (p8.toInt8.toInt32) = p3) :
    CtrW l Z EL0 (⟨"com/example/roles_over_datacenter/rolesoverdatacenter/Page", "serves", "(Ljava/lang/String;)Z"⟩ : MethodName) prog_11_method_3_code 1 (some .boolean) ({ frames := 6, cells := 10, slots := 75, locals := 93 } : Room) #[(.ref x0)] h0 [x0] (fun v vm h L => (p5 = (47 : Int32) ∧ p6 = (117 : Int32) ∧ p7 = (105 : Int32) ∧ p8 = (47 : Int32) ∧ v = some (.int 1) ∧ Fr n0 L ∧ Keep h0 h []) ∨ (p5 = (47 : Int32) ∧ p6 = (117 : Int32) ∧ p7 = (105 : Int32) ∧ ¬ (p8 = (47 : Int32)) ∧ v = some (.int 0) ∧ Fr n0 L ∧ Keep h0 h []) ∨ (p5 = (47 : Int32) ∧ p6 = (117 : Int32) ∧ ¬ (p7 = (105 : Int32)) ∧ v = some (.int 0) ∧ Fr n0 L ∧ Keep h0 h []) ∨ (p5 = (47 : Int32) ∧ ¬ (p6 = (117 : Int32)) ∧ v = some (.int 0) ∧ Fr n0 L ∧ Keep h0 h []) ∨ (¬ (p5 = (47 : Int32)) ∧ v = some (.int 0) ∧ Fr n0 L ∧ Keep h0 h [])) := by
  refine CtrW.of (plainFor_of_name pn_c5) ?_
  intro p e s m below meth c T0 hx hZ hby hml hown hnm hret hlk e0 es hS0 C0 hsf X0
  have G' := G
  obtain ⟨-, G1, -, -⟩ := G'
  refine Go.cast (ef_6_R m x0) ?_
  generalize hFF : EndW Z EL0 s _ _ _ = FF
  refine Go.aloadN X0 hx (pc' := 1) rfl (hb hby d6_0) rfl rfl ?_
  refine Go.ldcCH X0 hx hZ hown (tw_34 hw) (own_SA hw) e0 hS0 (Nat.le_refl _) (own_EW hw) (List.mem_of_getElem? (i := 0) rfl) C0.1 (vs := [(.int (47 : Int32)), (.int (117 : Int32)), (.int (105 : Int32)), (.int (47 : Int32))]) (z := (4 : Int32)) (by decide) (by decide) rfl (n := 16) (by decide) (by decide) (by decide) (by decide) (pc' := 3) rfl (hb hby d6_1) ?_
  intro a1 T1 h1 j1 b1 k1 e1 E1 S1 i1 Z1 O1 A1 F1 G1 V1 C1 D1 X1
  have Kp3 : Keep h0 h1 [] := ((Keep.refl h0 []).ext E1)
  have Zn2 : n0 ≤ h1.size := Nat.le_trans Z0 Kp3.1
  have O4 := (O0.ext E1)
  have fk5 : Exa Z h1 x0 "java/lang/String" := (P0.ext E1)
  have fk6 : Fld Z h1 x0 "java/lang/String" "coder" "B" (.int 0) := (P1.ext E1)
  have fk7 : Fld Z h1 x0 "java/lang/String" "value" "[B" (.ref x1) := (P2.ext E1)
  have fk8 := (P3.ext E1)
  refine Go.callV X1 hx Z1 O1 (tw_35 hw) (tw_36 hw) (notFace_of_selects (args := #[]) (mvT Z1 (tw_38 hw))) (tw_38 hw) (tw_37 hw) (by decide) (tw_39 hw) (tw_10 hw) (au_113 l Z a0 hw x0 a1 x1 b1 kk0 p0 p1 p2 p3 p4 k1 p5 p6 p7 p8 gz1 gv5 h1 n0 Zn2 O4 G fk5 fk6 fk7 A1 F1 G1 fk8 V1 R_p5 R_p6 R_p7 R_p8 B_p0 B_p1 B_p2 B_p3) e1 fk5 (argsL := [(.ref a1)]) (rest := []) (pc' := 6) rfl (by rw [hml]; rfl) (lenOf pd_7 rfl) rfl rfl (W := 0) (Nat.le_of_eq rfl) (by decide) (by decide) (by decide) (by decide) (hb hby d6_3) ?_
  intro v9 T9 L9 q9 X9
  rcases q9 with ⟨c9_0_0, c9_0_1, c9_0_2, c9_0_3, rfl, N9_0, e9_0⟩ | ⟨c9_1_0, c9_1_1, c9_1_2, c9_1_3, rfl, N9_1, e9_1⟩ | ⟨c9_2_0, c9_2_1, c9_2_2, rfl, N9_2, e9_2⟩ | ⟨c9_3_0, c9_3_1, rfl, N9_3, e9_3⟩ | ⟨c9_4_0, rfl, N9_4, e9_4⟩
  · show Go _ _ _ _ (T9.setTop (mkF m 6 #[.val (.ref x0)] [(.int 1)]))
    refine Go.ifYes X9 hx (pc' := 16) (hb hby d6_6) (by decide) (by decide) (by decide) ?_
    refine Go.iconst X9 hx (pc' := 17) rfl (hb hby d6_16) (v := (1 : Int32)) rfl ?_
    refine Go.goto X9 hx (pc' := 21) (hb hby d6_17) (by decide) (by decide) ?_
    subst hFF
    have C10 : CHr Z EL0 s.vm s.heap T1.vm h1 := (C0.trans C1)
    refine Go.retNW X9 hx hlk Z1 (own_EW hw) e9_0 S1 i1 C10 (t := .boolean) hret (by simp) (hb hby d6_21) (by decide) (by decide) (fun hat => ?_)
    exact Or.inl ⟨c9_0_0, c9_0_1, c9_0_2, c9_0_3, (congrArg (fun z => some (Value.int z)) (by decide : nar .boolean (1 : Int32) = (1 : Int32))), (Fr.app (Fr.nil n0) N9_0), Kp3⟩
  · show Go _ _ _ _ (T9.setTop (mkF m 6 #[.val (.ref x0)] [(.int 0)]))
    refine Go.ifNo X9 hx (pc' := 9) rfl (hb hby d6_6) (by decide) ?_
    refine Go.aloadN X9 hx (pc' := 10) rfl (hb hby d6_9) rfl rfl ?_
    have C11 : CHr Z EL0 s.vm s.heap T1.vm h1 := (C0.trans C1)
    have fk12 : Safe Z EL0 T1.vm h1 x0 := (C1.safe P0.lt (hsf _ (List.mem_of_getElem? (i := 0) rfl)))
    refine Go.callSW X9 hx Z1 O1 (tw_56 hw) (tw_57 hw) (tw_32 hw) (tw_58 hw) (by decide) (tw_58 hw) (tw_32 hw) (au_119 l Z a0 hw x0 x1 kk0 p0 p1 p2 p3 p4 gz1 gv5 h1 n0 Zn2 O4 G fk5 fk6 fk7 fk8) (own_EW hw) C11.1 (allS ⟨fk5.lt, fk12⟩ all0) S1 i1 e9_1 (argsL := [(.ref x0)]) (rest := []) (pc' := 13) rfl (by rw [hml]; rfl) (lenOf pd_7 rfl) rfl rfl (W := 0) (Nat.le_of_eq rfl) (by decide) (by decide) (by decide) (by decide) (hb hby d6_10) ?_
    intro v13 T13 L13 h13 e13 q13 C13 S13 Z13 O13 X13
    obtain ⟨rfl, N13, K13⟩ := q13
    show Go _ _ _ _ (T13.setTop (mkF m 13 #[.val (.ref x0)] [(.int 0)]))
    refine Go.ifYes X13 hx (pc' := 20) (hb hby d6_13) (by decide) (by decide) (by decide) ?_
    refine Go.iconst X13 hx (pc' := 21) rfl (hb hby d6_20) (v := (0 : Int32)) rfl ?_
    subst hFF
    have C14 : CHr Z EL0 s.vm s.heap T13.vm h13 := (C11.trans C13)
    refine Go.retNW X13 hx hlk Z13 (own_EW hw) e13 S13 (Nat.le_refl _) C14 (t := .boolean) hret (by simp) (hb hby d6_21) (by decide) (by decide) (fun hat => ?_)
    have Kp15 : Keep h0 h13 [] := (Kp3.trans K13 all0)
    exact Or.inr (Or.inl ⟨c9_1_0, c9_1_1, c9_1_2, c9_1_3, (congrArg (fun z => some (Value.int z)) (by decide : nar .boolean (0 : Int32) = (0 : Int32))), (Fr.app (Fr.app (Fr.nil n0) N9_1) N13), Kp15⟩)
  · show Go _ _ _ _ (T9.setTop (mkF m 6 #[.val (.ref x0)] [(.int 0)]))
    refine Go.ifNo X9 hx (pc' := 9) rfl (hb hby d6_6) (by decide) ?_
    refine Go.aloadN X9 hx (pc' := 10) rfl (hb hby d6_9) rfl rfl ?_
    have C16 : CHr Z EL0 s.vm s.heap T1.vm h1 := (C0.trans C1)
    have fk17 : Safe Z EL0 T1.vm h1 x0 := (C1.safe P0.lt (hsf _ (List.mem_of_getElem? (i := 0) rfl)))
    refine Go.callSW X9 hx Z1 O1 (tw_56 hw) (tw_57 hw) (tw_32 hw) (tw_58 hw) (by decide) (tw_58 hw) (tw_32 hw) (au_119 l Z a0 hw x0 x1 kk0 p0 p1 p2 p3 p4 gz1 gv5 h1 n0 Zn2 O4 G fk5 fk6 fk7 fk8) (own_EW hw) C16.1 (allS ⟨fk5.lt, fk17⟩ all0) S1 i1 e9_2 (argsL := [(.ref x0)]) (rest := []) (pc' := 13) rfl (by rw [hml]; rfl) (lenOf pd_7 rfl) rfl rfl (W := 0) (Nat.le_of_eq rfl) (by decide) (by decide) (by decide) (by decide) (hb hby d6_10) ?_
    intro v18 T18 L18 h18 e18 q18 C18 S18 Z18 O18 X18
    obtain ⟨rfl, N18, K18⟩ := q18
    show Go _ _ _ _ (T18.setTop (mkF m 13 #[.val (.ref x0)] [(.int 0)]))
    refine Go.ifYes X18 hx (pc' := 20) (hb hby d6_13) (by decide) (by decide) (by decide) ?_
    refine Go.iconst X18 hx (pc' := 21) rfl (hb hby d6_20) (v := (0 : Int32)) rfl ?_
    subst hFF
    have C19 : CHr Z EL0 s.vm s.heap T18.vm h18 := (C16.trans C18)
    refine Go.retNW X18 hx hlk Z18 (own_EW hw) e18 S18 (Nat.le_refl _) C19 (t := .boolean) hret (by simp) (hb hby d6_21) (by decide) (by decide) (fun hat => ?_)
    have Kp20 : Keep h0 h18 [] := (Kp3.trans K18 all0)
    exact Or.inr (Or.inr (Or.inl ⟨c9_2_0, c9_2_1, c9_2_2, (congrArg (fun z => some (Value.int z)) (by decide : nar .boolean (0 : Int32) = (0 : Int32))), (Fr.app (Fr.app (Fr.nil n0) N9_2) N18), Kp20⟩))
  · show Go _ _ _ _ (T9.setTop (mkF m 6 #[.val (.ref x0)] [(.int 0)]))
    refine Go.ifNo X9 hx (pc' := 9) rfl (hb hby d6_6) (by decide) ?_
    refine Go.aloadN X9 hx (pc' := 10) rfl (hb hby d6_9) rfl rfl ?_
    have C21 : CHr Z EL0 s.vm s.heap T1.vm h1 := (C0.trans C1)
    have fk22 : Safe Z EL0 T1.vm h1 x0 := (C1.safe P0.lt (hsf _ (List.mem_of_getElem? (i := 0) rfl)))
    refine Go.callSW X9 hx Z1 O1 (tw_56 hw) (tw_57 hw) (tw_32 hw) (tw_58 hw) (by decide) (tw_58 hw) (tw_32 hw) (au_119 l Z a0 hw x0 x1 kk0 p0 p1 p2 p3 p4 gz1 gv5 h1 n0 Zn2 O4 G fk5 fk6 fk7 fk8) (own_EW hw) C21.1 (allS ⟨fk5.lt, fk22⟩ all0) S1 i1 e9_3 (argsL := [(.ref x0)]) (rest := []) (pc' := 13) rfl (by rw [hml]; rfl) (lenOf pd_7 rfl) rfl rfl (W := 0) (Nat.le_of_eq rfl) (by decide) (by decide) (by decide) (by decide) (hb hby d6_10) ?_
    intro v23 T23 L23 h23 e23 q23 C23 S23 Z23 O23 X23
    obtain ⟨rfl, N23, K23⟩ := q23
    show Go _ _ _ _ (T23.setTop (mkF m 13 #[.val (.ref x0)] [(.int 0)]))
    refine Go.ifYes X23 hx (pc' := 20) (hb hby d6_13) (by decide) (by decide) (by decide) ?_
    refine Go.iconst X23 hx (pc' := 21) rfl (hb hby d6_20) (v := (0 : Int32)) rfl ?_
    subst hFF
    have C24 : CHr Z EL0 s.vm s.heap T23.vm h23 := (C21.trans C23)
    refine Go.retNW X23 hx hlk Z23 (own_EW hw) e23 S23 (Nat.le_refl _) C24 (t := .boolean) hret (by simp) (hb hby d6_21) (by decide) (by decide) (fun hat => ?_)
    have Kp25 : Keep h0 h23 [] := (Kp3.trans K23 all0)
    exact Or.inr (Or.inr (Or.inr (Or.inl ⟨c9_3_0, c9_3_1, (congrArg (fun z => some (Value.int z)) (by decide : nar .boolean (0 : Int32) = (0 : Int32))), (Fr.app (Fr.app (Fr.nil n0) N9_3) N23), Kp25⟩)))
  · show Go _ _ _ _ (T9.setTop (mkF m 6 #[.val (.ref x0)] [(.int 0)]))
    refine Go.ifNo X9 hx (pc' := 9) rfl (hb hby d6_6) (by decide) ?_
    refine Go.aloadN X9 hx (pc' := 10) rfl (hb hby d6_9) rfl rfl ?_
    have C26 : CHr Z EL0 s.vm s.heap T1.vm h1 := (C0.trans C1)
    have fk27 : Safe Z EL0 T1.vm h1 x0 := (C1.safe P0.lt (hsf _ (List.mem_of_getElem? (i := 0) rfl)))
    refine Go.callSW X9 hx Z1 O1 (tw_56 hw) (tw_57 hw) (tw_32 hw) (tw_58 hw) (by decide) (tw_58 hw) (tw_32 hw) (au_119 l Z a0 hw x0 x1 kk0 p0 p1 p2 p3 p4 gz1 gv5 h1 n0 Zn2 O4 G fk5 fk6 fk7 fk8) (own_EW hw) C26.1 (allS ⟨fk5.lt, fk27⟩ all0) S1 i1 e9_4 (argsL := [(.ref x0)]) (rest := []) (pc' := 13) rfl (by rw [hml]; rfl) (lenOf pd_7 rfl) rfl rfl (W := 0) (Nat.le_of_eq rfl) (by decide) (by decide) (by decide) (by decide) (hb hby d6_10) ?_
    intro v28 T28 L28 h28 e28 q28 C28 S28 Z28 O28 X28
    obtain ⟨rfl, N28, K28⟩ := q28
    show Go _ _ _ _ (T28.setTop (mkF m 13 #[.val (.ref x0)] [(.int 0)]))
    refine Go.ifYes X28 hx (pc' := 20) (hb hby d6_13) (by decide) (by decide) (by decide) ?_
    refine Go.iconst X28 hx (pc' := 21) rfl (hb hby d6_20) (v := (0 : Int32)) rfl ?_
    subst hFF
    have C29 : CHr Z EL0 s.vm s.heap T28.vm h28 := (C26.trans C28)
    refine Go.retNW X28 hx hlk Z28 (own_EW hw) e28 S28 (Nat.le_refl _) C29 (t := .boolean) hret (by simp) (hb hby d6_21) (by decide) (by decide) (fun hat => ?_)
    have Kp30 : Keep h0 h28 [] := (Kp3.trans K28 all0)
    exact Or.inr (Or.inr (Or.inr (Or.inr (⟨c9_4_0, (congrArg (fun z => some (Value.int z)) (by decide : nar .boolean (0 : Int32) = (0 : Int32))), (Fr.app (Fr.app (Fr.nil n0) N9_4) N28), Kp30⟩))))
theorem ef_0_IIIIII (m : MethodId) (x0 : Int32) (x1 : Int32) (x2 : Int32) (x3 : Int32) (x4 : Int32) (x5 : Int32) : entryFrame m #[(.int x0), (.int x1), (.int x2), (.int x3), (.int x4), (.int x5)] maxLocals = mkF m 0 #[.val (.int x0), .val (.int x1), .val (.int x2), .val (.int x3), .val (.int x4), .val (.int x5), .unset, .unset, .unset, .unset, .unset, .unset, .unset, .unset, .unset, .unset, .unset] [] := by first | (simp [entryFrame, mkF, argsToLocals, Value.category, maxLocals]; done) | rfl
set_option maxRecDepth 65536 in
set_option maxHeartbeats 40000000 in
theorem rm0 (l : Launch) (Z : State) (a0 : Array Value) (hw : ∀ d ∈ tables_1, d.before a0 Z = true) (p0 : Int32) (p1 : Int32) (p2 : Int32) (p3 : Int32) (p4 : Int32) (p5 : Int32) (gz1 : Int32) (gv5 : Value) (h0 : Heap) (n0 : Nat) (Z0 : n0 ≤ h0.size) (O0 : Old Z n0 h0) (G : Glob Z gz1 gv5) :
    CtrW l Z EL0 x code maxLocals ret room_1 #[(.int p0), (.int p1), (.int p2), (.int p3), (.int p4), (.int p5)] h0 [] (fun v vm h L => v = some (.int (1 : Int32)) ∧ Fr n0 L) := by
  refine CtrW.of (plainFor_of_name pn_c0) ?_
  intro p e s m below meth c T0 hx hZ hby hml hown hnm hret hlk e0 es hS0 C0 hsf X0
  refine Go.cast (ef_0_IIIIII m p0 p1 p2 p3 p4 p5) ?_
  refine Go.iloadN X0 hx (pc' := 1) rfl (hb hby at_0) rfl ?_
  refine Go.ldcI X0 hx hZ hown (tw_0 hw) (pc' := 3) rfl (hb hby at_1) ?_
  refine Go.iand X0 hx (pc' := 4) rfl (hb hby at_3) ?_
  generalize hz1 : (p0 &&& (2147483647 : Int32)) = z1
  refine Go.bipush X0 hx (pc' := 6) rfl (hb hby at_4) (v := (6 : Int32)) (by decide) ?_
  refine Go.irem X0 hx (pc' := 7) rfl (hb hby at_6) (by decide) ?_
  have r2 : 0 ≤ z1.toInt ∧ z1.toInt ≤ 2147483647 := own_rand hz1 (by decide)
  generalize hz3 : (z1 % (6 : Int32)) = z3
  refine Go.istore X0 hx (pc' := 9) rfl (hb hby at_7) (Ls' := #[.val (.int p0), .val (.int p1), .val (.int p2), .val (.int p3), .val (.int p4), .val (.int p5), .val (.int z3), .unset, .unset, .unset, .unset, .unset, .unset, .unset, .unset, .unset, .unset]) rfl ?_
  refine Go.iloadN X0 hx (pc' := 10) rfl (hb hby at_9) rfl ?_
  refine Go.callS X0 hx hZ hown (tw_1 hw) (tw_2 hw) (tw_3 hw) (tw_4 hw) (by decide) (tw_4 hw) (tw_3 hw) (au_1 l Z a0 hw p1 h0 n0 Z0) e0 (argsL := [(.int p1)]) (rest := []) (pc' := 13) rfl (by rw [hml]; rfl) (lenOf pd_0 rfl) rfl rfl (W := 0) (Nat.le_of_eq rfl) (by decide) (by decide) (by decide) (by decide) (hb hby at_10) ?_
  intro v4 T4 L4 q4 X4
  obtain ⟨z4_0, w4, rfl, N4, e4⟩ := q4
  show Go _ _ _ _ (T4.setTop (mkF m 13 #[.val (.int p0), .val (.int p1), .val (.int p2), .val (.int p3), .val (.int p4), .val (.int p5), .val (.int z3), .unset, .unset, .unset, .unset, .unset, .unset, .unset, .unset, .unset, .unset] [(.int z4_0)]))
  refine Go.istore X4 hx (pc' := 15) rfl (hb hby at_13) (Ls' := #[.val (.int p0), .val (.int p1), .val (.int p2), .val (.int p3), .val (.int p4), .val (.int p5), .val (.int z3), .val (.int z4_0), .unset, .unset, .unset, .unset, .unset, .unset, .unset, .unset, .unset]) rfl ?_
  refine Go.iloadN X4 hx (pc' := 16) rfl (hb hby at_15) rfl ?_
  refine Go.callS X4 hx hZ hown (tw_1 hw) (tw_2 hw) (tw_3 hw) (tw_4 hw) (by decide) (tw_4 hw) (tw_3 hw) (au_1 l Z a0 hw p2 h0 n0 Z0) e4 (argsL := [(.int p2)]) (rest := []) (pc' := 19) rfl (by rw [hml]; rfl) (lenOf pd_0 rfl) rfl rfl (W := 0) (Nat.le_of_eq rfl) (by decide) (by decide) (by decide) (by decide) (hb hby at_16) ?_
  intro v5 T5 L5 q5 X5
  obtain ⟨z5_0, w5, rfl, N5, e5⟩ := q5
  show Go _ _ _ _ (T5.setTop (mkF m 19 #[.val (.int p0), .val (.int p1), .val (.int p2), .val (.int p3), .val (.int p4), .val (.int p5), .val (.int z3), .val (.int z4_0), .unset, .unset, .unset, .unset, .unset, .unset, .unset, .unset, .unset] [(.int z5_0)]))
  refine Go.istore X5 hx (pc' := 21) rfl (hb hby at_19) (Ls' := #[.val (.int p0), .val (.int p1), .val (.int p2), .val (.int p3), .val (.int p4), .val (.int p5), .val (.int z3), .val (.int z4_0), .val (.int z5_0), .unset, .unset, .unset, .unset, .unset, .unset, .unset, .unset]) rfl ?_
  refine Go.iloadN X5 hx (pc' := 22) rfl (hb hby at_21) rfl ?_
  refine Go.callS X5 hx hZ hown (tw_1 hw) (tw_2 hw) (tw_3 hw) (tw_4 hw) (by decide) (tw_4 hw) (tw_3 hw) (au_1 l Z a0 hw p3 h0 n0 Z0) e5 (argsL := [(.int p3)]) (rest := []) (pc' := 25) rfl (by rw [hml]; rfl) (lenOf pd_0 rfl) rfl rfl (W := 0) (Nat.le_of_eq rfl) (by decide) (by decide) (by decide) (by decide) (hb hby at_22) ?_
  intro v6 T6 L6 q6 X6
  obtain ⟨z6_0, w6, rfl, N6, e6⟩ := q6
  show Go _ _ _ _ (T6.setTop (mkF m 25 #[.val (.int p0), .val (.int p1), .val (.int p2), .val (.int p3), .val (.int p4), .val (.int p5), .val (.int z3), .val (.int z4_0), .val (.int z5_0), .unset, .unset, .unset, .unset, .unset, .unset, .unset, .unset] [(.int z6_0)]))
  refine Go.istore X6 hx (pc' := 27) rfl (hb hby at_25) (Ls' := #[.val (.int p0), .val (.int p1), .val (.int p2), .val (.int p3), .val (.int p4), .val (.int p5), .val (.int z3), .val (.int z4_0), .val (.int z5_0), .val (.int z6_0), .unset, .unset, .unset, .unset, .unset, .unset, .unset]) rfl ?_
  refine Go.iload X6 hx (pc' := 29) rfl (hb hby at_27) rfl ?_
  refine Go.callS X6 hx hZ hown (tw_1 hw) (tw_2 hw) (tw_3 hw) (tw_4 hw) (by decide) (tw_4 hw) (tw_3 hw) (au_1 l Z a0 hw p4 h0 n0 Z0) e6 (argsL := [(.int p4)]) (rest := []) (pc' := 32) rfl (by rw [hml]; rfl) (lenOf pd_0 rfl) rfl rfl (W := 0) (Nat.le_of_eq rfl) (by decide) (by decide) (by decide) (by decide) (hb hby at_29) ?_
  intro v7 T7 L7 q7 X7
  obtain ⟨z7_0, w7, rfl, N7, e7⟩ := q7
  show Go _ _ _ _ (T7.setTop (mkF m 32 #[.val (.int p0), .val (.int p1), .val (.int p2), .val (.int p3), .val (.int p4), .val (.int p5), .val (.int z3), .val (.int z4_0), .val (.int z5_0), .val (.int z6_0), .unset, .unset, .unset, .unset, .unset, .unset, .unset] [(.int z7_0)]))
  refine Go.istore X7 hx (pc' := 34) rfl (hb hby at_32) (Ls' := #[.val (.int p0), .val (.int p1), .val (.int p2), .val (.int p3), .val (.int p4), .val (.int p5), .val (.int z3), .val (.int z4_0), .val (.int z5_0), .val (.int z6_0), .val (.int z7_0), .unset, .unset, .unset, .unset, .unset, .unset]) rfl ?_
  refine Go.iload X7 hx (pc' := 36) rfl (hb hby at_34) rfl ?_
  refine Go.callS X7 hx hZ hown (tw_1 hw) (tw_2 hw) (tw_3 hw) (tw_4 hw) (by decide) (tw_4 hw) (tw_3 hw) (au_1 l Z a0 hw p5 h0 n0 Z0) e7 (argsL := [(.int p5)]) (rest := []) (pc' := 39) rfl (by rw [hml]; rfl) (lenOf pd_0 rfl) rfl rfl (W := 0) (Nat.le_of_eq rfl) (by decide) (by decide) (by decide) (by decide) (hb hby at_36) ?_
  intro v8 T8 L8 q8 X8
  obtain ⟨z8_0, w8, rfl, N8, e8⟩ := q8
  show Go _ _ _ _ (T8.setTop (mkF m 39 #[.val (.int p0), .val (.int p1), .val (.int p2), .val (.int p3), .val (.int p4), .val (.int p5), .val (.int z3), .val (.int z4_0), .val (.int z5_0), .val (.int z6_0), .val (.int z7_0), .unset, .unset, .unset, .unset, .unset, .unset] [(.int z8_0)]))
  have r9 : 0 ≤ z3.toInt ∧ z3.toInt ≤ 5 := own_rrem hz3 (d := 6) (by decide) (by decide) r2 (by decide) (by decide)
  rcases own_cs_0_5 r9 with rfl | rfl | rfl | rfl | rfl | rfl
  · refine Go.istore X8 hx (pc' := 41) rfl (hb hby at_39) (Ls' := #[.val (.int p0), .val (.int p1), .val (.int p2), .val (.int p3), .val (.int p4), .val (.int p5), .val (.int 0), .val (.int z4_0), .val (.int z5_0), .val (.int z6_0), .val (.int z7_0), .val (.int z8_0), .unset, .unset, .unset, .unset, .unset]) rfl ?_
    refine Go.iload X8 hx (pc' := 43) rfl (hb hby at_41) rfl ?_
    refine Go.iload X8 hx (pc' := 45) rfl (hb hby at_43) rfl ?_
    refine Go.iload X8 hx (pc' := 47) rfl (hb hby at_45) rfl ?_
    refine Go.iload X8 hx (pc' := 49) rfl (hb hby at_47) rfl ?_
    refine Go.iload X8 hx (pc' := 51) rfl (hb hby at_49) rfl ?_
    refine Go.iload X8 hx (pc' := 53) rfl (hb hby at_51) rfl ?_
    refine Go.callSW X8 hx hZ hown (tw_5 hw) (tw_6 hw) (tw_3 hw) (tw_7 hw) (by decide) (tw_7 hw) (tw_3 hw) (au_7 l Z a0 hw z4_0 z5_0 z6_0 z7_0 z8_0 gz1 gv5 h0 n0 Z0 G) (own_EW hw) C0.1 all0 hS0 (Nat.le_refl _) e8 (argsL := [(.int 0), (.int z4_0), (.int z5_0), (.int z6_0), (.int z7_0), (.int z8_0)]) (rest := []) (pc' := 56) rfl (by rw [hml]; rfl) (lenOf pd_3 rfl) rfl rfl (W := 0) (Nat.le_of_eq rfl) (by decide) (by decide) (by decide) (by decide) (hb hby at_53) ?_
    intro v10 T10 L10 h10 e10 q10 C10 S10 Z10 O10 X10
    obtain ⟨b10_0, b10_1, k10_0, rfl, N10, K10, s10_0, y10_0, F10_0, F10_1, F10_2, F10_3⟩ := q10
    show Go _ _ _ _ (T10.setTop (mkF m 56 #[.val (.int p0), .val (.int p1), .val (.int p2), .val (.int p3), .val (.int p4), .val (.int p5), .val (.int 0), .val (.int z4_0), .val (.int z5_0), .val (.int z6_0), .val (.int z7_0), .val (.int z8_0), .unset, .unset, .unset, .unset, .unset] [(.ref b10_0)]))
    refine Go.astore X10 hx (pc' := 58) rfl (hb hby at_56) (Ls' := #[.val (.int p0), .val (.int p1), .val (.int p2), .val (.int p3), .val (.int p4), .val (.int p5), .val (.int 0), .val (.int z4_0), .val (.int z5_0), .val (.int z6_0), .val (.int z7_0), .val (.int z8_0), .val (.ref b10_0), .unset, .unset, .unset, .unset]) rfl rfl ?_
    refine Go.iload X10 hx (pc' := 60) rfl (hb hby at_58) rfl ?_
    refine Go.iconst X10 hx (pc' := 61) rfl (hb hby at_60) (v := (4 : Int32)) rfl ?_
    refine Go.icmpYes X10 hx (pc' := 96) (hb hby at_61) (by decide) (by decide) (by decide) ?_
    refine Go.iconst X10 hx (pc' := 97) rfl (hb hby at_96) (v := (0 : Int32)) rfl ?_
    refine Go.istore X10 hx (pc' := 99) rfl (hb hby at_97) (Ls' := #[.val (.int p0), .val (.int p1), .val (.int p2), .val (.int p3), .val (.int p4), .val (.int p5), .val (.int 0), .val (.int z4_0), .val (.int z5_0), .val (.int z6_0), .val (.int z7_0), .val (.int z8_0), .val (.ref b10_0), .val (.int 0), .unset, .unset, .unset]) rfl ?_
    refine Go.iload X10 hx (pc' := 101) rfl (hb hby at_99) rfl ?_
    refine Go.iconst X10 hx (pc' := 102) rfl (hb hby at_101) (v := (1 : Int32)) rfl ?_
    refine Go.icmpYes X10 hx (pc' := 116) (hb hby at_102) (by decide) (by decide) (by decide) ?_
    refine Go.iconst X10 hx (pc' := 117) rfl (hb hby at_116) (v := (0 : Int32)) rfl ?_
    refine Go.istore X10 hx (pc' := 119) rfl (hb hby at_117) (Ls' := #[.val (.int p0), .val (.int p1), .val (.int p2), .val (.int p3), .val (.int p4), .val (.int p5), .val (.int 0), .val (.int z4_0), .val (.int z5_0), .val (.int z6_0), .val (.int z7_0), .val (.int z8_0), .val (.ref b10_0), .val (.int 0), .val (.int 0), .unset, .unset]) rfl ?_
    refine Go.iload X10 hx (pc' := 121) rfl (hb hby at_119) rfl ?_
    refine Go.iconst X10 hx (pc' := 122) rfl (hb hby at_121) (v := (3 : Int32)) rfl ?_
    refine Go.icmpYes X10 hx (pc' := 150) (hb hby at_122) (by decide) (by decide) (by decide) ?_
    refine Go.iconst X10 hx (pc' := 151) rfl (hb hby at_150) (v := (0 : Int32)) rfl ?_
    refine Go.istore X10 hx (pc' := 153) rfl (hb hby at_151) (Ls' := #[.val (.int p0), .val (.int p1), .val (.int p2), .val (.int p3), .val (.int p4), .val (.int p5), .val (.int 0), .val (.int z4_0), .val (.int z5_0), .val (.int z6_0), .val (.int z7_0), .val (.int z8_0), .val (.ref b10_0), .val (.int 0), .val (.int 0), .val (.int 0), .unset]) rfl ?_
    refine Go.iload X10 hx (pc' := 155) rfl (hb hby at_153) rfl ?_
    refine Go.ifNo X10 hx (pc' := 158) rfl (hb hby at_155) (by decide) ?_
    refine Go.iload X10 hx (pc' := 160) rfl (hb hby at_158) rfl ?_
    refine Go.ifNo X10 hx (pc' := 163) rfl (hb hby at_160) (by decide) ?_
    refine Go.iload X10 hx (pc' := 165) rfl (hb hby at_163) rfl ?_
    refine Go.ifYes X10 hx (pc' := 172) (hb hby at_165) (by decide) (by decide) (by decide) ?_
    refine Go.iconst X10 hx (pc' := 173) rfl (hb hby at_172) (v := (0 : Int32)) rfl ?_
    refine Go.istore X10 hx (pc' := 175) rfl (hb hby at_173) (Ls' := #[.val (.int p0), .val (.int p1), .val (.int p2), .val (.int p3), .val (.int p4), .val (.int p5), .val (.int 0), .val (.int z4_0), .val (.int z5_0), .val (.int z6_0), .val (.int z7_0), .val (.int z8_0), .val (.ref b10_0), .val (.int 0), .val (.int 0), .val (.int 0), .val (.int 0)]) rfl ?_
    refine Go.aload X10 hx (pc' := 177) rfl (hb hby at_175) rfl rfl ?_
    have Kp12 : Keep h0 h10 [] := ((Keep.refl h0 []).trans K10 all0)
    have Zn11 : n0 ≤ h10.size := Nat.le_trans Z0 Kp12.1
    have O13 := (O0.keep K10 all0)
    have C14 : CHr Z EL0 s.vm s.heap T10.vm h10 := (C0.trans C10)
    refine Go.callSW X10 hx Z10 O10 (tw_30 hw) (tw_31 hw) (tw_32 hw) (tw_33 hw) (by decide) (tw_33 hw) (tw_32 hw) (au_9 l Z a0 hw b10_0 b10_1 k10_0 gz1 gv5 h10 n0 Zn11 O13 G F10_0 F10_1 F10_2 F10_3) (own_EW hw) C14.1 (allS ⟨F10_0.lt, y10_0⟩ all0) S10 (Nat.le_refl _) e10 (argsL := [(.ref b10_0)]) (rest := []) (pc' := 180) rfl (by rw [hml]; rfl) (lenOf pd_7 rfl) rfl rfl (W := 0) (Nat.le_of_eq rfl) (by decide) (by decide) (by decide) (by decide) (hb hby at_177) ?_
    intro v15 T15 L15 h15 e15 q15 C15 S15 Z15 O15 X15
    obtain ⟨rfl, N15, K15⟩ := q15
    show Go _ _ _ _ (T15.setTop (mkF m 180 #[.val (.int p0), .val (.int p1), .val (.int p2), .val (.int p3), .val (.int p4), .val (.int p5), .val (.int 0), .val (.int z4_0), .val (.int z5_0), .val (.int z6_0), .val (.int z7_0), .val (.int z8_0), .val (.ref b10_0), .val (.int 0), .val (.int 0), .val (.int 0), .val (.int 0)] [(.int 0)]))
    refine Go.iload X15 hx (pc' := 182) rfl (hb hby at_180) rfl ?_
    refine Go.icmpNo X15 hx (pc' := 185) rfl (hb hby at_182) (by decide) ?_
    refine Go.iconst X15 hx (pc' := 186) rfl (hb hby at_185) (v := (1 : Int32)) rfl ?_
    refine Go.goto X15 hx (pc' := 190) (hb hby at_186) (by decide) (by decide) ?_
    have C16 : CHr Z EL0 s.vm s.heap T15.vm h15 := (C14.trans C15)
    refine Go.retNW X15 hx hlk Z15 (own_EW hw) e15 S15 (Nat.le_refl _) C16 (t := .boolean) hret (by simp) (hb hby at_190) (by decide) (by decide) (fun hat => ?_)
    exact ⟨rfl, (Fr.app (Fr.app (Fr.app (Fr.app (Fr.app (Fr.app (Fr.app (Fr.nil n0) N4) N5) N6) N7) N8) N10) N15)⟩
  · refine Go.istore X8 hx (pc' := 41) rfl (hb hby at_39) (Ls' := #[.val (.int p0), .val (.int p1), .val (.int p2), .val (.int p3), .val (.int p4), .val (.int p5), .val (.int 1), .val (.int z4_0), .val (.int z5_0), .val (.int z6_0), .val (.int z7_0), .val (.int z8_0), .unset, .unset, .unset, .unset, .unset]) rfl ?_
    refine Go.iload X8 hx (pc' := 43) rfl (hb hby at_41) rfl ?_
    refine Go.iload X8 hx (pc' := 45) rfl (hb hby at_43) rfl ?_
    refine Go.iload X8 hx (pc' := 47) rfl (hb hby at_45) rfl ?_
    refine Go.iload X8 hx (pc' := 49) rfl (hb hby at_47) rfl ?_
    refine Go.iload X8 hx (pc' := 51) rfl (hb hby at_49) rfl ?_
    refine Go.iload X8 hx (pc' := 53) rfl (hb hby at_51) rfl ?_
    refine Go.callS X8 hx hZ hown (tw_5 hw) (tw_6 hw) (tw_3 hw) (tw_7 hw) (by decide) (tw_7 hw) (tw_3 hw) (au_32 l Z a0 hw z4_0 z5_0 z6_0 z7_0 z8_0 gz1 gv5 h0 n0 Z0 O0 G w4) e8 (argsL := [(.int 1), (.int z4_0), (.int z5_0), (.int z6_0), (.int z7_0), (.int z8_0)]) (rest := []) (pc' := 56) rfl (by rw [hml]; rfl) (lenOf pd_3 rfl) rfl rfl (W := 0) (Nat.le_of_eq rfl) (by decide) (by decide) (by decide) (by decide) (hb hby at_53) ?_
    intro v17 T17 L17 q17 X17
    obtain ⟨h17, e17⟩ : ∃ z, T17.heap = z := ⟨_, rfl⟩
    rw [e17] at q17
    obtain ⟨z17_0, b17_0, b17_1, k17_0, d17_0, rfl, N17, K17, s17_0, s17_1, n17_0, F17_0, F17_1, F17_2, F17_3, F17_4⟩ := q17
    show Go _ _ _ _ (T17.setTop (mkF m 56 #[.val (.int p0), .val (.int p1), .val (.int p2), .val (.int p3), .val (.int p4), .val (.int p5), .val (.int 1), .val (.int z4_0), .val (.int z5_0), .val (.int z6_0), .val (.int z7_0), .val (.int z8_0), .unset, .unset, .unset, .unset, .unset] [(.ref b17_0)]))
    refine Go.astore X17 hx (pc' := 58) rfl (hb hby at_56) (Ls' := #[.val (.int p0), .val (.int p1), .val (.int p2), .val (.int p3), .val (.int p4), .val (.int p5), .val (.int 1), .val (.int z4_0), .val (.int z5_0), .val (.int z6_0), .val (.int z7_0), .val (.int z8_0), .val (.ref b17_0), .unset, .unset, .unset, .unset]) rfl rfl ?_
    refine Go.iload X17 hx (pc' := 60) rfl (hb hby at_58) rfl ?_
    refine Go.iconst X17 hx (pc' := 61) rfl (hb hby at_60) (v := (4 : Int32)) rfl ?_
    refine Go.icmpYes X17 hx (pc' := 96) (hb hby at_61) (by decide) (by decide) (by decide) ?_
    refine Go.iconst X17 hx (pc' := 97) rfl (hb hby at_96) (v := (0 : Int32)) rfl ?_
    refine Go.istore X17 hx (pc' := 99) rfl (hb hby at_97) (Ls' := #[.val (.int p0), .val (.int p1), .val (.int p2), .val (.int p3), .val (.int p4), .val (.int p5), .val (.int 1), .val (.int z4_0), .val (.int z5_0), .val (.int z6_0), .val (.int z7_0), .val (.int z8_0), .val (.ref b17_0), .val (.int 0), .unset, .unset, .unset]) rfl ?_
    refine Go.iload X17 hx (pc' := 101) rfl (hb hby at_99) rfl ?_
    refine Go.iconst X17 hx (pc' := 102) rfl (hb hby at_101) (v := (1 : Int32)) rfl ?_
    refine Go.icmpNo X17 hx (pc' := 105) rfl (hb hby at_102) (by decide) ?_
    refine Go.iload X17 hx (pc' := 107) rfl (hb hby at_105) rfl ?_
    refine Go.bipush X17 hx (pc' := 109) rfl (hb hby at_107) (v := (47 : Int32)) (by decide) ?_
    by_cases hc18 : z4_0 = (47 : Int32)
    · refine Go.icmpNo X17 hx (pc' := 112) rfl (hb hby at_109) (teq hc18).2 ?_
      refine Go.iconst X17 hx (pc' := 113) rfl (hb hby at_112) (v := (1 : Int32)) rfl ?_
      refine Go.goto X17 hx (pc' := 117) (hb hby at_113) (by decide) (by decide) ?_
      refine Go.istore X17 hx (pc' := 119) rfl (hb hby at_117) (Ls' := #[.val (.int p0), .val (.int p1), .val (.int p2), .val (.int p3), .val (.int p4), .val (.int p5), .val (.int 1), .val (.int z4_0), .val (.int z5_0), .val (.int z6_0), .val (.int z7_0), .val (.int z8_0), .val (.ref b17_0), .val (.int 0), .val (.int 1), .unset, .unset]) rfl ?_
      refine Go.iload X17 hx (pc' := 121) rfl (hb hby at_119) rfl ?_
      refine Go.iconst X17 hx (pc' := 122) rfl (hb hby at_121) (v := (3 : Int32)) rfl ?_
      refine Go.icmpYes X17 hx (pc' := 150) (hb hby at_122) (by decide) (by decide) (by decide) ?_
      refine Go.iconst X17 hx (pc' := 151) rfl (hb hby at_150) (v := (0 : Int32)) rfl ?_
      refine Go.istore X17 hx (pc' := 153) rfl (hb hby at_151) (Ls' := #[.val (.int p0), .val (.int p1), .val (.int p2), .val (.int p3), .val (.int p4), .val (.int p5), .val (.int 1), .val (.int z4_0), .val (.int z5_0), .val (.int z6_0), .val (.int z7_0), .val (.int z8_0), .val (.ref b17_0), .val (.int 0), .val (.int 1), .val (.int 0), .unset]) rfl ?_
      refine Go.iload X17 hx (pc' := 155) rfl (hb hby at_153) rfl ?_
      refine Go.ifNo X17 hx (pc' := 158) rfl (hb hby at_155) (by decide) ?_
      refine Go.iload X17 hx (pc' := 160) rfl (hb hby at_158) rfl ?_
      refine Go.ifYes X17 hx (pc' := 168) (hb hby at_160) (by decide) (by decide) (by decide) ?_
      refine Go.iconst X17 hx (pc' := 169) rfl (hb hby at_168) (v := (1 : Int32)) rfl ?_
      refine Go.goto X17 hx (pc' := 173) (hb hby at_169) (by decide) (by decide) ?_
      refine Go.istore X17 hx (pc' := 175) rfl (hb hby at_173) (Ls' := #[.val (.int p0), .val (.int p1), .val (.int p2), .val (.int p3), .val (.int p4), .val (.int p5), .val (.int 1), .val (.int z4_0), .val (.int z5_0), .val (.int z6_0), .val (.int z7_0), .val (.int z8_0), .val (.ref b17_0), .val (.int 0), .val (.int 1), .val (.int 0), .val (.int 1)]) rfl ?_
      refine Go.aload X17 hx (pc' := 177) rfl (hb hby at_175) rfl rfl ?_
      have r19 : -128 ≤ z17_0.toInt ∧ z17_0.toInt ≤ 127 := own_ri2b d17_0
      have Kp21 : Keep h0 h17 [] := ((Keep.refl h0 []).trans K17 all0)
      have Zn20 : n0 ≤ h17.size := Nat.le_trans Z0 Kp21.1
      have O22 := (O0.keep K17 all0)
      have C23 : CHr Z EL0 s.vm s.heap s.vm h17 := (C0.trans (CHr.keep K17 sf0 C0.1))
      have fk24 : Safe Z EL0 s.vm h17 b17_0 := (Safe.keep K17 sf0 C0.1 (Safe.new s17_0 : Safe Z EL0 s.vm h0 b17_0))
      have hk25 := (Nat.le_trans (Nat.le_refl _) K17.1)
      refine Go.callSW X17 hx hZ hown (tw_30 hw) (tw_31 hw) (tw_32 hw) (tw_33 hw) (by decide) (tw_33 hw) (tw_32 hw) (au_39 l Z a0 hw b17_0 b17_1 k17_0 z17_0 z4_0 gz1 gv5 h17 n0 Zn20 O22 G F17_0 F17_1 F17_2 F17_3 w4 d17_0) (own_EW hw) C23.1 (allS ⟨F17_0.lt, fk24⟩ all0) hS0 hk25 e17 (argsL := [(.ref b17_0)]) (rest := []) (pc' := 180) rfl (by rw [hml]; rfl) (lenOf pd_7 rfl) rfl rfl (W := 0) (Nat.le_of_eq rfl) (by decide) (by decide) (by decide) (by decide) (hb hby at_177) ?_
      intro v26 T26 L26 h26 e26 q26 C26 S26 Z26 O26 X26
      rcases q26 with ⟨c26_0_0, rfl, N26_0, K26_0⟩ | ⟨c26_1_0, rfl, N26_1, K26_1⟩
      · show Go _ _ _ _ (T26.setTop (mkF m 180 #[.val (.int p0), .val (.int p1), .val (.int p2), .val (.int p3), .val (.int p4), .val (.int p5), .val (.int 1), .val (.int z4_0), .val (.int z5_0), .val (.int z6_0), .val (.int z7_0), .val (.int z8_0), .val (.ref b17_0), .val (.int 0), .val (.int 1), .val (.int 0), .val (.int 1)] [(.int 1)]))
        refine Go.iload X26 hx (pc' := 182) rfl (hb hby at_180) rfl ?_
        refine Go.icmpNo X26 hx (pc' := 185) rfl (hb hby at_182) (by decide) ?_
        refine Go.iconst X26 hx (pc' := 186) rfl (hb hby at_185) (v := (1 : Int32)) rfl ?_
        refine Go.goto X26 hx (pc' := 190) (hb hby at_186) (by decide) (by decide) ?_
        have C27 : CHr Z EL0 s.vm s.heap T26.vm h26 := (C23.trans C26)
        refine Go.retNW X26 hx hlk Z26 (own_EW hw) e26 S26 (Nat.le_refl _) C27 (t := .boolean) hret (by simp) (hb hby at_190) (by decide) (by decide) (fun hat => ?_)
        exact ⟨rfl, (Fr.app (Fr.app (Fr.app (Fr.app (Fr.app (Fr.app (Fr.app (Fr.nil n0) N4) N5) N6) N7) N8) N17) N26_0)⟩
      · exact absurd hc18 c26_1_0
    · refine Go.icmpYes X17 hx (pc' := 116) (hb hby at_109) (feq hc18).2 (by decide) (by decide) ?_
      refine Go.iconst X17 hx (pc' := 117) rfl (hb hby at_116) (v := (0 : Int32)) rfl ?_
      refine Go.istore X17 hx (pc' := 119) rfl (hb hby at_117) (Ls' := #[.val (.int p0), .val (.int p1), .val (.int p2), .val (.int p3), .val (.int p4), .val (.int p5), .val (.int 1), .val (.int z4_0), .val (.int z5_0), .val (.int z6_0), .val (.int z7_0), .val (.int z8_0), .val (.ref b17_0), .val (.int 0), .val (.int 0), .unset, .unset]) rfl ?_
      refine Go.iload X17 hx (pc' := 121) rfl (hb hby at_119) rfl ?_
      refine Go.iconst X17 hx (pc' := 122) rfl (hb hby at_121) (v := (3 : Int32)) rfl ?_
      refine Go.icmpYes X17 hx (pc' := 150) (hb hby at_122) (by decide) (by decide) (by decide) ?_
      refine Go.iconst X17 hx (pc' := 151) rfl (hb hby at_150) (v := (0 : Int32)) rfl ?_
      refine Go.istore X17 hx (pc' := 153) rfl (hb hby at_151) (Ls' := #[.val (.int p0), .val (.int p1), .val (.int p2), .val (.int p3), .val (.int p4), .val (.int p5), .val (.int 1), .val (.int z4_0), .val (.int z5_0), .val (.int z6_0), .val (.int z7_0), .val (.int z8_0), .val (.ref b17_0), .val (.int 0), .val (.int 0), .val (.int 0), .unset]) rfl ?_
      refine Go.iload X17 hx (pc' := 155) rfl (hb hby at_153) rfl ?_
      refine Go.ifNo X17 hx (pc' := 158) rfl (hb hby at_155) (by decide) ?_
      refine Go.iload X17 hx (pc' := 160) rfl (hb hby at_158) rfl ?_
      refine Go.ifNo X17 hx (pc' := 163) rfl (hb hby at_160) (by decide) ?_
      refine Go.iload X17 hx (pc' := 165) rfl (hb hby at_163) rfl ?_
      refine Go.ifYes X17 hx (pc' := 172) (hb hby at_165) (by decide) (by decide) (by decide) ?_
      refine Go.iconst X17 hx (pc' := 173) rfl (hb hby at_172) (v := (0 : Int32)) rfl ?_
      refine Go.istore X17 hx (pc' := 175) rfl (hb hby at_173) (Ls' := #[.val (.int p0), .val (.int p1), .val (.int p2), .val (.int p3), .val (.int p4), .val (.int p5), .val (.int 1), .val (.int z4_0), .val (.int z5_0), .val (.int z6_0), .val (.int z7_0), .val (.int z8_0), .val (.ref b17_0), .val (.int 0), .val (.int 0), .val (.int 0), .val (.int 0)]) rfl ?_
      refine Go.aload X17 hx (pc' := 177) rfl (hb hby at_175) rfl rfl ?_
      have r28 : -128 ≤ z17_0.toInt ∧ z17_0.toInt ≤ 127 := own_ri2b d17_0
      have Kp30 : Keep h0 h17 [] := ((Keep.refl h0 []).trans K17 all0)
      have Zn29 : n0 ≤ h17.size := Nat.le_trans Z0 Kp30.1
      have O31 := (O0.keep K17 all0)
      have C32 : CHr Z EL0 s.vm s.heap s.vm h17 := (C0.trans (CHr.keep K17 sf0 C0.1))
      have fk33 : Safe Z EL0 s.vm h17 b17_0 := (Safe.keep K17 sf0 C0.1 (Safe.new s17_0 : Safe Z EL0 s.vm h0 b17_0))
      have hk34 := (Nat.le_trans (Nat.le_refl _) K17.1)
      refine Go.callSW X17 hx hZ hown (tw_30 hw) (tw_31 hw) (tw_32 hw) (tw_33 hw) (by decide) (tw_33 hw) (tw_32 hw) (au_39 l Z a0 hw b17_0 b17_1 k17_0 z17_0 z4_0 gz1 gv5 h17 n0 Zn29 O31 G F17_0 F17_1 F17_2 F17_3 w4 d17_0) (own_EW hw) C32.1 (allS ⟨F17_0.lt, fk33⟩ all0) hS0 hk34 e17 (argsL := [(.ref b17_0)]) (rest := []) (pc' := 180) rfl (by rw [hml]; rfl) (lenOf pd_7 rfl) rfl rfl (W := 0) (Nat.le_of_eq rfl) (by decide) (by decide) (by decide) (by decide) (hb hby at_177) ?_
      intro v35 T35 L35 h35 e35 q35 C35 S35 Z35 O35 X35
      rcases q35 with ⟨c35_0_0, rfl, N35_0, K35_0⟩ | ⟨c35_1_0, rfl, N35_1, K35_1⟩
      · exact absurd c35_0_0 hc18
      · show Go _ _ _ _ (T35.setTop (mkF m 180 #[.val (.int p0), .val (.int p1), .val (.int p2), .val (.int p3), .val (.int p4), .val (.int p5), .val (.int 1), .val (.int z4_0), .val (.int z5_0), .val (.int z6_0), .val (.int z7_0), .val (.int z8_0), .val (.ref b17_0), .val (.int 0), .val (.int 0), .val (.int 0), .val (.int 0)] [(.int 0)]))
        refine Go.iload X35 hx (pc' := 182) rfl (hb hby at_180) rfl ?_
        refine Go.icmpNo X35 hx (pc' := 185) rfl (hb hby at_182) (by decide) ?_
        refine Go.iconst X35 hx (pc' := 186) rfl (hb hby at_185) (v := (1 : Int32)) rfl ?_
        refine Go.goto X35 hx (pc' := 190) (hb hby at_186) (by decide) (by decide) ?_
        have C36 : CHr Z EL0 s.vm s.heap T35.vm h35 := (C32.trans C35)
        refine Go.retNW X35 hx hlk Z35 (own_EW hw) e35 S35 (Nat.le_refl _) C36 (t := .boolean) hret (by simp) (hb hby at_190) (by decide) (by decide) (fun hat => ?_)
        exact ⟨rfl, (Fr.app (Fr.app (Fr.app (Fr.app (Fr.app (Fr.app (Fr.app (Fr.nil n0) N4) N5) N6) N7) N8) N17) N35_1)⟩
  · refine Go.istore X8 hx (pc' := 41) rfl (hb hby at_39) (Ls' := #[.val (.int p0), .val (.int p1), .val (.int p2), .val (.int p3), .val (.int p4), .val (.int p5), .val (.int 2), .val (.int z4_0), .val (.int z5_0), .val (.int z6_0), .val (.int z7_0), .val (.int z8_0), .unset, .unset, .unset, .unset, .unset]) rfl ?_
    refine Go.iload X8 hx (pc' := 43) rfl (hb hby at_41) rfl ?_
    refine Go.iload X8 hx (pc' := 45) rfl (hb hby at_43) rfl ?_
    refine Go.iload X8 hx (pc' := 47) rfl (hb hby at_45) rfl ?_
    refine Go.iload X8 hx (pc' := 49) rfl (hb hby at_47) rfl ?_
    refine Go.iload X8 hx (pc' := 51) rfl (hb hby at_49) rfl ?_
    refine Go.iload X8 hx (pc' := 53) rfl (hb hby at_51) rfl ?_
    refine Go.callS X8 hx hZ hown (tw_5 hw) (tw_6 hw) (tw_3 hw) (tw_7 hw) (by decide) (tw_7 hw) (tw_3 hw) (au_50 l Z a0 hw z4_0 z5_0 z6_0 z7_0 z8_0 gz1 gv5 h0 n0 Z0 O0 G w4 w5) e8 (argsL := [(.int 2), (.int z4_0), (.int z5_0), (.int z6_0), (.int z7_0), (.int z8_0)]) (rest := []) (pc' := 56) rfl (by rw [hml]; rfl) (lenOf pd_3 rfl) rfl rfl (W := 0) (Nat.le_of_eq rfl) (by decide) (by decide) (by decide) (by decide) (hb hby at_53) ?_
    intro v37 T37 L37 q37 X37
    obtain ⟨h37, e37⟩ : ∃ z, T37.heap = z := ⟨_, rfl⟩
    rw [e37] at q37
    obtain ⟨z37_0, z37_1, b37_0, b37_1, k37_0, d37_0, d37_1, rfl, N37, K37, s37_0, s37_1, n37_0, F37_0, F37_1, F37_2, F37_3, F37_4⟩ := q37
    show Go _ _ _ _ (T37.setTop (mkF m 56 #[.val (.int p0), .val (.int p1), .val (.int p2), .val (.int p3), .val (.int p4), .val (.int p5), .val (.int 2), .val (.int z4_0), .val (.int z5_0), .val (.int z6_0), .val (.int z7_0), .val (.int z8_0), .unset, .unset, .unset, .unset, .unset] [(.ref b37_0)]))
    refine Go.astore X37 hx (pc' := 58) rfl (hb hby at_56) (Ls' := #[.val (.int p0), .val (.int p1), .val (.int p2), .val (.int p3), .val (.int p4), .val (.int p5), .val (.int 2), .val (.int z4_0), .val (.int z5_0), .val (.int z6_0), .val (.int z7_0), .val (.int z8_0), .val (.ref b37_0), .unset, .unset, .unset, .unset]) rfl rfl ?_
    refine Go.iload X37 hx (pc' := 60) rfl (hb hby at_58) rfl ?_
    refine Go.iconst X37 hx (pc' := 61) rfl (hb hby at_60) (v := (4 : Int32)) rfl ?_
    refine Go.icmpYes X37 hx (pc' := 96) (hb hby at_61) (by decide) (by decide) (by decide) ?_
    refine Go.iconst X37 hx (pc' := 97) rfl (hb hby at_96) (v := (0 : Int32)) rfl ?_
    refine Go.istore X37 hx (pc' := 99) rfl (hb hby at_97) (Ls' := #[.val (.int p0), .val (.int p1), .val (.int p2), .val (.int p3), .val (.int p4), .val (.int p5), .val (.int 2), .val (.int z4_0), .val (.int z5_0), .val (.int z6_0), .val (.int z7_0), .val (.int z8_0), .val (.ref b37_0), .val (.int 0), .unset, .unset, .unset]) rfl ?_
    refine Go.iload X37 hx (pc' := 101) rfl (hb hby at_99) rfl ?_
    refine Go.iconst X37 hx (pc' := 102) rfl (hb hby at_101) (v := (1 : Int32)) rfl ?_
    refine Go.icmpYes X37 hx (pc' := 116) (hb hby at_102) (by decide) (by decide) (by decide) ?_
    refine Go.iconst X37 hx (pc' := 117) rfl (hb hby at_116) (v := (0 : Int32)) rfl ?_
    refine Go.istore X37 hx (pc' := 119) rfl (hb hby at_117) (Ls' := #[.val (.int p0), .val (.int p1), .val (.int p2), .val (.int p3), .val (.int p4), .val (.int p5), .val (.int 2), .val (.int z4_0), .val (.int z5_0), .val (.int z6_0), .val (.int z7_0), .val (.int z8_0), .val (.ref b37_0), .val (.int 0), .val (.int 0), .unset, .unset]) rfl ?_
    refine Go.iload X37 hx (pc' := 121) rfl (hb hby at_119) rfl ?_
    refine Go.iconst X37 hx (pc' := 122) rfl (hb hby at_121) (v := (3 : Int32)) rfl ?_
    refine Go.icmpYes X37 hx (pc' := 150) (hb hby at_122) (by decide) (by decide) (by decide) ?_
    refine Go.iconst X37 hx (pc' := 151) rfl (hb hby at_150) (v := (0 : Int32)) rfl ?_
    refine Go.istore X37 hx (pc' := 153) rfl (hb hby at_151) (Ls' := #[.val (.int p0), .val (.int p1), .val (.int p2), .val (.int p3), .val (.int p4), .val (.int p5), .val (.int 2), .val (.int z4_0), .val (.int z5_0), .val (.int z6_0), .val (.int z7_0), .val (.int z8_0), .val (.ref b37_0), .val (.int 0), .val (.int 0), .val (.int 0), .unset]) rfl ?_
    refine Go.iload X37 hx (pc' := 155) rfl (hb hby at_153) rfl ?_
    refine Go.ifNo X37 hx (pc' := 158) rfl (hb hby at_155) (by decide) ?_
    refine Go.iload X37 hx (pc' := 160) rfl (hb hby at_158) rfl ?_
    refine Go.ifNo X37 hx (pc' := 163) rfl (hb hby at_160) (by decide) ?_
    refine Go.iload X37 hx (pc' := 165) rfl (hb hby at_163) rfl ?_
    refine Go.ifYes X37 hx (pc' := 172) (hb hby at_165) (by decide) (by decide) (by decide) ?_
    refine Go.iconst X37 hx (pc' := 173) rfl (hb hby at_172) (v := (0 : Int32)) rfl ?_
    refine Go.istore X37 hx (pc' := 175) rfl (hb hby at_173) (Ls' := #[.val (.int p0), .val (.int p1), .val (.int p2), .val (.int p3), .val (.int p4), .val (.int p5), .val (.int 2), .val (.int z4_0), .val (.int z5_0), .val (.int z6_0), .val (.int z7_0), .val (.int z8_0), .val (.ref b37_0), .val (.int 0), .val (.int 0), .val (.int 0), .val (.int 0)]) rfl ?_
    refine Go.aload X37 hx (pc' := 177) rfl (hb hby at_175) rfl rfl ?_
    have r38 : -128 ≤ z37_0.toInt ∧ z37_0.toInt ≤ 127 := own_ri2b d37_0
    have r39 : -128 ≤ z37_1.toInt ∧ z37_1.toInt ≤ 127 := own_ri2b d37_1
    have Kp41 : Keep h0 h37 [] := ((Keep.refl h0 []).trans K37 all0)
    have Zn40 : n0 ≤ h37.size := Nat.le_trans Z0 Kp41.1
    have O42 := (O0.keep K37 all0)
    have C43 : CHr Z EL0 s.vm s.heap s.vm h37 := (C0.trans (CHr.keep K37 sf0 C0.1))
    have fk44 : Safe Z EL0 s.vm h37 b37_0 := (Safe.keep K37 sf0 C0.1 (Safe.new s37_0 : Safe Z EL0 s.vm h0 b37_0))
    have hk45 := (Nat.le_trans (Nat.le_refl _) K37.1)
    refine Go.callSW X37 hx hZ hown (tw_30 hw) (tw_31 hw) (tw_32 hw) (tw_33 hw) (by decide) (tw_33 hw) (tw_32 hw) (au_57 l Z a0 hw b37_0 b37_1 k37_0 z37_0 z37_1 gz1 gv5 h37 n0 Zn40 O42 G F37_0 F37_1 F37_2 F37_3) (own_EW hw) C43.1 (allS ⟨F37_0.lt, fk44⟩ all0) hS0 hk45 e37 (argsL := [(.ref b37_0)]) (rest := []) (pc' := 180) rfl (by rw [hml]; rfl) (lenOf pd_7 rfl) rfl rfl (W := 0) (Nat.le_of_eq rfl) (by decide) (by decide) (by decide) (by decide) (hb hby at_177) ?_
    intro v46 T46 L46 h46 e46 q46 C46 S46 Z46 O46 X46
    obtain ⟨rfl, N46, K46⟩ := q46
    show Go _ _ _ _ (T46.setTop (mkF m 180 #[.val (.int p0), .val (.int p1), .val (.int p2), .val (.int p3), .val (.int p4), .val (.int p5), .val (.int 2), .val (.int z4_0), .val (.int z5_0), .val (.int z6_0), .val (.int z7_0), .val (.int z8_0), .val (.ref b37_0), .val (.int 0), .val (.int 0), .val (.int 0), .val (.int 0)] [(.int 0)]))
    refine Go.iload X46 hx (pc' := 182) rfl (hb hby at_180) rfl ?_
    refine Go.icmpNo X46 hx (pc' := 185) rfl (hb hby at_182) (by decide) ?_
    refine Go.iconst X46 hx (pc' := 186) rfl (hb hby at_185) (v := (1 : Int32)) rfl ?_
    refine Go.goto X46 hx (pc' := 190) (hb hby at_186) (by decide) (by decide) ?_
    have C47 : CHr Z EL0 s.vm s.heap T46.vm h46 := (C43.trans C46)
    refine Go.retNW X46 hx hlk Z46 (own_EW hw) e46 S46 (Nat.le_refl _) C47 (t := .boolean) hret (by simp) (hb hby at_190) (by decide) (by decide) (fun hat => ?_)
    exact ⟨rfl, (Fr.app (Fr.app (Fr.app (Fr.app (Fr.app (Fr.app (Fr.app (Fr.nil n0) N4) N5) N6) N7) N8) N37) N46)⟩
  · refine Go.istore X8 hx (pc' := 41) rfl (hb hby at_39) (Ls' := #[.val (.int p0), .val (.int p1), .val (.int p2), .val (.int p3), .val (.int p4), .val (.int p5), .val (.int 3), .val (.int z4_0), .val (.int z5_0), .val (.int z6_0), .val (.int z7_0), .val (.int z8_0), .unset, .unset, .unset, .unset, .unset]) rfl ?_
    refine Go.iload X8 hx (pc' := 43) rfl (hb hby at_41) rfl ?_
    refine Go.iload X8 hx (pc' := 45) rfl (hb hby at_43) rfl ?_
    refine Go.iload X8 hx (pc' := 47) rfl (hb hby at_45) rfl ?_
    refine Go.iload X8 hx (pc' := 49) rfl (hb hby at_47) rfl ?_
    refine Go.iload X8 hx (pc' := 51) rfl (hb hby at_49) rfl ?_
    refine Go.iload X8 hx (pc' := 53) rfl (hb hby at_51) rfl ?_
    refine Go.callS X8 hx hZ hown (tw_5 hw) (tw_6 hw) (tw_3 hw) (tw_7 hw) (by decide) (tw_7 hw) (tw_3 hw) (au_68 l Z a0 hw z4_0 z5_0 z6_0 z7_0 z8_0 gz1 gv5 h0 n0 Z0 O0 G w4 w5 w6) e8 (argsL := [(.int 3), (.int z4_0), (.int z5_0), (.int z6_0), (.int z7_0), (.int z8_0)]) (rest := []) (pc' := 56) rfl (by rw [hml]; rfl) (lenOf pd_3 rfl) rfl rfl (W := 0) (Nat.le_of_eq rfl) (by decide) (by decide) (by decide) (by decide) (hb hby at_53) ?_
    intro v48 T48 L48 q48 X48
    obtain ⟨h48, e48⟩ : ∃ z, T48.heap = z := ⟨_, rfl⟩
    rw [e48] at q48
    obtain ⟨z48_0, z48_1, z48_2, b48_0, b48_1, k48_0, d48_0, d48_1, d48_2, rfl, N48, K48, s48_0, s48_1, n48_0, F48_0, F48_1, F48_2, F48_3, F48_4⟩ := q48
    show Go _ _ _ _ (T48.setTop (mkF m 56 #[.val (.int p0), .val (.int p1), .val (.int p2), .val (.int p3), .val (.int p4), .val (.int p5), .val (.int 3), .val (.int z4_0), .val (.int z5_0), .val (.int z6_0), .val (.int z7_0), .val (.int z8_0), .unset, .unset, .unset, .unset, .unset] [(.ref b48_0)]))
    refine Go.astore X48 hx (pc' := 58) rfl (hb hby at_56) (Ls' := #[.val (.int p0), .val (.int p1), .val (.int p2), .val (.int p3), .val (.int p4), .val (.int p5), .val (.int 3), .val (.int z4_0), .val (.int z5_0), .val (.int z6_0), .val (.int z7_0), .val (.int z8_0), .val (.ref b48_0), .unset, .unset, .unset, .unset]) rfl rfl ?_
    refine Go.iload X48 hx (pc' := 60) rfl (hb hby at_58) rfl ?_
    refine Go.iconst X48 hx (pc' := 61) rfl (hb hby at_60) (v := (4 : Int32)) rfl ?_
    refine Go.icmpYes X48 hx (pc' := 96) (hb hby at_61) (by decide) (by decide) (by decide) ?_
    refine Go.iconst X48 hx (pc' := 97) rfl (hb hby at_96) (v := (0 : Int32)) rfl ?_
    refine Go.istore X48 hx (pc' := 99) rfl (hb hby at_97) (Ls' := #[.val (.int p0), .val (.int p1), .val (.int p2), .val (.int p3), .val (.int p4), .val (.int p5), .val (.int 3), .val (.int z4_0), .val (.int z5_0), .val (.int z6_0), .val (.int z7_0), .val (.int z8_0), .val (.ref b48_0), .val (.int 0), .unset, .unset, .unset]) rfl ?_
    refine Go.iload X48 hx (pc' := 101) rfl (hb hby at_99) rfl ?_
    refine Go.iconst X48 hx (pc' := 102) rfl (hb hby at_101) (v := (1 : Int32)) rfl ?_
    refine Go.icmpYes X48 hx (pc' := 116) (hb hby at_102) (by decide) (by decide) (by decide) ?_
    refine Go.iconst X48 hx (pc' := 117) rfl (hb hby at_116) (v := (0 : Int32)) rfl ?_
    refine Go.istore X48 hx (pc' := 119) rfl (hb hby at_117) (Ls' := #[.val (.int p0), .val (.int p1), .val (.int p2), .val (.int p3), .val (.int p4), .val (.int p5), .val (.int 3), .val (.int z4_0), .val (.int z5_0), .val (.int z6_0), .val (.int z7_0), .val (.int z8_0), .val (.ref b48_0), .val (.int 0), .val (.int 0), .unset, .unset]) rfl ?_
    refine Go.iload X48 hx (pc' := 121) rfl (hb hby at_119) rfl ?_
    refine Go.iconst X48 hx (pc' := 122) rfl (hb hby at_121) (v := (3 : Int32)) rfl ?_
    refine Go.icmpNo X48 hx (pc' := 125) rfl (hb hby at_122) (by decide) ?_
    refine Go.iload X48 hx (pc' := 127) rfl (hb hby at_125) rfl ?_
    refine Go.bipush X48 hx (pc' := 129) rfl (hb hby at_127) (v := (47 : Int32)) (by decide) ?_
    by_cases hc49 : z4_0 = (47 : Int32)
    · refine Go.icmpNo X48 hx (pc' := 132) rfl (hb hby at_129) (teq hc49).2 ?_
      refine Go.iload X48 hx (pc' := 134) rfl (hb hby at_132) rfl ?_
      refine Go.bipush X48 hx (pc' := 136) rfl (hb hby at_134) (v := (117 : Int32)) (by decide) ?_
      by_cases hc50 : z5_0 = (117 : Int32)
      · refine Go.icmpNo X48 hx (pc' := 139) rfl (hb hby at_136) (teq hc50).2 ?_
        refine Go.iload X48 hx (pc' := 141) rfl (hb hby at_139) rfl ?_
        refine Go.bipush X48 hx (pc' := 143) rfl (hb hby at_141) (v := (105 : Int32)) (by decide) ?_
        by_cases hc51 : z6_0 = (105 : Int32)
        · refine Go.icmpNo X48 hx (pc' := 146) rfl (hb hby at_143) (teq hc51).2 ?_
          refine Go.iconst X48 hx (pc' := 147) rfl (hb hby at_146) (v := (1 : Int32)) rfl ?_
          refine Go.goto X48 hx (pc' := 151) (hb hby at_147) (by decide) (by decide) ?_
          refine Go.istore X48 hx (pc' := 153) rfl (hb hby at_151) (Ls' := #[.val (.int p0), .val (.int p1), .val (.int p2), .val (.int p3), .val (.int p4), .val (.int p5), .val (.int 3), .val (.int z4_0), .val (.int z5_0), .val (.int z6_0), .val (.int z7_0), .val (.int z8_0), .val (.ref b48_0), .val (.int 0), .val (.int 0), .val (.int 1), .unset]) rfl ?_
          refine Go.iload X48 hx (pc' := 155) rfl (hb hby at_153) rfl ?_
          refine Go.ifNo X48 hx (pc' := 158) rfl (hb hby at_155) (by decide) ?_
          refine Go.iload X48 hx (pc' := 160) rfl (hb hby at_158) rfl ?_
          refine Go.ifNo X48 hx (pc' := 163) rfl (hb hby at_160) (by decide) ?_
          refine Go.iload X48 hx (pc' := 165) rfl (hb hby at_163) rfl ?_
          refine Go.ifNo X48 hx (pc' := 168) rfl (hb hby at_165) (by decide) ?_
          refine Go.iconst X48 hx (pc' := 169) rfl (hb hby at_168) (v := (1 : Int32)) rfl ?_
          refine Go.goto X48 hx (pc' := 173) (hb hby at_169) (by decide) (by decide) ?_
          refine Go.istore X48 hx (pc' := 175) rfl (hb hby at_173) (Ls' := #[.val (.int p0), .val (.int p1), .val (.int p2), .val (.int p3), .val (.int p4), .val (.int p5), .val (.int 3), .val (.int z4_0), .val (.int z5_0), .val (.int z6_0), .val (.int z7_0), .val (.int z8_0), .val (.ref b48_0), .val (.int 0), .val (.int 0), .val (.int 1), .val (.int 1)]) rfl ?_
          refine Go.aload X48 hx (pc' := 177) rfl (hb hby at_175) rfl rfl ?_
          have r52 : -128 ≤ z48_0.toInt ∧ z48_0.toInt ≤ 127 := own_ri2b d48_0
          have r53 : -128 ≤ z48_1.toInt ∧ z48_1.toInt ≤ 127 := own_ri2b d48_1
          have r54 : -128 ≤ z48_2.toInt ∧ z48_2.toInt ≤ 127 := own_ri2b d48_2
          have Kp56 : Keep h0 h48 [] := ((Keep.refl h0 []).trans K48 all0)
          have Zn55 : n0 ≤ h48.size := Nat.le_trans Z0 Kp56.1
          have O57 := (O0.keep K48 all0)
          have C58 : CHr Z EL0 s.vm s.heap s.vm h48 := (C0.trans (CHr.keep K48 sf0 C0.1))
          have fk59 : Safe Z EL0 s.vm h48 b48_0 := (Safe.keep K48 sf0 C0.1 (Safe.new s48_0 : Safe Z EL0 s.vm h0 b48_0))
          have hk60 := (Nat.le_trans (Nat.le_refl _) K48.1)
          refine Go.callSW X48 hx hZ hown (tw_30 hw) (tw_31 hw) (tw_32 hw) (tw_33 hw) (by decide) (tw_33 hw) (tw_32 hw) (au_75 l Z a0 hw b48_0 b48_1 k48_0 z48_0 z48_1 z48_2 z4_0 z5_0 z6_0 gz1 gv5 h48 n0 Zn55 O57 G F48_0 F48_1 F48_2 F48_3 w4 w5 w6 d48_0 d48_1 d48_2) (own_EW hw) C58.1 (allS ⟨F48_0.lt, fk59⟩ all0) hS0 hk60 e48 (argsL := [(.ref b48_0)]) (rest := []) (pc' := 180) rfl (by rw [hml]; rfl) (lenOf pd_7 rfl) rfl rfl (W := 0) (Nat.le_of_eq rfl) (by decide) (by decide) (by decide) (by decide) (hb hby at_177) ?_
          intro v61 T61 L61 h61 e61 q61 C61 S61 Z61 O61 X61
          rcases q61 with ⟨c61_0_0, c61_0_1, c61_0_2, rfl, N61_0, K61_0⟩ | ⟨c61_1_0, c61_1_1, c61_1_2, rfl, N61_1, K61_1⟩ | ⟨c61_2_0, c61_2_1, rfl, N61_2, K61_2⟩ | ⟨c61_3_0, rfl, N61_3, K61_3⟩
          · show Go _ _ _ _ (T61.setTop (mkF m 180 #[.val (.int p0), .val (.int p1), .val (.int p2), .val (.int p3), .val (.int p4), .val (.int p5), .val (.int 3), .val (.int z4_0), .val (.int z5_0), .val (.int z6_0), .val (.int z7_0), .val (.int z8_0), .val (.ref b48_0), .val (.int 0), .val (.int 0), .val (.int 1), .val (.int 1)] [(.int 1)]))
            refine Go.iload X61 hx (pc' := 182) rfl (hb hby at_180) rfl ?_
            refine Go.icmpNo X61 hx (pc' := 185) rfl (hb hby at_182) (by decide) ?_
            refine Go.iconst X61 hx (pc' := 186) rfl (hb hby at_185) (v := (1 : Int32)) rfl ?_
            refine Go.goto X61 hx (pc' := 190) (hb hby at_186) (by decide) (by decide) ?_
            have C62 : CHr Z EL0 s.vm s.heap T61.vm h61 := (C58.trans C61)
            refine Go.retNW X61 hx hlk Z61 (own_EW hw) e61 S61 (Nat.le_refl _) C62 (t := .boolean) hret (by simp) (hb hby at_190) (by decide) (by decide) (fun hat => ?_)
            exact ⟨rfl, (Fr.app (Fr.app (Fr.app (Fr.app (Fr.app (Fr.app (Fr.app (Fr.nil n0) N4) N5) N6) N7) N8) N48) N61_0)⟩
          · exact absurd hc51 c61_1_2
          · exact absurd hc50 c61_2_1
          · exact absurd hc49 c61_3_0
        · refine Go.icmpYes X48 hx (pc' := 150) (hb hby at_143) (feq hc51).2 (by decide) (by decide) ?_
          refine Go.iconst X48 hx (pc' := 151) rfl (hb hby at_150) (v := (0 : Int32)) rfl ?_
          refine Go.istore X48 hx (pc' := 153) rfl (hb hby at_151) (Ls' := #[.val (.int p0), .val (.int p1), .val (.int p2), .val (.int p3), .val (.int p4), .val (.int p5), .val (.int 3), .val (.int z4_0), .val (.int z5_0), .val (.int z6_0), .val (.int z7_0), .val (.int z8_0), .val (.ref b48_0), .val (.int 0), .val (.int 0), .val (.int 0), .unset]) rfl ?_
          refine Go.iload X48 hx (pc' := 155) rfl (hb hby at_153) rfl ?_
          refine Go.ifNo X48 hx (pc' := 158) rfl (hb hby at_155) (by decide) ?_
          refine Go.iload X48 hx (pc' := 160) rfl (hb hby at_158) rfl ?_
          refine Go.ifNo X48 hx (pc' := 163) rfl (hb hby at_160) (by decide) ?_
          refine Go.iload X48 hx (pc' := 165) rfl (hb hby at_163) rfl ?_
          refine Go.ifYes X48 hx (pc' := 172) (hb hby at_165) (by decide) (by decide) (by decide) ?_
          refine Go.iconst X48 hx (pc' := 173) rfl (hb hby at_172) (v := (0 : Int32)) rfl ?_
          refine Go.istore X48 hx (pc' := 175) rfl (hb hby at_173) (Ls' := #[.val (.int p0), .val (.int p1), .val (.int p2), .val (.int p3), .val (.int p4), .val (.int p5), .val (.int 3), .val (.int z4_0), .val (.int z5_0), .val (.int z6_0), .val (.int z7_0), .val (.int z8_0), .val (.ref b48_0), .val (.int 0), .val (.int 0), .val (.int 0), .val (.int 0)]) rfl ?_
          refine Go.aload X48 hx (pc' := 177) rfl (hb hby at_175) rfl rfl ?_
          have r63 : -128 ≤ z48_0.toInt ∧ z48_0.toInt ≤ 127 := own_ri2b d48_0
          have r64 : -128 ≤ z48_1.toInt ∧ z48_1.toInt ≤ 127 := own_ri2b d48_1
          have r65 : -128 ≤ z48_2.toInt ∧ z48_2.toInt ≤ 127 := own_ri2b d48_2
          have Kp67 : Keep h0 h48 [] := ((Keep.refl h0 []).trans K48 all0)
          have Zn66 : n0 ≤ h48.size := Nat.le_trans Z0 Kp67.1
          have O68 := (O0.keep K48 all0)
          have C69 : CHr Z EL0 s.vm s.heap s.vm h48 := (C0.trans (CHr.keep K48 sf0 C0.1))
          have fk70 : Safe Z EL0 s.vm h48 b48_0 := (Safe.keep K48 sf0 C0.1 (Safe.new s48_0 : Safe Z EL0 s.vm h0 b48_0))
          have hk71 := (Nat.le_trans (Nat.le_refl _) K48.1)
          refine Go.callSW X48 hx hZ hown (tw_30 hw) (tw_31 hw) (tw_32 hw) (tw_33 hw) (by decide) (tw_33 hw) (tw_32 hw) (au_75 l Z a0 hw b48_0 b48_1 k48_0 z48_0 z48_1 z48_2 z4_0 z5_0 z6_0 gz1 gv5 h48 n0 Zn66 O68 G F48_0 F48_1 F48_2 F48_3 w4 w5 w6 d48_0 d48_1 d48_2) (own_EW hw) C69.1 (allS ⟨F48_0.lt, fk70⟩ all0) hS0 hk71 e48 (argsL := [(.ref b48_0)]) (rest := []) (pc' := 180) rfl (by rw [hml]; rfl) (lenOf pd_7 rfl) rfl rfl (W := 0) (Nat.le_of_eq rfl) (by decide) (by decide) (by decide) (by decide) (hb hby at_177) ?_
          intro v72 T72 L72 h72 e72 q72 C72 S72 Z72 O72 X72
          rcases q72 with ⟨c72_0_0, c72_0_1, c72_0_2, rfl, N72_0, K72_0⟩ | ⟨c72_1_0, c72_1_1, c72_1_2, rfl, N72_1, K72_1⟩ | ⟨c72_2_0, c72_2_1, rfl, N72_2, K72_2⟩ | ⟨c72_3_0, rfl, N72_3, K72_3⟩
          · exact absurd c72_0_2 hc51
          · show Go _ _ _ _ (T72.setTop (mkF m 180 #[.val (.int p0), .val (.int p1), .val (.int p2), .val (.int p3), .val (.int p4), .val (.int p5), .val (.int 3), .val (.int z4_0), .val (.int z5_0), .val (.int z6_0), .val (.int z7_0), .val (.int z8_0), .val (.ref b48_0), .val (.int 0), .val (.int 0), .val (.int 0), .val (.int 0)] [(.int 0)]))
            refine Go.iload X72 hx (pc' := 182) rfl (hb hby at_180) rfl ?_
            refine Go.icmpNo X72 hx (pc' := 185) rfl (hb hby at_182) (by decide) ?_
            refine Go.iconst X72 hx (pc' := 186) rfl (hb hby at_185) (v := (1 : Int32)) rfl ?_
            refine Go.goto X72 hx (pc' := 190) (hb hby at_186) (by decide) (by decide) ?_
            have C73 : CHr Z EL0 s.vm s.heap T72.vm h72 := (C69.trans C72)
            refine Go.retNW X72 hx hlk Z72 (own_EW hw) e72 S72 (Nat.le_refl _) C73 (t := .boolean) hret (by simp) (hb hby at_190) (by decide) (by decide) (fun hat => ?_)
            exact ⟨rfl, (Fr.app (Fr.app (Fr.app (Fr.app (Fr.app (Fr.app (Fr.app (Fr.nil n0) N4) N5) N6) N7) N8) N48) N72_1)⟩
          · exact absurd hc50 c72_2_1
          · exact absurd hc49 c72_3_0
      · refine Go.icmpYes X48 hx (pc' := 150) (hb hby at_136) (feq hc50).2 (by decide) (by decide) ?_
        refine Go.iconst X48 hx (pc' := 151) rfl (hb hby at_150) (v := (0 : Int32)) rfl ?_
        refine Go.istore X48 hx (pc' := 153) rfl (hb hby at_151) (Ls' := #[.val (.int p0), .val (.int p1), .val (.int p2), .val (.int p3), .val (.int p4), .val (.int p5), .val (.int 3), .val (.int z4_0), .val (.int z5_0), .val (.int z6_0), .val (.int z7_0), .val (.int z8_0), .val (.ref b48_0), .val (.int 0), .val (.int 0), .val (.int 0), .unset]) rfl ?_
        refine Go.iload X48 hx (pc' := 155) rfl (hb hby at_153) rfl ?_
        refine Go.ifNo X48 hx (pc' := 158) rfl (hb hby at_155) (by decide) ?_
        refine Go.iload X48 hx (pc' := 160) rfl (hb hby at_158) rfl ?_
        refine Go.ifNo X48 hx (pc' := 163) rfl (hb hby at_160) (by decide) ?_
        refine Go.iload X48 hx (pc' := 165) rfl (hb hby at_163) rfl ?_
        refine Go.ifYes X48 hx (pc' := 172) (hb hby at_165) (by decide) (by decide) (by decide) ?_
        refine Go.iconst X48 hx (pc' := 173) rfl (hb hby at_172) (v := (0 : Int32)) rfl ?_
        refine Go.istore X48 hx (pc' := 175) rfl (hb hby at_173) (Ls' := #[.val (.int p0), .val (.int p1), .val (.int p2), .val (.int p3), .val (.int p4), .val (.int p5), .val (.int 3), .val (.int z4_0), .val (.int z5_0), .val (.int z6_0), .val (.int z7_0), .val (.int z8_0), .val (.ref b48_0), .val (.int 0), .val (.int 0), .val (.int 0), .val (.int 0)]) rfl ?_
        refine Go.aload X48 hx (pc' := 177) rfl (hb hby at_175) rfl rfl ?_
        have r74 : -128 ≤ z48_0.toInt ∧ z48_0.toInt ≤ 127 := own_ri2b d48_0
        have r75 : -128 ≤ z48_1.toInt ∧ z48_1.toInt ≤ 127 := own_ri2b d48_1
        have r76 : -128 ≤ z48_2.toInt ∧ z48_2.toInt ≤ 127 := own_ri2b d48_2
        have Kp78 : Keep h0 h48 [] := ((Keep.refl h0 []).trans K48 all0)
        have Zn77 : n0 ≤ h48.size := Nat.le_trans Z0 Kp78.1
        have O79 := (O0.keep K48 all0)
        have C80 : CHr Z EL0 s.vm s.heap s.vm h48 := (C0.trans (CHr.keep K48 sf0 C0.1))
        have fk81 : Safe Z EL0 s.vm h48 b48_0 := (Safe.keep K48 sf0 C0.1 (Safe.new s48_0 : Safe Z EL0 s.vm h0 b48_0))
        have hk82 := (Nat.le_trans (Nat.le_refl _) K48.1)
        refine Go.callSW X48 hx hZ hown (tw_30 hw) (tw_31 hw) (tw_32 hw) (tw_33 hw) (by decide) (tw_33 hw) (tw_32 hw) (au_75 l Z a0 hw b48_0 b48_1 k48_0 z48_0 z48_1 z48_2 z4_0 z5_0 z6_0 gz1 gv5 h48 n0 Zn77 O79 G F48_0 F48_1 F48_2 F48_3 w4 w5 w6 d48_0 d48_1 d48_2) (own_EW hw) C80.1 (allS ⟨F48_0.lt, fk81⟩ all0) hS0 hk82 e48 (argsL := [(.ref b48_0)]) (rest := []) (pc' := 180) rfl (by rw [hml]; rfl) (lenOf pd_7 rfl) rfl rfl (W := 0) (Nat.le_of_eq rfl) (by decide) (by decide) (by decide) (by decide) (hb hby at_177) ?_
        intro v83 T83 L83 h83 e83 q83 C83 S83 Z83 O83 X83
        rcases q83 with ⟨c83_0_0, c83_0_1, c83_0_2, rfl, N83_0, K83_0⟩ | ⟨c83_1_0, c83_1_1, c83_1_2, rfl, N83_1, K83_1⟩ | ⟨c83_2_0, c83_2_1, rfl, N83_2, K83_2⟩ | ⟨c83_3_0, rfl, N83_3, K83_3⟩
        · exact absurd c83_0_1 hc50
        · exact absurd c83_1_1 hc50
        · show Go _ _ _ _ (T83.setTop (mkF m 180 #[.val (.int p0), .val (.int p1), .val (.int p2), .val (.int p3), .val (.int p4), .val (.int p5), .val (.int 3), .val (.int z4_0), .val (.int z5_0), .val (.int z6_0), .val (.int z7_0), .val (.int z8_0), .val (.ref b48_0), .val (.int 0), .val (.int 0), .val (.int 0), .val (.int 0)] [(.int 0)]))
          refine Go.iload X83 hx (pc' := 182) rfl (hb hby at_180) rfl ?_
          refine Go.icmpNo X83 hx (pc' := 185) rfl (hb hby at_182) (by decide) ?_
          refine Go.iconst X83 hx (pc' := 186) rfl (hb hby at_185) (v := (1 : Int32)) rfl ?_
          refine Go.goto X83 hx (pc' := 190) (hb hby at_186) (by decide) (by decide) ?_
          have C84 : CHr Z EL0 s.vm s.heap T83.vm h83 := (C80.trans C83)
          refine Go.retNW X83 hx hlk Z83 (own_EW hw) e83 S83 (Nat.le_refl _) C84 (t := .boolean) hret (by simp) (hb hby at_190) (by decide) (by decide) (fun hat => ?_)
          exact ⟨rfl, (Fr.app (Fr.app (Fr.app (Fr.app (Fr.app (Fr.app (Fr.app (Fr.nil n0) N4) N5) N6) N7) N8) N48) N83_2)⟩
        · exact absurd hc49 c83_3_0
    · refine Go.icmpYes X48 hx (pc' := 150) (hb hby at_129) (feq hc49).2 (by decide) (by decide) ?_
      refine Go.iconst X48 hx (pc' := 151) rfl (hb hby at_150) (v := (0 : Int32)) rfl ?_
      refine Go.istore X48 hx (pc' := 153) rfl (hb hby at_151) (Ls' := #[.val (.int p0), .val (.int p1), .val (.int p2), .val (.int p3), .val (.int p4), .val (.int p5), .val (.int 3), .val (.int z4_0), .val (.int z5_0), .val (.int z6_0), .val (.int z7_0), .val (.int z8_0), .val (.ref b48_0), .val (.int 0), .val (.int 0), .val (.int 0), .unset]) rfl ?_
      refine Go.iload X48 hx (pc' := 155) rfl (hb hby at_153) rfl ?_
      refine Go.ifNo X48 hx (pc' := 158) rfl (hb hby at_155) (by decide) ?_
      refine Go.iload X48 hx (pc' := 160) rfl (hb hby at_158) rfl ?_
      refine Go.ifNo X48 hx (pc' := 163) rfl (hb hby at_160) (by decide) ?_
      refine Go.iload X48 hx (pc' := 165) rfl (hb hby at_163) rfl ?_
      refine Go.ifYes X48 hx (pc' := 172) (hb hby at_165) (by decide) (by decide) (by decide) ?_
      refine Go.iconst X48 hx (pc' := 173) rfl (hb hby at_172) (v := (0 : Int32)) rfl ?_
      refine Go.istore X48 hx (pc' := 175) rfl (hb hby at_173) (Ls' := #[.val (.int p0), .val (.int p1), .val (.int p2), .val (.int p3), .val (.int p4), .val (.int p5), .val (.int 3), .val (.int z4_0), .val (.int z5_0), .val (.int z6_0), .val (.int z7_0), .val (.int z8_0), .val (.ref b48_0), .val (.int 0), .val (.int 0), .val (.int 0), .val (.int 0)]) rfl ?_
      refine Go.aload X48 hx (pc' := 177) rfl (hb hby at_175) rfl rfl ?_
      have r85 : -128 ≤ z48_0.toInt ∧ z48_0.toInt ≤ 127 := own_ri2b d48_0
      have r86 : -128 ≤ z48_1.toInt ∧ z48_1.toInt ≤ 127 := own_ri2b d48_1
      have r87 : -128 ≤ z48_2.toInt ∧ z48_2.toInt ≤ 127 := own_ri2b d48_2
      have Kp89 : Keep h0 h48 [] := ((Keep.refl h0 []).trans K48 all0)
      have Zn88 : n0 ≤ h48.size := Nat.le_trans Z0 Kp89.1
      have O90 := (O0.keep K48 all0)
      have C91 : CHr Z EL0 s.vm s.heap s.vm h48 := (C0.trans (CHr.keep K48 sf0 C0.1))
      have fk92 : Safe Z EL0 s.vm h48 b48_0 := (Safe.keep K48 sf0 C0.1 (Safe.new s48_0 : Safe Z EL0 s.vm h0 b48_0))
      have hk93 := (Nat.le_trans (Nat.le_refl _) K48.1)
      refine Go.callSW X48 hx hZ hown (tw_30 hw) (tw_31 hw) (tw_32 hw) (tw_33 hw) (by decide) (tw_33 hw) (tw_32 hw) (au_75 l Z a0 hw b48_0 b48_1 k48_0 z48_0 z48_1 z48_2 z4_0 z5_0 z6_0 gz1 gv5 h48 n0 Zn88 O90 G F48_0 F48_1 F48_2 F48_3 w4 w5 w6 d48_0 d48_1 d48_2) (own_EW hw) C91.1 (allS ⟨F48_0.lt, fk92⟩ all0) hS0 hk93 e48 (argsL := [(.ref b48_0)]) (rest := []) (pc' := 180) rfl (by rw [hml]; rfl) (lenOf pd_7 rfl) rfl rfl (W := 0) (Nat.le_of_eq rfl) (by decide) (by decide) (by decide) (by decide) (hb hby at_177) ?_
      intro v94 T94 L94 h94 e94 q94 C94 S94 Z94 O94 X94
      rcases q94 with ⟨c94_0_0, c94_0_1, c94_0_2, rfl, N94_0, K94_0⟩ | ⟨c94_1_0, c94_1_1, c94_1_2, rfl, N94_1, K94_1⟩ | ⟨c94_2_0, c94_2_1, rfl, N94_2, K94_2⟩ | ⟨c94_3_0, rfl, N94_3, K94_3⟩
      · exact absurd c94_0_0 hc49
      · exact absurd c94_1_0 hc49
      · exact absurd c94_2_0 hc49
      · show Go _ _ _ _ (T94.setTop (mkF m 180 #[.val (.int p0), .val (.int p1), .val (.int p2), .val (.int p3), .val (.int p4), .val (.int p5), .val (.int 3), .val (.int z4_0), .val (.int z5_0), .val (.int z6_0), .val (.int z7_0), .val (.int z8_0), .val (.ref b48_0), .val (.int 0), .val (.int 0), .val (.int 0), .val (.int 0)] [(.int 0)]))
        refine Go.iload X94 hx (pc' := 182) rfl (hb hby at_180) rfl ?_
        refine Go.icmpNo X94 hx (pc' := 185) rfl (hb hby at_182) (by decide) ?_
        refine Go.iconst X94 hx (pc' := 186) rfl (hb hby at_185) (v := (1 : Int32)) rfl ?_
        refine Go.goto X94 hx (pc' := 190) (hb hby at_186) (by decide) (by decide) ?_
        have C95 : CHr Z EL0 s.vm s.heap T94.vm h94 := (C91.trans C94)
        refine Go.retNW X94 hx hlk Z94 (own_EW hw) e94 S94 (Nat.le_refl _) C95 (t := .boolean) hret (by simp) (hb hby at_190) (by decide) (by decide) (fun hat => ?_)
        exact ⟨rfl, (Fr.app (Fr.app (Fr.app (Fr.app (Fr.app (Fr.app (Fr.app (Fr.nil n0) N4) N5) N6) N7) N8) N48) N94_3)⟩
  · refine Go.istore X8 hx (pc' := 41) rfl (hb hby at_39) (Ls' := #[.val (.int p0), .val (.int p1), .val (.int p2), .val (.int p3), .val (.int p4), .val (.int p5), .val (.int 4), .val (.int z4_0), .val (.int z5_0), .val (.int z6_0), .val (.int z7_0), .val (.int z8_0), .unset, .unset, .unset, .unset, .unset]) rfl ?_
    refine Go.iload X8 hx (pc' := 43) rfl (hb hby at_41) rfl ?_
    refine Go.iload X8 hx (pc' := 45) rfl (hb hby at_43) rfl ?_
    refine Go.iload X8 hx (pc' := 47) rfl (hb hby at_45) rfl ?_
    refine Go.iload X8 hx (pc' := 49) rfl (hb hby at_47) rfl ?_
    refine Go.iload X8 hx (pc' := 51) rfl (hb hby at_49) rfl ?_
    refine Go.iload X8 hx (pc' := 53) rfl (hb hby at_51) rfl ?_
    refine Go.callS X8 hx hZ hown (tw_5 hw) (tw_6 hw) (tw_3 hw) (tw_7 hw) (by decide) (tw_7 hw) (tw_3 hw) (au_86 l Z a0 hw z4_0 z5_0 z6_0 z7_0 z8_0 gz1 gv5 h0 n0 Z0 O0 G w4 w5 w6 w7) e8 (argsL := [(.int 4), (.int z4_0), (.int z5_0), (.int z6_0), (.int z7_0), (.int z8_0)]) (rest := []) (pc' := 56) rfl (by rw [hml]; rfl) (lenOf pd_3 rfl) rfl rfl (W := 0) (Nat.le_of_eq rfl) (by decide) (by decide) (by decide) (by decide) (hb hby at_53) ?_
    intro v96 T96 L96 q96 X96
    obtain ⟨h96, e96⟩ : ∃ z, T96.heap = z := ⟨_, rfl⟩
    rw [e96] at q96
    obtain ⟨z96_0, z96_1, z96_2, z96_3, b96_0, b96_1, k96_0, d96_0, d96_1, d96_2, d96_3, rfl, N96, K96, s96_0, s96_1, n96_0, F96_0, F96_1, F96_2, F96_3, F96_4⟩ := q96
    show Go _ _ _ _ (T96.setTop (mkF m 56 #[.val (.int p0), .val (.int p1), .val (.int p2), .val (.int p3), .val (.int p4), .val (.int p5), .val (.int 4), .val (.int z4_0), .val (.int z5_0), .val (.int z6_0), .val (.int z7_0), .val (.int z8_0), .unset, .unset, .unset, .unset, .unset] [(.ref b96_0)]))
    refine Go.astore X96 hx (pc' := 58) rfl (hb hby at_56) (Ls' := #[.val (.int p0), .val (.int p1), .val (.int p2), .val (.int p3), .val (.int p4), .val (.int p5), .val (.int 4), .val (.int z4_0), .val (.int z5_0), .val (.int z6_0), .val (.int z7_0), .val (.int z8_0), .val (.ref b96_0), .unset, .unset, .unset, .unset]) rfl rfl ?_
    refine Go.iload X96 hx (pc' := 60) rfl (hb hby at_58) rfl ?_
    refine Go.iconst X96 hx (pc' := 61) rfl (hb hby at_60) (v := (4 : Int32)) rfl ?_
    refine Go.icmpNo X96 hx (pc' := 64) rfl (hb hby at_61) (by decide) ?_
    refine Go.iload X96 hx (pc' := 66) rfl (hb hby at_64) rfl ?_
    refine Go.bipush X96 hx (pc' := 68) rfl (hb hby at_66) (v := (47 : Int32)) (by decide) ?_
    by_cases hc97 : z4_0 = (47 : Int32)
    · refine Go.icmpNo X96 hx (pc' := 71) rfl (hb hby at_68) (teq hc97).2 ?_
      refine Go.iload X96 hx (pc' := 73) rfl (hb hby at_71) rfl ?_
      refine Go.bipush X96 hx (pc' := 75) rfl (hb hby at_73) (v := (117 : Int32)) (by decide) ?_
      by_cases hc98 : z5_0 = (117 : Int32)
      · refine Go.icmpNo X96 hx (pc' := 78) rfl (hb hby at_75) (teq hc98).2 ?_
        refine Go.iload X96 hx (pc' := 80) rfl (hb hby at_78) rfl ?_
        refine Go.bipush X96 hx (pc' := 82) rfl (hb hby at_80) (v := (105 : Int32)) (by decide) ?_
        by_cases hc99 : z6_0 = (105 : Int32)
        · refine Go.icmpNo X96 hx (pc' := 85) rfl (hb hby at_82) (teq hc99).2 ?_
          refine Go.iload X96 hx (pc' := 87) rfl (hb hby at_85) rfl ?_
          refine Go.bipush X96 hx (pc' := 89) rfl (hb hby at_87) (v := (47 : Int32)) (by decide) ?_
          by_cases hc100 : z7_0 = (47 : Int32)
          · refine Go.icmpNo X96 hx (pc' := 92) rfl (hb hby at_89) (teq hc100).2 ?_
            refine Go.iconst X96 hx (pc' := 93) rfl (hb hby at_92) (v := (1 : Int32)) rfl ?_
            refine Go.goto X96 hx (pc' := 97) (hb hby at_93) (by decide) (by decide) ?_
            refine Go.istore X96 hx (pc' := 99) rfl (hb hby at_97) (Ls' := #[.val (.int p0), .val (.int p1), .val (.int p2), .val (.int p3), .val (.int p4), .val (.int p5), .val (.int 4), .val (.int z4_0), .val (.int z5_0), .val (.int z6_0), .val (.int z7_0), .val (.int z8_0), .val (.ref b96_0), .val (.int 1), .unset, .unset, .unset]) rfl ?_
            refine Go.iload X96 hx (pc' := 101) rfl (hb hby at_99) rfl ?_
            refine Go.iconst X96 hx (pc' := 102) rfl (hb hby at_101) (v := (1 : Int32)) rfl ?_
            refine Go.icmpYes X96 hx (pc' := 116) (hb hby at_102) (by decide) (by decide) (by decide) ?_
            refine Go.iconst X96 hx (pc' := 117) rfl (hb hby at_116) (v := (0 : Int32)) rfl ?_
            refine Go.istore X96 hx (pc' := 119) rfl (hb hby at_117) (Ls' := #[.val (.int p0), .val (.int p1), .val (.int p2), .val (.int p3), .val (.int p4), .val (.int p5), .val (.int 4), .val (.int z4_0), .val (.int z5_0), .val (.int z6_0), .val (.int z7_0), .val (.int z8_0), .val (.ref b96_0), .val (.int 1), .val (.int 0), .unset, .unset]) rfl ?_
            refine Go.iload X96 hx (pc' := 121) rfl (hb hby at_119) rfl ?_
            refine Go.iconst X96 hx (pc' := 122) rfl (hb hby at_121) (v := (3 : Int32)) rfl ?_
            refine Go.icmpYes X96 hx (pc' := 150) (hb hby at_122) (by decide) (by decide) (by decide) ?_
            refine Go.iconst X96 hx (pc' := 151) rfl (hb hby at_150) (v := (0 : Int32)) rfl ?_
            refine Go.istore X96 hx (pc' := 153) rfl (hb hby at_151) (Ls' := #[.val (.int p0), .val (.int p1), .val (.int p2), .val (.int p3), .val (.int p4), .val (.int p5), .val (.int 4), .val (.int z4_0), .val (.int z5_0), .val (.int z6_0), .val (.int z7_0), .val (.int z8_0), .val (.ref b96_0), .val (.int 1), .val (.int 0), .val (.int 0), .unset]) rfl ?_
            refine Go.iload X96 hx (pc' := 155) rfl (hb hby at_153) rfl ?_
            refine Go.ifYes X96 hx (pc' := 168) (hb hby at_155) (by decide) (by decide) (by decide) ?_
            refine Go.iconst X96 hx (pc' := 169) rfl (hb hby at_168) (v := (1 : Int32)) rfl ?_
            refine Go.goto X96 hx (pc' := 173) (hb hby at_169) (by decide) (by decide) ?_
            refine Go.istore X96 hx (pc' := 175) rfl (hb hby at_173) (Ls' := #[.val (.int p0), .val (.int p1), .val (.int p2), .val (.int p3), .val (.int p4), .val (.int p5), .val (.int 4), .val (.int z4_0), .val (.int z5_0), .val (.int z6_0), .val (.int z7_0), .val (.int z8_0), .val (.ref b96_0), .val (.int 1), .val (.int 0), .val (.int 0), .val (.int 1)]) rfl ?_
            refine Go.aload X96 hx (pc' := 177) rfl (hb hby at_175) rfl rfl ?_
            have r101 : -128 ≤ z96_0.toInt ∧ z96_0.toInt ≤ 127 := own_ri2b d96_0
            have r102 : -128 ≤ z96_1.toInt ∧ z96_1.toInt ≤ 127 := own_ri2b d96_1
            have r103 : -128 ≤ z96_2.toInt ∧ z96_2.toInt ≤ 127 := own_ri2b d96_2
            have r104 : -128 ≤ z96_3.toInt ∧ z96_3.toInt ≤ 127 := own_ri2b d96_3
            have Kp106 : Keep h0 h96 [] := ((Keep.refl h0 []).trans K96 all0)
            have Zn105 : n0 ≤ h96.size := Nat.le_trans Z0 Kp106.1
            have O107 := (O0.keep K96 all0)
            have C108 : CHr Z EL0 s.vm s.heap s.vm h96 := (C0.trans (CHr.keep K96 sf0 C0.1))
            have fk109 : Safe Z EL0 s.vm h96 b96_0 := (Safe.keep K96 sf0 C0.1 (Safe.new s96_0 : Safe Z EL0 s.vm h0 b96_0))
            have hk110 := (Nat.le_trans (Nat.le_refl _) K96.1)
            refine Go.callSW X96 hx hZ hown (tw_30 hw) (tw_31 hw) (tw_32 hw) (tw_33 hw) (by decide) (tw_33 hw) (tw_32 hw) (au_93 l Z a0 hw b96_0 b96_1 k96_0 z96_0 z96_1 z96_2 z96_3 z4_0 z5_0 z6_0 z7_0 gz1 gv5 h96 n0 Zn105 O107 G F96_0 F96_1 F96_2 F96_3 w4 w5 w6 w7 d96_0 d96_1 d96_2 d96_3) (own_EW hw) C108.1 (allS ⟨F96_0.lt, fk109⟩ all0) hS0 hk110 e96 (argsL := [(.ref b96_0)]) (rest := []) (pc' := 180) rfl (by rw [hml]; rfl) (lenOf pd_7 rfl) rfl rfl (W := 0) (Nat.le_of_eq rfl) (by decide) (by decide) (by decide) (by decide) (hb hby at_177) ?_
            intro v111 T111 L111 h111 e111 q111 C111 S111 Z111 O111 X111
            rcases q111 with ⟨c111_0_0, c111_0_1, c111_0_2, c111_0_3, rfl, N111_0, K111_0⟩ | ⟨c111_1_0, c111_1_1, c111_1_2, c111_1_3, rfl, N111_1, K111_1⟩ | ⟨c111_2_0, c111_2_1, c111_2_2, rfl, N111_2, K111_2⟩ | ⟨c111_3_0, c111_3_1, rfl, N111_3, K111_3⟩ | ⟨c111_4_0, rfl, N111_4, K111_4⟩
            · show Go _ _ _ _ (T111.setTop (mkF m 180 #[.val (.int p0), .val (.int p1), .val (.int p2), .val (.int p3), .val (.int p4), .val (.int p5), .val (.int 4), .val (.int z4_0), .val (.int z5_0), .val (.int z6_0), .val (.int z7_0), .val (.int z8_0), .val (.ref b96_0), .val (.int 1), .val (.int 0), .val (.int 0), .val (.int 1)] [(.int 1)]))
              refine Go.iload X111 hx (pc' := 182) rfl (hb hby at_180) rfl ?_
              refine Go.icmpNo X111 hx (pc' := 185) rfl (hb hby at_182) (by decide) ?_
              refine Go.iconst X111 hx (pc' := 186) rfl (hb hby at_185) (v := (1 : Int32)) rfl ?_
              refine Go.goto X111 hx (pc' := 190) (hb hby at_186) (by decide) (by decide) ?_
              have C112 : CHr Z EL0 s.vm s.heap T111.vm h111 := (C108.trans C111)
              refine Go.retNW X111 hx hlk Z111 (own_EW hw) e111 S111 (Nat.le_refl _) C112 (t := .boolean) hret (by simp) (hb hby at_190) (by decide) (by decide) (fun hat => ?_)
              exact ⟨rfl, (Fr.app (Fr.app (Fr.app (Fr.app (Fr.app (Fr.app (Fr.app (Fr.nil n0) N4) N5) N6) N7) N8) N96) N111_0)⟩
            · exact absurd hc100 c111_1_3
            · exact absurd hc99 c111_2_2
            · exact absurd hc98 c111_3_1
            · exact absurd hc97 c111_4_0
          · refine Go.icmpYes X96 hx (pc' := 96) (hb hby at_89) (feq hc100).2 (by decide) (by decide) ?_
            refine Go.iconst X96 hx (pc' := 97) rfl (hb hby at_96) (v := (0 : Int32)) rfl ?_
            refine Go.istore X96 hx (pc' := 99) rfl (hb hby at_97) (Ls' := #[.val (.int p0), .val (.int p1), .val (.int p2), .val (.int p3), .val (.int p4), .val (.int p5), .val (.int 4), .val (.int z4_0), .val (.int z5_0), .val (.int z6_0), .val (.int z7_0), .val (.int z8_0), .val (.ref b96_0), .val (.int 0), .unset, .unset, .unset]) rfl ?_
            refine Go.iload X96 hx (pc' := 101) rfl (hb hby at_99) rfl ?_
            refine Go.iconst X96 hx (pc' := 102) rfl (hb hby at_101) (v := (1 : Int32)) rfl ?_
            refine Go.icmpYes X96 hx (pc' := 116) (hb hby at_102) (by decide) (by decide) (by decide) ?_
            refine Go.iconst X96 hx (pc' := 117) rfl (hb hby at_116) (v := (0 : Int32)) rfl ?_
            refine Go.istore X96 hx (pc' := 119) rfl (hb hby at_117) (Ls' := #[.val (.int p0), .val (.int p1), .val (.int p2), .val (.int p3), .val (.int p4), .val (.int p5), .val (.int 4), .val (.int z4_0), .val (.int z5_0), .val (.int z6_0), .val (.int z7_0), .val (.int z8_0), .val (.ref b96_0), .val (.int 0), .val (.int 0), .unset, .unset]) rfl ?_
            refine Go.iload X96 hx (pc' := 121) rfl (hb hby at_119) rfl ?_
            refine Go.iconst X96 hx (pc' := 122) rfl (hb hby at_121) (v := (3 : Int32)) rfl ?_
            refine Go.icmpYes X96 hx (pc' := 150) (hb hby at_122) (by decide) (by decide) (by decide) ?_
            refine Go.iconst X96 hx (pc' := 151) rfl (hb hby at_150) (v := (0 : Int32)) rfl ?_
            refine Go.istore X96 hx (pc' := 153) rfl (hb hby at_151) (Ls' := #[.val (.int p0), .val (.int p1), .val (.int p2), .val (.int p3), .val (.int p4), .val (.int p5), .val (.int 4), .val (.int z4_0), .val (.int z5_0), .val (.int z6_0), .val (.int z7_0), .val (.int z8_0), .val (.ref b96_0), .val (.int 0), .val (.int 0), .val (.int 0), .unset]) rfl ?_
            refine Go.iload X96 hx (pc' := 155) rfl (hb hby at_153) rfl ?_
            refine Go.ifNo X96 hx (pc' := 158) rfl (hb hby at_155) (by decide) ?_
            refine Go.iload X96 hx (pc' := 160) rfl (hb hby at_158) rfl ?_
            refine Go.ifNo X96 hx (pc' := 163) rfl (hb hby at_160) (by decide) ?_
            refine Go.iload X96 hx (pc' := 165) rfl (hb hby at_163) rfl ?_
            refine Go.ifYes X96 hx (pc' := 172) (hb hby at_165) (by decide) (by decide) (by decide) ?_
            refine Go.iconst X96 hx (pc' := 173) rfl (hb hby at_172) (v := (0 : Int32)) rfl ?_
            refine Go.istore X96 hx (pc' := 175) rfl (hb hby at_173) (Ls' := #[.val (.int p0), .val (.int p1), .val (.int p2), .val (.int p3), .val (.int p4), .val (.int p5), .val (.int 4), .val (.int z4_0), .val (.int z5_0), .val (.int z6_0), .val (.int z7_0), .val (.int z8_0), .val (.ref b96_0), .val (.int 0), .val (.int 0), .val (.int 0), .val (.int 0)]) rfl ?_
            refine Go.aload X96 hx (pc' := 177) rfl (hb hby at_175) rfl rfl ?_
            have r113 : -128 ≤ z96_0.toInt ∧ z96_0.toInt ≤ 127 := own_ri2b d96_0
            have r114 : -128 ≤ z96_1.toInt ∧ z96_1.toInt ≤ 127 := own_ri2b d96_1
            have r115 : -128 ≤ z96_2.toInt ∧ z96_2.toInt ≤ 127 := own_ri2b d96_2
            have r116 : -128 ≤ z96_3.toInt ∧ z96_3.toInt ≤ 127 := own_ri2b d96_3
            have Kp118 : Keep h0 h96 [] := ((Keep.refl h0 []).trans K96 all0)
            have Zn117 : n0 ≤ h96.size := Nat.le_trans Z0 Kp118.1
            have O119 := (O0.keep K96 all0)
            have C120 : CHr Z EL0 s.vm s.heap s.vm h96 := (C0.trans (CHr.keep K96 sf0 C0.1))
            have fk121 : Safe Z EL0 s.vm h96 b96_0 := (Safe.keep K96 sf0 C0.1 (Safe.new s96_0 : Safe Z EL0 s.vm h0 b96_0))
            have hk122 := (Nat.le_trans (Nat.le_refl _) K96.1)
            refine Go.callSW X96 hx hZ hown (tw_30 hw) (tw_31 hw) (tw_32 hw) (tw_33 hw) (by decide) (tw_33 hw) (tw_32 hw) (au_93 l Z a0 hw b96_0 b96_1 k96_0 z96_0 z96_1 z96_2 z96_3 z4_0 z5_0 z6_0 z7_0 gz1 gv5 h96 n0 Zn117 O119 G F96_0 F96_1 F96_2 F96_3 w4 w5 w6 w7 d96_0 d96_1 d96_2 d96_3) (own_EW hw) C120.1 (allS ⟨F96_0.lt, fk121⟩ all0) hS0 hk122 e96 (argsL := [(.ref b96_0)]) (rest := []) (pc' := 180) rfl (by rw [hml]; rfl) (lenOf pd_7 rfl) rfl rfl (W := 0) (Nat.le_of_eq rfl) (by decide) (by decide) (by decide) (by decide) (hb hby at_177) ?_
            intro v123 T123 L123 h123 e123 q123 C123 S123 Z123 O123 X123
            rcases q123 with ⟨c123_0_0, c123_0_1, c123_0_2, c123_0_3, rfl, N123_0, K123_0⟩ | ⟨c123_1_0, c123_1_1, c123_1_2, c123_1_3, rfl, N123_1, K123_1⟩ | ⟨c123_2_0, c123_2_1, c123_2_2, rfl, N123_2, K123_2⟩ | ⟨c123_3_0, c123_3_1, rfl, N123_3, K123_3⟩ | ⟨c123_4_0, rfl, N123_4, K123_4⟩
            · exact absurd c123_0_3 hc100
            · show Go _ _ _ _ (T123.setTop (mkF m 180 #[.val (.int p0), .val (.int p1), .val (.int p2), .val (.int p3), .val (.int p4), .val (.int p5), .val (.int 4), .val (.int z4_0), .val (.int z5_0), .val (.int z6_0), .val (.int z7_0), .val (.int z8_0), .val (.ref b96_0), .val (.int 0), .val (.int 0), .val (.int 0), .val (.int 0)] [(.int 0)]))
              refine Go.iload X123 hx (pc' := 182) rfl (hb hby at_180) rfl ?_
              refine Go.icmpNo X123 hx (pc' := 185) rfl (hb hby at_182) (by decide) ?_
              refine Go.iconst X123 hx (pc' := 186) rfl (hb hby at_185) (v := (1 : Int32)) rfl ?_
              refine Go.goto X123 hx (pc' := 190) (hb hby at_186) (by decide) (by decide) ?_
              have C124 : CHr Z EL0 s.vm s.heap T123.vm h123 := (C120.trans C123)
              refine Go.retNW X123 hx hlk Z123 (own_EW hw) e123 S123 (Nat.le_refl _) C124 (t := .boolean) hret (by simp) (hb hby at_190) (by decide) (by decide) (fun hat => ?_)
              exact ⟨rfl, (Fr.app (Fr.app (Fr.app (Fr.app (Fr.app (Fr.app (Fr.app (Fr.nil n0) N4) N5) N6) N7) N8) N96) N123_1)⟩
            · exact absurd hc99 c123_2_2
            · exact absurd hc98 c123_3_1
            · exact absurd hc97 c123_4_0
        · refine Go.icmpYes X96 hx (pc' := 96) (hb hby at_82) (feq hc99).2 (by decide) (by decide) ?_
          refine Go.iconst X96 hx (pc' := 97) rfl (hb hby at_96) (v := (0 : Int32)) rfl ?_
          refine Go.istore X96 hx (pc' := 99) rfl (hb hby at_97) (Ls' := #[.val (.int p0), .val (.int p1), .val (.int p2), .val (.int p3), .val (.int p4), .val (.int p5), .val (.int 4), .val (.int z4_0), .val (.int z5_0), .val (.int z6_0), .val (.int z7_0), .val (.int z8_0), .val (.ref b96_0), .val (.int 0), .unset, .unset, .unset]) rfl ?_
          refine Go.iload X96 hx (pc' := 101) rfl (hb hby at_99) rfl ?_
          refine Go.iconst X96 hx (pc' := 102) rfl (hb hby at_101) (v := (1 : Int32)) rfl ?_
          refine Go.icmpYes X96 hx (pc' := 116) (hb hby at_102) (by decide) (by decide) (by decide) ?_
          refine Go.iconst X96 hx (pc' := 117) rfl (hb hby at_116) (v := (0 : Int32)) rfl ?_
          refine Go.istore X96 hx (pc' := 119) rfl (hb hby at_117) (Ls' := #[.val (.int p0), .val (.int p1), .val (.int p2), .val (.int p3), .val (.int p4), .val (.int p5), .val (.int 4), .val (.int z4_0), .val (.int z5_0), .val (.int z6_0), .val (.int z7_0), .val (.int z8_0), .val (.ref b96_0), .val (.int 0), .val (.int 0), .unset, .unset]) rfl ?_
          refine Go.iload X96 hx (pc' := 121) rfl (hb hby at_119) rfl ?_
          refine Go.iconst X96 hx (pc' := 122) rfl (hb hby at_121) (v := (3 : Int32)) rfl ?_
          refine Go.icmpYes X96 hx (pc' := 150) (hb hby at_122) (by decide) (by decide) (by decide) ?_
          refine Go.iconst X96 hx (pc' := 151) rfl (hb hby at_150) (v := (0 : Int32)) rfl ?_
          refine Go.istore X96 hx (pc' := 153) rfl (hb hby at_151) (Ls' := #[.val (.int p0), .val (.int p1), .val (.int p2), .val (.int p3), .val (.int p4), .val (.int p5), .val (.int 4), .val (.int z4_0), .val (.int z5_0), .val (.int z6_0), .val (.int z7_0), .val (.int z8_0), .val (.ref b96_0), .val (.int 0), .val (.int 0), .val (.int 0), .unset]) rfl ?_
          refine Go.iload X96 hx (pc' := 155) rfl (hb hby at_153) rfl ?_
          refine Go.ifNo X96 hx (pc' := 158) rfl (hb hby at_155) (by decide) ?_
          refine Go.iload X96 hx (pc' := 160) rfl (hb hby at_158) rfl ?_
          refine Go.ifNo X96 hx (pc' := 163) rfl (hb hby at_160) (by decide) ?_
          refine Go.iload X96 hx (pc' := 165) rfl (hb hby at_163) rfl ?_
          refine Go.ifYes X96 hx (pc' := 172) (hb hby at_165) (by decide) (by decide) (by decide) ?_
          refine Go.iconst X96 hx (pc' := 173) rfl (hb hby at_172) (v := (0 : Int32)) rfl ?_
          refine Go.istore X96 hx (pc' := 175) rfl (hb hby at_173) (Ls' := #[.val (.int p0), .val (.int p1), .val (.int p2), .val (.int p3), .val (.int p4), .val (.int p5), .val (.int 4), .val (.int z4_0), .val (.int z5_0), .val (.int z6_0), .val (.int z7_0), .val (.int z8_0), .val (.ref b96_0), .val (.int 0), .val (.int 0), .val (.int 0), .val (.int 0)]) rfl ?_
          refine Go.aload X96 hx (pc' := 177) rfl (hb hby at_175) rfl rfl ?_
          have r125 : -128 ≤ z96_0.toInt ∧ z96_0.toInt ≤ 127 := own_ri2b d96_0
          have r126 : -128 ≤ z96_1.toInt ∧ z96_1.toInt ≤ 127 := own_ri2b d96_1
          have r127 : -128 ≤ z96_2.toInt ∧ z96_2.toInt ≤ 127 := own_ri2b d96_2
          have r128 : -128 ≤ z96_3.toInt ∧ z96_3.toInt ≤ 127 := own_ri2b d96_3
          have Kp130 : Keep h0 h96 [] := ((Keep.refl h0 []).trans K96 all0)
          have Zn129 : n0 ≤ h96.size := Nat.le_trans Z0 Kp130.1
          have O131 := (O0.keep K96 all0)
          have C132 : CHr Z EL0 s.vm s.heap s.vm h96 := (C0.trans (CHr.keep K96 sf0 C0.1))
          have fk133 : Safe Z EL0 s.vm h96 b96_0 := (Safe.keep K96 sf0 C0.1 (Safe.new s96_0 : Safe Z EL0 s.vm h0 b96_0))
          have hk134 := (Nat.le_trans (Nat.le_refl _) K96.1)
          refine Go.callSW X96 hx hZ hown (tw_30 hw) (tw_31 hw) (tw_32 hw) (tw_33 hw) (by decide) (tw_33 hw) (tw_32 hw) (au_93 l Z a0 hw b96_0 b96_1 k96_0 z96_0 z96_1 z96_2 z96_3 z4_0 z5_0 z6_0 z7_0 gz1 gv5 h96 n0 Zn129 O131 G F96_0 F96_1 F96_2 F96_3 w4 w5 w6 w7 d96_0 d96_1 d96_2 d96_3) (own_EW hw) C132.1 (allS ⟨F96_0.lt, fk133⟩ all0) hS0 hk134 e96 (argsL := [(.ref b96_0)]) (rest := []) (pc' := 180) rfl (by rw [hml]; rfl) (lenOf pd_7 rfl) rfl rfl (W := 0) (Nat.le_of_eq rfl) (by decide) (by decide) (by decide) (by decide) (hb hby at_177) ?_
          intro v135 T135 L135 h135 e135 q135 C135 S135 Z135 O135 X135
          rcases q135 with ⟨c135_0_0, c135_0_1, c135_0_2, c135_0_3, rfl, N135_0, K135_0⟩ | ⟨c135_1_0, c135_1_1, c135_1_2, c135_1_3, rfl, N135_1, K135_1⟩ | ⟨c135_2_0, c135_2_1, c135_2_2, rfl, N135_2, K135_2⟩ | ⟨c135_3_0, c135_3_1, rfl, N135_3, K135_3⟩ | ⟨c135_4_0, rfl, N135_4, K135_4⟩
          · exact absurd c135_0_2 hc99
          · exact absurd c135_1_2 hc99
          · show Go _ _ _ _ (T135.setTop (mkF m 180 #[.val (.int p0), .val (.int p1), .val (.int p2), .val (.int p3), .val (.int p4), .val (.int p5), .val (.int 4), .val (.int z4_0), .val (.int z5_0), .val (.int z6_0), .val (.int z7_0), .val (.int z8_0), .val (.ref b96_0), .val (.int 0), .val (.int 0), .val (.int 0), .val (.int 0)] [(.int 0)]))
            refine Go.iload X135 hx (pc' := 182) rfl (hb hby at_180) rfl ?_
            refine Go.icmpNo X135 hx (pc' := 185) rfl (hb hby at_182) (by decide) ?_
            refine Go.iconst X135 hx (pc' := 186) rfl (hb hby at_185) (v := (1 : Int32)) rfl ?_
            refine Go.goto X135 hx (pc' := 190) (hb hby at_186) (by decide) (by decide) ?_
            have C136 : CHr Z EL0 s.vm s.heap T135.vm h135 := (C132.trans C135)
            refine Go.retNW X135 hx hlk Z135 (own_EW hw) e135 S135 (Nat.le_refl _) C136 (t := .boolean) hret (by simp) (hb hby at_190) (by decide) (by decide) (fun hat => ?_)
            exact ⟨rfl, (Fr.app (Fr.app (Fr.app (Fr.app (Fr.app (Fr.app (Fr.app (Fr.nil n0) N4) N5) N6) N7) N8) N96) N135_2)⟩
          · exact absurd hc98 c135_3_1
          · exact absurd hc97 c135_4_0
      · refine Go.icmpYes X96 hx (pc' := 96) (hb hby at_75) (feq hc98).2 (by decide) (by decide) ?_
        refine Go.iconst X96 hx (pc' := 97) rfl (hb hby at_96) (v := (0 : Int32)) rfl ?_
        refine Go.istore X96 hx (pc' := 99) rfl (hb hby at_97) (Ls' := #[.val (.int p0), .val (.int p1), .val (.int p2), .val (.int p3), .val (.int p4), .val (.int p5), .val (.int 4), .val (.int z4_0), .val (.int z5_0), .val (.int z6_0), .val (.int z7_0), .val (.int z8_0), .val (.ref b96_0), .val (.int 0), .unset, .unset, .unset]) rfl ?_
        refine Go.iload X96 hx (pc' := 101) rfl (hb hby at_99) rfl ?_
        refine Go.iconst X96 hx (pc' := 102) rfl (hb hby at_101) (v := (1 : Int32)) rfl ?_
        refine Go.icmpYes X96 hx (pc' := 116) (hb hby at_102) (by decide) (by decide) (by decide) ?_
        refine Go.iconst X96 hx (pc' := 117) rfl (hb hby at_116) (v := (0 : Int32)) rfl ?_
        refine Go.istore X96 hx (pc' := 119) rfl (hb hby at_117) (Ls' := #[.val (.int p0), .val (.int p1), .val (.int p2), .val (.int p3), .val (.int p4), .val (.int p5), .val (.int 4), .val (.int z4_0), .val (.int z5_0), .val (.int z6_0), .val (.int z7_0), .val (.int z8_0), .val (.ref b96_0), .val (.int 0), .val (.int 0), .unset, .unset]) rfl ?_
        refine Go.iload X96 hx (pc' := 121) rfl (hb hby at_119) rfl ?_
        refine Go.iconst X96 hx (pc' := 122) rfl (hb hby at_121) (v := (3 : Int32)) rfl ?_
        refine Go.icmpYes X96 hx (pc' := 150) (hb hby at_122) (by decide) (by decide) (by decide) ?_
        refine Go.iconst X96 hx (pc' := 151) rfl (hb hby at_150) (v := (0 : Int32)) rfl ?_
        refine Go.istore X96 hx (pc' := 153) rfl (hb hby at_151) (Ls' := #[.val (.int p0), .val (.int p1), .val (.int p2), .val (.int p3), .val (.int p4), .val (.int p5), .val (.int 4), .val (.int z4_0), .val (.int z5_0), .val (.int z6_0), .val (.int z7_0), .val (.int z8_0), .val (.ref b96_0), .val (.int 0), .val (.int 0), .val (.int 0), .unset]) rfl ?_
        refine Go.iload X96 hx (pc' := 155) rfl (hb hby at_153) rfl ?_
        refine Go.ifNo X96 hx (pc' := 158) rfl (hb hby at_155) (by decide) ?_
        refine Go.iload X96 hx (pc' := 160) rfl (hb hby at_158) rfl ?_
        refine Go.ifNo X96 hx (pc' := 163) rfl (hb hby at_160) (by decide) ?_
        refine Go.iload X96 hx (pc' := 165) rfl (hb hby at_163) rfl ?_
        refine Go.ifYes X96 hx (pc' := 172) (hb hby at_165) (by decide) (by decide) (by decide) ?_
        refine Go.iconst X96 hx (pc' := 173) rfl (hb hby at_172) (v := (0 : Int32)) rfl ?_
        refine Go.istore X96 hx (pc' := 175) rfl (hb hby at_173) (Ls' := #[.val (.int p0), .val (.int p1), .val (.int p2), .val (.int p3), .val (.int p4), .val (.int p5), .val (.int 4), .val (.int z4_0), .val (.int z5_0), .val (.int z6_0), .val (.int z7_0), .val (.int z8_0), .val (.ref b96_0), .val (.int 0), .val (.int 0), .val (.int 0), .val (.int 0)]) rfl ?_
        refine Go.aload X96 hx (pc' := 177) rfl (hb hby at_175) rfl rfl ?_
        have r137 : -128 ≤ z96_0.toInt ∧ z96_0.toInt ≤ 127 := own_ri2b d96_0
        have r138 : -128 ≤ z96_1.toInt ∧ z96_1.toInt ≤ 127 := own_ri2b d96_1
        have r139 : -128 ≤ z96_2.toInt ∧ z96_2.toInt ≤ 127 := own_ri2b d96_2
        have r140 : -128 ≤ z96_3.toInt ∧ z96_3.toInt ≤ 127 := own_ri2b d96_3
        have Kp142 : Keep h0 h96 [] := ((Keep.refl h0 []).trans K96 all0)
        have Zn141 : n0 ≤ h96.size := Nat.le_trans Z0 Kp142.1
        have O143 := (O0.keep K96 all0)
        have C144 : CHr Z EL0 s.vm s.heap s.vm h96 := (C0.trans (CHr.keep K96 sf0 C0.1))
        have fk145 : Safe Z EL0 s.vm h96 b96_0 := (Safe.keep K96 sf0 C0.1 (Safe.new s96_0 : Safe Z EL0 s.vm h0 b96_0))
        have hk146 := (Nat.le_trans (Nat.le_refl _) K96.1)
        refine Go.callSW X96 hx hZ hown (tw_30 hw) (tw_31 hw) (tw_32 hw) (tw_33 hw) (by decide) (tw_33 hw) (tw_32 hw) (au_93 l Z a0 hw b96_0 b96_1 k96_0 z96_0 z96_1 z96_2 z96_3 z4_0 z5_0 z6_0 z7_0 gz1 gv5 h96 n0 Zn141 O143 G F96_0 F96_1 F96_2 F96_3 w4 w5 w6 w7 d96_0 d96_1 d96_2 d96_3) (own_EW hw) C144.1 (allS ⟨F96_0.lt, fk145⟩ all0) hS0 hk146 e96 (argsL := [(.ref b96_0)]) (rest := []) (pc' := 180) rfl (by rw [hml]; rfl) (lenOf pd_7 rfl) rfl rfl (W := 0) (Nat.le_of_eq rfl) (by decide) (by decide) (by decide) (by decide) (hb hby at_177) ?_
        intro v147 T147 L147 h147 e147 q147 C147 S147 Z147 O147 X147
        rcases q147 with ⟨c147_0_0, c147_0_1, c147_0_2, c147_0_3, rfl, N147_0, K147_0⟩ | ⟨c147_1_0, c147_1_1, c147_1_2, c147_1_3, rfl, N147_1, K147_1⟩ | ⟨c147_2_0, c147_2_1, c147_2_2, rfl, N147_2, K147_2⟩ | ⟨c147_3_0, c147_3_1, rfl, N147_3, K147_3⟩ | ⟨c147_4_0, rfl, N147_4, K147_4⟩
        · exact absurd c147_0_1 hc98
        · exact absurd c147_1_1 hc98
        · exact absurd c147_2_1 hc98
        · show Go _ _ _ _ (T147.setTop (mkF m 180 #[.val (.int p0), .val (.int p1), .val (.int p2), .val (.int p3), .val (.int p4), .val (.int p5), .val (.int 4), .val (.int z4_0), .val (.int z5_0), .val (.int z6_0), .val (.int z7_0), .val (.int z8_0), .val (.ref b96_0), .val (.int 0), .val (.int 0), .val (.int 0), .val (.int 0)] [(.int 0)]))
          refine Go.iload X147 hx (pc' := 182) rfl (hb hby at_180) rfl ?_
          refine Go.icmpNo X147 hx (pc' := 185) rfl (hb hby at_182) (by decide) ?_
          refine Go.iconst X147 hx (pc' := 186) rfl (hb hby at_185) (v := (1 : Int32)) rfl ?_
          refine Go.goto X147 hx (pc' := 190) (hb hby at_186) (by decide) (by decide) ?_
          have C148 : CHr Z EL0 s.vm s.heap T147.vm h147 := (C144.trans C147)
          refine Go.retNW X147 hx hlk Z147 (own_EW hw) e147 S147 (Nat.le_refl _) C148 (t := .boolean) hret (by simp) (hb hby at_190) (by decide) (by decide) (fun hat => ?_)
          exact ⟨rfl, (Fr.app (Fr.app (Fr.app (Fr.app (Fr.app (Fr.app (Fr.app (Fr.nil n0) N4) N5) N6) N7) N8) N96) N147_3)⟩
        · exact absurd hc97 c147_4_0
    · refine Go.icmpYes X96 hx (pc' := 96) (hb hby at_68) (feq hc97).2 (by decide) (by decide) ?_
      refine Go.iconst X96 hx (pc' := 97) rfl (hb hby at_96) (v := (0 : Int32)) rfl ?_
      refine Go.istore X96 hx (pc' := 99) rfl (hb hby at_97) (Ls' := #[.val (.int p0), .val (.int p1), .val (.int p2), .val (.int p3), .val (.int p4), .val (.int p5), .val (.int 4), .val (.int z4_0), .val (.int z5_0), .val (.int z6_0), .val (.int z7_0), .val (.int z8_0), .val (.ref b96_0), .val (.int 0), .unset, .unset, .unset]) rfl ?_
      refine Go.iload X96 hx (pc' := 101) rfl (hb hby at_99) rfl ?_
      refine Go.iconst X96 hx (pc' := 102) rfl (hb hby at_101) (v := (1 : Int32)) rfl ?_
      refine Go.icmpYes X96 hx (pc' := 116) (hb hby at_102) (by decide) (by decide) (by decide) ?_
      refine Go.iconst X96 hx (pc' := 117) rfl (hb hby at_116) (v := (0 : Int32)) rfl ?_
      refine Go.istore X96 hx (pc' := 119) rfl (hb hby at_117) (Ls' := #[.val (.int p0), .val (.int p1), .val (.int p2), .val (.int p3), .val (.int p4), .val (.int p5), .val (.int 4), .val (.int z4_0), .val (.int z5_0), .val (.int z6_0), .val (.int z7_0), .val (.int z8_0), .val (.ref b96_0), .val (.int 0), .val (.int 0), .unset, .unset]) rfl ?_
      refine Go.iload X96 hx (pc' := 121) rfl (hb hby at_119) rfl ?_
      refine Go.iconst X96 hx (pc' := 122) rfl (hb hby at_121) (v := (3 : Int32)) rfl ?_
      refine Go.icmpYes X96 hx (pc' := 150) (hb hby at_122) (by decide) (by decide) (by decide) ?_
      refine Go.iconst X96 hx (pc' := 151) rfl (hb hby at_150) (v := (0 : Int32)) rfl ?_
      refine Go.istore X96 hx (pc' := 153) rfl (hb hby at_151) (Ls' := #[.val (.int p0), .val (.int p1), .val (.int p2), .val (.int p3), .val (.int p4), .val (.int p5), .val (.int 4), .val (.int z4_0), .val (.int z5_0), .val (.int z6_0), .val (.int z7_0), .val (.int z8_0), .val (.ref b96_0), .val (.int 0), .val (.int 0), .val (.int 0), .unset]) rfl ?_
      refine Go.iload X96 hx (pc' := 155) rfl (hb hby at_153) rfl ?_
      refine Go.ifNo X96 hx (pc' := 158) rfl (hb hby at_155) (by decide) ?_
      refine Go.iload X96 hx (pc' := 160) rfl (hb hby at_158) rfl ?_
      refine Go.ifNo X96 hx (pc' := 163) rfl (hb hby at_160) (by decide) ?_
      refine Go.iload X96 hx (pc' := 165) rfl (hb hby at_163) rfl ?_
      refine Go.ifYes X96 hx (pc' := 172) (hb hby at_165) (by decide) (by decide) (by decide) ?_
      refine Go.iconst X96 hx (pc' := 173) rfl (hb hby at_172) (v := (0 : Int32)) rfl ?_
      refine Go.istore X96 hx (pc' := 175) rfl (hb hby at_173) (Ls' := #[.val (.int p0), .val (.int p1), .val (.int p2), .val (.int p3), .val (.int p4), .val (.int p5), .val (.int 4), .val (.int z4_0), .val (.int z5_0), .val (.int z6_0), .val (.int z7_0), .val (.int z8_0), .val (.ref b96_0), .val (.int 0), .val (.int 0), .val (.int 0), .val (.int 0)]) rfl ?_
      refine Go.aload X96 hx (pc' := 177) rfl (hb hby at_175) rfl rfl ?_
      have r149 : -128 ≤ z96_0.toInt ∧ z96_0.toInt ≤ 127 := own_ri2b d96_0
      have r150 : -128 ≤ z96_1.toInt ∧ z96_1.toInt ≤ 127 := own_ri2b d96_1
      have r151 : -128 ≤ z96_2.toInt ∧ z96_2.toInt ≤ 127 := own_ri2b d96_2
      have r152 : -128 ≤ z96_3.toInt ∧ z96_3.toInt ≤ 127 := own_ri2b d96_3
      have Kp154 : Keep h0 h96 [] := ((Keep.refl h0 []).trans K96 all0)
      have Zn153 : n0 ≤ h96.size := Nat.le_trans Z0 Kp154.1
      have O155 := (O0.keep K96 all0)
      have C156 : CHr Z EL0 s.vm s.heap s.vm h96 := (C0.trans (CHr.keep K96 sf0 C0.1))
      have fk157 : Safe Z EL0 s.vm h96 b96_0 := (Safe.keep K96 sf0 C0.1 (Safe.new s96_0 : Safe Z EL0 s.vm h0 b96_0))
      have hk158 := (Nat.le_trans (Nat.le_refl _) K96.1)
      refine Go.callSW X96 hx hZ hown (tw_30 hw) (tw_31 hw) (tw_32 hw) (tw_33 hw) (by decide) (tw_33 hw) (tw_32 hw) (au_93 l Z a0 hw b96_0 b96_1 k96_0 z96_0 z96_1 z96_2 z96_3 z4_0 z5_0 z6_0 z7_0 gz1 gv5 h96 n0 Zn153 O155 G F96_0 F96_1 F96_2 F96_3 w4 w5 w6 w7 d96_0 d96_1 d96_2 d96_3) (own_EW hw) C156.1 (allS ⟨F96_0.lt, fk157⟩ all0) hS0 hk158 e96 (argsL := [(.ref b96_0)]) (rest := []) (pc' := 180) rfl (by rw [hml]; rfl) (lenOf pd_7 rfl) rfl rfl (W := 0) (Nat.le_of_eq rfl) (by decide) (by decide) (by decide) (by decide) (hb hby at_177) ?_
      intro v159 T159 L159 h159 e159 q159 C159 S159 Z159 O159 X159
      rcases q159 with ⟨c159_0_0, c159_0_1, c159_0_2, c159_0_3, rfl, N159_0, K159_0⟩ | ⟨c159_1_0, c159_1_1, c159_1_2, c159_1_3, rfl, N159_1, K159_1⟩ | ⟨c159_2_0, c159_2_1, c159_2_2, rfl, N159_2, K159_2⟩ | ⟨c159_3_0, c159_3_1, rfl, N159_3, K159_3⟩ | ⟨c159_4_0, rfl, N159_4, K159_4⟩
      · exact absurd c159_0_0 hc97
      · exact absurd c159_1_0 hc97
      · exact absurd c159_2_0 hc97
      · exact absurd c159_3_0 hc97
      · show Go _ _ _ _ (T159.setTop (mkF m 180 #[.val (.int p0), .val (.int p1), .val (.int p2), .val (.int p3), .val (.int p4), .val (.int p5), .val (.int 4), .val (.int z4_0), .val (.int z5_0), .val (.int z6_0), .val (.int z7_0), .val (.int z8_0), .val (.ref b96_0), .val (.int 0), .val (.int 0), .val (.int 0), .val (.int 0)] [(.int 0)]))
        refine Go.iload X159 hx (pc' := 182) rfl (hb hby at_180) rfl ?_
        refine Go.icmpNo X159 hx (pc' := 185) rfl (hb hby at_182) (by decide) ?_
        refine Go.iconst X159 hx (pc' := 186) rfl (hb hby at_185) (v := (1 : Int32)) rfl ?_
        refine Go.goto X159 hx (pc' := 190) (hb hby at_186) (by decide) (by decide) ?_
        have C160 : CHr Z EL0 s.vm s.heap T159.vm h159 := (C156.trans C159)
        refine Go.retNW X159 hx hlk Z159 (own_EW hw) e159 S159 (Nat.le_refl _) C160 (t := .boolean) hret (by simp) (hb hby at_190) (by decide) (by decide) (fun hat => ?_)
        exact ⟨rfl, (Fr.app (Fr.app (Fr.app (Fr.app (Fr.app (Fr.app (Fr.app (Fr.nil n0) N4) N5) N6) N7) N8) N96) N159_4)⟩
  · refine Go.istore X8 hx (pc' := 41) rfl (hb hby at_39) (Ls' := #[.val (.int p0), .val (.int p1), .val (.int p2), .val (.int p3), .val (.int p4), .val (.int p5), .val (.int 5), .val (.int z4_0), .val (.int z5_0), .val (.int z6_0), .val (.int z7_0), .val (.int z8_0), .unset, .unset, .unset, .unset, .unset]) rfl ?_
    refine Go.iload X8 hx (pc' := 43) rfl (hb hby at_41) rfl ?_
    refine Go.iload X8 hx (pc' := 45) rfl (hb hby at_43) rfl ?_
    refine Go.iload X8 hx (pc' := 47) rfl (hb hby at_45) rfl ?_
    refine Go.iload X8 hx (pc' := 49) rfl (hb hby at_47) rfl ?_
    refine Go.iload X8 hx (pc' := 51) rfl (hb hby at_49) rfl ?_
    refine Go.iload X8 hx (pc' := 53) rfl (hb hby at_51) rfl ?_
    refine Go.callS X8 hx hZ hown (tw_5 hw) (tw_6 hw) (tw_3 hw) (tw_7 hw) (by decide) (tw_7 hw) (tw_3 hw) (au_105 l Z a0 hw z4_0 z5_0 z6_0 z7_0 z8_0 gz1 gv5 h0 n0 Z0 O0 G w4 w5 w6 w7 w8) e8 (argsL := [(.int 5), (.int z4_0), (.int z5_0), (.int z6_0), (.int z7_0), (.int z8_0)]) (rest := []) (pc' := 56) rfl (by rw [hml]; rfl) (lenOf pd_3 rfl) rfl rfl (W := 0) (Nat.le_of_eq rfl) (by decide) (by decide) (by decide) (by decide) (hb hby at_53) ?_
    intro v161 T161 L161 q161 X161
    obtain ⟨h161, e161⟩ : ∃ z, T161.heap = z := ⟨_, rfl⟩
    rw [e161] at q161
    obtain ⟨z161_0, z161_1, z161_2, z161_3, z161_4, b161_0, b161_1, k161_0, d161_0, d161_1, d161_2, d161_3, d161_4, rfl, N161, K161, s161_0, s161_1, n161_0, F161_0, F161_1, F161_2, F161_3, F161_4⟩ := q161
    show Go _ _ _ _ (T161.setTop (mkF m 56 #[.val (.int p0), .val (.int p1), .val (.int p2), .val (.int p3), .val (.int p4), .val (.int p5), .val (.int 5), .val (.int z4_0), .val (.int z5_0), .val (.int z6_0), .val (.int z7_0), .val (.int z8_0), .unset, .unset, .unset, .unset, .unset] [(.ref b161_0)]))
    refine Go.astore X161 hx (pc' := 58) rfl (hb hby at_56) (Ls' := #[.val (.int p0), .val (.int p1), .val (.int p2), .val (.int p3), .val (.int p4), .val (.int p5), .val (.int 5), .val (.int z4_0), .val (.int z5_0), .val (.int z6_0), .val (.int z7_0), .val (.int z8_0), .val (.ref b161_0), .unset, .unset, .unset, .unset]) rfl rfl ?_
    refine Go.iload X161 hx (pc' := 60) rfl (hb hby at_58) rfl ?_
    refine Go.iconst X161 hx (pc' := 61) rfl (hb hby at_60) (v := (4 : Int32)) rfl ?_
    refine Go.icmpNo X161 hx (pc' := 64) rfl (hb hby at_61) (by decide) ?_
    refine Go.iload X161 hx (pc' := 66) rfl (hb hby at_64) rfl ?_
    refine Go.bipush X161 hx (pc' := 68) rfl (hb hby at_66) (v := (47 : Int32)) (by decide) ?_
    by_cases hc162 : z4_0 = (47 : Int32)
    · refine Go.icmpNo X161 hx (pc' := 71) rfl (hb hby at_68) (teq hc162).2 ?_
      refine Go.iload X161 hx (pc' := 73) rfl (hb hby at_71) rfl ?_
      refine Go.bipush X161 hx (pc' := 75) rfl (hb hby at_73) (v := (117 : Int32)) (by decide) ?_
      by_cases hc163 : z5_0 = (117 : Int32)
      · refine Go.icmpNo X161 hx (pc' := 78) rfl (hb hby at_75) (teq hc163).2 ?_
        refine Go.iload X161 hx (pc' := 80) rfl (hb hby at_78) rfl ?_
        refine Go.bipush X161 hx (pc' := 82) rfl (hb hby at_80) (v := (105 : Int32)) (by decide) ?_
        by_cases hc164 : z6_0 = (105 : Int32)
        · refine Go.icmpNo X161 hx (pc' := 85) rfl (hb hby at_82) (teq hc164).2 ?_
          refine Go.iload X161 hx (pc' := 87) rfl (hb hby at_85) rfl ?_
          refine Go.bipush X161 hx (pc' := 89) rfl (hb hby at_87) (v := (47 : Int32)) (by decide) ?_
          by_cases hc165 : z7_0 = (47 : Int32)
          · refine Go.icmpNo X161 hx (pc' := 92) rfl (hb hby at_89) (teq hc165).2 ?_
            refine Go.iconst X161 hx (pc' := 93) rfl (hb hby at_92) (v := (1 : Int32)) rfl ?_
            refine Go.goto X161 hx (pc' := 97) (hb hby at_93) (by decide) (by decide) ?_
            refine Go.istore X161 hx (pc' := 99) rfl (hb hby at_97) (Ls' := #[.val (.int p0), .val (.int p1), .val (.int p2), .val (.int p3), .val (.int p4), .val (.int p5), .val (.int 5), .val (.int z4_0), .val (.int z5_0), .val (.int z6_0), .val (.int z7_0), .val (.int z8_0), .val (.ref b161_0), .val (.int 1), .unset, .unset, .unset]) rfl ?_
            refine Go.iload X161 hx (pc' := 101) rfl (hb hby at_99) rfl ?_
            refine Go.iconst X161 hx (pc' := 102) rfl (hb hby at_101) (v := (1 : Int32)) rfl ?_
            refine Go.icmpYes X161 hx (pc' := 116) (hb hby at_102) (by decide) (by decide) (by decide) ?_
            refine Go.iconst X161 hx (pc' := 117) rfl (hb hby at_116) (v := (0 : Int32)) rfl ?_
            refine Go.istore X161 hx (pc' := 119) rfl (hb hby at_117) (Ls' := #[.val (.int p0), .val (.int p1), .val (.int p2), .val (.int p3), .val (.int p4), .val (.int p5), .val (.int 5), .val (.int z4_0), .val (.int z5_0), .val (.int z6_0), .val (.int z7_0), .val (.int z8_0), .val (.ref b161_0), .val (.int 1), .val (.int 0), .unset, .unset]) rfl ?_
            refine Go.iload X161 hx (pc' := 121) rfl (hb hby at_119) rfl ?_
            refine Go.iconst X161 hx (pc' := 122) rfl (hb hby at_121) (v := (3 : Int32)) rfl ?_
            refine Go.icmpYes X161 hx (pc' := 150) (hb hby at_122) (by decide) (by decide) (by decide) ?_
            refine Go.iconst X161 hx (pc' := 151) rfl (hb hby at_150) (v := (0 : Int32)) rfl ?_
            refine Go.istore X161 hx (pc' := 153) rfl (hb hby at_151) (Ls' := #[.val (.int p0), .val (.int p1), .val (.int p2), .val (.int p3), .val (.int p4), .val (.int p5), .val (.int 5), .val (.int z4_0), .val (.int z5_0), .val (.int z6_0), .val (.int z7_0), .val (.int z8_0), .val (.ref b161_0), .val (.int 1), .val (.int 0), .val (.int 0), .unset]) rfl ?_
            refine Go.iload X161 hx (pc' := 155) rfl (hb hby at_153) rfl ?_
            refine Go.ifYes X161 hx (pc' := 168) (hb hby at_155) (by decide) (by decide) (by decide) ?_
            refine Go.iconst X161 hx (pc' := 169) rfl (hb hby at_168) (v := (1 : Int32)) rfl ?_
            refine Go.goto X161 hx (pc' := 173) (hb hby at_169) (by decide) (by decide) ?_
            refine Go.istore X161 hx (pc' := 175) rfl (hb hby at_173) (Ls' := #[.val (.int p0), .val (.int p1), .val (.int p2), .val (.int p3), .val (.int p4), .val (.int p5), .val (.int 5), .val (.int z4_0), .val (.int z5_0), .val (.int z6_0), .val (.int z7_0), .val (.int z8_0), .val (.ref b161_0), .val (.int 1), .val (.int 0), .val (.int 0), .val (.int 1)]) rfl ?_
            refine Go.aload X161 hx (pc' := 177) rfl (hb hby at_175) rfl rfl ?_
            have r166 : -128 ≤ z161_0.toInt ∧ z161_0.toInt ≤ 127 := own_ri2b d161_0
            have r167 : -128 ≤ z161_1.toInt ∧ z161_1.toInt ≤ 127 := own_ri2b d161_1
            have r168 : -128 ≤ z161_2.toInt ∧ z161_2.toInt ≤ 127 := own_ri2b d161_2
            have r169 : -128 ≤ z161_3.toInt ∧ z161_3.toInt ≤ 127 := own_ri2b d161_3
            have r170 : -128 ≤ z161_4.toInt ∧ z161_4.toInt ≤ 127 := own_ri2b d161_4
            have Kp172 : Keep h0 h161 [] := ((Keep.refl h0 []).trans K161 all0)
            have Zn171 : n0 ≤ h161.size := Nat.le_trans Z0 Kp172.1
            have O173 := (O0.keep K161 all0)
            have C174 : CHr Z EL0 s.vm s.heap s.vm h161 := (C0.trans (CHr.keep K161 sf0 C0.1))
            have fk175 : Safe Z EL0 s.vm h161 b161_0 := (Safe.keep K161 sf0 C0.1 (Safe.new s161_0 : Safe Z EL0 s.vm h0 b161_0))
            have hk176 := (Nat.le_trans (Nat.le_refl _) K161.1)
            refine Go.callSW X161 hx hZ hown (tw_30 hw) (tw_31 hw) (tw_32 hw) (tw_33 hw) (by decide) (tw_33 hw) (tw_32 hw) (au_112 l Z a0 hw b161_0 b161_1 k161_0 z161_0 z161_1 z161_2 z161_3 z161_4 z4_0 z5_0 z6_0 z7_0 gz1 gv5 h161 n0 Zn171 O173 G F161_0 F161_1 F161_2 F161_3 w4 w5 w6 w7 d161_0 d161_1 d161_2 d161_3) (own_EW hw) C174.1 (allS ⟨F161_0.lt, fk175⟩ all0) hS0 hk176 e161 (argsL := [(.ref b161_0)]) (rest := []) (pc' := 180) rfl (by rw [hml]; rfl) (lenOf pd_7 rfl) rfl rfl (W := 0) (Nat.le_of_eq rfl) (by decide) (by decide) (by decide) (by decide) (hb hby at_177) ?_
            intro v177 T177 L177 h177 e177 q177 C177 S177 Z177 O177 X177
            rcases q177 with ⟨c177_0_0, c177_0_1, c177_0_2, c177_0_3, rfl, N177_0, K177_0⟩ | ⟨c177_1_0, c177_1_1, c177_1_2, c177_1_3, rfl, N177_1, K177_1⟩ | ⟨c177_2_0, c177_2_1, c177_2_2, rfl, N177_2, K177_2⟩ | ⟨c177_3_0, c177_3_1, rfl, N177_3, K177_3⟩ | ⟨c177_4_0, rfl, N177_4, K177_4⟩
            · show Go _ _ _ _ (T177.setTop (mkF m 180 #[.val (.int p0), .val (.int p1), .val (.int p2), .val (.int p3), .val (.int p4), .val (.int p5), .val (.int 5), .val (.int z4_0), .val (.int z5_0), .val (.int z6_0), .val (.int z7_0), .val (.int z8_0), .val (.ref b161_0), .val (.int 1), .val (.int 0), .val (.int 0), .val (.int 1)] [(.int 1)]))
              refine Go.iload X177 hx (pc' := 182) rfl (hb hby at_180) rfl ?_
              refine Go.icmpNo X177 hx (pc' := 185) rfl (hb hby at_182) (by decide) ?_
              refine Go.iconst X177 hx (pc' := 186) rfl (hb hby at_185) (v := (1 : Int32)) rfl ?_
              refine Go.goto X177 hx (pc' := 190) (hb hby at_186) (by decide) (by decide) ?_
              have C178 : CHr Z EL0 s.vm s.heap T177.vm h177 := (C174.trans C177)
              refine Go.retNW X177 hx hlk Z177 (own_EW hw) e177 S177 (Nat.le_refl _) C178 (t := .boolean) hret (by simp) (hb hby at_190) (by decide) (by decide) (fun hat => ?_)
              exact ⟨rfl, (Fr.app (Fr.app (Fr.app (Fr.app (Fr.app (Fr.app (Fr.app (Fr.nil n0) N4) N5) N6) N7) N8) N161) N177_0)⟩
            · exact absurd hc165 c177_1_3
            · exact absurd hc164 c177_2_2
            · exact absurd hc163 c177_3_1
            · exact absurd hc162 c177_4_0
          · refine Go.icmpYes X161 hx (pc' := 96) (hb hby at_89) (feq hc165).2 (by decide) (by decide) ?_
            refine Go.iconst X161 hx (pc' := 97) rfl (hb hby at_96) (v := (0 : Int32)) rfl ?_
            refine Go.istore X161 hx (pc' := 99) rfl (hb hby at_97) (Ls' := #[.val (.int p0), .val (.int p1), .val (.int p2), .val (.int p3), .val (.int p4), .val (.int p5), .val (.int 5), .val (.int z4_0), .val (.int z5_0), .val (.int z6_0), .val (.int z7_0), .val (.int z8_0), .val (.ref b161_0), .val (.int 0), .unset, .unset, .unset]) rfl ?_
            refine Go.iload X161 hx (pc' := 101) rfl (hb hby at_99) rfl ?_
            refine Go.iconst X161 hx (pc' := 102) rfl (hb hby at_101) (v := (1 : Int32)) rfl ?_
            refine Go.icmpYes X161 hx (pc' := 116) (hb hby at_102) (by decide) (by decide) (by decide) ?_
            refine Go.iconst X161 hx (pc' := 117) rfl (hb hby at_116) (v := (0 : Int32)) rfl ?_
            refine Go.istore X161 hx (pc' := 119) rfl (hb hby at_117) (Ls' := #[.val (.int p0), .val (.int p1), .val (.int p2), .val (.int p3), .val (.int p4), .val (.int p5), .val (.int 5), .val (.int z4_0), .val (.int z5_0), .val (.int z6_0), .val (.int z7_0), .val (.int z8_0), .val (.ref b161_0), .val (.int 0), .val (.int 0), .unset, .unset]) rfl ?_
            refine Go.iload X161 hx (pc' := 121) rfl (hb hby at_119) rfl ?_
            refine Go.iconst X161 hx (pc' := 122) rfl (hb hby at_121) (v := (3 : Int32)) rfl ?_
            refine Go.icmpYes X161 hx (pc' := 150) (hb hby at_122) (by decide) (by decide) (by decide) ?_
            refine Go.iconst X161 hx (pc' := 151) rfl (hb hby at_150) (v := (0 : Int32)) rfl ?_
            refine Go.istore X161 hx (pc' := 153) rfl (hb hby at_151) (Ls' := #[.val (.int p0), .val (.int p1), .val (.int p2), .val (.int p3), .val (.int p4), .val (.int p5), .val (.int 5), .val (.int z4_0), .val (.int z5_0), .val (.int z6_0), .val (.int z7_0), .val (.int z8_0), .val (.ref b161_0), .val (.int 0), .val (.int 0), .val (.int 0), .unset]) rfl ?_
            refine Go.iload X161 hx (pc' := 155) rfl (hb hby at_153) rfl ?_
            refine Go.ifNo X161 hx (pc' := 158) rfl (hb hby at_155) (by decide) ?_
            refine Go.iload X161 hx (pc' := 160) rfl (hb hby at_158) rfl ?_
            refine Go.ifNo X161 hx (pc' := 163) rfl (hb hby at_160) (by decide) ?_
            refine Go.iload X161 hx (pc' := 165) rfl (hb hby at_163) rfl ?_
            refine Go.ifYes X161 hx (pc' := 172) (hb hby at_165) (by decide) (by decide) (by decide) ?_
            refine Go.iconst X161 hx (pc' := 173) rfl (hb hby at_172) (v := (0 : Int32)) rfl ?_
            refine Go.istore X161 hx (pc' := 175) rfl (hb hby at_173) (Ls' := #[.val (.int p0), .val (.int p1), .val (.int p2), .val (.int p3), .val (.int p4), .val (.int p5), .val (.int 5), .val (.int z4_0), .val (.int z5_0), .val (.int z6_0), .val (.int z7_0), .val (.int z8_0), .val (.ref b161_0), .val (.int 0), .val (.int 0), .val (.int 0), .val (.int 0)]) rfl ?_
            refine Go.aload X161 hx (pc' := 177) rfl (hb hby at_175) rfl rfl ?_
            have r179 : -128 ≤ z161_0.toInt ∧ z161_0.toInt ≤ 127 := own_ri2b d161_0
            have r180 : -128 ≤ z161_1.toInt ∧ z161_1.toInt ≤ 127 := own_ri2b d161_1
            have r181 : -128 ≤ z161_2.toInt ∧ z161_2.toInt ≤ 127 := own_ri2b d161_2
            have r182 : -128 ≤ z161_3.toInt ∧ z161_3.toInt ≤ 127 := own_ri2b d161_3
            have r183 : -128 ≤ z161_4.toInt ∧ z161_4.toInt ≤ 127 := own_ri2b d161_4
            have Kp185 : Keep h0 h161 [] := ((Keep.refl h0 []).trans K161 all0)
            have Zn184 : n0 ≤ h161.size := Nat.le_trans Z0 Kp185.1
            have O186 := (O0.keep K161 all0)
            have C187 : CHr Z EL0 s.vm s.heap s.vm h161 := (C0.trans (CHr.keep K161 sf0 C0.1))
            have fk188 : Safe Z EL0 s.vm h161 b161_0 := (Safe.keep K161 sf0 C0.1 (Safe.new s161_0 : Safe Z EL0 s.vm h0 b161_0))
            have hk189 := (Nat.le_trans (Nat.le_refl _) K161.1)
            refine Go.callSW X161 hx hZ hown (tw_30 hw) (tw_31 hw) (tw_32 hw) (tw_33 hw) (by decide) (tw_33 hw) (tw_32 hw) (au_112 l Z a0 hw b161_0 b161_1 k161_0 z161_0 z161_1 z161_2 z161_3 z161_4 z4_0 z5_0 z6_0 z7_0 gz1 gv5 h161 n0 Zn184 O186 G F161_0 F161_1 F161_2 F161_3 w4 w5 w6 w7 d161_0 d161_1 d161_2 d161_3) (own_EW hw) C187.1 (allS ⟨F161_0.lt, fk188⟩ all0) hS0 hk189 e161 (argsL := [(.ref b161_0)]) (rest := []) (pc' := 180) rfl (by rw [hml]; rfl) (lenOf pd_7 rfl) rfl rfl (W := 0) (Nat.le_of_eq rfl) (by decide) (by decide) (by decide) (by decide) (hb hby at_177) ?_
            intro v190 T190 L190 h190 e190 q190 C190 S190 Z190 O190 X190
            rcases q190 with ⟨c190_0_0, c190_0_1, c190_0_2, c190_0_3, rfl, N190_0, K190_0⟩ | ⟨c190_1_0, c190_1_1, c190_1_2, c190_1_3, rfl, N190_1, K190_1⟩ | ⟨c190_2_0, c190_2_1, c190_2_2, rfl, N190_2, K190_2⟩ | ⟨c190_3_0, c190_3_1, rfl, N190_3, K190_3⟩ | ⟨c190_4_0, rfl, N190_4, K190_4⟩
            · exact absurd c190_0_3 hc165
            · show Go _ _ _ _ (T190.setTop (mkF m 180 #[.val (.int p0), .val (.int p1), .val (.int p2), .val (.int p3), .val (.int p4), .val (.int p5), .val (.int 5), .val (.int z4_0), .val (.int z5_0), .val (.int z6_0), .val (.int z7_0), .val (.int z8_0), .val (.ref b161_0), .val (.int 0), .val (.int 0), .val (.int 0), .val (.int 0)] [(.int 0)]))
              refine Go.iload X190 hx (pc' := 182) rfl (hb hby at_180) rfl ?_
              refine Go.icmpNo X190 hx (pc' := 185) rfl (hb hby at_182) (by decide) ?_
              refine Go.iconst X190 hx (pc' := 186) rfl (hb hby at_185) (v := (1 : Int32)) rfl ?_
              refine Go.goto X190 hx (pc' := 190) (hb hby at_186) (by decide) (by decide) ?_
              have C191 : CHr Z EL0 s.vm s.heap T190.vm h190 := (C187.trans C190)
              refine Go.retNW X190 hx hlk Z190 (own_EW hw) e190 S190 (Nat.le_refl _) C191 (t := .boolean) hret (by simp) (hb hby at_190) (by decide) (by decide) (fun hat => ?_)
              exact ⟨rfl, (Fr.app (Fr.app (Fr.app (Fr.app (Fr.app (Fr.app (Fr.app (Fr.nil n0) N4) N5) N6) N7) N8) N161) N190_1)⟩
            · exact absurd hc164 c190_2_2
            · exact absurd hc163 c190_3_1
            · exact absurd hc162 c190_4_0
        · refine Go.icmpYes X161 hx (pc' := 96) (hb hby at_82) (feq hc164).2 (by decide) (by decide) ?_
          refine Go.iconst X161 hx (pc' := 97) rfl (hb hby at_96) (v := (0 : Int32)) rfl ?_
          refine Go.istore X161 hx (pc' := 99) rfl (hb hby at_97) (Ls' := #[.val (.int p0), .val (.int p1), .val (.int p2), .val (.int p3), .val (.int p4), .val (.int p5), .val (.int 5), .val (.int z4_0), .val (.int z5_0), .val (.int z6_0), .val (.int z7_0), .val (.int z8_0), .val (.ref b161_0), .val (.int 0), .unset, .unset, .unset]) rfl ?_
          refine Go.iload X161 hx (pc' := 101) rfl (hb hby at_99) rfl ?_
          refine Go.iconst X161 hx (pc' := 102) rfl (hb hby at_101) (v := (1 : Int32)) rfl ?_
          refine Go.icmpYes X161 hx (pc' := 116) (hb hby at_102) (by decide) (by decide) (by decide) ?_
          refine Go.iconst X161 hx (pc' := 117) rfl (hb hby at_116) (v := (0 : Int32)) rfl ?_
          refine Go.istore X161 hx (pc' := 119) rfl (hb hby at_117) (Ls' := #[.val (.int p0), .val (.int p1), .val (.int p2), .val (.int p3), .val (.int p4), .val (.int p5), .val (.int 5), .val (.int z4_0), .val (.int z5_0), .val (.int z6_0), .val (.int z7_0), .val (.int z8_0), .val (.ref b161_0), .val (.int 0), .val (.int 0), .unset, .unset]) rfl ?_
          refine Go.iload X161 hx (pc' := 121) rfl (hb hby at_119) rfl ?_
          refine Go.iconst X161 hx (pc' := 122) rfl (hb hby at_121) (v := (3 : Int32)) rfl ?_
          refine Go.icmpYes X161 hx (pc' := 150) (hb hby at_122) (by decide) (by decide) (by decide) ?_
          refine Go.iconst X161 hx (pc' := 151) rfl (hb hby at_150) (v := (0 : Int32)) rfl ?_
          refine Go.istore X161 hx (pc' := 153) rfl (hb hby at_151) (Ls' := #[.val (.int p0), .val (.int p1), .val (.int p2), .val (.int p3), .val (.int p4), .val (.int p5), .val (.int 5), .val (.int z4_0), .val (.int z5_0), .val (.int z6_0), .val (.int z7_0), .val (.int z8_0), .val (.ref b161_0), .val (.int 0), .val (.int 0), .val (.int 0), .unset]) rfl ?_
          refine Go.iload X161 hx (pc' := 155) rfl (hb hby at_153) rfl ?_
          refine Go.ifNo X161 hx (pc' := 158) rfl (hb hby at_155) (by decide) ?_
          refine Go.iload X161 hx (pc' := 160) rfl (hb hby at_158) rfl ?_
          refine Go.ifNo X161 hx (pc' := 163) rfl (hb hby at_160) (by decide) ?_
          refine Go.iload X161 hx (pc' := 165) rfl (hb hby at_163) rfl ?_
          refine Go.ifYes X161 hx (pc' := 172) (hb hby at_165) (by decide) (by decide) (by decide) ?_
          refine Go.iconst X161 hx (pc' := 173) rfl (hb hby at_172) (v := (0 : Int32)) rfl ?_
          refine Go.istore X161 hx (pc' := 175) rfl (hb hby at_173) (Ls' := #[.val (.int p0), .val (.int p1), .val (.int p2), .val (.int p3), .val (.int p4), .val (.int p5), .val (.int 5), .val (.int z4_0), .val (.int z5_0), .val (.int z6_0), .val (.int z7_0), .val (.int z8_0), .val (.ref b161_0), .val (.int 0), .val (.int 0), .val (.int 0), .val (.int 0)]) rfl ?_
          refine Go.aload X161 hx (pc' := 177) rfl (hb hby at_175) rfl rfl ?_
          have r192 : -128 ≤ z161_0.toInt ∧ z161_0.toInt ≤ 127 := own_ri2b d161_0
          have r193 : -128 ≤ z161_1.toInt ∧ z161_1.toInt ≤ 127 := own_ri2b d161_1
          have r194 : -128 ≤ z161_2.toInt ∧ z161_2.toInt ≤ 127 := own_ri2b d161_2
          have r195 : -128 ≤ z161_3.toInt ∧ z161_3.toInt ≤ 127 := own_ri2b d161_3
          have r196 : -128 ≤ z161_4.toInt ∧ z161_4.toInt ≤ 127 := own_ri2b d161_4
          have Kp198 : Keep h0 h161 [] := ((Keep.refl h0 []).trans K161 all0)
          have Zn197 : n0 ≤ h161.size := Nat.le_trans Z0 Kp198.1
          have O199 := (O0.keep K161 all0)
          have C200 : CHr Z EL0 s.vm s.heap s.vm h161 := (C0.trans (CHr.keep K161 sf0 C0.1))
          have fk201 : Safe Z EL0 s.vm h161 b161_0 := (Safe.keep K161 sf0 C0.1 (Safe.new s161_0 : Safe Z EL0 s.vm h0 b161_0))
          have hk202 := (Nat.le_trans (Nat.le_refl _) K161.1)
          refine Go.callSW X161 hx hZ hown (tw_30 hw) (tw_31 hw) (tw_32 hw) (tw_33 hw) (by decide) (tw_33 hw) (tw_32 hw) (au_112 l Z a0 hw b161_0 b161_1 k161_0 z161_0 z161_1 z161_2 z161_3 z161_4 z4_0 z5_0 z6_0 z7_0 gz1 gv5 h161 n0 Zn197 O199 G F161_0 F161_1 F161_2 F161_3 w4 w5 w6 w7 d161_0 d161_1 d161_2 d161_3) (own_EW hw) C200.1 (allS ⟨F161_0.lt, fk201⟩ all0) hS0 hk202 e161 (argsL := [(.ref b161_0)]) (rest := []) (pc' := 180) rfl (by rw [hml]; rfl) (lenOf pd_7 rfl) rfl rfl (W := 0) (Nat.le_of_eq rfl) (by decide) (by decide) (by decide) (by decide) (hb hby at_177) ?_
          intro v203 T203 L203 h203 e203 q203 C203 S203 Z203 O203 X203
          rcases q203 with ⟨c203_0_0, c203_0_1, c203_0_2, c203_0_3, rfl, N203_0, K203_0⟩ | ⟨c203_1_0, c203_1_1, c203_1_2, c203_1_3, rfl, N203_1, K203_1⟩ | ⟨c203_2_0, c203_2_1, c203_2_2, rfl, N203_2, K203_2⟩ | ⟨c203_3_0, c203_3_1, rfl, N203_3, K203_3⟩ | ⟨c203_4_0, rfl, N203_4, K203_4⟩
          · exact absurd c203_0_2 hc164
          · exact absurd c203_1_2 hc164
          · show Go _ _ _ _ (T203.setTop (mkF m 180 #[.val (.int p0), .val (.int p1), .val (.int p2), .val (.int p3), .val (.int p4), .val (.int p5), .val (.int 5), .val (.int z4_0), .val (.int z5_0), .val (.int z6_0), .val (.int z7_0), .val (.int z8_0), .val (.ref b161_0), .val (.int 0), .val (.int 0), .val (.int 0), .val (.int 0)] [(.int 0)]))
            refine Go.iload X203 hx (pc' := 182) rfl (hb hby at_180) rfl ?_
            refine Go.icmpNo X203 hx (pc' := 185) rfl (hb hby at_182) (by decide) ?_
            refine Go.iconst X203 hx (pc' := 186) rfl (hb hby at_185) (v := (1 : Int32)) rfl ?_
            refine Go.goto X203 hx (pc' := 190) (hb hby at_186) (by decide) (by decide) ?_
            have C204 : CHr Z EL0 s.vm s.heap T203.vm h203 := (C200.trans C203)
            refine Go.retNW X203 hx hlk Z203 (own_EW hw) e203 S203 (Nat.le_refl _) C204 (t := .boolean) hret (by simp) (hb hby at_190) (by decide) (by decide) (fun hat => ?_)
            exact ⟨rfl, (Fr.app (Fr.app (Fr.app (Fr.app (Fr.app (Fr.app (Fr.app (Fr.nil n0) N4) N5) N6) N7) N8) N161) N203_2)⟩
          · exact absurd hc163 c203_3_1
          · exact absurd hc162 c203_4_0
      · refine Go.icmpYes X161 hx (pc' := 96) (hb hby at_75) (feq hc163).2 (by decide) (by decide) ?_
        refine Go.iconst X161 hx (pc' := 97) rfl (hb hby at_96) (v := (0 : Int32)) rfl ?_
        refine Go.istore X161 hx (pc' := 99) rfl (hb hby at_97) (Ls' := #[.val (.int p0), .val (.int p1), .val (.int p2), .val (.int p3), .val (.int p4), .val (.int p5), .val (.int 5), .val (.int z4_0), .val (.int z5_0), .val (.int z6_0), .val (.int z7_0), .val (.int z8_0), .val (.ref b161_0), .val (.int 0), .unset, .unset, .unset]) rfl ?_
        refine Go.iload X161 hx (pc' := 101) rfl (hb hby at_99) rfl ?_
        refine Go.iconst X161 hx (pc' := 102) rfl (hb hby at_101) (v := (1 : Int32)) rfl ?_
        refine Go.icmpYes X161 hx (pc' := 116) (hb hby at_102) (by decide) (by decide) (by decide) ?_
        refine Go.iconst X161 hx (pc' := 117) rfl (hb hby at_116) (v := (0 : Int32)) rfl ?_
        refine Go.istore X161 hx (pc' := 119) rfl (hb hby at_117) (Ls' := #[.val (.int p0), .val (.int p1), .val (.int p2), .val (.int p3), .val (.int p4), .val (.int p5), .val (.int 5), .val (.int z4_0), .val (.int z5_0), .val (.int z6_0), .val (.int z7_0), .val (.int z8_0), .val (.ref b161_0), .val (.int 0), .val (.int 0), .unset, .unset]) rfl ?_
        refine Go.iload X161 hx (pc' := 121) rfl (hb hby at_119) rfl ?_
        refine Go.iconst X161 hx (pc' := 122) rfl (hb hby at_121) (v := (3 : Int32)) rfl ?_
        refine Go.icmpYes X161 hx (pc' := 150) (hb hby at_122) (by decide) (by decide) (by decide) ?_
        refine Go.iconst X161 hx (pc' := 151) rfl (hb hby at_150) (v := (0 : Int32)) rfl ?_
        refine Go.istore X161 hx (pc' := 153) rfl (hb hby at_151) (Ls' := #[.val (.int p0), .val (.int p1), .val (.int p2), .val (.int p3), .val (.int p4), .val (.int p5), .val (.int 5), .val (.int z4_0), .val (.int z5_0), .val (.int z6_0), .val (.int z7_0), .val (.int z8_0), .val (.ref b161_0), .val (.int 0), .val (.int 0), .val (.int 0), .unset]) rfl ?_
        refine Go.iload X161 hx (pc' := 155) rfl (hb hby at_153) rfl ?_
        refine Go.ifNo X161 hx (pc' := 158) rfl (hb hby at_155) (by decide) ?_
        refine Go.iload X161 hx (pc' := 160) rfl (hb hby at_158) rfl ?_
        refine Go.ifNo X161 hx (pc' := 163) rfl (hb hby at_160) (by decide) ?_
        refine Go.iload X161 hx (pc' := 165) rfl (hb hby at_163) rfl ?_
        refine Go.ifYes X161 hx (pc' := 172) (hb hby at_165) (by decide) (by decide) (by decide) ?_
        refine Go.iconst X161 hx (pc' := 173) rfl (hb hby at_172) (v := (0 : Int32)) rfl ?_
        refine Go.istore X161 hx (pc' := 175) rfl (hb hby at_173) (Ls' := #[.val (.int p0), .val (.int p1), .val (.int p2), .val (.int p3), .val (.int p4), .val (.int p5), .val (.int 5), .val (.int z4_0), .val (.int z5_0), .val (.int z6_0), .val (.int z7_0), .val (.int z8_0), .val (.ref b161_0), .val (.int 0), .val (.int 0), .val (.int 0), .val (.int 0)]) rfl ?_
        refine Go.aload X161 hx (pc' := 177) rfl (hb hby at_175) rfl rfl ?_
        have r205 : -128 ≤ z161_0.toInt ∧ z161_0.toInt ≤ 127 := own_ri2b d161_0
        have r206 : -128 ≤ z161_1.toInt ∧ z161_1.toInt ≤ 127 := own_ri2b d161_1
        have r207 : -128 ≤ z161_2.toInt ∧ z161_2.toInt ≤ 127 := own_ri2b d161_2
        have r208 : -128 ≤ z161_3.toInt ∧ z161_3.toInt ≤ 127 := own_ri2b d161_3
        have r209 : -128 ≤ z161_4.toInt ∧ z161_4.toInt ≤ 127 := own_ri2b d161_4
        have Kp211 : Keep h0 h161 [] := ((Keep.refl h0 []).trans K161 all0)
        have Zn210 : n0 ≤ h161.size := Nat.le_trans Z0 Kp211.1
        have O212 := (O0.keep K161 all0)
        have C213 : CHr Z EL0 s.vm s.heap s.vm h161 := (C0.trans (CHr.keep K161 sf0 C0.1))
        have fk214 : Safe Z EL0 s.vm h161 b161_0 := (Safe.keep K161 sf0 C0.1 (Safe.new s161_0 : Safe Z EL0 s.vm h0 b161_0))
        have hk215 := (Nat.le_trans (Nat.le_refl _) K161.1)
        refine Go.callSW X161 hx hZ hown (tw_30 hw) (tw_31 hw) (tw_32 hw) (tw_33 hw) (by decide) (tw_33 hw) (tw_32 hw) (au_112 l Z a0 hw b161_0 b161_1 k161_0 z161_0 z161_1 z161_2 z161_3 z161_4 z4_0 z5_0 z6_0 z7_0 gz1 gv5 h161 n0 Zn210 O212 G F161_0 F161_1 F161_2 F161_3 w4 w5 w6 w7 d161_0 d161_1 d161_2 d161_3) (own_EW hw) C213.1 (allS ⟨F161_0.lt, fk214⟩ all0) hS0 hk215 e161 (argsL := [(.ref b161_0)]) (rest := []) (pc' := 180) rfl (by rw [hml]; rfl) (lenOf pd_7 rfl) rfl rfl (W := 0) (Nat.le_of_eq rfl) (by decide) (by decide) (by decide) (by decide) (hb hby at_177) ?_
        intro v216 T216 L216 h216 e216 q216 C216 S216 Z216 O216 X216
        rcases q216 with ⟨c216_0_0, c216_0_1, c216_0_2, c216_0_3, rfl, N216_0, K216_0⟩ | ⟨c216_1_0, c216_1_1, c216_1_2, c216_1_3, rfl, N216_1, K216_1⟩ | ⟨c216_2_0, c216_2_1, c216_2_2, rfl, N216_2, K216_2⟩ | ⟨c216_3_0, c216_3_1, rfl, N216_3, K216_3⟩ | ⟨c216_4_0, rfl, N216_4, K216_4⟩
        · exact absurd c216_0_1 hc163
        · exact absurd c216_1_1 hc163
        · exact absurd c216_2_1 hc163
        · show Go _ _ _ _ (T216.setTop (mkF m 180 #[.val (.int p0), .val (.int p1), .val (.int p2), .val (.int p3), .val (.int p4), .val (.int p5), .val (.int 5), .val (.int z4_0), .val (.int z5_0), .val (.int z6_0), .val (.int z7_0), .val (.int z8_0), .val (.ref b161_0), .val (.int 0), .val (.int 0), .val (.int 0), .val (.int 0)] [(.int 0)]))
          refine Go.iload X216 hx (pc' := 182) rfl (hb hby at_180) rfl ?_
          refine Go.icmpNo X216 hx (pc' := 185) rfl (hb hby at_182) (by decide) ?_
          refine Go.iconst X216 hx (pc' := 186) rfl (hb hby at_185) (v := (1 : Int32)) rfl ?_
          refine Go.goto X216 hx (pc' := 190) (hb hby at_186) (by decide) (by decide) ?_
          have C217 : CHr Z EL0 s.vm s.heap T216.vm h216 := (C213.trans C216)
          refine Go.retNW X216 hx hlk Z216 (own_EW hw) e216 S216 (Nat.le_refl _) C217 (t := .boolean) hret (by simp) (hb hby at_190) (by decide) (by decide) (fun hat => ?_)
          exact ⟨rfl, (Fr.app (Fr.app (Fr.app (Fr.app (Fr.app (Fr.app (Fr.app (Fr.nil n0) N4) N5) N6) N7) N8) N161) N216_3)⟩
        · exact absurd hc162 c216_4_0
    · refine Go.icmpYes X161 hx (pc' := 96) (hb hby at_68) (feq hc162).2 (by decide) (by decide) ?_
      refine Go.iconst X161 hx (pc' := 97) rfl (hb hby at_96) (v := (0 : Int32)) rfl ?_
      refine Go.istore X161 hx (pc' := 99) rfl (hb hby at_97) (Ls' := #[.val (.int p0), .val (.int p1), .val (.int p2), .val (.int p3), .val (.int p4), .val (.int p5), .val (.int 5), .val (.int z4_0), .val (.int z5_0), .val (.int z6_0), .val (.int z7_0), .val (.int z8_0), .val (.ref b161_0), .val (.int 0), .unset, .unset, .unset]) rfl ?_
      refine Go.iload X161 hx (pc' := 101) rfl (hb hby at_99) rfl ?_
      refine Go.iconst X161 hx (pc' := 102) rfl (hb hby at_101) (v := (1 : Int32)) rfl ?_
      refine Go.icmpYes X161 hx (pc' := 116) (hb hby at_102) (by decide) (by decide) (by decide) ?_
      refine Go.iconst X161 hx (pc' := 117) rfl (hb hby at_116) (v := (0 : Int32)) rfl ?_
      refine Go.istore X161 hx (pc' := 119) rfl (hb hby at_117) (Ls' := #[.val (.int p0), .val (.int p1), .val (.int p2), .val (.int p3), .val (.int p4), .val (.int p5), .val (.int 5), .val (.int z4_0), .val (.int z5_0), .val (.int z6_0), .val (.int z7_0), .val (.int z8_0), .val (.ref b161_0), .val (.int 0), .val (.int 0), .unset, .unset]) rfl ?_
      refine Go.iload X161 hx (pc' := 121) rfl (hb hby at_119) rfl ?_
      refine Go.iconst X161 hx (pc' := 122) rfl (hb hby at_121) (v := (3 : Int32)) rfl ?_
      refine Go.icmpYes X161 hx (pc' := 150) (hb hby at_122) (by decide) (by decide) (by decide) ?_
      refine Go.iconst X161 hx (pc' := 151) rfl (hb hby at_150) (v := (0 : Int32)) rfl ?_
      refine Go.istore X161 hx (pc' := 153) rfl (hb hby at_151) (Ls' := #[.val (.int p0), .val (.int p1), .val (.int p2), .val (.int p3), .val (.int p4), .val (.int p5), .val (.int 5), .val (.int z4_0), .val (.int z5_0), .val (.int z6_0), .val (.int z7_0), .val (.int z8_0), .val (.ref b161_0), .val (.int 0), .val (.int 0), .val (.int 0), .unset]) rfl ?_
      refine Go.iload X161 hx (pc' := 155) rfl (hb hby at_153) rfl ?_
      refine Go.ifNo X161 hx (pc' := 158) rfl (hb hby at_155) (by decide) ?_
      refine Go.iload X161 hx (pc' := 160) rfl (hb hby at_158) rfl ?_
      refine Go.ifNo X161 hx (pc' := 163) rfl (hb hby at_160) (by decide) ?_
      refine Go.iload X161 hx (pc' := 165) rfl (hb hby at_163) rfl ?_
      refine Go.ifYes X161 hx (pc' := 172) (hb hby at_165) (by decide) (by decide) (by decide) ?_
      refine Go.iconst X161 hx (pc' := 173) rfl (hb hby at_172) (v := (0 : Int32)) rfl ?_
      refine Go.istore X161 hx (pc' := 175) rfl (hb hby at_173) (Ls' := #[.val (.int p0), .val (.int p1), .val (.int p2), .val (.int p3), .val (.int p4), .val (.int p5), .val (.int 5), .val (.int z4_0), .val (.int z5_0), .val (.int z6_0), .val (.int z7_0), .val (.int z8_0), .val (.ref b161_0), .val (.int 0), .val (.int 0), .val (.int 0), .val (.int 0)]) rfl ?_
      refine Go.aload X161 hx (pc' := 177) rfl (hb hby at_175) rfl rfl ?_
      have r218 : -128 ≤ z161_0.toInt ∧ z161_0.toInt ≤ 127 := own_ri2b d161_0
      have r219 : -128 ≤ z161_1.toInt ∧ z161_1.toInt ≤ 127 := own_ri2b d161_1
      have r220 : -128 ≤ z161_2.toInt ∧ z161_2.toInt ≤ 127 := own_ri2b d161_2
      have r221 : -128 ≤ z161_3.toInt ∧ z161_3.toInt ≤ 127 := own_ri2b d161_3
      have r222 : -128 ≤ z161_4.toInt ∧ z161_4.toInt ≤ 127 := own_ri2b d161_4
      have Kp224 : Keep h0 h161 [] := ((Keep.refl h0 []).trans K161 all0)
      have Zn223 : n0 ≤ h161.size := Nat.le_trans Z0 Kp224.1
      have O225 := (O0.keep K161 all0)
      have C226 : CHr Z EL0 s.vm s.heap s.vm h161 := (C0.trans (CHr.keep K161 sf0 C0.1))
      have fk227 : Safe Z EL0 s.vm h161 b161_0 := (Safe.keep K161 sf0 C0.1 (Safe.new s161_0 : Safe Z EL0 s.vm h0 b161_0))
      have hk228 := (Nat.le_trans (Nat.le_refl _) K161.1)
      refine Go.callSW X161 hx hZ hown (tw_30 hw) (tw_31 hw) (tw_32 hw) (tw_33 hw) (by decide) (tw_33 hw) (tw_32 hw) (au_112 l Z a0 hw b161_0 b161_1 k161_0 z161_0 z161_1 z161_2 z161_3 z161_4 z4_0 z5_0 z6_0 z7_0 gz1 gv5 h161 n0 Zn223 O225 G F161_0 F161_1 F161_2 F161_3 w4 w5 w6 w7 d161_0 d161_1 d161_2 d161_3) (own_EW hw) C226.1 (allS ⟨F161_0.lt, fk227⟩ all0) hS0 hk228 e161 (argsL := [(.ref b161_0)]) (rest := []) (pc' := 180) rfl (by rw [hml]; rfl) (lenOf pd_7 rfl) rfl rfl (W := 0) (Nat.le_of_eq rfl) (by decide) (by decide) (by decide) (by decide) (hb hby at_177) ?_
      intro v229 T229 L229 h229 e229 q229 C229 S229 Z229 O229 X229
      rcases q229 with ⟨c229_0_0, c229_0_1, c229_0_2, c229_0_3, rfl, N229_0, K229_0⟩ | ⟨c229_1_0, c229_1_1, c229_1_2, c229_1_3, rfl, N229_1, K229_1⟩ | ⟨c229_2_0, c229_2_1, c229_2_2, rfl, N229_2, K229_2⟩ | ⟨c229_3_0, c229_3_1, rfl, N229_3, K229_3⟩ | ⟨c229_4_0, rfl, N229_4, K229_4⟩
      · exact absurd c229_0_0 hc162
      · exact absurd c229_1_0 hc162
      · exact absurd c229_2_0 hc162
      · exact absurd c229_3_0 hc162
      · show Go _ _ _ _ (T229.setTop (mkF m 180 #[.val (.int p0), .val (.int p1), .val (.int p2), .val (.int p3), .val (.int p4), .val (.int p5), .val (.int 5), .val (.int z4_0), .val (.int z5_0), .val (.int z6_0), .val (.int z7_0), .val (.int z8_0), .val (.ref b161_0), .val (.int 0), .val (.int 0), .val (.int 0), .val (.int 0)] [(.int 0)]))
        refine Go.iload X229 hx (pc' := 182) rfl (hb hby at_180) rfl ?_
        refine Go.icmpNo X229 hx (pc' := 185) rfl (hb hby at_182) (by decide) ?_
        refine Go.iconst X229 hx (pc' := 186) rfl (hb hby at_185) (v := (1 : Int32)) rfl ?_
        refine Go.goto X229 hx (pc' := 190) (hb hby at_186) (by decide) (by decide) ?_
        have C230 : CHr Z EL0 s.vm s.heap T229.vm h229 := (C226.trans C229)
        refine Go.retNW X229 hx hlk Z229 (own_EW hw) e229 S229 (Nat.le_refl _) C230 (t := .boolean) hret (by simp) (hb hby at_190) (by decide) (by decide) (fun hat => ?_)
        exact ⟨rfl, (Fr.app (Fr.app (Fr.app (Fr.app (Fr.app (Fr.app (Fr.app (Fr.nil n0) N4) N5) N6) N7) N8) N161) N229_4)⟩
set_option maxRecDepth 65536 in
set_option maxHeartbeats 4000000 in
theorem comes_1 {Post : Tables → Env → Array Value → State → Outcome → State → Prop} (hpost : ∀ tb e args s v u, (limb_1_1.after args s (.returned v) u = true ∧ limb_1_2.after args s (.returned v) u = true ∧ True) → ReturnedEndW s (.returned v) u (Jvm.fieldLocs frame_1_writes args s ++ Jvm.arrayLocs frame_1_arrays args s ++ Jvm.staticLocs frame_1_statics s) 24 3200 → Post tb e args s (.returned v) u) :
    ArmFor flags0 classFile x code maxLocals ret World_1 tables_1 room_1 Calls_1 rest_1 Pre_1 Post := by
  intro l hfl _ _ p e ha hc hk s m args below hf hA hF happ hP
  obtain ⟨hcalls, hrest, hpre⟩ := hP
  obtain ⟨-, -, -, hnamed, -, -, -, hat⟩ := (Spec.applies_iff hf).mp happ
  obtain ⟨hg, hn⟩ := and_e (Cond.before_iff.mp (show (Jvm.Cond.and given_1 narrow_1).before args s = true from hpre))
  obtain ⟨g501, g502⟩ := and_e hg
  obtain ⟨g503, g504⟩ := and_e g502
  obtain ⟨g505, g506⟩ := and_e g504
  obtain ⟨g507, g508⟩ := and_e g506
  obtain ⟨g509, g510⟩ := and_e g508
  obtain ⟨g511, g512⟩ := and_e g510
  obtain ⟨w0, w1, w2, w3, w4, w5, rfl⟩ : ∃ w0 w1 w2 w3 w4 w5 : Value, args = #[w0, w1, w2, w3, w4, w5] := by
    have hs : args.size = 6 := by simpa [Cond.value, given_1] using g501
    obtain ⟨L⟩ := args
    match L, hs with
    | [w0, w1, w2, w3, w4, w5], _ => exact ⟨w0, w1, w2, w3, w4, w5, rfl⟩
  have hw := fun d (hd : d ∈ tables_1) => atoms_spec (ws := Jvm.Cond.code x code maxLocals ret :: tables_1) hat d (List.mem_cons_of_mem _ hd)
  have hfit : Fit s := fun {y c} hc i hi => by
    obtain ⟨ha, rfl⟩ := Array.getElem?_eq_some_iff.mp hc
    have q := List.all_eq_true.mp ((Array.all_eq_true_iff_forall_mem.mp hF) _ (Array.getElem_mem ha)) i (List.mem_range.mpr hi)
    simpa [Array.getElem?_eq_getElem hi] using q
  obtain ⟨i0, ei0⟩ := is_v g503
  obtain rfl : w0 = (.int i0) := Option.some.inj ei0
  obtain ⟨i1, ei1⟩ := is_v g505
  obtain rfl : w1 = (.int i1) := Option.some.inj ei1
  obtain ⟨i2, ei2⟩ := is_v g507
  obtain rfl : w2 = (.int i2) := Option.some.inj ei2
  obtain ⟨i3, ei3⟩ := is_v g509
  obtain rfl : w3 = (.int i3) := Option.some.inj ei3
  obtain ⟨i4, ei4⟩ := is_v g511
  obtain rfl : w4 = (.int i4) := Option.some.inj ei4
  obtain ⟨i5, ei5⟩ := is_v g512
  obtain rfl : w5 = (.int i5) := Option.some.inj ei5
  obtain ⟨hsets, hown0⟩ := atoms_of _ (rest_1_c_eq ▸ (show rest_1_c.before _ s = true from hrest))
  obtain ⟨gz1, ev2⟩ := is_v (Cond.before_iff.mp (hsets _ (List.mem_of_getElem? (i := 1) rfl)))
  have Sx3 : Sta s s.heap "java/lang/String" "COMPACT_STRINGS" "Z" (.int gz1) := Sta.start ev2 (Or.inl (Cond.before_iff.mpr (Cond.before_iff.mp (hsets _ (List.mem_of_getElem? (i := 0) rfl)))))
  have nz4 : ¬ gz1 = (0 : Int32) := gotF (Cond.eq_ints ev2 (Term.int_eval (0))) (not_v (Cond.before_iff.mp (hsets _ (List.mem_of_getElem? (i := 2) rfl))))
  obtain ⟨gv5, ev6, rv7⟩ := isR_v (Cond.before_iff.mp (hsets _ (List.mem_of_getElem? (i := 8) rfl)))
  have Sx8 : Sta s s.heap "jdk/internal/util/Preconditions" "SIOOBE_FORMATTER" "Ljava/util/function/BiFunction;" gv5 := Sta.start ev6 (Or.inl (Cond.before_iff.mpr (Cond.before_iff.mp (hsets _ (List.mem_of_getElem? (i := 7) rfl)))))
  have G : Glob s gz1 gv5 := ⟨Sx3, Sx8, nz4, rv7⟩
  have hCH : CHv s EL0 s.vm s.heap := CHv.start (own_EW hw) (fun p hp => hcalls.1 p hp) (hsets _ (List.mem_of_getElem? (i := 2) rfl)) (tw_23 hw) (tw_9 hw)
  obtain ⟨n, o, h1, h2, h3, _, L, rfl, ⟨rfl, N⟩, hcr, hq⟩ := (rm0 l s _ hw i0 i1 i2 i3 i4 i5 gz1 gv5 s.heap s.heap.size (Nat.le_refl _) (Old.start s) G) tables_1 p e ha hc hk s m _ below hf ((Spec.applies_iff_loose hf).mp happ).1 ⟨rfl, State.Warmed39.refl s, rfl, hCH, fun _ hx => nomatch hx⟩ trivial
  refine ⟨n, _, h1, h2, h3, hpost _ _ _ _ _ _ ⟨Cond.after_iff.mpr rfl, Cond.after_iff.mpr (eq_i res_at (Term.int_eval (1)) rfl), trivial⟩ ⟨hq.1, hq.2.1, hq.2.2.1, (hq.2.2.2.sift fun y hy => Or.inr (N y hy)).mono (by decide) (by decide)⟩⟩
theorem main_1_1 : Claimed_1_1 := comes_1 fun _ _ _ _ _ _ h hF => ⟨h.1, hF⟩
theorem main_1_2 : Claimed_1_2 := comes_1 fun _ _ _ _ _ _ h hF => ⟨h.2.1, hF⟩
end Jvm.Pilot.@@N@@
namespace Jvm.Pilot.@@N@@
open Jvm Jvm.ClassFile Sem Op Lib Jvm.Free Jvm.Stand Jvm.Pilot.@@N@@.Jvm.D
/-! MADE BY PROGRAM (witnessworld.py) out of the Statement's table words and the real class files: 23 classes; the members and pool entries that the words name. The judged class is class 1, her method 3. -/
namespace start1
open Jvm.ClassFile
def u (s : String) : CpInfo := .utf8 (stringToUtf16 s)
/-- a pool by its gaps: so many unusable entries, then the entry; so many at the end -/
def gap : Nat → List CpInfo → List CpInfo
  | 0, r => r
  | n + 1, r => .unusable :: gap n r
def poolList (es : List (Nat × CpInfo)) (last : Nat) : List CpInfo := es.foldr (fun e r => gap e.1 (e.2 :: r)) (gap last [])
def pool (es : List (Nat × CpInfo)) (last : Nat) : Array CpInfo := ⟨poolList es last⟩
def fileOf (pool : Array CpInfo) (this : Nat) (attrs : Array Attribute := #[]) (ms : Array MethodInfo := #[]) (fl : Nat := 33) (sup : Nat := 0) (ifs : Array Nat := #[]) (fds : Array FieldInfo := #[]) : ClassFile where
  minorVersion := 0
  majorVersion := 65
  constantPool := pool
  accessFlags := fl
  thisClass := this
  superClass := sup
  interfaces := ifs
  fields := fds
  methods := ms
  attributes := attrs
def plain (name : String) (sup : Option ClassId) : Class where
  name := name
  kind := .ordinary
  loader := none
  accessFlags := 33
  super := sup
  interfaces := #[]
  cf := none
  fields := #[]
  methods := #[]
  instanceTypes := #[]
  staticTypes := #[]
  resolved := #[]
  callSites := []
  init := .initialized
  statics := none
  mirror := none

def pool0 : Array CpInfo := pool [(5, u "<init>"), (0, u "()V"), (1, .class_ 10), (1, u "java/lang/Object")] 113

def k0c0 : Code := { maxStack := 0, maxLocals := 1, code := object_method_1_code, exceptionTable := #[], attributes := #[] }
def k0m0 : Method := { name := "<init>", desc := "()V", sig := { parameters := [], returnType := none }, accessFlags := 1, code := some k0c0 }
/-- java/lang/Object -/
def k0 : Class := { plain "java/lang/Object" none with
  accessFlags := 33
  interfaces := #[]
  cf := some (fileOf pool0 8 #[] #[{ accessFlags := 1, nameIndex := 5, descriptorIndex := 6, attributes := #[] }] 33 0 #[] #[])
  fields := #[]
  methods := #[k0m0]
  instanceTypes := #[]
  staticTypes := #[]
  resolved := Array.replicate 124 none
  statics := none }

def pool1 : Array CpInfo := pool [(2, .class_ 4), (1, u "java/lang/Object"), (0, u "<init>"), (0, u "()V"), (0, .class_ 8), (0, u "java/lang/String"), (0, .methodref 7 10), (0, .nameAndType 5 11), (0, u "([C)V"), (0, .integer 2147483647), (0, .methodref 14 15), (0, .class_ 16), (0, .nameAndType 17 18), (0, u "com/example/roles_over_datacenter/rolesoverdatacenter/PageServesPinLaw"), (0, u "pick"), (0, u "(I)C"), (0, .methodref 14 20), (0, .nameAndType 21 22), (0, u "make"), (0, u "(ICCCCC)Ljava/lang/String;"), (0, .methodref 24 25), (0, .class_ 26), (0, .nameAndType 27 28), (0, u "com/example/roles_over_datacenter/rolesoverdatacenter/Page"), (0, u "serves"), (0, u "(Ljava/lang/String;)Z"), (3, u "law"), (0, u "(IIIIII)Z")] 2

def k1m0 : Method := { name := "<init>", desc := "()V", sig := { parameters := [], returnType := none }, accessFlags := 1, code := none }
def k1c1 : Code := { maxStack := 2, maxLocals := 2, code := method_2_code, exceptionTable := #[], attributes := #[] }
def k1m1 : Method := { name := "pick", desc := "(I)C", sig := { parameters := [.int], returnType := some .char }, accessFlags := 10, code := some k1c1 }
def k1c2 : Code := { maxStack := 6, maxLocals := 6, code := method_3_code, exceptionTable := #[], attributes := #[] }
def k1m2 : Method := { name := "make", desc := "(ICCCCC)Ljava/lang/String;", sig := { parameters := [.int, .char, .char, .char, .char, .char], returnType := some (.object "java/lang/String") }, accessFlags := 10, code := some k1c2 }
def k1c3 : Code := { maxStack := 6, maxLocals := 17, code := code, exceptionTable := #[], attributes := #[] }
def k1m3 : Method := { name := "law", desc := "(IIIIII)Z", sig := { parameters := [.int, .int, .int, .int, .int, .int], returnType := some .boolean }, accessFlags := 9, code := some k1c3 }
/-- com/example/roles_over_datacenter/rolesoverdatacenter/PageServesPinLaw -/
def k1 : Class := { plain "com/example/roles_over_datacenter/rolesoverdatacenter/PageServesPinLaw" (some 0) with
  accessFlags := 49
  interfaces := #[]
  cf := some (fileOf pool1 14 #[] #[{ accessFlags := 1, nameIndex := 5, descriptorIndex := 6, attributes := #[] }, { accessFlags := 10, nameIndex := 17, descriptorIndex := 18, attributes := #[] }, { accessFlags := 10, nameIndex := 21, descriptorIndex := 22, attributes := #[] }, { accessFlags := 9, nameIndex := 32, descriptorIndex := 33, attributes := #[] }] 49 2 #[] #[])
  fields := #[]
  methods := #[k1m0, k1m1, k1m2, k1m3]
  instanceTypes := #[]
  staticTypes := #[]
  resolved := Array.replicate 36 none
  statics := none }

def pool2 : Array CpInfo := pool [(1, .class_ 2), (0, u "java/io/Serializable"), (0, .class_ 4), (0, u "java/lang/Object")] 2

/-- java/io/Serializable -/
def k2 : Class := { plain "java/io/Serializable" (some 0) with
  accessFlags := 1537
  interfaces := #[]
  cf := some (fileOf pool2 1 #[] #[] 1537 3 #[] #[])
  fields := #[]
  methods := #[]
  instanceTypes := #[]
  staticTypes := #[]
  resolved := Array.replicate 7 none
  statics := none }

def pool3 : Array CpInfo := pool [(1, .class_ 2), (0, u "java/lang/Comparable"), (0, .class_ 4), (0, u "java/lang/Object")] 7

/-- java/lang/Comparable -/
def k3 : Class := { plain "java/lang/Comparable" (some 0) with
  accessFlags := 1537
  interfaces := #[]
  cf := some (fileOf pool3 1 #[] #[] 1537 3 #[] #[])
  fields := #[]
  methods := #[]
  instanceTypes := #[]
  staticTypes := #[]
  resolved := Array.replicate 12 none
  statics := none }

def pool4 : Array CpInfo := pool [(2, .class_ 4), (1, u "java/lang/CharSequence"), (42, .class_ 48), (0, u "java/lang/CharSequence$1CodePointIterator"), (10, .class_ 60), (0, u "java/lang/CharSequence$1CharIterator"), (5, .class_ 67), (0, u "java/lang/Object")] 63

/-- java/lang/CharSequence -/
def k4 : Class := { plain "java/lang/CharSequence" (some 0) with
  accessFlags := 1537
  interfaces := #[]
  cf := some (fileOf pool4 2 #[.nestMembers #[47, 59]] #[] 1537 66 #[] #[])
  fields := #[]
  methods := #[]
  instanceTypes := #[]
  staticTypes := #[]
  resolved := Array.replicate 131 none
  statics := none }

def pool5 : Array CpInfo := pool [(1, .class_ 2), (0, u "java/lang/constant/Constable"), (0, .class_ 4), (0, u "java/lang/Object")] 6

/-- java/lang/constant/Constable -/
def k5 : Class := { plain "java/lang/constant/Constable" (some 0) with
  accessFlags := 1537
  interfaces := #[]
  cf := some (fileOf pool5 1 #[] #[] 1537 3 #[] #[])
  fields := #[]
  methods := #[]
  instanceTypes := #[]
  staticTypes := #[]
  resolved := Array.replicate 11 none
  statics := none }

def pool6 : Array CpInfo := pool [(1, .class_ 2), (0, u "java/lang/constant/ConstantDesc"), (0, .class_ 4), (0, u "java/lang/Object")] 32

/-- java/lang/constant/ConstantDesc -/
def k6 : Class := { plain "java/lang/constant/ConstantDesc" (some 0) with
  accessFlags := 1537
  interfaces := #[]
  cf := some (fileOf pool6 1 #[] #[] 1537 3 #[] #[])
  fields := #[]
  methods := #[]
  instanceTypes := #[]
  staticTypes := #[]
  resolved := Array.replicate 37 none
  statics := none }

def pool7 : Array CpInfo := pool [(1, .methodref 2 3), (0, .class_ 4), (0, .nameAndType 5 6), (0, u "java/lang/Object"), (0, u "<init>"), (0, u "()V"), (0, .string 8), (0, u ""), (0, .fieldref 10 11), (0, .class_ 12), (0, .nameAndType 13 14), (0, u "java/lang/String"), (0, u "value"), (0, u "[B"), (0, .fieldref 10 16), (0, .nameAndType 17 18), (0, u "coder"), (0, u "B"), (2, u "hash"), (0, u "I"), (2, u "hashIsZero"), (0, u "Z"), (0, .methodref 10 28), (0, .nameAndType 5 29), (0, u "([CIILjava/lang/Void;)V"), (8, .fieldref 10 39), (0, .nameAndType 40 26), (0, u "COMPACT_STRINGS"), (1, .class_ 44), (1, u "java/lang/StringUTF16"), (0, u "compress"), (1, .methodref 42 48), (0, .nameAndType 49 50), (0, u "coderFromArrayLen"), (0, u "([BI)B"), (56, .class_ 109), (1, u "java/lang/StringLatin1"), (32, u "()Z"), (34, .methodref 42 178), (0, .nameAndType 45 179), (0, u "([CII)[B"), (31, u "([BB)V"), (122, u "()I"), (0, .methodref 10 336), (0, .nameAndType 17 337), (0, u "()B"), (38, u "([BI[BII)I"), (115, .methodref 10 493), (0, .nameAndType 494 142), (0, u "isLatin1"), (10, .methodref 10 506), (0, .nameAndType 507 334), (0, u "length"), (5, u "checkFromToIndex"), (7, .methodref 10 522), (0, .nameAndType 523 524), (0, u "checkBoundsBeginEnd"), (0, u "(III)V"), (16, .methodref 107 542), (0, .nameAndType 543 544), (0, u "equals"), (0, u "([B[B)Z"), (14, .class_ 561), (1, u "jdk/internal/util/ArraysSupport"), (0, u "mismatch"), (10, u "(Ljava/lang/Object;)Z"), (1, .class_ 576), (0, u "java/lang/CharSequence"), (22, u "CASE_INSENSITIVE_ORDER"), (0, u "Ljava/util/Comparator;"), (6, .methodref 559 608), (0, .nameAndType 562 376), (15, .methodref 10 625), (0, .nameAndType 626 627), (0, u "startsWith"), (0, u "(Ljava/lang/String;I)Z"), (55, u "substring"), (0, u "(II)Ljava/lang/String;"), (0, .methodref 107 686), (0, .nameAndType 687 688), (0, u "newString"), (0, u "([BII)Ljava/lang/String;"), (321, u "([C)V"), (42, .fieldref 1054 1055), (0, .class_ 1056), (0, .nameAndType 1057 1058), (0, u "jdk/internal/util/Preconditions"), (0, u "SIOOBE_FORMATTER"), (0, u "Ljava/util/function/BiFunction;"), (3, .methodref 1054 1063), (0, .nameAndType 513 1064), (0, u "(IIILjava/util/function/BiFunction;)I"), (36, u "serialPersistentFields"), (0, u "[Ljava/io/ObjectStreamField;"), (0, .class_ 1104), (0, u "java/lang/String$CaseInsensitiveComparator"), (1, .class_ 1107), (0, u "java/io/Serializable"), (0, .class_ 1109), (0, u "java/lang/Comparable"), (0, .class_ 1111), (0, u "java/lang/constant/Constable"), (0, .class_ 1113), (0, u "java/lang/constant/ConstantDesc"), (2, u "serialVersionUID"), (0, u "J"), (3, u "REPL"), (0, u "C"), (2, u "LATIN1"), (1, u "UTF16"), (129, u "(Ljava/lang/String;)Z")] 193

def k7m0 : Method := { name := "<init>", desc := "()V", sig := { parameters := [], returnType := none }, accessFlags := 1, code := none }
def k7c1 : Code := { maxStack := 5, maxLocals := 2, code := jdk_42_method_3_code, exceptionTable := #[], attributes := #[] }
def k7m1 : Method := { name := "<init>", desc := "([C)V", sig := { parameters := [(.array .char)], returnType := none }, accessFlags := 1, code := some k7c1 }
def k7c2 : Code := { maxStack := 2, maxLocals := 1, code := jdk_42_method_54_code, exceptionTable := #[], attributes := #[] }
def k7m2 : Method := { name := "length", desc := "()I", sig := { parameters := [], returnType := some .int }, accessFlags := 1, code := some k7c2 }
def k7c3 : Code := { maxStack := 2, maxLocals := 3, code := jdk_42_method_66_code, exceptionTable := #[], attributes := #[] }
def k7m3 : Method := { name := "equals", desc := "(Ljava/lang/Object;)Z", sig := { parameters := [(.object "java/lang/Object")], returnType := some .boolean }, accessFlags := 1, code := some k7c3 }
def k7c4 : Code := { maxStack := 5, maxLocals := 8, code := jdk_42_method_75_code, exceptionTable := #[], attributes := #[] }
def k7m4 : Method := { name := "startsWith", desc := "(Ljava/lang/String;I)Z", sig := { parameters := [(.object "java/lang/String"), .int], returnType := some .boolean }, accessFlags := 1, code := some k7c4 }
def k7c5 : Code := { maxStack := 3, maxLocals := 2, code := jdk_42_method_76_code, exceptionTable := #[], attributes := #[] }
def k7m5 : Method := { name := "startsWith", desc := "(Ljava/lang/String;)Z", sig := { parameters := [(.object "java/lang/String")], returnType := some .boolean }, accessFlags := 1, code := some k7c5 }
def k7c6 : Code := { maxStack := 3, maxLocals := 5, code := jdk_42_method_92_code, exceptionTable := #[], attributes := #[] }
def k7m6 : Method := { name := "substring", desc := "(II)Ljava/lang/String;", sig := { parameters := [.int, .int], returnType := some (.object "java/lang/String") }, accessFlags := 1, code := some k7c6 }
def k7c7 : Code := { maxStack := 4, maxLocals := 6, code := jdk_42_method_149_code, exceptionTable := #[], attributes := #[] }
def k7m7 : Method := { name := "<init>", desc := "([CIILjava/lang/Void;)V", sig := { parameters := [(.array .char), .int, .int, (.object "java/lang/Void")], returnType := none }, accessFlags := 2, code := some k7c7 }
def k7c8 : Code := { maxStack := 2, maxLocals := 3, code := jdk_42_method_151_code, exceptionTable := #[], attributes := #[] }
def k7m8 : Method := { name := "<init>", desc := "([BB)V", sig := { parameters := [(.array .byte), .byte], returnType := none }, accessFlags := 0, code := some k7c8 }
def k7c9 : Code := { maxStack := 1, maxLocals := 1, code := jdk_42_method_152_code, exceptionTable := #[], attributes := #[] }
def k7m9 : Method := { name := "coder", desc := "()B", sig := { parameters := [], returnType := some .byte }, accessFlags := 0, code := some k7c9 }
def k7c10 : Code := { maxStack := 1, maxLocals := 1, code := jdk_42_method_154_code, exceptionTable := #[], attributes := #[] }
def k7m10 : Method := { name := "isLatin1", desc := "()Z", sig := { parameters := [], returnType := some .boolean }, accessFlags := 0, code := some k7c10 }
def k7c11 : Code := { maxStack := 4, maxLocals := 3, code := jdk_42_method_158_code, exceptionTable := #[], attributes := #[] }
def k7m11 : Method := { name := "checkBoundsBeginEnd", desc := "(III)V", sig := { parameters := [.int, .int, .int], returnType := none }, accessFlags := 8, code := some k7c11 }
/-- java/lang/String -/
def k7 : Class := { plain "java/lang/String" (some 0) with
  accessFlags := 49
  interfaces := #[2, 3, 4, 5, 6]
  cf := some (fileOf pool7 10 #[.nestMembers #[1103]] #[{ accessFlags := 1, nameIndex := 5, descriptorIndex := 6, attributes := #[] }, { accessFlags := 1, nameIndex := 5, descriptorIndex := 1010, attributes := #[] }, { accessFlags := 1, nameIndex := 507, descriptorIndex := 334, attributes := #[] }, { accessFlags := 1, nameIndex := 543, descriptorIndex := 573, attributes := #[] }, { accessFlags := 1, nameIndex := 626, descriptorIndex := 627, attributes := #[] }, { accessFlags := 1, nameIndex := 626, descriptorIndex := 1257, attributes := #[] }, { accessFlags := 1, nameIndex := 683, descriptorIndex := 684, attributes := #[] }, { accessFlags := 2, nameIndex := 5, descriptorIndex := 29, attributes := #[] }, { accessFlags := 0, nameIndex := 5, descriptorIndex := 211, attributes := #[] }, { accessFlags := 0, nameIndex := 17, descriptorIndex := 337, attributes := #[] }, { accessFlags := 0, nameIndex := 494, descriptorIndex := 142, attributes := #[] }, { accessFlags := 8, nameIndex := 523, descriptorIndex := 524, attributes := #[] }] 49 2 #[1106, 1108, 575, 1110, 1112] #[{ accessFlags := 18, nameIndex := 13, descriptorIndex := 14, attributes := #[] }, { accessFlags := 18, nameIndex := 17, descriptorIndex := 18, attributes := #[] }, { accessFlags := 2, nameIndex := 21, descriptorIndex := 22, attributes := #[] }, { accessFlags := 2, nameIndex := 25, descriptorIndex := 26, attributes := #[] }, { accessFlags := 26, nameIndex := 1116, descriptorIndex := 1117, attributes := #[] }, { accessFlags := 24, nameIndex := 40, descriptorIndex := 26, attributes := #[] }, { accessFlags := 26, nameIndex := 1101, descriptorIndex := 1102, attributes := #[] }, { accessFlags := 26, nameIndex := 1121, descriptorIndex := 1122, attributes := #[] }, { accessFlags := 25, nameIndex := 599, descriptorIndex := 600, attributes := #[] }, { accessFlags := 24, nameIndex := 1125, descriptorIndex := 18, attributes := #[] }, { accessFlags := 24, nameIndex := 1127, descriptorIndex := 18, attributes := #[] }])
  fields := #[{ name := "value", type := (.array .byte), accessFlags := 18, slot := 0, constantValue := 0 }, { name := "coder", type := .byte, accessFlags := 18, slot := 1, constantValue := 0 }, { name := "hash", type := .int, accessFlags := 2, slot := 2, constantValue := 0 }, { name := "hashIsZero", type := .boolean, accessFlags := 2, slot := 3, constantValue := 0 }, { name := "serialVersionUID", type := .long, accessFlags := 26, slot := 0, constantValue := 0 }, { name := "COMPACT_STRINGS", type := .boolean, accessFlags := 24, slot := 1, constantValue := 0 }, { name := "serialPersistentFields", type := (.array (.object "java/io/ObjectStreamField")), accessFlags := 26, slot := 2, constantValue := 0 }, { name := "REPL", type := .char, accessFlags := 26, slot := 3, constantValue := 0 }, { name := "CASE_INSENSITIVE_ORDER", type := (.object "java/util/Comparator"), accessFlags := 25, slot := 4, constantValue := 0 }, { name := "LATIN1", type := .byte, accessFlags := 24, slot := 5, constantValue := 0 }, { name := "UTF16", type := .byte, accessFlags := 24, slot := 6, constantValue := 0 }]
  methods := #[k7m0, k7m1, k7m2, k7m3, k7m4, k7m5, k7m6, k7m7, k7m8, k7m9, k7m10, k7m11]
  instanceTypes := #[(.array .byte), .byte, .int, .boolean]
  staticTypes := #[.long, .boolean, (.array (.object "java/io/ObjectStreamField")), .char, (.object "java/util/Comparator"), .byte, .byte]
  resolved := Array.replicate 1451 none
  statics := some 0 }

def pool8 : Array CpInfo := pool [(2, .class_ 4), (1, u "java/lang/Object"), (3, .class_ 10), (1, u "com/example/roles_over_datacenter/rolesoverdatacenter/Page"), (0, u "files"), (0, u "Ljava/util/Map;"), (2, u "FILE_NAMES"), (0, u "Ljava/util/List;"), (32, .string 50), (0, u "/ui/"), (0, .methodref 52 53), (0, .class_ 54), (0, .nameAndType 55 56), (0, u "java/lang/String"), (0, u "startsWith"), (0, u "(Ljava/lang/String;)Z"), (0, .methodref 8 58), (0, .nameAndType 59 56), (0, u "redirects"), (0, .string 61), (0, u "/"), (0, .methodref 52 63), (0, .nameAndType 64 65), (0, u "equals"), (0, u "(Ljava/lang/Object;)Z"), (0, .methodref 52 67), (0, .nameAndType 68 69), (0, u "length"), (0, u "()I"), (0, .methodref 52 71), (0, .nameAndType 72 73), (0, u "substring"), (0, u "(II)Ljava/lang/String;"), (19, .class_ 94), (0, u "com/example/roles_over_datacenter/rolesoverdatacenter/Page$File"), (49, u "CONTENT_TYPES"), (26, u "PATH"), (0, u "Ljava/lang/String;"), (1, u "RESOURCES"), (0, u "PAGE_FILE"), (9, u "serves")] 44

def k8c0 : Code := { maxStack := 2, maxLocals := 1, code := prog_11_method_3_code, exceptionTable := #[], attributes := #[] }
def k8m0 : Method := { name := "serves", desc := "(Ljava/lang/String;)Z", sig := { parameters := [(.object "java/lang/String")], returnType := some .boolean }, accessFlags := 8, code := some k8c0 }
def k8c1 : Code := { maxStack := 5, maxLocals := 1, code := prog_11_method_4_code, exceptionTable := #[], attributes := #[] }
def k8m1 : Method := { name := "redirects", desc := "(Ljava/lang/String;)Z", sig := { parameters := [(.object "java/lang/String")], returnType := some .boolean }, accessFlags := 8, code := some k8c1 }
/-- com/example/roles_over_datacenter/rolesoverdatacenter/Page -/
def k8 : Class := { plain "com/example/roles_over_datacenter/rolesoverdatacenter/Page" (some 0) with
  accessFlags := 48
  interfaces := #[]
  cf := some (fileOf pool8 8 #[.nestMembers #[93]] #[{ accessFlags := 8, nameIndex := 185, descriptorIndex := 56, attributes := #[] }, { accessFlags := 8, nameIndex := 59, descriptorIndex := 56, attributes := #[] }] 48 2 #[] #[{ accessFlags := 24, nameIndex := 171, descriptorIndex := 172, attributes := #[] }, { accessFlags := 26, nameIndex := 174, descriptorIndex := 172, attributes := #[] }, { accessFlags := 26, nameIndex := 175, descriptorIndex := 172, attributes := #[] }, { accessFlags := 26, nameIndex := 15, descriptorIndex := 16, attributes := #[] }, { accessFlags := 26, nameIndex := 144, descriptorIndex := 12, attributes := #[] }, { accessFlags := 18, nameIndex := 11, descriptorIndex := 12, attributes := #[] }])
  fields := #[{ name := "PATH", type := (.object "java/lang/String"), accessFlags := 24, slot := 0, constantValue := 0 }, { name := "RESOURCES", type := (.object "java/lang/String"), accessFlags := 26, slot := 1, constantValue := 0 }, { name := "PAGE_FILE", type := (.object "java/lang/String"), accessFlags := 26, slot := 2, constantValue := 0 }, { name := "FILE_NAMES", type := (.object "java/util/List"), accessFlags := 26, slot := 3, constantValue := 0 }, { name := "CONTENT_TYPES", type := (.object "java/util/Map"), accessFlags := 26, slot := 4, constantValue := 0 }, { name := "files", type := (.object "java/util/Map"), accessFlags := 18, slot := 0, constantValue := 0 }]
  methods := #[k8m0, k8m1]
  instanceTypes := #[(.object "java/util/Map")]
  staticTypes := #[(.object "java/lang/String"), (.object "java/lang/String"), (.object "java/lang/String"), (.object "java/util/List"), (.object "java/util/Map")]
  resolved := Array.replicate 230 none
  statics := none }

def pool9 : Array CpInfo := pool [(1, .class_ 2), (0, u "java/lang/String"), (1, .class_ 6), (1, u "java/lang/Object"), (0, u "<init>"), (0, u "()V"), (5, .class_ 16), (1, u "java/lang/StringLatin1"), (95, .methodref 1 113), (0, .nameAndType 7 114), (0, u "([BB)V"), (6, u "$assertionsDisabled"), (0, u "Z"), (8, .class_ 133), (1, u "java/util/Arrays"), (62, u "newString"), (0, u "([BII)Ljava/lang/String;"), (23, .class_ 223), (1, u "java/lang/StringLatin1$LinesSpliterator"), (8, .methodref 131 233), (0, .nameAndType 234 235), (0, u "copyOfRange"), (0, u "([BII)[B"), (45, u "equals"), (0, u "([B[B)Z"), (107, .class_ 391), (0, u "java/lang/StringLatin1$CharsSpliterator")] 3

def k9m0 : Method := { name := "<init>", desc := "()V", sig := { parameters := [], returnType := none }, accessFlags := 0, code := none }
def k9c1 : Code := { maxStack := 3, maxLocals := 3, code := jdk_43_method_13_code, exceptionTable := #[], attributes := #[] }
def k9m1 : Method := { name := "equals", desc := "([B[B)Z", sig := { parameters := [(.array .byte), (.array .byte)], returnType := some .boolean }, accessFlags := 9, code := some k9c1 }
def k9c2 : Code := { maxStack := 6, maxLocals := 3, code := jdk_43_method_47_code, exceptionTable := #[], attributes := #[] }
def k9m2 : Method := { name := "newString", desc := "([BII)Ljava/lang/String;", sig := { parameters := [(.array .byte), .int, .int], returnType := some (.object "java/lang/String") }, accessFlags := 9, code := some k9c2 }
/-- java/lang/StringLatin1 -/
def k9 : Class := { plain "java/lang/StringLatin1" (some 0) with
  accessFlags := 48
  interfaces := #[]
  cf := some (fileOf pool9 14 #[.nestMembers #[390, 221]] #[{ accessFlags := 0, nameIndex := 7, descriptorIndex := 8, attributes := #[] }, { accessFlags := 9, nameIndex := 281, descriptorIndex := 282, attributes := #[] }, { accessFlags := 9, nameIndex := 196, descriptorIndex := 197, attributes := #[] }] 48 4 #[] #[{ accessFlags := 4120, nameIndex := 121, descriptorIndex := 122, attributes := #[] }])
  fields := #[{ name := "$assertionsDisabled", type := .boolean, accessFlags := 4120, slot := 0, constantValue := 0 }]
  methods := #[k9m0, k9m1, k9m2]
  instanceTypes := #[]
  staticTypes := #[.boolean]
  resolved := Array.replicate 395 none
  statics := none }

def pool10 : Array CpInfo := pool [(2, .class_ 4), (1, u "java/lang/Object"), (0, u "<init>"), (0, u "()V"), (17, .class_ 26), (1, u "jdk/internal/util/Preconditions"), (20, u "checkFromToIndex"), (7, .class_ 56), (0, u "jdk/internal/util/Preconditions$4"), (57, .class_ 115), (0, u "jdk/internal/util/Preconditions$1"), (7, u "SIOOBE_FORMATTER"), (0, u "Ljava/util/function/BiFunction;"), (0, .class_ 126), (0, u "jdk/internal/util/Preconditions$2"), (3, u "AIOOBE_FORMATTER"), (0, .class_ 132), (0, u "jdk/internal/util/Preconditions$3"), (3, u "IOOBE_FORMATTER"), (46, u "(IIILjava/util/function/BiFunction;)I")] 10

def k10m0 : Method := { name := "<init>", desc := "()V", sig := { parameters := [], returnType := none }, accessFlags := 1, code := none }
def k10c1 : Code := { maxStack := 4, maxLocals := 4, code := jdk_41_method_12_code, exceptionTable := #[], attributes := #[] }
def k10m1 : Method := { name := "checkFromToIndex", desc := "(IIILjava/util/function/BiFunction;)I", sig := { parameters := [.int, .int, .int, (.object "java/util/function/BiFunction")], returnType := some .int }, accessFlags := 9, code := some k10c1 }
/-- jdk/internal/util/Preconditions -/
def k10 : Class := { plain "jdk/internal/util/Preconditions" (some 0) with
  accessFlags := 33
  interfaces := #[]
  cf := some (fileOf pool10 24 #[.nestMembers #[55, 131, 125, 114]] #[{ accessFlags := 1, nameIndex := 5, descriptorIndex := 6, attributes := #[] }, { accessFlags := 9, nameIndex := 47, descriptorIndex := 183, attributes := #[] }] 33 2 #[] #[{ accessFlags := 25, nameIndex := 123, descriptorIndex := 124, attributes := #[] }, { accessFlags := 25, nameIndex := 130, descriptorIndex := 124, attributes := #[] }, { accessFlags := 25, nameIndex := 136, descriptorIndex := 124, attributes := #[] }])
  fields := #[{ name := "SIOOBE_FORMATTER", type := (.object "java/util/function/BiFunction"), accessFlags := 25, slot := 0, constantValue := 0 }, { name := "AIOOBE_FORMATTER", type := (.object "java/util/function/BiFunction"), accessFlags := 25, slot := 1, constantValue := 0 }, { name := "IOOBE_FORMATTER", type := (.object "java/util/function/BiFunction"), accessFlags := 25, slot := 2, constantValue := 0 }]
  methods := #[k10m0, k10m1]
  instanceTypes := #[]
  staticTypes := #[(.object "java/util/function/BiFunction"), (.object "java/util/function/BiFunction"), (.object "java/util/function/BiFunction")]
  resolved := Array.replicate 194 none
  statics := some 1 }

def pool11 : Array CpInfo := pool [(2, .class_ 4), (1, u "java/lang/Object"), (0, u "<init>"), (0, u "()V"), (7, .class_ 16), (1, u "java/util/Arrays"), (57, .class_ 76), (1, u "java/util/Arrays$NaturalOrder"), (36, .class_ 115), (1, u "java/util/Arrays$LegacyMergeSort"), (1, u "Z"), (21, u "copyOfRange"), (10, .methodref 151 152), (0, .class_ 153), (0, .nameAndType 154 155), (0, u "java/lang/System"), (0, u "arraycopy"), (0, u "(Ljava/lang/Object;ILjava/lang/Object;II)V"), (148, .methodref 305 306), (0, .class_ 307), (0, .nameAndType 308 309), (0, u "java/lang/Math"), (0, u "min"), (0, u "(II)I"), (29, .methodref 14 340), (0, .nameAndType 341 342), (0, u "copyOfRangeByte"), (0, u "([BII)[B"), (0, .methodref 14 344), (0, .nameAndType 345 346), (0, u "checkLength"), (0, u "(II)V"), (28, .class_ 376), (0, u "java/util/Arrays$ArrayList"), (68, u "$assertionsDisabled"), (269, u "MIN_ARRAY_SORT_GRAN"), (0, u "I"), (2, u "INSERTIONSORT_THRESHOLD"), (255, .class_ 976), (0, u "java/util/Arrays$ArrayItr")] 52

def k11m0 : Method := { name := "<init>", desc := "()V", sig := { parameters := [], returnType := none }, accessFlags := 2, code := none }
def k11c1 : Code := { maxStack := 4, maxLocals := 2, code := jdk_65_method_131_code, exceptionTable := #[], attributes := #[] }
def k11m1 : Method := { name := "checkLength", desc := "(II)V", sig := { parameters := [.int, .int], returnType := none }, accessFlags := 10, code := some k11c1 }
def k11c2 : Code := { maxStack := 3, maxLocals := 3, code := jdk_65_method_132_code, exceptionTable := #[], attributes := #[] }
def k11m2 : Method := { name := "copyOfRange", desc := "([BII)[B", sig := { parameters := [(.array .byte), .int, .int], returnType := some (.array .byte) }, accessFlags := 9, code := some k11c2 }
def k11c3 : Code := { maxStack := 6, maxLocals := 5, code := jdk_65_method_133_code, exceptionTable := #[], attributes := #[] }
def k11m3 : Method := { name := "copyOfRangeByte", desc := "([BII)[B", sig := { parameters := [(.array .byte), .int, .int], returnType := some (.array .byte) }, accessFlags := 10, code := some k11c3 }
/-- java/util/Arrays -/
def k11 : Class := { plain "java/util/Arrays" (some 0) with
  accessFlags := 49
  interfaces := #[]
  cf := some (fileOf pool11 14 #[.nestMembers #[975, 375, 113, 74]] #[{ accessFlags := 2, nameIndex := 5, descriptorIndex := 6, attributes := #[] }, { accessFlags := 10, nameIndex := 345, descriptorIndex := 346, attributes := #[] }, { accessFlags := 9, nameIndex := 139, descriptorIndex := 342, attributes := #[] }, { accessFlags := 10, nameIndex := 341, descriptorIndex := 342, attributes := #[] }] 49 2 #[] #[{ accessFlags := 26, nameIndex := 715, descriptorIndex := 716, attributes := #[] }, { accessFlags := 26, nameIndex := 719, descriptorIndex := 716, attributes := #[] }, { accessFlags := 4120, nameIndex := 445, descriptorIndex := 117, attributes := #[] }])
  fields := #[{ name := "MIN_ARRAY_SORT_GRAN", type := .int, accessFlags := 26, slot := 0, constantValue := 0 }, { name := "INSERTIONSORT_THRESHOLD", type := .int, accessFlags := 26, slot := 1, constantValue := 0 }, { name := "$assertionsDisabled", type := .boolean, accessFlags := 4120, slot := 2, constantValue := 0 }]
  methods := #[k11m0, k11m1, k11m2, k11m3]
  instanceTypes := #[]
  staticTypes := #[.int, .int, .boolean]
  resolved := Array.replicate 1029 none
  statics := none }

def pool12 : Array CpInfo := pool [(1, .class_ 2), (0, u "java/lang/Math"), (1, .class_ 6), (1, u "java/lang/Object"), (0, u "<init>"), (0, u "()V"), (89, .class_ 100), (1, u "java/lang/Math$RandomNumberGeneratorHolder"), (71, u "negativeZeroFloatBits"), (0, u "J"), (2, u "negativeZeroDoubleBits"), (24, u "min"), (43, u "$assertionsDisabled"), (0, u "Z"), (88, u "(II)I"), (2, u "twoToTheDoubleScaleDown"), (0, u "D"), (4, u "twoToTheDoubleScaleUp"), (9, u "E"), (3, u "PI"), (2, u "TAU"), (2, u "DEGREES_TO_RADIANS"), (0, u "RADIANS_TO_DEGREES")] 94

def k12m0 : Method := { name := "<init>", desc := "()V", sig := { parameters := [], returnType := none }, accessFlags := 2, code := none }
def k12c1 : Code := { maxStack := 2, maxLocals := 2, code := jdk_29_method_69_code, exceptionTable := #[], attributes := #[] }
def k12m1 : Method := { name := "min", desc := "(II)I", sig := { parameters := [.int, .int], returnType := some .int }, accessFlags := 9, code := some k12c1 }
/-- java/lang/Math -/
def k12 : Class := { plain "java/lang/Math" (some 0) with
  accessFlags := 49
  interfaces := #[]
  cf := some (fileOf pool12 1 #[.nestMembers #[98]] #[{ accessFlags := 2, nameIndex := 7, descriptorIndex := 8, attributes := #[] }, { accessFlags := 9, nameIndex := 201, descriptorIndex := 335, attributes := #[] }] 49 4 #[] #[{ accessFlags := 25, nameIndex := 354, descriptorIndex := 339, attributes := #[] }, { accessFlags := 25, nameIndex := 358, descriptorIndex := 339, attributes := #[] }, { accessFlags := 25, nameIndex := 361, descriptorIndex := 339, attributes := #[] }, { accessFlags := 26, nameIndex := 364, descriptorIndex := 339, attributes := #[] }, { accessFlags := 26, nameIndex := 365, descriptorIndex := 339, attributes := #[] }, { accessFlags := 26, nameIndex := 172, descriptorIndex := 173, attributes := #[] }, { accessFlags := 26, nameIndex := 176, descriptorIndex := 173, attributes := #[] }, { accessFlags := 8, nameIndex := 344, descriptorIndex := 339, attributes := #[] }, { accessFlags := 8, nameIndex := 338, descriptorIndex := 339, attributes := #[] }, { accessFlags := 4120, nameIndex := 245, descriptorIndex := 246, attributes := #[] }])
  fields := #[{ name := "E", type := .double, accessFlags := 25, slot := 0, constantValue := 0 }, { name := "PI", type := .double, accessFlags := 25, slot := 1, constantValue := 0 }, { name := "TAU", type := .double, accessFlags := 25, slot := 2, constantValue := 0 }, { name := "DEGREES_TO_RADIANS", type := .double, accessFlags := 26, slot := 3, constantValue := 0 }, { name := "RADIANS_TO_DEGREES", type := .double, accessFlags := 26, slot := 4, constantValue := 0 }, { name := "negativeZeroFloatBits", type := .long, accessFlags := 26, slot := 5, constantValue := 0 }, { name := "negativeZeroDoubleBits", type := .long, accessFlags := 26, slot := 6, constantValue := 0 }, { name := "twoToTheDoubleScaleUp", type := .double, accessFlags := 8, slot := 7, constantValue := 0 }, { name := "twoToTheDoubleScaleDown", type := .double, accessFlags := 8, slot := 8, constantValue := 0 }, { name := "$assertionsDisabled", type := .boolean, accessFlags := 4120, slot := 9, constantValue := 0 }]
  methods := #[k12m0, k12m1]
  instanceTypes := #[]
  staticTypes := #[.double, .double, .double, .double, .double, .long, .long, .double, .double, .boolean]
  resolved := Array.replicate 460 none
  statics := none }

def pool13 : Array CpInfo := pool [(2, .class_ 4), (1, u "java/lang/Object"), (0, u "<init>"), (0, u "()V"), (1, .class_ 10), (1, u "java/lang/System"), (0, u "allowSecurityManager"), (0, u "I"), (16, u "cons"), (0, u "Ljava/io/Console;"), (77, .class_ 110), (1, u "java/lang/System$CallersHolder"), (43, u "initialErrStream"), (0, u "Ljava/io/PrintStream;"), (19, u "security"), (0, u "Ljava/lang/SecurityManager;"), (31, .class_ 209), (0, u "java/lang/System$1"), (7, u "props"), (0, u "Ljava/util/Properties;"), (2, u "lineSeparator"), (0, u "Ljava/lang/String;"), (96, .class_ 321), (1, u "java/lang/System$LoggerFinder"), (5, .class_ 328), (0, u "java/lang/System$Logger"), (67, u "err"), (2, u "out"), (91, u "notSupportedJnuEncoding"), (15, u "in"), (17, u "initialIn"), (0, u "Ljava/io/InputStream;"), (35, u "bootLayer"), (0, u "Ljava/lang/ModuleLayer;"), (99, .class_ 664), (0, u "java/lang/System$2"), (9, u "NEVER"), (2, u "MAYBE"), (49, u "arraycopy"), (0, u "(Ljava/lang/Object;ILjava/lang/Object;II)V"), (72, .class_ 802), (0, u "java/lang/System$Logger$Level")] 31

def k13m0 : Method := { name := "<init>", desc := "()V", sig := { parameters := [], returnType := none }, accessFlags := 2, code := none }
def k13m1 : Method := { name := "arraycopy", desc := "(Ljava/lang/Object;ILjava/lang/Object;II)V", sig := { parameters := [(.object "java/lang/Object"), .int, (.object "java/lang/Object"), .int, .int], returnType := none }, accessFlags := 265, code := none }
/-- java/lang/System -/
def k13 : Class := { plain "java/lang/System" (some 0) with
  accessFlags := 49
  interfaces := #[]
  cf := some (fileOf pool13 8 #[.nestMembers #[319, 327, 801, 108, 663, 208]] #[{ accessFlags := 2, nameIndex := 5, descriptorIndex := 6, attributes := #[] }, { accessFlags := 265, nameIndex := 727, descriptorIndex := 728, attributes := #[] }] 49 2 #[] #[{ accessFlags := 25, nameIndex := 507, descriptorIndex := 526, attributes := #[] }, { accessFlags := 25, nameIndex := 399, descriptorIndex := 155, attributes := #[] }, { accessFlags := 25, nameIndex := 396, descriptorIndex := 155, attributes := #[] }, { accessFlags := 10, nameIndex := 525, descriptorIndex := 526, attributes := #[] }, { accessFlags := 26, nameIndex := 674, descriptorIndex := 12, attributes := #[] }, { accessFlags := 26, nameIndex := 677, descriptorIndex := 12, attributes := #[] }, { accessFlags := 10, nameIndex := 11, descriptorIndex := 12, attributes := #[] }, { accessFlags := 74, nameIndex := 175, descriptorIndex := 176, attributes := #[] }, { accessFlags := 10, nameIndex := 491, descriptorIndex := 222, attributes := #[] }, { accessFlags := 74, nameIndex := 29, descriptorIndex := 30, attributes := #[] }, { accessFlags := 74, nameIndex := 154, descriptorIndex := 155, attributes := #[] }, { accessFlags := 10, nameIndex := 217, descriptorIndex := 218, attributes := #[] }, { accessFlags := 10, nameIndex := 221, descriptorIndex := 222, attributes := #[] }, { accessFlags := 8, nameIndex := 562, descriptorIndex := 563, attributes := #[] }])
  fields := #[{ name := "in", type := (.object "java/io/InputStream"), accessFlags := 25, slot := 0, constantValue := 0 }, { name := "out", type := (.object "java/io/PrintStream"), accessFlags := 25, slot := 1, constantValue := 0 }, { name := "err", type := (.object "java/io/PrintStream"), accessFlags := 25, slot := 2, constantValue := 0 }, { name := "initialIn", type := (.object "java/io/InputStream"), accessFlags := 10, slot := 3, constantValue := 0 }, { name := "NEVER", type := .int, accessFlags := 26, slot := 4, constantValue := 0 }, { name := "MAYBE", type := .int, accessFlags := 26, slot := 5, constantValue := 0 }, { name := "allowSecurityManager", type := .int, accessFlags := 10, slot := 6, constantValue := 0 }, { name := "security", type := (.object "java/lang/SecurityManager"), accessFlags := 74, slot := 7, constantValue := 0 }, { name := "notSupportedJnuEncoding", type := (.object "java/lang/String"), accessFlags := 10, slot := 8, constantValue := 0 }, { name := "cons", type := (.object "java/io/Console"), accessFlags := 74, slot := 9, constantValue := 0 }, { name := "initialErrStream", type := (.object "java/io/PrintStream"), accessFlags := 74, slot := 10, constantValue := 0 }, { name := "props", type := (.object "java/util/Properties"), accessFlags := 10, slot := 11, constantValue := 0 }, { name := "lineSeparator", type := (.object "java/lang/String"), accessFlags := 10, slot := 12, constantValue := 0 }, { name := "bootLayer", type := (.object "java/lang/ModuleLayer"), accessFlags := 8, slot := 13, constantValue := 0 }]
  methods := #[k13m0, k13m1]
  instanceTypes := #[]
  staticTypes := #[(.object "java/io/InputStream"), (.object "java/io/PrintStream"), (.object "java/io/PrintStream"), (.object "java/io/InputStream"), .int, .int, .int, (.object "java/lang/SecurityManager"), (.object "java/lang/String"), (.object "java/io/Console"), (.object "java/io/PrintStream"), (.object "java/util/Properties"), (.object "java/lang/String"), (.object "java/lang/ModuleLayer")]
  resolved := Array.replicate 834 none
  statics := none }

def pool14 : Array CpInfo := pool [(6, .class_ 8), (1, u "java/lang/Object"), (0, u "<init>"), (0, u "()V"), (1, .class_ 14), (1, u "java/lang/StringUTF16"), (31, u "$assertionsDisabled"), (0, u "Z"), (13, u "HI_BYTE_SHIFT"), (0, u "I"), (2, u "LO_BYTE_SHIFT"), (49, .methodref 12 116), (0, .nameAndType 117 118), (0, u "compress"), (0, u "([CI[BII)I"), (3, u "([CII)[B"), (138, u "coderFromArrayLen"), (0, u "([BI)B"), (106, .class_ 371), (1, u "java/lang/StringUTF16$LinesSpliterator"), (58, u "MAX_LENGTH"), (196, .class_ 628), (0, u "java/lang/StringUTF16$CodePointsSpliterator"), (0, .class_ 630), (0, u "java/lang/StringUTF16$CharsSpliterator")] 4

def k14m0 : Method := { name := "<init>", desc := "()V", sig := { parameters := [], returnType := none }, accessFlags := 0, code := none }
def k14c1 : Code := { maxStack := 2, maxLocals := 2, code := jdk_52_method_15_code, exceptionTable := #[], attributes := #[] }
def k14m1 : Method := { name := "coderFromArrayLen", desc := "([BI)B", sig := { parameters := [(.array .byte), .int], returnType := some .byte }, accessFlags := 8, code := some k14c1 }
def k14c2 : Code := { maxStack := 5, maxLocals := 6, code := jdk_52_method_16_code, exceptionTable := #[], attributes := #[] }
def k14m2 : Method := { name := "compress", desc := "([CII)[B", sig := { parameters := [(.array .char), .int, .int], returnType := some (.array .byte) }, accessFlags := 9, code := some k14c2 }
def k14c3 : Code := { maxStack := 3, maxLocals := 7, code := jdk_52_method_21_code, exceptionTable := #[], attributes := #[] }
def k14m3 : Method := { name := "compress", desc := "([CI[BII)I", sig := { parameters := [(.array .char), .int, (.array .byte), .int, .int], returnType := some .int }, accessFlags := 9, code := some k14c3 }
/-- java/lang/StringUTF16 -/
def k14 : Class := { plain "java/lang/StringUTF16" (some 0) with
  accessFlags := 48
  interfaces := #[]
  cf := some (fileOf pool14 12 #[.nestMembers #[627, 629, 369]] #[{ accessFlags := 0, nameIndex := 9, descriptorIndex := 10, attributes := #[] }, { accessFlags := 8, nameIndex := 261, descriptorIndex := 262, attributes := #[] }, { accessFlags := 9, nameIndex := 117, descriptorIndex := 122, attributes := #[] }, { accessFlags := 9, nameIndex := 117, descriptorIndex := 118, attributes := #[] }] 48 6 #[] #[{ accessFlags := 26, nameIndex := 61, descriptorIndex := 62, attributes := #[] }, { accessFlags := 26, nameIndex := 65, descriptorIndex := 62, attributes := #[] }, { accessFlags := 24, nameIndex := 430, descriptorIndex := 62, attributes := #[] }, { accessFlags := 4120, nameIndex := 46, descriptorIndex := 47, attributes := #[] }])
  fields := #[{ name := "HI_BYTE_SHIFT", type := .int, accessFlags := 26, slot := 0, constantValue := 0 }, { name := "LO_BYTE_SHIFT", type := .int, accessFlags := 26, slot := 1, constantValue := 0 }, { name := "MAX_LENGTH", type := .int, accessFlags := 24, slot := 2, constantValue := 0 }, { name := "$assertionsDisabled", type := .boolean, accessFlags := 4120, slot := 3, constantValue := 0 }]
  methods := #[k14m0, k14m1, k14m2, k14m3]
  instanceTypes := #[]
  staticTypes := #[.int, .int, .int, .boolean]
  resolved := Array.replicate 635 none
  statics := none }

def pool15 : Array CpInfo := pool [(9, u "<init>"), (6, .class_ 18), (1, u "java/lang/Object"), (0, u "()V"), (1, .class_ 23), (1, u "jdk/internal/util/ArraysSupport"), (0, u "LOG2_ARRAY_LONG_INDEX_SCALE"), (0, u "I"), (2, u "U"), (0, u "Ljdk/internal/misc/Unsafe;"), (8, u "BIG_ENDIAN"), (0, u "Z"), (8, u "LOG2_BYTE_BIT_SIZE"), (4, u "LOG2_ARRAY_INT_INDEX_SCALE"), (54, u "JLA"), (0, u "Ljdk/internal/access/JavaLangAccess;"), (11, u "LOG2_ARRAY_BOOLEAN_INDEX_SCALE"), (9, u "LOG2_ARRAY_BYTE_INDEX_SCALE"), (5, u "LOG2_ARRAY_CHAR_INDEX_SCALE"), (5, u "LOG2_ARRAY_SHORT_INDEX_SCALE"), (5, u "mismatch"), (12, u "LOG2_ARRAY_FLOAT_INDEX_SCALE"), (24, u "LOG2_ARRAY_DOUBLE_INDEX_SCALE"), (89, u "T_BOOLEAN"), (2, u "T_CHAR"), (1, u "T_FLOAT"), (1, u "T_DOUBLE"), (1, u "T_BYTE"), (1, u "T_SHORT"), (1, u "T_INT"), (1, u "T_LONG"), (1, u "SOFT_MAX_ARRAY_LENGTH"), (42, u "([BI[BII)I")] 40

def k15m0 : Method := { name := "<init>", desc := "()V", sig := { parameters := [], returnType := none }, accessFlags := 2, code := none }
def k15c1 : Code := { maxStack := 8, maxLocals := 8, code := jdk_48_method_14_code, exceptionTable := #[], attributes := #[] }
def k15m1 : Method := { name := "mismatch", desc := "([BI[BII)I", sig := { parameters := [(.array .byte), .int, (.array .byte), .int, .int], returnType := some .int }, accessFlags := 9, code := some k15c1 }
/-- jdk/internal/util/ArraysSupport -/
def k15 : Class := { plain "jdk/internal/util/ArraysSupport" (some 0) with
  accessFlags := 33
  interfaces := #[]
  cf := some (fileOf pool15 21 #[] #[{ accessFlags := 2, nameIndex := 9, descriptorIndex := 19, attributes := #[] }, { accessFlags := 9, nameIndex := 149, descriptorIndex := 337, attributes := #[] }] 33 16 #[] #[{ accessFlags := 24, nameIndex := 28, descriptorIndex := 29, attributes := #[] }, { accessFlags := 26, nameIndex := 38, descriptorIndex := 39, attributes := #[] }, { accessFlags := 25, nameIndex := 121, descriptorIndex := 25, attributes := #[] }, { accessFlags := 25, nameIndex := 131, descriptorIndex := 25, attributes := #[] }, { accessFlags := 25, nameIndex := 137, descriptorIndex := 25, attributes := #[] }, { accessFlags := 25, nameIndex := 143, descriptorIndex := 25, attributes := #[] }, { accessFlags := 25, nameIndex := 53, descriptorIndex := 25, attributes := #[] }, { accessFlags := 25, nameIndex := 24, descriptorIndex := 25, attributes := #[] }, { accessFlags := 25, nameIndex := 162, descriptorIndex := 25, attributes := #[] }, { accessFlags := 25, nameIndex := 187, descriptorIndex := 25, attributes := #[] }, { accessFlags := 26, nameIndex := 48, descriptorIndex := 25, attributes := #[] }, { accessFlags := 25, nameIndex := 277, descriptorIndex := 25, attributes := #[] }, { accessFlags := 25, nameIndex := 280, descriptorIndex := 25, attributes := #[] }, { accessFlags := 25, nameIndex := 282, descriptorIndex := 25, attributes := #[] }, { accessFlags := 25, nameIndex := 284, descriptorIndex := 25, attributes := #[] }, { accessFlags := 25, nameIndex := 286, descriptorIndex := 25, attributes := #[] }, { accessFlags := 25, nameIndex := 288, descriptorIndex := 25, attributes := #[] }, { accessFlags := 25, nameIndex := 290, descriptorIndex := 25, attributes := #[] }, { accessFlags := 25, nameIndex := 292, descriptorIndex := 25, attributes := #[] }, { accessFlags := 26, nameIndex := 108, descriptorIndex := 109, attributes := #[] }, { accessFlags := 25, nameIndex := 294, descriptorIndex := 25, attributes := #[] }])
  fields := #[{ name := "U", type := (.object "jdk/internal/misc/Unsafe"), accessFlags := 24, slot := 0, constantValue := 0 }, { name := "BIG_ENDIAN", type := .boolean, accessFlags := 26, slot := 1, constantValue := 0 }, { name := "LOG2_ARRAY_BOOLEAN_INDEX_SCALE", type := .int, accessFlags := 25, slot := 2, constantValue := 0 }, { name := "LOG2_ARRAY_BYTE_INDEX_SCALE", type := .int, accessFlags := 25, slot := 3, constantValue := 0 }, { name := "LOG2_ARRAY_CHAR_INDEX_SCALE", type := .int, accessFlags := 25, slot := 4, constantValue := 0 }, { name := "LOG2_ARRAY_SHORT_INDEX_SCALE", type := .int, accessFlags := 25, slot := 5, constantValue := 0 }, { name := "LOG2_ARRAY_INT_INDEX_SCALE", type := .int, accessFlags := 25, slot := 6, constantValue := 0 }, { name := "LOG2_ARRAY_LONG_INDEX_SCALE", type := .int, accessFlags := 25, slot := 7, constantValue := 0 }, { name := "LOG2_ARRAY_FLOAT_INDEX_SCALE", type := .int, accessFlags := 25, slot := 8, constantValue := 0 }, { name := "LOG2_ARRAY_DOUBLE_INDEX_SCALE", type := .int, accessFlags := 25, slot := 9, constantValue := 0 }, { name := "LOG2_BYTE_BIT_SIZE", type := .int, accessFlags := 26, slot := 10, constantValue := 0 }, { name := "T_BOOLEAN", type := .int, accessFlags := 25, slot := 11, constantValue := 0 }, { name := "T_CHAR", type := .int, accessFlags := 25, slot := 12, constantValue := 0 }, { name := "T_FLOAT", type := .int, accessFlags := 25, slot := 13, constantValue := 0 }, { name := "T_DOUBLE", type := .int, accessFlags := 25, slot := 14, constantValue := 0 }, { name := "T_BYTE", type := .int, accessFlags := 25, slot := 15, constantValue := 0 }, { name := "T_SHORT", type := .int, accessFlags := 25, slot := 16, constantValue := 0 }, { name := "T_INT", type := .int, accessFlags := 25, slot := 17, constantValue := 0 }, { name := "T_LONG", type := .int, accessFlags := 25, slot := 18, constantValue := 0 }, { name := "JLA", type := (.object "jdk/internal/access/JavaLangAccess"), accessFlags := 26, slot := 19, constantValue := 0 }, { name := "SOFT_MAX_ARRAY_LENGTH", type := .int, accessFlags := 25, slot := 20, constantValue := 0 }]
  methods := #[k15m0, k15m1]
  instanceTypes := #[]
  staticTypes := #[(.object "jdk/internal/misc/Unsafe"), .boolean, .int, .int, .int, .int, .int, .int, .int, .int, .int, .int, .int, .int, .int, .int, .int, .int, .int, (.object "jdk/internal/access/JavaLangAccess"), .int]
  resolved := Array.replicate 378 none
  statics := none }

def pool16 : Array CpInfo := pool [(1, u "java/lang/Cloneable"), (0, .class_ 1), (0, u "java/lang/Object"), (0, .class_ 3)] 3

/-- java/lang/Cloneable -/
def k16 : Class := { plain "java/lang/Cloneable" (some 0) with
  accessFlags := 1537
  interfaces := #[]
  cf := some (fileOf pool16 2 #[] #[] 1537 4 #[] #[])
  fields := #[]
  methods := #[]
  instanceTypes := #[]
  staticTypes := #[]
  resolved := Array.replicate 8 none
  statics := none }

/-- the primitive byte -/
def k17 : Class := { plain "byte" none with kind := .primitive 'B', accessFlags := 0x411 }
/-- [B -/
def k18 : Class := { plain "[B" (some 0) with kind := .array 17 .byte, interfaces := #[16, 2], accessFlags := 1041 }

/-- the primitive char -/
def k19 : Class := { plain "char" none with kind := .primitive 'C', accessFlags := 0x411 }
/-- [C -/
def k20 : Class := { plain "[C" (some 0) with kind := .array 19 .char, interfaces := #[16, 2], accessFlags := 1041 }

/-- the primitive int -/
def k21 : Class := { plain "int" none with kind := .primitive 'I', accessFlags := 0x411 }
/-- [I -/
def k22 : Class := { plain "[I" (some 0) with kind := .array 21 .int, interfaces := #[16, 2], accessFlags := 1041 }

def heap : Heap := #[{ cls := 7, slots := #[.long 0, .int 1, .null, .int 0, .null, .int 0, .int 0], vm := .statics 7 },
  { cls := 10, slots := #[.null, .null, .null], vm := .statics 10 }]
def classes : Array Class := #[k0, k1, k2, k3, k4, k5, k6, k7, k8, k9, k10, k11, k12, k13, k14, k15, k16, k17, k18, k19, k20, k21, k22]
def interned : List (Array UInt16 × Addr) := []
def slotsUsed : Nat := 10
def theMethod : MethodId := ⟨1, 3⟩
def args0 : Array Value := #[.int 5, .int 5, .int 5, .int 5, .int 5, .int 5]
def aboutOver (below : List Frame) : State where
  vm := { classes := classes, interned := interned.toArray }
  heap := heap
  slotsUsed := slotsUsed
  threads := #[{ frames := .invoking theMethod args0 :: below }]
def below0 : List Frame := [.native { method := ⟨0, 0⟩, args := #[] }]
def about1 : State := aboutOver below0
def p0 : Program := .bare "" "" ""
def e0 : Env := launch0.env 0 0 0
theorem w_frames : about1.frames = Frame.invoking theMethod args0 :: below0 := rfl
set_option maxRecDepth 65536 in
theorem w_args : argsFit about1.vm theMethod args0 = true := by decide +kernel
set_option maxRecDepth 65536 in
theorem w_heap : heapFits about1 = true := by decide +kernel
set_option maxRecDepth 65536 in
theorem w_runnable : about1.curStatus? = some .runnable := by decide +kernel
set_option maxRecDepth 65536 in
theorem w_alone : about1.alone = true := by decide +kernel
set_option maxRecDepth 65536 in
theorem w_named : about1.methodNamed? x = some theMethod := by decide +kernel
set_option maxRecDepth 65536 in
theorem w_hears : about1.hears theMethod below0 = true := by decide +kernel
set_option maxRecDepth 65536 in
theorem w_ripe : about1.ripe theMethod args0 below0 = true := by decide +kernel
theorem w_running : about1.status = .running := rfl
set_option maxRecDepth 65536 in
theorem w_room : about1.hasRoom e0.platform room_1 = true :=
  launch0.hasRoom_least _ room_1 (by decide +kernel) (by decide +kernel) (by decide +kernel) (by decide +kernel) (by decide +kernel) (by decide +kernel)
theorem allAtoms_all (ts : List Jvm.Cond) (a : Array Jvm.Value) (st : Jvm.State) : (allAtoms ts).before a st = ts.all (fun c => c.before a st) := by
  induction ts with
  | nil => rfl
  | cons c t ih =>
    show (Jvm.Cond.and c (allAtoms t)).before a st = _
    rw [Jvm.Cond.before_and, ih, List.all_cons]
def words1 : List Jvm.Cond := Jvm.Cond.code x code maxLocals ret :: tables_1
/-- a 'code' word, met by the world's own term for the bytes: nothing is compared byte by byte -/
theorem code_word {y : MethodName} {bytes : ByteArray} {mx : Nat} {rt : Option FieldType} {a : Array Value} {s : State} {m : MethodId} {meth : Method} {c : Code} (h1 : s.methodNamed? y = some m) (h2 : s.vm.method? m = some meth) (h3 : meth.code = some c) (h4 : c.code = bytes)
    (h5 : (c.maxLocals == mx && c.exceptionTable.isEmpty && decide (c.maxStack ≤ mostOperands) && decide (meth.sig.returnType = rt) && !meth.locks && decide (parseMethodDescriptor y.desc = some meth.sig)) = true) : (Jvm.Cond.code y bytes mx rt).before a s = true := by
  simp only [Bool.and_eq_true, beq_iff_eq, Bool.not_eq_true', decide_eq_true_eq] at h5
  obtain ⟨⟨⟨⟨⟨g1, g2⟩, g3⟩, g4⟩, g5⟩, g6⟩ := h5
  simp [Cond.before, Cond.holds, Cond.value, h1, h2, h3, h4, g1, g2, g3, g4, g5, g6]
def isCode : Jvm.Cond → Bool
  | .code _ _ _ _ => true
  | _ => false
theorem all_split {L : List Jvm.Cond} {P : Jvm.Cond → Bool} (h1 : L.all (fun c => isCode c || P c) = true) (h2 : ∀ c ∈ L.filter isCode, P c = true) : L.all P = true := by
  refine List.all_eq_true.mpr fun c hc => ?_
  have h := List.all_eq_true.mp h1 c hc
  rcases Bool.eq_false_or_eq_true (isCode c) with hi | hi
  · exact h2 c (List.mem_filter.mpr ⟨hc, hi⟩)
  · simpa [hi] using h
set_option maxRecDepth 65536 in
theorem w_c0 : (Jvm.Cond.code x code maxLocals ret).before args0 about1 = true := code_word (m := ⟨1, 3⟩) (meth := k1m3) (c := k1c3) (by decide +kernel) rfl rfl rfl (by decide +kernel)
set_option maxRecDepth 65536 in
theorem w_c1 : (Jvm.Cond.code ({ cls := "com/example/roles_over_datacenter/rolesoverdatacenter/PageServesPinLaw", name := "pick", desc := "(I)C" } : Jvm.MethodName) method_2_code (2 : Nat) (Option.some Jvm.ClassFile.FieldType.char)).before args0 about1 = true := code_word (m := ⟨1, 1⟩) (meth := k1m1) (c := k1c1) (by decide +kernel) rfl rfl rfl (by decide +kernel)
set_option maxRecDepth 65536 in
theorem w_c2 : (Jvm.Cond.code ({ cls := "com/example/roles_over_datacenter/rolesoverdatacenter/PageServesPinLaw", name := "make", desc := "(ICCCCC)Ljava/lang/String;" } : Jvm.MethodName) method_3_code (6 : Nat) (Option.some (Jvm.ClassFile.FieldType.object "java/lang/String"))).before args0 about1 = true := code_word (m := ⟨1, 2⟩) (meth := k1m2) (c := k1c2) (by decide +kernel) rfl rfl rfl (by decide +kernel)
set_option maxRecDepth 65536 in
theorem w_c3 : (Jvm.Cond.code ({ cls := "java/lang/String", name := "<init>", desc := "([C)V" } : Jvm.MethodName) jdk_42_method_3_code (2 : Nat) (Option.none : Option Jvm.ClassFile.FieldType)).before args0 about1 = true := code_word (m := ⟨7, 1⟩) (meth := k7m1) (c := k7c1) (by decide +kernel) rfl rfl rfl (by decide +kernel)
set_option maxRecDepth 65536 in
theorem w_c4 : (Jvm.Cond.code ({ cls := "java/lang/String", name := "<init>", desc := "([CIILjava/lang/Void;)V" } : Jvm.MethodName) jdk_42_method_149_code (6 : Nat) (Option.none : Option Jvm.ClassFile.FieldType)).before args0 about1 = true := code_word (m := ⟨7, 7⟩) (meth := k7m7) (c := k7c7) (by decide +kernel) rfl rfl rfl (by decide +kernel)
set_option maxRecDepth 65536 in
theorem w_c5 : (Jvm.Cond.code ({ cls := "java/lang/Object", name := "<init>", desc := "()V" } : Jvm.MethodName) object_method_1_code (1 : Nat) (Option.none : Option Jvm.ClassFile.FieldType)).before args0 about1 = true := code_word (m := ⟨0, 0⟩) (meth := k0m0) (c := k0c0) (by decide +kernel) rfl rfl rfl (by decide +kernel)
set_option maxRecDepth 65536 in
theorem w_c6 : (Jvm.Cond.code ({ cls := "com/example/roles_over_datacenter/rolesoverdatacenter/Page", name := "serves", desc := "(Ljava/lang/String;)Z" } : Jvm.MethodName) prog_11_method_3_code (1 : Nat) (Option.some Jvm.ClassFile.FieldType.boolean)).before args0 about1 = true := code_word (m := ⟨8, 0⟩) (meth := k8m0) (c := k8c0) (by decide +kernel) rfl rfl rfl (by decide +kernel)
set_option maxRecDepth 65536 in
theorem w_c7 : (Jvm.Cond.code ({ cls := "java/lang/String", name := "startsWith", desc := "(Ljava/lang/String;)Z" } : Jvm.MethodName) jdk_42_method_76_code (2 : Nat) (Option.some Jvm.ClassFile.FieldType.boolean)).before args0 about1 = true := code_word (m := ⟨7, 5⟩) (meth := k7m5) (c := k7c5) (by decide +kernel) rfl rfl rfl (by decide +kernel)
set_option maxRecDepth 65536 in
theorem w_c8 : (Jvm.Cond.code ({ cls := "java/lang/String", name := "startsWith", desc := "(Ljava/lang/String;I)Z" } : Jvm.MethodName) jdk_42_method_75_code (8 : Nat) (Option.some Jvm.ClassFile.FieldType.boolean)).before args0 about1 = true := code_word (m := ⟨7, 4⟩) (meth := k7m4) (c := k7c4) (by decide +kernel) rfl rfl rfl (by decide +kernel)
set_option maxRecDepth 65536 in
theorem w_c9 : (Jvm.Cond.code ({ cls := "java/lang/String", name := "length", desc := "()I" } : Jvm.MethodName) jdk_42_method_54_code (1 : Nat) (Option.some Jvm.ClassFile.FieldType.int)).before args0 about1 = true := code_word (m := ⟨7, 2⟩) (meth := k7m2) (c := k7c2) (by decide +kernel) rfl rfl rfl (by decide +kernel)
set_option maxRecDepth 65536 in
theorem w_c10 : (Jvm.Cond.code ({ cls := "java/lang/String", name := "coder", desc := "()B" } : Jvm.MethodName) jdk_42_method_152_code (1 : Nat) (Option.some Jvm.ClassFile.FieldType.byte)).before args0 about1 = true := code_word (m := ⟨7, 9⟩) (meth := k7m9) (c := k7c9) (by decide +kernel) rfl rfl rfl (by decide +kernel)
set_option maxRecDepth 65536 in
theorem w_c11 : (Jvm.Cond.code ({ cls := "com/example/roles_over_datacenter/rolesoverdatacenter/Page", name := "redirects", desc := "(Ljava/lang/String;)Z" } : Jvm.MethodName) prog_11_method_4_code (1 : Nat) (Option.some Jvm.ClassFile.FieldType.boolean)).before args0 about1 = true := code_word (m := ⟨8, 1⟩) (meth := k8m1) (c := k8c1) (by decide +kernel) rfl rfl rfl (by decide +kernel)
set_option maxRecDepth 65536 in
theorem w_c12 : (Jvm.Cond.code ({ cls := "java/lang/String", name := "equals", desc := "(Ljava/lang/Object;)Z" } : Jvm.MethodName) jdk_42_method_66_code (3 : Nat) (Option.some Jvm.ClassFile.FieldType.boolean)).before args0 about1 = true := code_word (m := ⟨7, 3⟩) (meth := k7m3) (c := k7c3) (by decide +kernel) rfl rfl rfl (by decide +kernel)
set_option maxRecDepth 65536 in
theorem w_c13 : (Jvm.Cond.code ({ cls := "java/lang/StringLatin1", name := "equals", desc := "([B[B)Z" } : Jvm.MethodName) jdk_43_method_13_code (3 : Nat) (Option.some Jvm.ClassFile.FieldType.boolean)).before args0 about1 = true := code_word (m := ⟨9, 1⟩) (meth := k9m1) (c := k9c1) (by decide +kernel) rfl rfl rfl (by decide +kernel)
set_option maxRecDepth 65536 in
theorem w_c14 : (Jvm.Cond.code ({ cls := "java/lang/String", name := "substring", desc := "(II)Ljava/lang/String;" } : Jvm.MethodName) jdk_42_method_92_code (5 : Nat) (Option.some (Jvm.ClassFile.FieldType.object "java/lang/String"))).before args0 about1 = true := code_word (m := ⟨7, 6⟩) (meth := k7m6) (c := k7c6) (by decide +kernel) rfl rfl rfl (by decide +kernel)
set_option maxRecDepth 65536 in
theorem w_c15 : (Jvm.Cond.code ({ cls := "java/lang/String", name := "checkBoundsBeginEnd", desc := "(III)V" } : Jvm.MethodName) jdk_42_method_158_code (3 : Nat) (Option.none : Option Jvm.ClassFile.FieldType)).before args0 about1 = true := code_word (m := ⟨7, 11⟩) (meth := k7m11) (c := k7c11) (by decide +kernel) rfl rfl rfl (by decide +kernel)
set_option maxRecDepth 65536 in
theorem w_c16 : (Jvm.Cond.code ({ cls := "jdk/internal/util/Preconditions", name := "checkFromToIndex", desc := "(IIILjava/util/function/BiFunction;)I" } : Jvm.MethodName) jdk_41_method_12_code (4 : Nat) (Option.some Jvm.ClassFile.FieldType.int)).before args0 about1 = true := code_word (m := ⟨10, 1⟩) (meth := k10m1) (c := k10c1) (by decide +kernel) rfl rfl rfl (by decide +kernel)
set_option maxRecDepth 65536 in
theorem w_c17 : (Jvm.Cond.code ({ cls := "java/lang/String", name := "isLatin1", desc := "()Z" } : Jvm.MethodName) jdk_42_method_154_code (1 : Nat) (Option.some Jvm.ClassFile.FieldType.boolean)).before args0 about1 = true := code_word (m := ⟨7, 10⟩) (meth := k7m10) (c := k7c10) (by decide +kernel) rfl rfl rfl (by decide +kernel)
set_option maxRecDepth 65536 in
theorem w_c18 : (Jvm.Cond.code ({ cls := "java/lang/StringLatin1", name := "newString", desc := "([BII)Ljava/lang/String;" } : Jvm.MethodName) jdk_43_method_47_code (3 : Nat) (Option.some (Jvm.ClassFile.FieldType.object "java/lang/String"))).before args0 about1 = true := code_word (m := ⟨9, 2⟩) (meth := k9m2) (c := k9c2) (by decide +kernel) rfl rfl rfl (by decide +kernel)
set_option maxRecDepth 65536 in
theorem w_c19 : (Jvm.Cond.code ({ cls := "java/util/Arrays", name := "copyOfRange", desc := "([BII)[B" } : Jvm.MethodName) jdk_65_method_132_code (3 : Nat) (Option.some (Jvm.ClassFile.FieldType.array Jvm.ClassFile.FieldType.byte))).before args0 about1 = true := code_word (m := ⟨11, 2⟩) (meth := k11m2) (c := k11c2) (by decide +kernel) rfl rfl rfl (by decide +kernel)
set_option maxRecDepth 65536 in
theorem w_c20 : (Jvm.Cond.code ({ cls := "java/util/Arrays", name := "copyOfRangeByte", desc := "([BII)[B" } : Jvm.MethodName) jdk_65_method_133_code (5 : Nat) (Option.some (Jvm.ClassFile.FieldType.array Jvm.ClassFile.FieldType.byte))).before args0 about1 = true := code_word (m := ⟨11, 3⟩) (meth := k11m3) (c := k11c3) (by decide +kernel) rfl rfl rfl (by decide +kernel)
set_option maxRecDepth 65536 in
theorem w_c21 : (Jvm.Cond.code ({ cls := "java/util/Arrays", name := "checkLength", desc := "(II)V" } : Jvm.MethodName) jdk_65_method_131_code (2 : Nat) (Option.none : Option Jvm.ClassFile.FieldType)).before args0 about1 = true := code_word (m := ⟨11, 1⟩) (meth := k11m1) (c := k11c1) (by decide +kernel) rfl rfl rfl (by decide +kernel)
set_option maxRecDepth 65536 in
theorem w_c22 : (Jvm.Cond.code ({ cls := "java/lang/Math", name := "min", desc := "(II)I" } : Jvm.MethodName) jdk_29_method_69_code (2 : Nat) (Option.some Jvm.ClassFile.FieldType.int)).before args0 about1 = true := code_word (m := ⟨12, 1⟩) (meth := k12m1) (c := k12c1) (by decide +kernel) rfl rfl rfl (by decide +kernel)
set_option maxRecDepth 65536 in
theorem w_c23 : (Jvm.Cond.code ({ cls := "java/lang/String", name := "<init>", desc := "([BB)V" } : Jvm.MethodName) jdk_42_method_151_code (3 : Nat) (Option.none : Option Jvm.ClassFile.FieldType)).before args0 about1 = true := code_word (m := ⟨7, 8⟩) (meth := k7m8) (c := k7c8) (by decide +kernel) rfl rfl rfl (by decide +kernel)
set_option maxRecDepth 65536 in
theorem w_c24 : (Jvm.Cond.code ({ cls := "java/lang/StringUTF16", name := "compress", desc := "([CII)[B" } : Jvm.MethodName) jdk_52_method_16_code (6 : Nat) (Option.some (Jvm.ClassFile.FieldType.array Jvm.ClassFile.FieldType.byte))).before args0 about1 = true := code_word (m := ⟨14, 2⟩) (meth := k14m2) (c := k14c2) (by decide +kernel) rfl rfl rfl (by decide +kernel)
set_option maxRecDepth 65536 in
theorem w_c25 : (Jvm.Cond.code ({ cls := "java/lang/StringUTF16", name := "compress", desc := "([CI[BII)I" } : Jvm.MethodName) jdk_52_method_21_code (7 : Nat) (Option.some Jvm.ClassFile.FieldType.int)).before args0 about1 = true := code_word (m := ⟨14, 3⟩) (meth := k14m3) (c := k14c3) (by decide +kernel) rfl rfl rfl (by decide +kernel)
set_option maxRecDepth 65536 in
theorem w_c26 : (Jvm.Cond.code ({ cls := "java/lang/StringUTF16", name := "coderFromArrayLen", desc := "([BI)B" } : Jvm.MethodName) jdk_52_method_15_code (2 : Nat) (Option.some Jvm.ClassFile.FieldType.byte)).before args0 about1 = true := code_word (m := ⟨14, 1⟩) (meth := k14m1) (c := k14c1) (by decide +kernel) rfl rfl rfl (by decide +kernel)
set_option maxRecDepth 65536 in
theorem w_c27 : (Jvm.Cond.code ({ cls := "jdk/internal/util/ArraysSupport", name := "mismatch", desc := "([BI[BII)I" } : Jvm.MethodName) jdk_48_method_14_code (8 : Nat) (Option.some Jvm.ClassFile.FieldType.int)).before args0 about1 = true := code_word (m := ⟨15, 1⟩) (meth := k15m1) (c := k15c1) (by decide +kernel) rfl rfl rfl (by decide +kernel)
def codes1 : List Jvm.Cond := [Jvm.Cond.code x code maxLocals ret, Jvm.Cond.code ({ cls := "com/example/roles_over_datacenter/rolesoverdatacenter/PageServesPinLaw", name := "pick", desc := "(I)C" } : Jvm.MethodName) method_2_code (2 : Nat) (Option.some Jvm.ClassFile.FieldType.char), Jvm.Cond.code ({ cls := "com/example/roles_over_datacenter/rolesoverdatacenter/PageServesPinLaw", name := "make", desc := "(ICCCCC)Ljava/lang/String;" } : Jvm.MethodName) method_3_code (6 : Nat) (Option.some (Jvm.ClassFile.FieldType.object "java/lang/String")), Jvm.Cond.code ({ cls := "java/lang/String", name := "<init>", desc := "([C)V" } : Jvm.MethodName) jdk_42_method_3_code (2 : Nat) (Option.none : Option Jvm.ClassFile.FieldType), Jvm.Cond.code ({ cls := "java/lang/String", name := "<init>", desc := "([CIILjava/lang/Void;)V" } : Jvm.MethodName) jdk_42_method_149_code (6 : Nat) (Option.none : Option Jvm.ClassFile.FieldType), Jvm.Cond.code ({ cls := "java/lang/Object", name := "<init>", desc := "()V" } : Jvm.MethodName) object_method_1_code (1 : Nat) (Option.none : Option Jvm.ClassFile.FieldType), Jvm.Cond.code ({ cls := "com/example/roles_over_datacenter/rolesoverdatacenter/Page", name := "serves", desc := "(Ljava/lang/String;)Z" } : Jvm.MethodName) prog_11_method_3_code (1 : Nat) (Option.some Jvm.ClassFile.FieldType.boolean), Jvm.Cond.code ({ cls := "java/lang/String", name := "startsWith", desc := "(Ljava/lang/String;)Z" } : Jvm.MethodName) jdk_42_method_76_code (2 : Nat) (Option.some Jvm.ClassFile.FieldType.boolean), Jvm.Cond.code ({ cls := "java/lang/String", name := "startsWith", desc := "(Ljava/lang/String;I)Z" } : Jvm.MethodName) jdk_42_method_75_code (8 : Nat) (Option.some Jvm.ClassFile.FieldType.boolean), Jvm.Cond.code ({ cls := "java/lang/String", name := "length", desc := "()I" } : Jvm.MethodName) jdk_42_method_54_code (1 : Nat) (Option.some Jvm.ClassFile.FieldType.int), Jvm.Cond.code ({ cls := "java/lang/String", name := "coder", desc := "()B" } : Jvm.MethodName) jdk_42_method_152_code (1 : Nat) (Option.some Jvm.ClassFile.FieldType.byte), Jvm.Cond.code ({ cls := "com/example/roles_over_datacenter/rolesoverdatacenter/Page", name := "redirects", desc := "(Ljava/lang/String;)Z" } : Jvm.MethodName) prog_11_method_4_code (1 : Nat) (Option.some Jvm.ClassFile.FieldType.boolean), Jvm.Cond.code ({ cls := "java/lang/String", name := "equals", desc := "(Ljava/lang/Object;)Z" } : Jvm.MethodName) jdk_42_method_66_code (3 : Nat) (Option.some Jvm.ClassFile.FieldType.boolean), Jvm.Cond.code ({ cls := "java/lang/StringLatin1", name := "equals", desc := "([B[B)Z" } : Jvm.MethodName) jdk_43_method_13_code (3 : Nat) (Option.some Jvm.ClassFile.FieldType.boolean), Jvm.Cond.code ({ cls := "java/lang/String", name := "substring", desc := "(II)Ljava/lang/String;" } : Jvm.MethodName) jdk_42_method_92_code (5 : Nat) (Option.some (Jvm.ClassFile.FieldType.object "java/lang/String")), Jvm.Cond.code ({ cls := "java/lang/String", name := "checkBoundsBeginEnd", desc := "(III)V" } : Jvm.MethodName) jdk_42_method_158_code (3 : Nat) (Option.none : Option Jvm.ClassFile.FieldType), Jvm.Cond.code ({ cls := "jdk/internal/util/Preconditions", name := "checkFromToIndex", desc := "(IIILjava/util/function/BiFunction;)I" } : Jvm.MethodName) jdk_41_method_12_code (4 : Nat) (Option.some Jvm.ClassFile.FieldType.int), Jvm.Cond.code ({ cls := "java/lang/String", name := "isLatin1", desc := "()Z" } : Jvm.MethodName) jdk_42_method_154_code (1 : Nat) (Option.some Jvm.ClassFile.FieldType.boolean), Jvm.Cond.code ({ cls := "java/lang/StringLatin1", name := "newString", desc := "([BII)Ljava/lang/String;" } : Jvm.MethodName) jdk_43_method_47_code (3 : Nat) (Option.some (Jvm.ClassFile.FieldType.object "java/lang/String")), Jvm.Cond.code ({ cls := "java/util/Arrays", name := "copyOfRange", desc := "([BII)[B" } : Jvm.MethodName) jdk_65_method_132_code (3 : Nat) (Option.some (Jvm.ClassFile.FieldType.array Jvm.ClassFile.FieldType.byte)), Jvm.Cond.code ({ cls := "java/util/Arrays", name := "copyOfRangeByte", desc := "([BII)[B" } : Jvm.MethodName) jdk_65_method_133_code (5 : Nat) (Option.some (Jvm.ClassFile.FieldType.array Jvm.ClassFile.FieldType.byte)), Jvm.Cond.code ({ cls := "java/util/Arrays", name := "checkLength", desc := "(II)V" } : Jvm.MethodName) jdk_65_method_131_code (2 : Nat) (Option.none : Option Jvm.ClassFile.FieldType), Jvm.Cond.code ({ cls := "java/lang/Math", name := "min", desc := "(II)I" } : Jvm.MethodName) jdk_29_method_69_code (2 : Nat) (Option.some Jvm.ClassFile.FieldType.int), Jvm.Cond.code ({ cls := "java/lang/String", name := "<init>", desc := "([BB)V" } : Jvm.MethodName) jdk_42_method_151_code (3 : Nat) (Option.none : Option Jvm.ClassFile.FieldType), Jvm.Cond.code ({ cls := "java/lang/StringUTF16", name := "compress", desc := "([CII)[B" } : Jvm.MethodName) jdk_52_method_16_code (6 : Nat) (Option.some (Jvm.ClassFile.FieldType.array Jvm.ClassFile.FieldType.byte)), Jvm.Cond.code ({ cls := "java/lang/StringUTF16", name := "compress", desc := "([CI[BII)I" } : Jvm.MethodName) jdk_52_method_21_code (7 : Nat) (Option.some Jvm.ClassFile.FieldType.int), Jvm.Cond.code ({ cls := "java/lang/StringUTF16", name := "coderFromArrayLen", desc := "([BI)B" } : Jvm.MethodName) jdk_52_method_15_code (2 : Nat) (Option.some Jvm.ClassFile.FieldType.byte), Jvm.Cond.code ({ cls := "jdk/internal/util/ArraysSupport", name := "mismatch", desc := "([BI[BII)I" } : Jvm.MethodName) jdk_48_method_14_code (8 : Nat) (Option.some Jvm.ClassFile.FieldType.int)]
set_option maxRecDepth 65536 in
theorem codes_eq : words1.filter isCode = codes1 := rfl
theorem w_codes : ∀ c ∈ words1.filter isCode, c.before args0 about1 = true := by
  rw [codes_eq]
  intro c hc
  simp only [codes1, List.mem_cons, List.not_mem_nil, or_false] at hc
  rcases hc with rfl | rfl | rfl | rfl | rfl | rfl | rfl | rfl | rfl | rfl | rfl | rfl | rfl | rfl | rfl | rfl | rfl | rfl | rfl | rfl | rfl | rfl | rfl | rfl | rfl | rfl | rfl | rfl
  · exact w_c0
  · exact w_c1
  · exact w_c2
  · exact w_c3
  · exact w_c4
  · exact w_c5
  · exact w_c6
  · exact w_c7
  · exact w_c8
  · exact w_c9
  · exact w_c10
  · exact w_c11
  · exact w_c12
  · exact w_c13
  · exact w_c14
  · exact w_c15
  · exact w_c16
  · exact w_c17
  · exact w_c18
  · exact w_c19
  · exact w_c20
  · exact w_c21
  · exact w_c22
  · exact w_c23
  · exact w_c24
  · exact w_c25
  · exact w_c26
  · exact w_c27
set_option maxRecDepth 65536 in
theorem w_t1 : (words1.take 24).all (fun c => isCode c || c.before args0 about1) = true := by decide +kernel
set_option maxRecDepth 65536 in
theorem w_t2 : ((words1.drop 24).take 24).all (fun c => isCode c || c.before args0 about1) = true := by decide +kernel
set_option maxRecDepth 65536 in
theorem w_t3 : (((words1.drop 24).drop 24).take 24).all (fun c => isCode c || c.before args0 about1) = true := by decide +kernel
set_option maxRecDepth 65536 in
theorem w_t4 : ((((words1.drop 24).drop 24).drop 24).take 24).all (fun c => isCode c || c.before args0 about1) = true := by decide +kernel
set_option maxRecDepth 65536 in
theorem w_t5 : (((((words1.drop 24).drop 24).drop 24).drop 24).take 24).all (fun c => isCode c || c.before args0 about1) = true := by decide +kernel
set_option maxRecDepth 65536 in
theorem w_t6 : (((((words1.drop 24).drop 24).drop 24).drop 24).drop 24).all (fun c => isCode c || c.before args0 about1) = true := by decide +kernel
theorem w_tables : (allAtoms (Jvm.Cond.code x code maxLocals ret :: tables_1)).before args0 about1 = true := by
  rw [allAtoms_all]
  show words1.all (fun c => c.before args0 about1) = true
  refine all_split ?_ w_codes
  rw [← List.take_append_drop 24 words1, List.all_append, w_t1, ← List.take_append_drop 24 (words1.drop 24), List.all_append, w_t2, ← List.take_append_drop 24 ((words1.drop 24).drop 24), List.all_append, w_t3, ← List.take_append_drop 24 (((words1.drop 24).drop 24).drop 24), List.all_append, w_t4, ← List.take_append_drop 24 ((((words1.drop 24).drop 24).drop 24).drop 24), List.all_append, w_t5, w_t6]
  rfl
set_option maxRecDepth 65536 in
theorem w_rest : rest_1_c.before args0 about1 = true := by decide +kernel
set_option maxRecDepth 65536 in
theorem w_case : (Jvm.Cond.and given_1 narrow_1).before args0 about1 = true := by decide +kernel
set_option maxRecDepth 65536 in
theorem w_consts : constsHeld consts_1 about1 := Jvm.Lit.constsHeldB_iff.mp (by decide +kernel)
theorem w_applies : (headSpec (Jvm.Cond.code x code maxLocals ret :: tables_1) room_1).applies x e0.platform about1 = true :=
  (Spec.applies_iff w_frames).mpr ⟨w_running, w_runnable, w_alone, w_named, w_hears, w_ripe, w_room, w_tables⟩
theorem atStart : AtStart classFile x code maxLocals ret World_1 tables_1 room_1 Calls_1 rest_1 Pre_1 launch0 p0 e0 about1 theMethod args0 below0 :=
  ⟨lists_1, trivial, launch0.admits_env _ _ _, launch0.least_env, fairChoices_fair.cas, fairChoices_fair.clock, w_frames, w_args, w_heap, w_applies, ⟨w_consts, trivial⟩, w_rest, w_case⟩
end start1
theorem witness_1 : WitnessClaimed_1 := ⟨start1.p0, start1.e0, start1.about1, start1.theMethod, start1.args0, start1.below0, start1.atStart⟩
end Jvm.Pilot.@@N@@
