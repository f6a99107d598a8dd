
import JvmDerived
import JvmDerived.Pilot.@@N@@Statement
import JvmDerived.Pilot.@@N@@Code
set_option linter.unusedVariables false
set_option linter.unusedSimpArgs false
@@BLOCK:TracedD.lean.txt@@
namespace Jvm.RoadKit
open Sem ClassFile Op Lib Jvm.Stand Jvm.Free Jvm.LawKit
section OwnGo
variable {p : Program} {l : Launch} {e : Env} {R : Room} {s : State} {m : MethodId} {args : Array Value} {below : List Frame} {meth : Method} {c : Code} {T : State} {locs : List Loc} {cells slots kc ks : Nat} {Z : State} {a0 : Array Value} {h : Heap} {Q : Option Value → Heap → List Loc → Prop} {F0 : State → Outcome → Prop}
/-- what is left of a run from T: it ends, and F0 holds of its end -/
def Go (p : Program) (e : Env) (below : List Frame) (F0 : State → Outcome → Prop) (T : State) : Prop :=
  ∃ (U : State) (o : Outcome), Steps p.tables e below T U ∧ U.status = .running ∧ Ended U below o ∧ F0 U o
def EndN (s : State) (Q : Option Value → Heap → List Loc → Prop) (kc ks : Nat) (U : State) (o : Outcome) : Prop := ∃ v L, o = .returned v ∧ Q v U.heap L ∧ FrameEnd s o U L kc ks
theorem Go.step {T' : State} (g : ∀ t, Steps p.tables e below T' t → Steps p.tables e below T t) (k : Go p e below F0 T') : Go p e below F0 T := by
  obtain ⟨U, o, h1, r⟩ := k
  exact ⟨U, o, g _ h1, r⟩
theorem Go.cast {g g' : JFrame} (q : g = g') (k : Go p e below F0 (T.setTop g')) : Go p e below F0 (T.setTop g) := by rw [q]; exact k
/-- a body's contract: from these arguments and this heap it returns, and Q holds -/
def Ctr (l : Launch) (Z : State) (y : MethodName) (bytes : ByteArray) (maxL : Nat) (ret : Option FieldType) (rm : Room) (as : Array Value) (h : Heap) (Q : Option Value → Heap → List Loc → Prop) : Prop :=
  ∀ ws : List Jvm.Cond, MetFree l y (head1 (Jvm.Cond.code y bytes maxL ret :: ws) rm) (fun a U => a = as ∧ Z.Warmed39 U.vm ∧ U.heap = h) (fun _ _ _ _ _ => True) (fun _ U o U' => ∃ v L, o = .returned v ∧ Q v U'.heap L ∧ FrameEnd U o U' L rm.cells rm.slots)
theorem Ctr.of {y : MethodName} {bytes : ByteArray} {maxL : Nat} {ret : Option FieldType} {rm : Room} {as : Array Value} (hp : plainFor y = true)
    (body : ∀ (p : Program) (e : Env) (s : State) (m : MethodId) (below : List Frame) (meth : Method) (c : Code) (T : State), p.tables.exec = Jvm.exec → Z.Warmed39 s.vm → c.code = bytes → c.maxLocals = maxL → s.vm.findClass y.cls = some m.cls → meth.name = y.name → meth.sig.returnType = ret → meth.locks = false → T.heap = h → s.heap = h → Stand p l e rm s m as below meth c T [] 0 0 →
      Go p e below (EndN s Q rm.cells rm.slots) (T.setTop (entryFrame m as maxL))) : Ctr l Z y bytes maxL ret rm as h Q := by
  intro ws
  refine MetFree.of_bodySF hp hisR ?_
  intro p e s m args below meth c s₁ Bd hml0 hP hK
  obtain ⟨rfl, hZ, hh⟩ := hP
  exact body p e s m below meth c s₁ Bd.exec hZ Bd.bytes hml0 (findClass_of_methodNamed Bd.named) (name_of_methodNamed Bd.named Bd.method).1 Bd.returns Bd.notSynchronized (by rw [← hh, Bd.state]; rfl) hh (Stand.of_body Bd)
theorem Go.ret0 (X : Stand p l e R s m args below meth c T locs cells slots) (hx : p.tables.exec = Jvm.exec) (hlk : meth.locks = false) (hret : meth.sig.returnType = none) {pc : Nat} {Ls : Array Slot} (hd : decode c.code pc = .ok (.return_, 1)) (hc : cells ≤ kc) (hs : slots ≤ ks) (q : Q none T.heap locs) : Go p e below (EndN s Q kc ks) (T.setTop (mkF m pc Ls [])) := by
  obtain ⟨fs, hr, hrun, hended, hW, hsame⟩ := X.leave (v := none) (fun _ => rfl) hlk
  exact ⟨_, _, X.returnOut hx hret hd hr, hrun, hended, _, _, rfl, q, ⟨_, rfl⟩, hW, hsame.mono hc hs⟩
theorem Go.retV (X : Stand p l e R s m args below meth c T locs cells slots) (hx : p.tables.exec = Jvm.exec) (hlk : meth.locks = false) {t : FieldType} (hret : meth.sig.returnType = some t) {pc : Nat} {Ls : Array Slot} {v : Value} {i : Instr} {rest : List Value} (hn : narrow t v = v)
    (hi : (i = .ireturn ∧ (t = .int ∨ t = .boolean ∨ t = .byte ∨ t = .char ∨ t = .short) ∧ ∃ z, v = .int z) ∨ (i = .lreturn ∧ t = .long ∧ ∃ z, v = .long z) ∨ (i = .dreturn ∧ t = .double ∧ ∃ z, v = .double z) ∨ (i = .freturn ∧ t = .float ∧ ∃ z, v = .float z) ∨ (i = .areturn ∧ t.isReference = true ∧ v.isRef = true))
    (hd : decode c.code pc = .ok (i, 1)) (hc : cells ≤ kc) (hs : slots ≤ ks) (q : Q (some v) T.heap locs) : Go p e below (EndN s Q kc ks) (T.setTop (mkF m pc Ls (v :: rest))) := by
  obtain ⟨fs, hr, hrun, hended, hW, hsame⟩ := X.leave (v := some v) (fun h => by rw [hret] at h; cases h) hlk
  exact ⟨_, _, retOut X hx hret hn hi hd hr, hrun, hended, _, _, rfl, q, ⟨_, rfl⟩, hW, hsame.mono hc hs⟩
theorem Go.retI (X : Stand p l e R s m args below meth c T locs cells slots) (hx : p.tables.exec = Jvm.exec) (hlk : meth.locks = false) (hret : meth.sig.returnType = some .int) {pc : Nat} {Ls : Array Slot} {z : Int32} {rest : List Value} (hd : decode c.code pc = .ok (.ireturn, 1)) (hc : cells ≤ kc) (hs : slots ≤ ks) (q : Q (some (.int z)) T.heap locs) : Go p e below (EndN s Q kc ks) (T.setTop (mkF m pc Ls (.int z :: rest))) :=
  Go.retV X hx hlk hret rfl (Or.inl ⟨rfl, Or.inl rfl, _, rfl⟩) hd hc hs q
theorem Go.retR (X : Stand p l e R s m args below meth c T locs cells slots) (hx : p.tables.exec = Jvm.exec) (hlk : meth.locks = false) {t : FieldType} (hret : meth.sig.returnType = some t) (ht : t.isReference = true) {pc : Nat} {Ls : Array Slot} {v : Value} (hv : v.isRef = true) {rest : List Value} (hd : decode c.code pc = .ok (.areturn, 1)) (hc : cells ≤ kc) (hs : slots ≤ ks) (q : Q (some v) T.heap locs) : Go p e below (EndN s Q kc ks) (T.setTop (mkF m pc Ls (v :: rest))) :=
  Go.retV X hx hlk hret (by rcases ref_cases hv with rfl | ⟨z, rfl⟩ <;> cases t <;> simp [FieldType.isReference] at ht <;> rfl) (Or.inr (Or.inr (Or.inr (Or.inr ⟨rfl, ht, hv⟩)))) hd hc hs q
theorem Go.retN (X : Stand p l e R s m args below meth c T locs cells slots) (hx : p.tables.exec = Jvm.exec) (hlk : meth.locks = false) {t : FieldType} (hret : meth.sig.returnType = some t) (ht : t = .boolean ∨ t = .byte ∨ t = .char ∨ t = .short) {pc : Nat} {Ls : Array Slot} {z : Int32} {rest : List Value} (hd : decode c.code pc = .ok (.ireturn, 1)) (hc : cells ≤ kc) (hs : slots ≤ ks) (q : Q (some (.int (nar t z))) T.heap locs) : Go p e below (EndN s Q kc ks) (T.setTop (mkF m pc Ls (.int z :: rest))) := by
  obtain ⟨fs, hr, hrun, hended, hW, hsame⟩ := X.leave (v := some (.int (nar t z))) (fun h => by rw [hret] at h; cases h) hlk
  exact ⟨_, _, Jvm.RoadKit.retN X hx hret ht hd hr, hrun, hended, _, _, rfl, q, ⟨_, rfl⟩, hW, hsame.mono hc hs⟩
theorem Go.iloadN (X : Stand p l e R s m args below meth c T locs cells slots) (hx : p.tables.exec = Jvm.exec) {pc : Nat} (pc' : Nat) {Ls : Array Slot} {st : List Value} {k : Fin 4} {v : Int32} (hp : pc' = pc + 1) (hd : decode c.code pc = .ok (.iload_n k, 1)) (hl : Ls[k.val]? = some (.val (.int v))) (k : Go p e below F0 (T.setTop (mkF m pc' Ls (.int v :: st)))) : Go p e below F0 (T.setTop (mkF m pc Ls st)) := by
  subst hp
  exact Go.step (fun t kt => XS.iloadN X.here hx (g := mkF m pc Ls _) rfl hd hl kt) k
theorem Go.iload (X : Stand p l e R s m args below meth c T locs cells slots) (hx : p.tables.exec = Jvm.exec) {pc : Nat} (pc' : Nat) {Ls : Array Slot} {st : List Value} {k : Nat} {v : Int32} (hp : pc' = pc + 2) (hd : decode c.code pc = .ok (.iload k, 2)) (hl : Ls[k]? = some (.val (.int v))) (k : Go p e below F0 (T.setTop (mkF m pc' Ls (.int v :: st)))) : Go p e below F0 (T.setTop (mkF m pc Ls st)) := by
  subst hp
  exact Go.step (fun t kt => XS.iload X.here hx (g := mkF m pc Ls _) rfl hd hl kt) k
theorem Go.aloadN (X : Stand p l e R s m args below meth c T locs cells slots) (hx : p.tables.exec = Jvm.exec) {pc : Nat} (pc' : Nat) {Ls : Array Slot} {st : List Value} {k : Fin 4} {v : Value} (hp : pc' = pc + 1) (hd : decode c.code pc = .ok (.aload_n k, 1)) (hl : Ls[k.val]? = some (.val v)) (hv : v.isRef = true) (k : Go p e below F0 (T.setTop (mkF m pc' Ls (v :: st)))) : Go p e below F0 (T.setTop (mkF m pc Ls st)) := by
  subst hp
  exact Go.step (fun t kt => XS.aloadN X.here hx (g := mkF m pc Ls _) rfl hd hl hv kt) k
theorem Go.aload (X : Stand p l e R s m args below meth c T locs cells slots) (hx : p.tables.exec = Jvm.exec) {pc : Nat} (pc' : Nat) {Ls : Array Slot} {st : List Value} {k : Nat} {v : Value} (hp : pc' = pc + 2) (hd : decode c.code pc = .ok (.aload k, 2)) (hl : Ls[k]? = some (.val v)) (hv : v.isRef = true) (k : Go p e below F0 (T.setTop (mkF m pc' Ls (v :: st)))) : Go p e below F0 (T.setTop (mkF m pc Ls st)) := by
  subst hp
  exact Go.step (fun t kt => XS.aload X.here hx (g := mkF m pc Ls _) rfl hd hl hv kt) k
theorem Go.iconst (X : Stand p l e R s m args below meth c T locs cells slots) (hx : p.tables.exec = Jvm.exec) {pc : Nat} (pc' : Nat) {Ls : Array Slot} {st : List Value} {i : Int} {v : Int32} (hp : pc' = pc + 1) (hd : decode c.code pc = .ok (.iconst i, 1)) (hv : Int32.ofInt i = v) (k : Go p e below F0 (T.setTop (mkF m pc' Ls (.int v :: st)))) : Go p e below F0 (T.setTop (mkF m pc Ls st)) := by
  subst hp
  exact Go.step (fun t kt => XS.iconst X.here hx (g := mkF m pc Ls _) rfl hd (by rw [hv]; exact kt)) k
theorem Go.bipush (X : Stand p l e R s m args below meth c T locs cells slots) (hx : p.tables.exec = Jvm.exec) {pc : Nat} (pc' : Nat) {Ls : Array Slot} {st : List Value} {i : Int} {v : Int32} (hp : pc' = pc + 2) (hd : decode c.code pc = .ok (.bipush i, 2)) (hv : (Int8.ofInt i).toInt32 = v) (k : Go p e below F0 (T.setTop (mkF m pc' Ls (.int v :: st)))) : Go p e below F0 (T.setTop (mkF m pc Ls st)) := by
  subst hp
  exact Go.step (fun t kt => XS.bipush X.here hx (g := mkF m pc Ls _) rfl hd (by rw [hv]; exact kt)) k
theorem Go.sipush (X : Stand p l e R s m args below meth c T locs cells slots) (hx : p.tables.exec = Jvm.exec) {pc : Nat} (pc' : Nat) {Ls : Array Slot} {st : List Value} {i : Int} {v : Int32} (hp : pc' = pc + 3) (hd : decode c.code pc = .ok (.sipush i, 3)) (hv : (Int16.ofInt i).toInt32 = v) (k : Go p e below F0 (T.setTop (mkF m pc' Ls (.int v :: st)))) : Go p e below F0 (T.setTop (mkF m pc Ls st)) := by
  subst hp
  exact Go.step (fun t kt => XS.sipush X.here hx (g := mkF m pc Ls _) rfl hd (by rw [hv]; exact kt)) k
theorem Go.anull (X : Stand p l e R s m args below meth c T locs cells slots) (hx : p.tables.exec = Jvm.exec) {pc : Nat} (pc' : Nat) {Ls : Array Slot} {st : List Value} (hp : pc' = pc + 1) (hd : decode c.code pc = .ok (.aconst_null, 1))  (k : Go p e below F0 (T.setTop (mkF m pc' Ls (.null :: st)))) : Go p e below F0 (T.setTop (mkF m pc Ls st)) := by
  subst hp
  exact Go.step (fun t kt => XS.aconstNull X.here hx (g := mkF m pc Ls _) rfl hd kt) k
theorem Go.iadd (X : Stand p l e R s m args below meth c T locs cells slots) (hx : p.tables.exec = Jvm.exec) {pc : Nat} (pc' : Nat) {Ls : Array Slot} {x y : Int32} {rest : List Value} (hp : pc' = pc + 1) (hd : decode c.code pc = .ok (.iadd, 1))  (k : Go p e below F0 (T.setTop (mkF m pc' Ls (.int (x + y) :: rest)))) : Go p e below F0 (T.setTop (mkF m pc Ls (.int y :: .int x :: rest))) := by
  subst hp
  exact Go.step (fun t kt => XS.iadd X.here hx (g := mkF m pc Ls _) rfl hd rfl kt) k
theorem Go.isub (X : Stand p l e R s m args below meth c T locs cells slots) (hx : p.tables.exec = Jvm.exec) {pc : Nat} (pc' : Nat) {Ls : Array Slot} {x y : Int32} {rest : List Value} (hp : pc' = pc + 1) (hd : decode c.code pc = .ok (.isub, 1))  (k : Go p e below F0 (T.setTop (mkF m pc' Ls (.int (x - y) :: rest)))) : Go p e below F0 (T.setTop (mkF m pc Ls (.int y :: .int x :: rest))) := by
  subst hp
  exact Go.step (fun t kt => XS.isub X.here hx (g := mkF m pc Ls _) rfl hd rfl kt) k
theorem Go.iand (X : Stand p l e R s m args below meth c T locs cells slots) (hx : p.tables.exec = Jvm.exec) {pc : Nat} (pc' : Nat) {Ls : Array Slot} {x y : Int32} {rest : List Value} (hp : pc' = pc + 1) (hd : decode c.code pc = .ok (.iand, 1))  (k : Go p e below F0 (T.setTop (mkF m pc' Ls (.int (x &&& y) :: rest)))) : Go p e below F0 (T.setTop (mkF m pc Ls (.int y :: .int x :: rest))) := by
  subst hp
  exact Go.step (fun t kt => XS.iand X.here hx (g := mkF m pc Ls _) rfl hd rfl kt) k
theorem Go.ior (X : Stand p l e R s m args below meth c T locs cells slots) (hx : p.tables.exec = Jvm.exec) {pc : Nat} (pc' : Nat) {Ls : Array Slot} {x y : Int32} {rest : List Value} (hp : pc' = pc + 1) (hd : decode c.code pc = .ok (.ior, 1))  (k : Go p e below F0 (T.setTop (mkF m pc' Ls (.int (x ||| y) :: rest)))) : Go p e below F0 (T.setTop (mkF m pc Ls (.int y :: .int x :: rest))) := by
  subst hp
  exact Go.step (fun t kt => XT.ior X.here hx (g := mkF m pc Ls _) rfl hd rfl kt) k
theorem Go.ishl (X : Stand p l e R s m args below meth c T locs cells slots) (hx : p.tables.exec = Jvm.exec) {pc : Nat} (pc' : Nat) {Ls : Array Slot} {x y : Int32} {rest : List Value} (hp : pc' = pc + 1) (hd : decode c.code pc = .ok (.ishl, 1))  (k : Go p e below F0 (T.setTop (mkF m pc' Ls (.int (x <<< (y &&& 31)) :: rest)))) : Go p e below F0 (T.setTop (mkF m pc Ls (.int y :: .int x :: rest))) := by
  subst hp
  exact Go.step (fun t kt => XT.ishl X.here hx (g := mkF m pc Ls _) rfl hd rfl kt) k
theorem Go.ishr (X : Stand p l e R s m args below meth c T locs cells slots) (hx : p.tables.exec = Jvm.exec) {pc : Nat} (pc' : Nat) {Ls : Array Slot} {x y : Int32} {rest : List Value} (hp : pc' = pc + 1) (hd : decode c.code pc = .ok (.ishr, 1))  (k : Go p e below F0 (T.setTop (mkF m pc' Ls (.int (x >>> (y &&& 31)) :: rest)))) : Go p e below F0 (T.setTop (mkF m pc Ls (.int y :: .int x :: rest))) := by
  subst hp
  exact Go.step (fun t kt => XT.ishr X.here hx (g := mkF m pc Ls _) rfl hd rfl kt) k
theorem Go.iushr (X : Stand p l e R s m args below meth c T locs cells slots) (hx : p.tables.exec = Jvm.exec) {pc : Nat} (pc' : Nat) {Ls : Array Slot} {x y : Int32} {rest : List Value} (hp : pc' = pc + 1) (hd : decode c.code pc = .ok (.iushr, 1))  (k : Go p e below F0 (T.setTop (mkF m pc' Ls (.int ((x.toUInt32 >>> (y &&& 31).toUInt32).toInt32) :: rest)))) : Go p e below F0 (T.setTop (mkF m pc Ls (.int y :: .int x :: rest))) := by
  subst hp
  exact Go.step (fun t kt => XT.iushr X.here hx (g := mkF m pc Ls _) rfl hd rfl kt) k
theorem Go.i2b (X : Stand p l e R s m args below meth c T locs cells slots) (hx : p.tables.exec = Jvm.exec) {pc : Nat} (pc' : Nat) {Ls : Array Slot} {x : Int32} {rest : List Value} (hp : pc' = pc + 1) (hd : decode c.code pc = .ok (.i2b, 1))  (k : Go p e below F0 (T.setTop (mkF m pc' Ls (.int (x.toInt8.toInt32) :: rest)))) : Go p e below F0 (T.setTop (mkF m pc Ls (.int x :: rest))) := by
  subst hp
  exact Go.step (fun t kt => XT.i2b X.here hx (g := mkF m pc Ls _) rfl hd rfl kt) k
theorem Go.i2c (X : Stand p l e R s m args below meth c T locs cells slots) (hx : p.tables.exec = Jvm.exec) {pc : Nat} (pc' : Nat) {Ls : Array Slot} {x : Int32} {rest : List Value} (hp : pc' = pc + 1) (hd : decode c.code pc = .ok (.i2c, 1))  (k : Go p e below F0 (T.setTop (mkF m pc' Ls (.int (x.toUInt32.toUInt16.toUInt32.toInt32) :: rest)))) : Go p e below F0 (T.setTop (mkF m pc Ls (.int x :: rest))) := by
  subst hp
  exact Go.step (fun t kt => XT.i2c X.here hx (g := mkF m pc Ls _) rfl hd rfl kt) k
theorem Go.dup (X : Stand p l e R s m args below meth c T locs cells slots) (hx : p.tables.exec = Jvm.exec) {pc : Nat} (pc' : Nat) {Ls : Array Slot} {x : Value} {rest : List Value} (hp : pc' = pc + 1) (hd : decode c.code pc = .ok (.dup, 1)) (hc : x.category = 1) (k : Go p e below F0 (T.setTop (mkF m pc' Ls (x :: x :: rest)))) : Go p e below F0 (T.setTop (mkF m pc Ls (x :: rest))) := by
  subst hp
  exact Go.step (fun t kt => XS.dup X.here hx (g := mkF m pc Ls _) rfl hd rfl hc kt) k
theorem Go.pop (X : Stand p l e R s m args below meth c T locs cells slots) (hx : p.tables.exec = Jvm.exec) {pc : Nat} (pc' : Nat) {Ls : Array Slot} {x : Value} {rest : List Value} (hp : pc' = pc + 1) (hd : decode c.code pc = .ok (.pop, 1)) (hc : x.category = 1) (k : Go p e below F0 (T.setTop (mkF m pc' Ls rest))) : Go p e below F0 (T.setTop (mkF m pc Ls (x :: rest))) := by
  subst hp
  exact Go.step (fun t kt => XT.pop X.here hx (g := mkF m pc Ls _) rfl hd rfl hc kt) k
theorem Go.istoreN (X : Stand p l e R s m args below meth c T locs cells slots) (hx : p.tables.exec = Jvm.exec) {pc : Nat} (pc' : Nat) {Ls : Array Slot} {k : Fin 4} {x : Int32} {rest : List Value} {Ls' : Array Slot} (hp : pc' = pc + 1) (hd : decode c.code pc = .ok (.istore_n k, 1)) (hl : storeLocals Ls k.val (.int x) = some Ls') (k : Go p e below F0 (T.setTop (mkF m pc' Ls' rest))) : Go p e below F0 (T.setTop (mkF m pc Ls (.int x :: rest))) := by
  subst hp
  exact Go.step (fun t kt => XS.istoreN X.here hx (g := mkF m pc Ls _) rfl hd rfl hl kt) k
theorem Go.istore (X : Stand p l e R s m args below meth c T locs cells slots) (hx : p.tables.exec = Jvm.exec) {pc : Nat} (pc' : Nat) {Ls : Array Slot} {k : Nat} {x : Int32} {rest : List Value} {Ls' : Array Slot} (hp : pc' = pc + 2) (hd : decode c.code pc = .ok (.istore k, 2)) (hl : storeLocals Ls k (.int x) = some Ls') (k : Go p e below F0 (T.setTop (mkF m pc' Ls' rest))) : Go p e below F0 (T.setTop (mkF m pc Ls (.int x :: rest))) := by
  subst hp
  exact Go.step (fun t kt => XS.istore X.here hx (g := mkF m pc Ls _) rfl hd rfl hl kt) k
theorem Go.astoreN (X : Stand p l e R s m args below meth c T locs cells slots) (hx : p.tables.exec = Jvm.exec) {pc : Nat} (pc' : Nat) {Ls : Array Slot} {k : Fin 4} {x : Value} {rest : List Value} {Ls' : Array Slot} (hp : pc' = pc + 1) (hd : decode c.code pc = .ok (.astore_n k, 1)) (hv : x.isRef = true) (hl : storeLocals Ls k.val x = some Ls') (k : Go p e below F0 (T.setTop (mkF m pc' Ls' rest))) : Go p e below F0 (T.setTop (mkF m pc Ls (x :: rest))) := by
  subst hp
  exact Go.step (fun t kt => XS.astoreN X.here hx (g := mkF m pc Ls _) rfl hd rfl hv hl kt) k
theorem Go.astore (X : Stand p l e R s m args below meth c T locs cells slots) (hx : p.tables.exec = Jvm.exec) {pc : Nat} (pc' : Nat) {Ls : Array Slot} {k : Nat} {x : Value} {rest : List Value} {Ls' : Array Slot} (hp : pc' = pc + 2) (hd : decode c.code pc = .ok (.astore k, 2)) (hv : x.isRef = true) (hl : storeLocals Ls k x = some Ls') (k : Go p e below F0 (T.setTop (mkF m pc' Ls' rest))) : Go p e below F0 (T.setTop (mkF m pc Ls (x :: rest))) := by
  subst hp
  exact Go.step (fun t kt => XS.astore X.here hx (g := mkF m pc Ls _) rfl hd rfl hv hl kt) k
theorem Go.iinc (X : Stand p l e R s m args below meth c T locs cells slots) (hx : p.tables.exec = Jvm.exec) {pc : Nat} (pc' : Nat) {Ls : Array Slot} {st : List Value} {k : Nat} {cst : Int} {x y : Int32} {Ls' : Array Slot} (hp : pc' = pc + 3) (hd : decode c.code pc = .ok (.iinc k cst, 3)) (hl : Ls[k]? = some (.val (.int x))) (hy : x + Int32.ofInt cst = y) (hl' : storeLocals Ls k (.int y) = some Ls') (k : Go p e below F0 (T.setTop (mkF m pc' Ls' st))) : Go p e below F0 (T.setTop (mkF m pc Ls st)) := by
  subst hp
  exact Go.step (fun t kt => XS.iinc X.here hx (g := mkF m pc Ls _) rfl hd hl (by rw [hy]; exact hl') kt) k
theorem Go.goto (X : Stand p l e R s m args below meth c T locs cells slots) (hx : p.tables.exec = Jvm.exec) {pc : Nat} (pc' : Nat) {Ls : Array Slot} {o : Int} {st : List Value} (hd : decode c.code pc = .ok (.goto o, 3))  (ho : 0 ≤ (pc : Int) + o) (hp : ((pc : Int) + o).toNat = pc') (k : Go p e below F0 (T.setTop (mkF m pc' Ls st))) : Go p e below F0 (T.setTop (mkF m pc Ls st)) :=
  Go.step (fun t kt => XS.goto X.here hx (g := mkF m pc Ls _) rfl rfl hd ho hp kt) k
theorem Go.ifYes (X : Stand p l e R s m args below meth c T locs cells slots) (hx : p.tables.exec = Jvm.exec) {pc : Nat} (pc' : Nat) {Ls : Array Slot} {o : Int} {cd : ClassFile.Cond} {x : Int32} {rest : List Value} (hd : decode c.code pc = .ok (.ifCond cd o, 3)) (hc : if_icmp.holds cd x 0 = true) (ho : 0 ≤ (pc : Int) + o) (hp : ((pc : Int) + o).toNat = pc') (k : Go p e below F0 (T.setTop (mkF m pc' Ls rest))) : Go p e below F0 (T.setTop (mkF m pc Ls (.int x :: rest))) :=
  Go.step (fun t kt => XS.ifYes X.here hx (g := mkF m pc Ls _) rfl rfl hd rfl ((if0 _ _).trans hc) ho hp kt) k
theorem Go.icmpYes (X : Stand p l e R s m args below meth c T locs cells slots) (hx : p.tables.exec = Jvm.exec) {pc : Nat} (pc' : Nat) {Ls : Array Slot} {o : Int} {cd : ClassFile.Cond} {x y : Int32} {rest : List Value} (hd : decode c.code pc = .ok (.if_icmp cd o, 3)) (hc : if_icmp.holds cd x y = true) (ho : 0 ≤ (pc : Int) + o) (hp : ((pc : Int) + o).toNat = pc') (k : Go p e below F0 (T.setTop (mkF m pc' Ls rest))) : Go p e below F0 (T.setTop (mkF m pc Ls (.int y :: .int x :: rest))) :=
  Go.step (fun t kt => XS.icmpYes X.here hx (g := mkF m pc Ls _) rfl rfl hd rfl hc ho hp kt) k
theorem Go.ifnonnullYes (X : Stand p l e R s m args below meth c T locs cells slots) (hx : p.tables.exec = Jvm.exec) {pc : Nat} (pc' : Nat) {Ls : Array Slot} {o : Int} {b : Addr} {rest : List Value} (hd : decode c.code pc = .ok (.ifnonnull o, 3))  (ho : 0 ≤ (pc : Int) + o) (hp : ((pc : Int) + o).toNat = pc') (k : Go p e below F0 (T.setTop (mkF m pc' Ls rest))) : Go p e below F0 (T.setTop (mkF m pc Ls (.ref b :: rest))) :=
  Go.step (fun t kt => XT.ifnonnullYes X.here hx (g := mkF m pc Ls _) rfl rfl hd rfl ho hp kt) k
theorem Go.ifNo (X : Stand p l e R s m args below meth c T locs cells slots) (hx : p.tables.exec = Jvm.exec) {pc : Nat} (pc' : Nat) {Ls : Array Slot} {o : Int} {cd : ClassFile.Cond} {x : Int32} {rest : List Value} (hp : pc' = pc + 3) (hd : decode c.code pc = .ok (.ifCond cd o, 3)) (hc : if_icmp.holds cd x 0 = false) (k : Go p e below F0 (T.setTop (mkF m pc' Ls rest))) : Go p e below F0 (T.setTop (mkF m pc Ls (.int x :: rest))) := by
  subst hp
  exact Go.step (fun t kt => XS.ifNo X.here hx (g := mkF m pc Ls _) rfl hd rfl ((if0 _ _).trans hc) kt) k
theorem Go.icmpNo (X : Stand p l e R s m args below meth c T locs cells slots) (hx : p.tables.exec = Jvm.exec) {pc : Nat} (pc' : Nat) {Ls : Array Slot} {o : Int} {cd : ClassFile.Cond} {x y : Int32} {rest : List Value} (hp : pc' = pc + 3) (hd : decode c.code pc = .ok (.if_icmp cd o, 3)) (hc : if_icmp.holds cd x y = false) (k : Go p e below F0 (T.setTop (mkF m pc' Ls rest))) : Go p e below F0 (T.setTop (mkF m pc Ls (.int y :: .int x :: rest))) := by
  subst hp
  exact Go.step (fun t kt => XS.icmpNo X.here hx (g := mkF m pc Ls _) rfl hd rfl hc kt) k
theorem Go.acmp (X : Stand p l e R s m args below meth c T locs cells slots) (hx : p.tables.exec = Jvm.exec) {pc : Nat} (pc' : Nat) {Ls : Array Slot} {cd : ACond} {x y : Value} {rest : List Value} {o : Int} {same : Bool} (hd : decode c.code pc = .ok (.if_acmp cd o, 3)) (h1 : x.isRef = true) (h2 : y.isRef = true) (hq : decide (x = y) = same) (ho : 0 ≤ (pc : Int) + o) (hp : pc' = if acV cd same = true then ((pc : Int) + o).toNat else pc + 3) (k : Go p e below F0 (T.setTop (mkF m pc' Ls rest))) : Go p e below F0 (T.setTop (mkF m pc Ls (y :: x :: rest))) :=
  Go.step (fun t kt => Jvm.RoadKit.acmp (g := mkF m pc Ls _) X hx rfl h1 h2 rfl hd rfl hq ho hp kt) k
theorem Go.getF (X : Stand p l e R s m args below meth c T locs cells slots) (hx : p.tables.exec = Jvm.exec) (hZ : Z.Warmed39 s.vm) {own : String} {index : Nat} (hown : s.vm.findClass own = some m.cls) {R0 O n d host : String} (wl : (Jvm.Cond.fieldLink own index R0 n d).before a0 Z = true ∨ (Jvm.Cond.fieldLinkNest own index R0 n d host).before a0 Z = true) (via : Via Z R0 O n d) (eT : T.heap = h) {a : Addr} {v : Value} (F : Fld Z h a O n d v) {pc : Nat} (pc' : Nat) {Ls : Array Slot} {rest : List Value} (hp : pc' = pc + 3) (hd : decode c.code pc = .ok (.getfield index, 3))
    (k : ∀ T', T'.heap = h → Stand p l e R s m args below meth c T' locs cells slots → Go p e below F0 (T'.setTop (mkF m pc' Ls (v :: rest)))) : Go p e below F0 (T.setTop (mkF m pc Ls (.ref a :: rest))) := by
  subst hp
  obtain ⟨T', X', e', st⟩ := Jvm.RoadKit.getF X hx hZ hown wl via eT F (g := mkF m pc Ls (.ref a :: rest)) rfl rfl hd
  exact Go.step st (k T' e' X')
theorem gF (X : Stand p l e R s m args below meth c T locs cells slots) (hx : p.tables.exec = Jvm.exec) (hZ : Z.Warmed39 s.vm) {own : String} {index : Nat} (hown : s.vm.findClass own = some m.cls) {O n d : String} (wl : (Jvm.Cond.fieldLink own index O n d).before a0 Z = true) (eT : T.heap = h) {a : Addr} {v : Value} (F : Fld Z h a O n d v) {pc : Nat} (pc' : Nat) {Ls : Array Slot} {rest : List Value} (hp : pc' = pc + 3) (hd : decode c.code pc = .ok (.getfield index, 3))
    (k : ∀ T', T'.heap = h → Stand p l e R s m args below meth c T' locs cells slots → Go p e below F0 (T'.setTop (mkF m pc' Ls (v :: rest)))) : Go p e below F0 (T.setTop (mkF m pc Ls (.ref a :: rest))) :=
  Go.getF X hx hZ hown (host := "") (Or.inl wl) Via.refl eT F pc' hp hd k
theorem aN (X : Stand p l e R s m args below meth c T locs cells slots) (hx : p.tables.exec = Jvm.exec) {pc : Nat} (pc' : Nat) {Ls : Array Slot} {st : List Value} {k : Fin 4} {v : Value} (hp : pc' = pc + 1) {B : ByteArray} (hby : c.code = B) (hd : decode B pc = .ok (.aload_n k, 1)) (hl : Ls[k.val]? = some (.val v)) (hv : v.isRef = true) (k : Go p e below F0 (T.setTop (mkF m pc' Ls (v :: st)))) : Go p e below F0 (T.setTop (mkF m pc Ls st)) :=
  Go.aloadN X hx pc' hp (by rw [hby]; exact hd) hl hv k
theorem iN (X : Stand p l e R s m args below meth c T locs cells slots) (hx : p.tables.exec = Jvm.exec) {pc : Nat} (pc' : Nat) {Ls : Array Slot} {st : List Value} {k : Fin 4} {v : Int32} (hp : pc' = pc + 1) {B : ByteArray} (hby : c.code = B) (hd : decode B pc = .ok (.iload_n k, 1)) (hl : Ls[k.val]? = some (.val (.int v))) (k : Go p e below F0 (T.setTop (mkF m pc' Ls (.int v :: st)))) : Go p e below F0 (T.setTop (mkF m pc Ls st)) :=
  Go.iloadN X hx pc' hp (by rw [hby]; exact hd) hl k
theorem hpz (T : State) : ∃ z, T.heap = z := ⟨_, rfl⟩
theorem nF {s : State} {C : String} {x : MethodName} (h : (Jvm.Cond.selects C x x).before #[] s = true) : NotFace s x := notFace_of_selects (args := #[]) h
theorem Go.getS (X : Stand p l e R s m args below meth c T locs cells slots) (hx : p.tables.exec = Jvm.exec) (hZ : Z.Warmed39 s.vm) {own : String} {index : Nat} (hown : s.vm.findClass own = some m.cls) {R0 O n d host : String} (wl : (Jvm.Cond.fieldLink own index R0 n d).before a0 Z = true ∨ (Jvm.Cond.fieldLinkNest own index R0 n d host).before a0 Z = true) (via : Via Z R0 O n d) (eT : T.heap = h) {v : Value} (F : Sta Z h O n d v) {pc : Nat} (pc' : Nat) {Ls : Array Slot} {rest : List Value} (hp : pc' = pc + 3) (hd : decode c.code pc = .ok (.getstatic index, 3))
    (k : ∀ T', T'.heap = h → Stand p l e R s m args below meth c T' locs cells slots → Go p e below F0 (T'.setTop (mkF m pc' Ls (v :: rest)))) : Go p e below F0 (T.setTop (mkF m pc Ls rest)) := by
  subst hp
  obtain ⟨T', X', e', st⟩ := Jvm.RoadKit.getS2 X hx hZ hown wl via eT F (g := mkF m pc Ls rest) rfl hd
  exact Go.step st (k T' e' X')
theorem Go.putF (X : Stand p l e R s m args below meth c T locs cells slots) (hx : p.tables.exec = Jvm.exec) (hZ : Z.Warmed39 s.vm) {own : String} {index : Nat} (hown : s.vm.findClass own = some m.cls) {R0 O n d host C : String} {kk : Nat} {ty : FieldType} (wl : (Jvm.Cond.fieldLink own index R0 n d).before a0 Z = true ∨ (Jvm.Cond.fieldLinkNest own index R0 n d host).before a0 Z = true) (via : Via Z R0 O n d) (eT : T.heap = h) {a : Addr} {v old : Value} (F : Fld Z h a O n d old) (E : Exa Z h a C) (L : (Jvm.Cond.lays C O n d).before a0 Z = true ∨ ((Jvm.Cond.laysFinal C O n d).before a0 Z = true ∧ own = O ∧ meth.name = "<init>")) (wi : (Jvm.Cond.instantiable C kk).before a0 Z = true) (hty : parseFieldDescriptor d = some ty) (hn : narrow ty v = v) (hf : fits ty v = true) {pc : Nat} (pc' : Nat) {Ls : Array Slot} {rest : List Value} (hp : pc' = pc + 3) (hd : decode c.code pc = .ok (.putfield index, 3))
    (k : ∀ T' h', T'.heap = h' → Wr h h' a (slotOf Z O n d) v → Fld Z h' a O n d v → Stand p l e R s m args below meth c T' (locs ++ [⟨a, slotOf Z O n d⟩]) cells slots → Go p e below F0 (T'.setTop (mkF m pc' Ls rest))) : Go p e below F0 (T.setTop (mkF m pc Ls (v :: .ref a :: rest))) := by
  subst hp
  obtain ⟨T', h', X', e', W, st⟩ := Jvm.RoadKit.putF X hx hZ hown wl via eT F E L wi hty hn hf (g := mkF m pc Ls (v :: .ref a :: rest)) rfl rfl hd
  exact Go.step st (k T' h' e' W (F.same W) X')
theorem Go.putFN (X : Stand p l e R s m args below meth c T locs cells slots) (hx : p.tables.exec = Jvm.exec) (hZ : Z.Warmed39 s.vm) {own : String} {index : Nat} (hown : s.vm.findClass own = some m.cls) {R0 O n d C : String} {kk : Nat} {ty : FieldType} (wl : (Jvm.Cond.fieldLink own index R0 n d).before a0 Z = true) (via : Via Z R0 O n d) (eT : T.heap = h) {a : Addr} {v v' old : Value} (F : Fld Z h a O n d old) (E : Exa Z h a C) (L : (Jvm.Cond.lays C O n d).before a0 Z = true ∨ ((Jvm.Cond.laysFinal C O n d).before a0 Z = true ∧ own = O ∧ meth.name = "<init>")) (wi : (Jvm.Cond.instantiable C kk).before a0 Z = true) (hty : parseFieldDescriptor d = some ty) (hn : narrow ty v = v') (hf : fits ty v' = true) {pc : Nat} (pc' : Nat) {Ls : Array Slot} {rest : List Value} (hp : pc' = pc + 3) (hd : decode c.code pc = .ok (.putfield index, 3))
    (k : ∀ T' h', T'.heap = h' → Wr h h' a (slotOf Z O n d) v' → Fld Z h' a O n d v' → Stand p l e R s m args below meth c T' (locs ++ [⟨a, slotOf Z O n d⟩]) cells slots → Go p e below F0 (T'.setTop (mkF m pc' Ls rest))) : Go p e below F0 (T.setTop (mkF m pc Ls (v :: .ref a :: rest))) := by
  subst hp
  obtain ⟨T', h', X', e', W, st⟩ := Jvm.RoadKit.putFN X hx hZ hown wl via eT F E L wi hty hn hf (g := mkF m pc Ls (v :: .ref a :: rest)) rfl rfl hd
  exact Go.step st (k T' h' e' W (F.same W) X')
theorem Go.new (X : Stand p l e R s m args below meth c T locs cells slots) (hx : p.tables.exec = Jvm.exec) (hZ : Z.Warmed39 s.vm) {own : String} {index : Nat} (hown : s.vm.findClass own = some m.cls) {C : String} {n : Nat} (wl : (Jvm.Cond.classLink own index C).before a0 Z = true) (wi : (Jvm.Cond.instantiable C n).before a0 Z = true) (wz : (Jvm.Cond.initialized C).before a0 Z = true) (eT : T.heap = h) (hc : cells + 1 ≤ R.cells) (hl : slots + n ≤ R.slots) {pc : Nat} (pc' : Nat) {Ls : Array Slot} {rest : List Value} (hp : pc' = pc + 3) (hd : decode c.code pc = .ok (.new index, 3))
    (k : ∀ T' h' a, T'.heap = h' → Ext h h' → a = h.size → Exa Z h' a C → (∀ {O nm d : String} {ty : FieldType}, Laid Z a0 C O nm d → parseFieldDescriptor d = some ty → Fld Z h' a O nm d (defaultValue ty)) → Stand p l e R s m args below meth c T' locs (cells + 1) (slots + n) → Go p e below F0 (T'.setTop (mkF m pc' Ls (.ref a :: rest)))) : Go p e below F0 (T.setTop (mkF m pc Ls rest)) := by
  subst hp
  obtain ⟨T', h', X', e', E, A, D, -, st⟩ := newO X hx hZ hown wl wi wz eT (g := mkF m pc Ls rest) rfl hd hc hl
  exact Go.step st (k T' h' h.size e' E rfl A D X')
theorem Old.z {n0 : Nat} (O : Old Z n0 h) : n0 ≤ h.size := O.1 ▸ O.2.1
theorem Go.newU (X : Stand p l e R s m args below meth c T locs cells slots) (hx : p.tables.exec = Jvm.exec) (hZ : Z.Warmed39 s.vm) {own : String} {index : Nat} (hown : s.vm.findClass own = some m.cls) {C : String} {n : Nat} (wl : (Jvm.Cond.classLink own index C).before a0 Z = true) (wi : (Jvm.Cond.instantiable C n).before a0 Z = true) (wz : (Jvm.Cond.initialized C).before a0 Z = true) (eT : T.heap = h) (hc : cells + 1 ≤ R.cells) (hl : slots + n ≤ R.slots) {pc : Nat} (pc' : Nat) {Ls : Array Slot} {rest : List Value} (hp : pc' = pc + 3) (hd : decode c.code pc = .ok (.new index, 3))
    (k : ∀ T' h' a, T'.heap = h' → Ext h h' → a = h.size → Exa Z h' a C → (∀ {O nm d : String} {ty : FieldType}, Laid Z a0 C O nm d → parseFieldDescriptor d = some ty → Fld Z h' a O nm d (defaultValue ty)) → Unt h' a → Stand p l e R s m args below meth c T' locs (cells + 1) (slots + n) → Go p e below F0 (T'.setTop (mkF m pc' Ls (.ref a :: rest)))) : Go p e below F0 (T.setTop (mkF m pc Ls rest)) := by
  subst hp
  obtain ⟨T', h', X', e', E, A, D, U, st⟩ := newO X hx hZ hown wl wi wz eT (g := mkF m pc Ls rest) rfl hd hc hl
  exact Go.step st (k T' h' h.size e' E rfl A D U X')
theorem Go.newarray (X : Stand p l e R s m args below meth c T locs cells slots) (hx : p.tables.exec = Jvm.exec) (hZ : Z.Warmed39 s.vm) {aty : ArrayType} {ty : FieldType} (hty : newarray.typeOf aty = ty) (wa : (Jvm.Cond.arrayClass ty).before a0 Z = true) (eT : T.heap = h) {n : Int32} (hn : ¬ n < 0) {cap : Nat} (hcap : n.toNatClampNeg ≤ cap) (hb : cap * 8 ≤ 536870912) (hc : cells + 1 ≤ R.cells) (hl : slots + cap ≤ R.slots) {ad : String} (had : "[" ++ ty.toString = ad) (N : Nat) {pc : Nat} (pc' : Nat) {Ls : Array Slot} {rest : List Value} (hp : pc' = pc + 2) (hd : decode c.code pc = .ok (.newarray aty, 2))
    (k : ∀ T' h' a kk, T'.heap = h' → Ext h h' → a = h.size → Arv Z h' a kk ty n (List.replicate N (defaultValue ty)) (defaultValue ty) → Exa Z h' a ad → Stand p l e R s m args below meth c T' locs (cells + 1) (slots + cap) → Go p e below F0 (T'.setTop (mkF m pc' Ls (.ref a :: rest)))) : Go p e below F0 (T.setTop (mkF m pc Ls (.int n :: rest))) := by
  subst hp hty
  obtain ⟨T', h', cA, X', e', E, A, Ex, st⟩ := newPE X hx hZ wa eT (g := mkF m pc Ls (.int n :: rest)) rfl hd rfl hn hcap hb hc hl had
  exact Go.step st (k T' h' h.size cA e' E rfl ((Arv.new A hn).pad (pad_rep [] _ N)) Ex X')
theorem Go.castore (X : Stand p l e R s m args below meth c T locs cells slots) (hx : p.tables.exec = Jvm.exec) (hZ : Z.Warmed39 s.vm) (eT : T.heap = h) {a : Addr} {kk : ClassId} {z : Int32} {vs : List Value} {dv : Value} (V : Arv Z h a kk .char z vs dv) {j : Int32} {x : Int32} (x' : Int32) (hn : nar .char x = x') (hj : ¬ j < 0 ∧ j < z) (i : Nat) (hi : j.toNatClampNeg = i) (hl : i < vs.length) {pc : Nat} (pc' : Nat) {Ls : Array Slot} {rest : List Value} (hp : pc' = pc + 1) (hd : decode c.code pc = .ok (.castore, 1))
    (k : ∀ T' h', T'.heap = h' → Wr h h' a j.toNatClampNeg (.int x') → Arv Z h' a kk .char z (vs.set i (.int x')) dv → Stand p l e R s m args below meth c T' (locs ++ [⟨a, j.toNatClampNeg⟩]) cells slots → Go p e below F0 (T'.setTop (mkF m pc' Ls rest))) : Go p e below F0 (T.setTop (mkF m pc Ls (.int x :: .int j :: .ref a :: rest))) := by
  subst hp hn
  obtain ⟨cl, A, q1, S, q3, H, G⟩ := V
  obtain ⟨T', h', X', e', W, st⟩ := stC X hx hZ eT A (j := j) (x := x) (inb_of S hj) (g := mkF m pc Ls (.int x :: .int j :: .ref a :: rest)) rfl rfl hd
  exact Go.step st (k T' h' e' W (Arv.set A q1 S q3 H G (fits_nar_char x) W i hi hl) X')
theorem Go.bastore (X : Stand p l e R s m args below meth c T locs cells slots) (hx : p.tables.exec = Jvm.exec) (hZ : Z.Warmed39 s.vm) (eT : T.heap = h) {a : Addr} {kk : ClassId} {z : Int32} {vs : List Value} {dv : Value} (V : Arv Z h a kk .byte z vs dv) {j : Int32} {x : Int32} (x' : Int32) (hn : nar .byte x = x') (hj : ¬ j < 0 ∧ j < z) (i : Nat) (hi : j.toNatClampNeg = i) (hl : i < vs.length) {pc : Nat} (pc' : Nat) {Ls : Array Slot} {rest : List Value} (hp : pc' = pc + 1) (hd : decode c.code pc = .ok (.bastore, 1))
    (k : ∀ T' h', T'.heap = h' → Wr h h' a j.toNatClampNeg (.int x') → Arv Z h' a kk .byte z (vs.set i (.int x')) dv → Stand p l e R s m args below meth c T' (locs ++ [⟨a, j.toNatClampNeg⟩]) cells slots → Go p e below F0 (T'.setTop (mkF m pc' Ls rest))) : Go p e below F0 (T.setTop (mkF m pc Ls (.int x :: .int j :: .ref a :: rest))) := by
  subst hp hn
  obtain ⟨cl, A, q1, S, q3, H, G⟩ := V
  obtain ⟨T', h', X', e', W, st⟩ := stB X hx hZ eT A (j := j) (x := x) (inb_of S hj) (g := mkF m pc Ls (.int x :: .int j :: .ref a :: rest)) rfl rfl hd
  exact Go.step st (k T' h' e' W (Arv.set A q1 S q3 H G (fits_nar_byte x) W i hi hl) X')
theorem Go.caload (X : Stand p l e R s m args below meth c T locs cells slots) (hx : p.tables.exec = Jvm.exec) (hZ : Z.Warmed39 s.vm) (eT : T.heap = h) {a : Addr} {kk : ClassId} {z : Int32} {vs : List Value} {dv : Value} (V : Arv Z h a kk .char z vs dv) {j : Int32} {v : Value} (hj : ¬ j < 0 ∧ j < z) (hv : vs.getD j.toNatClampNeg dv = v) {pc : Nat} (pc' : Nat) {Ls : Array Slot} {rest : List Value} (hp : pc' = pc + 1) (hd : decode c.code pc = .ok (.caload, 1)) (k : Go p e below F0 (T.setTop (mkF m pc' Ls (v :: rest)))) : Go p e below F0 (T.setTop (mkF m pc Ls (.int j :: .ref a :: rest))) := by
  subst hp
  obtain ⟨cl, A, q1, S, q3, H, G⟩ := V
  exact Go.step (fun t kt => X.caload hx (j := j) (v := v) (by rw [eT]; exact A.1) (State.isArrayOf_alike hZ.alike A.2.1) A.2.2 (inb_of S hj) (H.at (inb_of S hj) hv) (g := mkF m pc Ls (.int j :: .ref a :: rest)) rfl rfl hd t kt) k
theorem Go.baload (X : Stand p l e R s m args below meth c T locs cells slots) (hx : p.tables.exec = Jvm.exec) (hZ : Z.Warmed39 s.vm) (eT : T.heap = h) {a : Addr} {kk : ClassId} {z : Int32} {vs : List Value} {dv : Value} (V : Arv Z h a kk .byte z vs dv) {j : Int32} {v : Value} (hj : ¬ j < 0 ∧ j < z) (hv : vs.getD j.toNatClampNeg dv = v) {pc : Nat} (pc' : Nat) {Ls : Array Slot} {rest : List Value} (hp : pc' = pc + 1) (hd : decode c.code pc = .ok (.baload, 1)) (k : Go p e below F0 (T.setTop (mkF m pc' Ls (v :: rest)))) : Go p e below F0 (T.setTop (mkF m pc Ls (.int j :: .ref a :: rest))) := by
  subst hp
  obtain ⟨cl, A, q1, S, q3, H, G⟩ := V
  exact Go.step (fun t kt => X.baloadBytes hx (j := j) (v := v) (by rw [eT]; exact A.1) (State.isArrayOf_alike hZ.alike A.2.1) A.2.2 (inb_of S hj) (H.at (inb_of S hj) hv) (g := mkF m pc Ls (.int j :: .ref a :: rest)) rfl rfl hd t kt) k
theorem Go.arraylength (X : Stand p l e R s m args below meth c T locs cells slots) (hx : p.tables.exec = Jvm.exec) (hZ : Z.Warmed39 s.vm) (eT : T.heap = h) {a : Addr} {kk : ClassId} {ty : FieldType} {z : Int32} {vs : List Value} {dv : Value} (V : Arv Z h a kk ty z vs dv) {pc : Nat} (pc' : Nat) {Ls : Array Slot} {rest : List Value} (hp : pc' = pc + 1) (hd : decode c.code pc = .ok (.arraylength, 1)) (k : Go p e below F0 (T.setTop (mkF m pc' Ls (.int z :: rest)))) : Go p e below F0 (T.setTop (mkF m pc Ls (.ref a :: rest))) := by
  subst hp
  obtain ⟨cl, A, q1, S, q3, H, G⟩ := V
  refine Go.step (fun t kt => X.arraylength hx (by rw [eT]; exact A.1) (State.isArrayOf_alike hZ.alike A.2.1) (g := mkF m pc Ls (.ref a :: rest)) rfl rfl hd t kt) ?_
  rw [len_of S q3]
  exact k
theorem Go.castY (X : Stand p l e R s m args below meth c T locs cells slots) (hx : p.tables.exec = Jvm.exec) (hZ : Z.Warmed39 s.vm) {own : String} {index : Nat} (hown : s.vm.findClass own = some m.cls) {K : String} (wl : (Jvm.Cond.classLink own index K).before a0 Z = true) (eT : T.heap = h) {a : Addr} (F : Ins Z h a K true) {pc : Nat} (pc' : Nat) {Ls : Array Slot} {rest : List Value} (hp : pc' = pc + 3) (hd : decode c.code pc = .ok (.checkcast index, 3))
    (k : ∀ T', T'.heap = h → Stand p l e R s m args below meth c T' locs cells slots → Go p e below F0 (T'.setTop (mkF m pc' Ls (.ref a :: rest)))) : Go p e below F0 (T.setTop (mkF m pc Ls (.ref a :: rest))) := by
  subst hp
  obtain ⟨T', X', e', st⟩ := Jvm.RoadKit.castY X hx hZ hown wl eT F (g := mkF m pc Ls (.ref a :: rest)) rfl rfl hd
  exact Go.step st (k T' e' X')
theorem Go.instY (X : Stand p l e R s m args below meth c T locs cells slots) (hx : p.tables.exec = Jvm.exec) (hZ : Z.Warmed39 s.vm) {own : String} {index : Nat} (hown : s.vm.findClass own = some m.cls) {K : String} (wl : (Jvm.Cond.classLink own index K).before a0 Z = true) (eT : T.heap = h) {a : Addr} (F : Ins Z h a K true) {pc : Nat} (pc' : Nat) {Ls : Array Slot} {rest : List Value} (hp : pc' = pc + 3) (hd : decode c.code pc = .ok (.instanceof index, 3))
    (k : ∀ T', T'.heap = h → Stand p l e R s m args below meth c T' locs cells slots → Go p e below F0 (T'.setTop (mkF m pc' Ls (.int 1 :: rest)))) : Go p e below F0 (T.setTop (mkF m pc Ls (.ref a :: rest))) := by
  subst hp
  obtain ⟨T', X', e', st⟩ := Jvm.RoadKit.instY X hx hZ hown wl eT F (g := mkF m pc Ls (.ref a :: rest)) rfl rfl hd
  exact Go.step st (k T' e' X')
theorem Go.initO (X : Stand p l e R s m args below meth c T locs cells slots) (hx : p.tables.exec = Jvm.exec) (hZ : Z.Warmed39 s.vm) {own : String} {index : Nat} (hown : s.vm.findClass own = some m.cls) (w1 : (Jvm.Cond.methodLink own index Lib.objectInit).before a0 Z = true) (w2 : (Jvm.Cond.instanceMethod Lib.objectInit).before a0 Z = true) (w3 : (Jvm.Cond.code Lib.objectInit ⟨#[0xb1]⟩ 1 none).before a0 Z = true) (eT : T.heap = h) {a : Addr} (hf : 1 ≤ R.frames) {W : Nat} {pc : Nat} (pc' : Nat) {Ls : Array Slot} {rest : List Value} (hsz : Ls.size = c.maxLocals) (hW : (rest.map fun v => v.category).sum ≤ W) (hl : W + 12 ≤ R.locals) (hp : pc' = pc + 3) (hd : decode c.code pc = .ok (.invokespecial index, 3))
    (k : ∀ T', T'.heap = h → Stand p l e R s m args below meth c T' locs cells slots → Go p e below F0 (T'.setTop (mkF m pc' Ls rest))) : Go p e below F0 (T.setTop (mkF m pc Ls (.ref a :: rest))) := by
  subst hp
  obtain ⟨T', X', e', st⟩ := Jvm.RoadKit.initO X hx hZ hown w1 w2 w3 eT (g := mkF m pc Ls (.ref a :: rest)) rfl hsz rfl hd hf (W := W) (by show 2 * 0 + _ ≤ _; rw [Nat.mul_zero, Nat.zero_add]; exact hW) hl
  exact Go.step st (k T' e' X')
theorem Go.ldcI (X : Stand p l e R s m args below meth c T locs cells slots) (hx : p.tables.exec = Jvm.exec) (hZ : Z.Warmed39 s.vm) {own : String} {index : Nat} (hown : s.vm.findClass own = some m.cls) {v : Int32} (wl : (Jvm.Cond.constant own index v).before a0 Z = true) {pc : Nat} (pc' : Nat) {Ls : Array Slot} {rest : List Value} (hp : pc' = pc + 2) (hd : decode c.code pc = .ok (.ldc index, 2)) (k : Go p e below F0 (T.setTop (mkF m pc' Ls (.int v :: rest)))) : Go p e below F0 (T.setTop (mkF m pc Ls rest)) := by
  subst hp
  exact Go.step (fun t kt => X.ldcInt hx hown (mvT hZ wl) (g := mkF m pc Ls rest) rfl hd t kt) k
theorem own_nf {C : String} {x z y : MethodName} (ws : (Jvm.Cond.selects C x z).before args s = true) (hz : z.cls = y.cls) : NotFace s y := fun r0 h0 => by
  obtain ⟨c2, r2, m2, q1, q2, q3, q4, kP, hkP, hkPi⟩ := Cond.selects_spec ws
  have hc1 := findClass_of_methodNamed h0
  have hc2 := findClass_of_methodNamed q3
  rw [hz] at hc2
  have e := Option.some.inj (hc1.symm.trans hc2)
  exact ⟨kP, by rw [e]; exact hkP, hkPi⟩
theorem own_sameself {C : String} {x z y : MethodName} (ws : (Jvm.Cond.selects C x z).before args s = true) (hz : z.cls = y.cls) (hinst : (Jvm.Cond.instanceMethod y).before args s = true) (hy : y.cls ≠ "java/lang/invoke/MethodHandle" ∧ y.cls ≠ "java/lang/invoke/VarHandle") : (Jvm.Cond.sameMethod y.cls y.cls y.name y.desc).before args s = true := by
  obtain ⟨c, r, m, h1, h2, h3, h4, kP, h5, h6⟩ := Cond.selects_spec ws
  obtain ⟨mk, methM, hnamed, hmethM, -, -⟩ := Cond.instanceMethod_spec hinst
  have hfound : s.methodFound? y.cls y.name y.desc = some mk := State.methodFound?_of_named hnamed hy
  have hc : s.vm.findClass y.cls = some m.cls := hz ▸ findClass_of_methodNamed h3
  have hn2 : s.methodNamed? ⟨y.cls, y.name, y.desc⟩ = some mk := hnamed
  simp only [Cond.before, Cond.holds, Cond.value, hc, hfound, hn2]
  simp [h5, h6]
theorem own_selfsel {C : String} {y : MethodName} (ws : (Jvm.Cond.selects C y y).before args s = true) (hpriv : s.PrivateAt y) (hinst : (Jvm.Cond.instanceMethod y).before args s = true) (hy : y.cls ≠ "java/lang/invoke/MethodHandle" ∧ y.cls ≠ "java/lang/invoke/VarHandle") : (Jvm.Cond.selects y.cls y y).before args s = true := by
  obtain ⟨c, r, m, h1, h2, h3, h4, kP, h5, h6⟩ := Cond.selects_spec ws
  exact Jvm.Stand.selects_self_of_private (findClass_of_methodNamed h3) h5 h6 hpriv hinst hy
theorem Go.callSB (X : Stand p l e R s m args below meth c T locs cells slots) (hx : p.tables.exec = Jvm.exec) (hZ : Z.Warmed39 s.vm) {own : String} {index : Nat} (hown : s.vm.findClass own = some m.cls) {y : MethodName} {bytes : ByteArray} {maxL : Nat} {ret : Option FieldType} (w1 : (Jvm.Cond.methodLink own index y).before a0 Z = true) (w2 : (Jvm.Cond.static y).before a0 Z = true) (w3 : (Jvm.Cond.initialized y.cls).before a0 Z = true) (w4 : (Jvm.Cond.code y bytes maxL ret).before a0 Z = true) (hy : y.cls ≠ "java/lang/invoke/MethodHandle" ∧ y.cls ≠ "java/lang/invoke/VarHandle") {W : Nat} {Pre : Pt → Array Value → Prop} {Post : Pt → Array Value → Option Value → Pt → Prop} (hK : Back l R p e below s args y 3 W Pre Post) (eT : T.heap = h)  {pc : Nat} (pc' : Nat) {Ls : Array Slot} {stk argsL rest : List Value} (hp : pc' = pc + 3) (hsz : Ls.size = c.maxLocals) (hlen : ∀ sig, parseMethodDescriptor y.desc = some sig → argsL.length = sig.parameters.length) (hst : stk = argsL.reverse ++ rest) (hW : (rest.map fun v => v.category).sum ≤ W) (hd : decode c.code pc = .ok (.invokestatic index, 3)) (hpre : ∀ vm₁, s.WarmedH vm₁ → Pre ⟨T.setVm vm₁, locs, cells, slots⟩ argsL.toArray)
    (k : ∀ (v : Option Value) (vm₁ : Vm) (T' : State) (locs' : List Loc) (cells' slots' : Nat), Stand p l e R s m args below meth c T' locs' cells' slots' → Post ⟨T.setVm vm₁, locs, cells, slots⟩ argsL.toArray v ⟨T', locs', cells', slots'⟩ → Go p e below F0 (T'.setTop (mkF m pc' Ls (v.toList ++ rest)))) : Go p e below F0 (T.setTop (mkF m pc Ls stk)) := by
  subst hp
  obtain ⟨v, vm₁, ⟨T', L', c', n'⟩, -, X', hP, st⟩ := Jvm.LawKit.callS X hx hown (mvT hZ w1) (mvT hZ w2) (mvT hZ w3) (mvT hZ w4) hy hK (g := mkF m pc Ls stk) rfl hsz hlen hst (by show 2 * 0 + _ ≤ _; rw [Nat.mul_zero, Nat.zero_add]; exact hW) hd hpre
  exact Go.step st (k v vm₁ T' L' c' n' X' hP)
theorem Go.callS (X : Stand p l e R s m args below meth c T locs cells slots) (hx : p.tables.exec = Jvm.exec) (hZ : Z.Warmed39 s.vm) {own : String} {index : Nat} (hown : s.vm.findClass own = some m.cls) {y : MethodName} {bytes : ByteArray} {maxL : Nat} {ret : Option FieldType} (w1 : (Jvm.Cond.methodLink own index y).before a0 Z = true) (w2 : (Jvm.Cond.static y).before a0 Z = true) (w3 : (Jvm.Cond.initialized y.cls).before a0 Z = true) (w4 : (Jvm.Cond.code y bytes maxL ret).before a0 Z = true) (hy : y.cls ≠ "java/lang/invoke/MethodHandle" ∧ y.cls ≠ "java/lang/invoke/VarHandle") {rm : Room} {Qc : Option Value → Heap → List Loc → Prop}  (wc : (Jvm.Cond.code y bytes maxL ret).before a0 Z = true) (wz : (Jvm.Cond.initialized y.cls).before a0 Z = true) {as : Array Value} (hC : Ctr l Z y bytes maxL ret rm as h Qc) (eT : T.heap = h)  {pc : Nat} (pc' : Nat) {Ls : Array Slot} {stk argsL rest : List Value} (hp : pc' = pc + 3) (hsz : Ls.size = c.maxLocals) (hlen : ∀ sig, parseMethodDescriptor y.desc = some sig → argsL.length = sig.parameters.length) (hst : stk = argsL.reverse ++ rest) (has : argsL.toArray = as) {W : Nat} (hW : (rest.map fun v => v.category).sum ≤ W) (hq : rm.frames + 1 ≤ R.frames ∧ W + (maxL + 11) + rm.locals ≤ R.locals ∧ cells + rm.cells ≤ R.cells ∧ slots + rm.slots ≤ R.slots) (hd : decode c.code pc = .ok (.invokestatic index, 3))
    (k : ∀ (v : Option Value) (T' : State) (L : List Loc), Qc v T'.heap L → Stand p l e R s m args below meth c T' (locs ++ L) (cells + rm.cells) (slots + rm.slots) → Go p e below F0 (T'.setTop (mkF m pc' Ls (v.toList ++ rest)))) : Go p e below F0 (T.setTop (mkF m pc Ls stk)) :=
  Go.callSB X hx hZ hown w1 w2 w3 w4 hy (backOf (W := W) (hC []) hZ wc wz hq.1 hq.2.1) eT  pc' hp hsz hlen hst hW hd (fun _ _ => ⟨has, eT, hq.2.2.1, hq.2.2.2⟩) (fun v vm₁ T' locs' cells' slots' X' ⟨L, hqq, h1, h2, h3⟩ => by
    try dsimp only at h1 h2 h3
    subst h1 h2 h3
    exact k v T' L hqq X')
theorem Go.callVB (X : Stand p l e R s m args below meth c T locs cells slots) (hx : p.tables.exec = Jvm.exec) (hZ : Z.Warmed39 s.vm) {own : String} {index : Nat} (hown : s.vm.findClass own = some m.cls) {x y : MethodName} {C : String} (w1 : (Jvm.Cond.methodLink own index x).before a0 Z = true) (w2 : (Jvm.Cond.declares x).before a0 Z = true) (nf : NotFace s x) (w3 : (Jvm.Cond.selects C x y).before a0 Z = true) (w4 : (Jvm.Cond.instanceMethod y).before a0 Z = true) (hy : x.cls ≠ "java/lang/invoke/MethodHandle" ∧ x.cls ≠ "java/lang/invoke/VarHandle") {W : Nat} {Pre : Pt → Array Value → Prop} {Post : Pt → Array Value → Option Value → Pt → Prop} (hK : Back l R p e below s args y 3 W Pre Post) (eT : T.heap = h) {a : Addr} (F : Exa Z h a C) {pc : Nat} (pc' : Nat) {Ls : Array Slot} {stk argsL rest : List Value} (hp : pc' = pc + 3) (hsz : Ls.size = c.maxLocals) (hlen : ∀ sig, parseMethodDescriptor x.desc = some sig → argsL.length = sig.parameters.length) (hst : stk = argsL.reverse ++ .ref a :: rest) (hW : (rest.map fun v => v.category).sum ≤ W) (hd : decode c.code pc = .ok (.invokevirtual index, 3)) (hpre : ∀ vm₁, s.WarmedH vm₁ → Pre ⟨T.setVm vm₁, locs, cells, slots⟩ (.ref a :: argsL).toArray)
    (k : ∀ (v : Option Value) (vm₁ : Vm) (T' : State) (locs' : List Loc) (cells' slots' : Nat), Stand p l e R s m args below meth c T' locs' cells' slots' → Post ⟨T.setVm vm₁, locs, cells, slots⟩ (.ref a :: argsL).toArray v ⟨T', locs', cells', slots'⟩ → Go p e below F0 (T'.setTop (mkF m pc' Ls (v.toList ++ rest)))) : Go p e below F0 (T.setTop (mkF m pc Ls stk)) := by
  subst hp
  obtain ⟨cB, kB, q1, q2, q3⟩ := isOf hZ eT F
  obtain ⟨v, vm₁, ⟨T', L', c', n'⟩, -, X', hP, st⟩ := X.virtualBack hx (y := x) (z := y) hown (mvT hZ w1) (mvT hZ w2) nf (mvT hZ w3) (mvT hZ w4) hy hK q1 q3 (g := mkF m pc Ls stk) rfl hsz (Steps.refl _) hlen hst (by show 2 * 0 + _ ≤ _; rw [Nat.mul_zero, Nat.zero_add]; exact hW) hd hpre
  exact Go.step (fun t kt => st.trans kt) (k v vm₁ T' L' c' n' X' hP)
theorem Go.callV (X : Stand p l e R s m args below meth c T locs cells slots) (hx : p.tables.exec = Jvm.exec) (hZ : Z.Warmed39 s.vm) {own : String} {index : Nat} (hown : s.vm.findClass own = some m.cls) {x y : MethodName} {C : String} (w1 : (Jvm.Cond.methodLink own index x).before a0 Z = true) (w2 : (Jvm.Cond.declares x).before a0 Z = true) (nf : NotFace s x) (w3 : (Jvm.Cond.selects C x y).before a0 Z = true) (w4 : (Jvm.Cond.instanceMethod y).before a0 Z = true) (hy : x.cls ≠ "java/lang/invoke/MethodHandle" ∧ x.cls ≠ "java/lang/invoke/VarHandle") {bytes : ByteArray} {maxL : Nat} {ret : Option FieldType} {rm : Room} {Qc : Option Value → Heap → List Loc → Prop}  (wc : (Jvm.Cond.code y bytes maxL ret).before a0 Z = true) (wz : (Jvm.Cond.initialized y.cls).before a0 Z = true) {as : Array Value} (hC : Ctr l Z y bytes maxL ret rm as h Qc) (eT : T.heap = h) {a : Addr} (F : Exa Z h a C) {pc : Nat} (pc' : Nat) {Ls : Array Slot} {stk argsL rest : List Value} (hp : pc' = pc + 3) (hsz : Ls.size = c.maxLocals) (hlen : ∀ sig, parseMethodDescriptor x.desc = some sig → argsL.length = sig.parameters.length) (hst : stk = argsL.reverse ++ .ref a :: rest) (has : (.ref a :: argsL).toArray = as) {W : Nat} (hW : (rest.map fun v => v.category).sum ≤ W) (hq : rm.frames + 1 ≤ R.frames ∧ W + (maxL + 11) + rm.locals ≤ R.locals ∧ cells + rm.cells ≤ R.cells ∧ slots + rm.slots ≤ R.slots) (hd : decode c.code pc = .ok (.invokevirtual index, 3))
    (k : ∀ (v : Option Value) (T' : State) (L : List Loc), Qc v T'.heap L → Stand p l e R s m args below meth c T' (locs ++ L) (cells + rm.cells) (slots + rm.slots) → Go p e below F0 (T'.setTop (mkF m pc' Ls (v.toList ++ rest)))) : Go p e below F0 (T.setTop (mkF m pc Ls stk)) :=
  Go.callVB X hx hZ hown w1 w2 nf w3 w4 hy (backOf (W := W) (hC []) hZ wc wz hq.1 hq.2.1) eT F pc' hp hsz hlen hst hW hd (fun _ _ => ⟨has, eT, hq.2.2.1, hq.2.2.2⟩) (fun v vm₁ T' locs' cells' slots' X' ⟨L, hqq, h1, h2, h3⟩ => by
    try dsimp only at h1 h2 h3
    subst h1 h2 h3
    exact k v T' L hqq X')
theorem Go.callUB (X : Stand p l e R s m args below meth c T locs cells slots) (hx : p.tables.exec = Jvm.exec) (hZ : Z.Warmed39 s.vm) {own : String} {index : Nat} (hown : s.vm.findClass own = some m.cls) {owner C : String} {x y : MethodName} (w1 : (Jvm.Cond.methodLink own index x).before a0 Z = true) (w2 : (Jvm.Cond.sameMethod x.cls owner x.name x.desc).before a0 Z = true) (w3 : (Jvm.Cond.declares ⟨owner, x.name, x.desc⟩).before a0 Z = true) (w4 : (Jvm.Cond.selects C x y).before a0 Z = true) (w5 : (Jvm.Cond.instanceMethod y).before a0 Z = true) (hy : owner ≠ "java/lang/invoke/MethodHandle" ∧ owner ≠ "java/lang/invoke/VarHandle") {W : Nat} {Pre : Pt → Array Value → Prop} {Post : Pt → Array Value → Option Value → Pt → Prop} (hK : Back l R p e below s args y 3 W Pre Post) (eT : T.heap = h) {a : Addr} (F : Exa Z h a C) {pc : Nat} (pc' : Nat) {Ls : Array Slot} {stk argsL rest : List Value} (hp : pc' = pc + 3) (hsz : Ls.size = c.maxLocals) (hlen : ∀ sig, parseMethodDescriptor x.desc = some sig → argsL.length = sig.parameters.length) (hst : stk = argsL.reverse ++ .ref a :: rest) (hW : (rest.map fun v => v.category).sum ≤ W) (hd : decode c.code pc = .ok (.invokevirtual index, 3)) (hpre : ∀ vm₁, s.WarmedH vm₁ → Pre ⟨T.setVm vm₁, locs, cells, slots⟩ (.ref a :: argsL).toArray)
    (k : ∀ (v : Option Value) (vm₁ : Vm) (T' : State) (locs' : List Loc) (cells' slots' : Nat), Stand p l e R s m args below meth c T' locs' cells' slots' → Post ⟨T.setVm vm₁, locs, cells, slots⟩ (.ref a :: argsL).toArray v ⟨T', locs', cells', slots'⟩ → Go p e below F0 (T'.setTop (mkF m pc' Ls (v.toList ++ rest)))) : Go p e below F0 (T.setTop (mkF m pc Ls stk)) := by
  subst hp
  obtain ⟨cB, kB, q1, q2, q3⟩ := isOf hZ eT F
  obtain ⟨v, vm₁, ⟨T', L', c', n'⟩, -, X', hP, st⟩ := X.virtualBackUp hx (x := x) (y := y) hown (mvT hZ w1) (mvT hZ w2) (mvT hZ w3) hy (mvT hZ w4) (mvT hZ w5) hK q1 q3 (g := mkF m pc Ls stk) rfl hsz (Steps.refl _) hlen hst (by show 2 * 0 + _ ≤ _; rw [Nat.mul_zero, Nat.zero_add]; exact hW) hd hpre
  exact Go.step (fun t kt => st.trans kt) (k v vm₁ T' L' c' n' X' hP)
theorem Go.callU (X : Stand p l e R s m args below meth c T locs cells slots) (hx : p.tables.exec = Jvm.exec) (hZ : Z.Warmed39 s.vm) {own : String} {index : Nat} (hown : s.vm.findClass own = some m.cls) {owner C : String} {x y : MethodName} (w1 : (Jvm.Cond.methodLink own index x).before a0 Z = true) (w2 : (Jvm.Cond.sameMethod x.cls owner x.name x.desc).before a0 Z = true) (w3 : (Jvm.Cond.declares ⟨owner, x.name, x.desc⟩).before a0 Z = true) (w4 : (Jvm.Cond.selects C x y).before a0 Z = true) (w5 : (Jvm.Cond.instanceMethod y).before a0 Z = true) (hy : owner ≠ "java/lang/invoke/MethodHandle" ∧ owner ≠ "java/lang/invoke/VarHandle") {bytes : ByteArray} {maxL : Nat} {ret : Option FieldType} {rm : Room} {Qc : Option Value → Heap → List Loc → Prop}  (wc : (Jvm.Cond.code y bytes maxL ret).before a0 Z = true) (wz : (Jvm.Cond.initialized y.cls).before a0 Z = true) {as : Array Value} (hC : Ctr l Z y bytes maxL ret rm as h Qc) (eT : T.heap = h) {a : Addr} (F : Exa Z h a C) {pc : Nat} (pc' : Nat) {Ls : Array Slot} {stk argsL rest : List Value} (hp : pc' = pc + 3) (hsz : Ls.size = c.maxLocals) (hlen : ∀ sig, parseMethodDescriptor x.desc = some sig → argsL.length = sig.parameters.length) (hst : stk = argsL.reverse ++ .ref a :: rest) (has : (.ref a :: argsL).toArray = as) {W : Nat} (hW : (rest.map fun v => v.category).sum ≤ W) (hq : rm.frames + 1 ≤ R.frames ∧ W + (maxL + 11) + rm.locals ≤ R.locals ∧ cells + rm.cells ≤ R.cells ∧ slots + rm.slots ≤ R.slots) (hd : decode c.code pc = .ok (.invokevirtual index, 3))
    (k : ∀ (v : Option Value) (T' : State) (L : List Loc), Qc v T'.heap L → Stand p l e R s m args below meth c T' (locs ++ L) (cells + rm.cells) (slots + rm.slots) → Go p e below F0 (T'.setTop (mkF m pc' Ls (v.toList ++ rest)))) : Go p e below F0 (T.setTop (mkF m pc Ls stk)) :=
  Go.callUB X hx hZ hown w1 w2 w3 w4 w5 hy (backOf (W := W) (hC []) hZ wc wz hq.1 hq.2.1) eT F pc' hp hsz hlen hst hW hd (fun _ _ => ⟨has, eT, hq.2.2.1, hq.2.2.2⟩) (fun v vm₁ T' locs' cells' slots' X' ⟨L, hqq, h1, h2, h3⟩ => by
    try dsimp only at h1 h2 h3
    subst h1 h2 h3
    exact k v T' L hqq X')
theorem Go.callNB (X : Stand p l e R s m args below meth c T locs cells slots) (hx : p.tables.exec = Jvm.exec) (hZ : Z.Warmed39 s.vm) {own : String} {index : Nat} (hown : s.vm.findClass own = some m.cls) {y : MethodName} {bytes : ByteArray} {maxL : Nat} (hn : y.name = "<init>") (w1 : (Jvm.Cond.methodLink own index y).before a0 Z = true) (w2 : (Jvm.Cond.instanceMethod y).before a0 Z = true) (w4 : (Jvm.Cond.code y bytes maxL none).before a0 Z = true) (hy : y.cls ≠ "java/lang/invoke/MethodHandle" ∧ y.cls ≠ "java/lang/invoke/VarHandle") {W : Nat} {Pre : Pt → Array Value → Prop} {Post : Pt → Array Value → Option Value → Pt → Prop} (hK : Back l R p e below s args y 3 W Pre Post) (eT : T.heap = h) {a : Addr} {pc : Nat} (pc' : Nat) {Ls : Array Slot} {stk argsL rest : List Value} (hp : pc' = pc + 3) (hsz : Ls.size = c.maxLocals) (hlen : ∀ sig, parseMethodDescriptor y.desc = some sig → argsL.length = sig.parameters.length) (hst : stk = argsL.reverse ++ .ref a :: rest) (hW : (rest.map fun v => v.category).sum ≤ W) (hd : decode c.code pc = .ok (.invokespecial index, 3)) (hpre : ∀ vm₁, s.WarmedH vm₁ → Pre ⟨T.setVm vm₁, locs, cells, slots⟩ (.ref a :: argsL).toArray)
    (k : ∀ (v : Option Value) (vm₁ : Vm) (T' : State) (locs' : List Loc) (cells' slots' : Nat), Stand p l e R s m args below meth c T' locs' cells' slots' → Post ⟨T.setVm vm₁, locs, cells, slots⟩ (.ref a :: argsL).toArray v ⟨T', locs', cells', slots'⟩ → Go p e below F0 (T'.setTop (mkF m pc' Ls (v.toList ++ rest)))) : Go p e below F0 (T.setTop (mkF m pc Ls stk)) := by
  subst hp
  obtain ⟨v, vm₁, ⟨T', L', c', n'⟩, -, X', hP, st⟩ := X.specialBack hx (y := y) hn hown (mvT hZ w1) (mvT hZ w2) (mvT hZ w4) hy hK (g := mkF m pc Ls stk) rfl hsz (Steps.refl _) (a := a) hlen hst (by show 2 * 0 + _ ≤ _; rw [Nat.mul_zero, Nat.zero_add]; exact hW) hd hpre
  exact Go.step (fun t kt => st.trans kt) (k v vm₁ T' L' c' n' X' hP)
theorem Go.callN (X : Stand p l e R s m args below meth c T locs cells slots) (hx : p.tables.exec = Jvm.exec) (hZ : Z.Warmed39 s.vm) {own : String} {index : Nat} (hown : s.vm.findClass own = some m.cls) {y : MethodName} {bytes : ByteArray} {maxL : Nat} (hn : y.name = "<init>") (w1 : (Jvm.Cond.methodLink own index y).before a0 Z = true) (w2 : (Jvm.Cond.instanceMethod y).before a0 Z = true) (w4 : (Jvm.Cond.code y bytes maxL none).before a0 Z = true) (hy : y.cls ≠ "java/lang/invoke/MethodHandle" ∧ y.cls ≠ "java/lang/invoke/VarHandle") {rm : Room} {Qc : Option Value → Heap → List Loc → Prop}  (wc : (Jvm.Cond.code y bytes maxL none).before a0 Z = true) (wz : (Jvm.Cond.initialized y.cls).before a0 Z = true) {as : Array Value} (hC : Ctr l Z y bytes maxL none rm as h Qc) (eT : T.heap = h) {a : Addr} {pc : Nat} (pc' : Nat) {Ls : Array Slot} {stk argsL rest : List Value} (hp : pc' = pc + 3) (hsz : Ls.size = c.maxLocals) (hlen : ∀ sig, parseMethodDescriptor y.desc = some sig → argsL.length = sig.parameters.length) (hst : stk = argsL.reverse ++ .ref a :: rest) (has : (.ref a :: argsL).toArray = as) {W : Nat} (hW : (rest.map fun v => v.category).sum ≤ W) (hq : rm.frames + 1 ≤ R.frames ∧ W + (maxL + 11) + rm.locals ≤ R.locals ∧ cells + rm.cells ≤ R.cells ∧ slots + rm.slots ≤ R.slots) (hd : decode c.code pc = .ok (.invokespecial index, 3))
    (k : ∀ (v : Option Value) (T' : State) (L : List Loc), Qc v T'.heap L → Stand p l e R s m args below meth c T' (locs ++ L) (cells + rm.cells) (slots + rm.slots) → Go p e below F0 (T'.setTop (mkF m pc' Ls (v.toList ++ rest)))) : Go p e below F0 (T.setTop (mkF m pc Ls stk)) :=
  Go.callNB X hx hZ hown hn w1 w2 w4 hy (backOf (W := W) (hC []) hZ wc wz hq.1 hq.2.1) eT  pc' hp hsz hlen hst hW hd (fun _ _ => ⟨has, eT, hq.2.2.1, hq.2.2.2⟩) (fun v vm₁ T' locs' cells' slots' X' ⟨L, hqq, h1, h2, h3⟩ => by
    try dsimp only at h1 h2 h3
    subst h1 h2 h3
    exact k v T' L hqq X')
theorem Go.callPB (X : Stand p l e R s m args below meth c T locs cells slots) (hx : p.tables.exec = Jvm.exec) (hZ : Z.Warmed39 s.vm) {own : String} {index : Nat} (hown : s.vm.findClass own = some m.cls) {y : MethodName} {bytes : ByteArray} {maxL : Nat} {ret : Option FieldType} {C : String} (w1 : (Jvm.Cond.methodLink own index y).before a0 Z = true) (w2 : (Jvm.Cond.instanceMethod y).before a0 Z = true) (w3 : (Jvm.Cond.selects C y y).before a0 Z = true) (w4 : (Jvm.Cond.privateMethod y).before a0 Z = true) (w5 : (Jvm.Cond.code y bytes maxL ret).before a0 Z = true) (hy : y.cls ≠ "java/lang/invoke/MethodHandle" ∧ y.cls ≠ "java/lang/invoke/VarHandle") {W : Nat} {Pre : Pt → Array Value → Prop} {Post : Pt → Array Value → Option Value → Pt → Prop} (hK : Back l R p e below s args y 3 W Pre Post) (eT : T.heap = h) {a : Addr} (F : Exa Z h a C) {pc : Nat} (pc' : Nat) {Ls : Array Slot} {stk argsL rest : List Value} (hp : pc' = pc + 3) (hsz : Ls.size = c.maxLocals) (hlen : ∀ sig, parseMethodDescriptor y.desc = some sig → argsL.length = sig.parameters.length) (hst : stk = argsL.reverse ++ .ref a :: rest) (hW : (rest.map fun v => v.category).sum ≤ W) (hd : decode c.code pc = .ok (.invokevirtual index, 3)) (hpre : ∀ vm₁, s.WarmedH vm₁ → Pre ⟨T.setVm vm₁, locs, cells, slots⟩ (.ref a :: argsL).toArray)
    (k : ∀ (v : Option Value) (vm₁ : Vm) (T' : State) (locs' : List Loc) (cells' slots' : Nat), Stand p l e R s m args below meth c T' locs' cells' slots' → Post ⟨T.setVm vm₁, locs, cells, slots⟩ (.ref a :: argsL).toArray v ⟨T', locs', cells', slots'⟩ → Go p e below F0 (T'.setTop (mkF m pc' Ls (v.toList ++ rest)))) : Go p e below F0 (T.setTop (mkF m pc Ls stk)) := by
  subst hp
  obtain ⟨cB, q1, q2⟩ := F.cell
  obtain ⟨v, vm₁, ⟨T', L', c', n'⟩, -, X', hP, st⟩ := X.privateBack hx (y := y) hown (mvT hZ w1) (mvT hZ w2) (own_selfsel (mvT hZ w3) (Cond.privateMethod_at (mvP hZ w4 (args := #[]))) (mvT hZ w2) hy) (Cond.privateMethod_at (mvP hZ w4 (args := #[]))) (mvT hZ w5) hy hK (g := mkF m pc Ls stk) rfl hsz (Steps.refl _) (a := a) (by rw [eT]; exact q1) q2 hlen hst (by show 2 * 0 + _ ≤ _; rw [Nat.mul_zero, Nat.zero_add]; exact hW) hd hpre
  exact Go.step (fun t kt => st.trans kt) (k v vm₁ T' L' c' n' X' hP)
theorem Go.callP (X : Stand p l e R s m args below meth c T locs cells slots) (hx : p.tables.exec = Jvm.exec) (hZ : Z.Warmed39 s.vm) {own : String} {index : Nat} (hown : s.vm.findClass own = some m.cls) {y : MethodName} {bytes : ByteArray} {maxL : Nat} {ret : Option FieldType} {C : String} (w1 : (Jvm.Cond.methodLink own index y).before a0 Z = true) (w2 : (Jvm.Cond.instanceMethod y).before a0 Z = true) (w3 : (Jvm.Cond.selects C y y).before a0 Z = true) (w4 : (Jvm.Cond.privateMethod y).before a0 Z = true) (w5 : (Jvm.Cond.code y bytes maxL ret).before a0 Z = true) (hy : y.cls ≠ "java/lang/invoke/MethodHandle" ∧ y.cls ≠ "java/lang/invoke/VarHandle") {rm : Room} {Qc : Option Value → Heap → List Loc → Prop}  (wc : (Jvm.Cond.code y bytes maxL ret).before a0 Z = true) (wz : (Jvm.Cond.initialized y.cls).before a0 Z = true) {as : Array Value} (hC : Ctr l Z y bytes maxL ret rm as h Qc) (eT : T.heap = h) {a : Addr} (F : Exa Z h a C) {pc : Nat} (pc' : Nat) {Ls : Array Slot} {stk argsL rest : List Value} (hp : pc' = pc + 3) (hsz : Ls.size = c.maxLocals) (hlen : ∀ sig, parseMethodDescriptor y.desc = some sig → argsL.length = sig.parameters.length) (hst : stk = argsL.reverse ++ .ref a :: rest) (has : (.ref a :: argsL).toArray = as) {W : Nat} (hW : (rest.map fun v => v.category).sum ≤ W) (hq : rm.frames + 1 ≤ R.frames ∧ W + (maxL + 11) + rm.locals ≤ R.locals ∧ cells + rm.cells ≤ R.cells ∧ slots + rm.slots ≤ R.slots) (hd : decode c.code pc = .ok (.invokevirtual index, 3))
    (k : ∀ (v : Option Value) (T' : State) (L : List Loc), Qc v T'.heap L → Stand p l e R s m args below meth c T' (locs ++ L) (cells + rm.cells) (slots + rm.slots) → Go p e below F0 (T'.setTop (mkF m pc' Ls (v.toList ++ rest)))) : Go p e below F0 (T.setTop (mkF m pc Ls stk)) :=
  Go.callPB X hx hZ hown w1 w2 w3 w4 w5 hy (backOf (W := W) (hC []) hZ wc wz hq.1 hq.2.1) eT F pc' hp hsz hlen hst hW hd (fun _ _ => ⟨has, eT, hq.2.2.1, hq.2.2.2⟩) (fun v vm₁ T' locs' cells' slots' X' ⟨L, hqq, h1, h2, h3⟩ => by
    try dsimp only at h1 h2 h3
    subst h1 h2 h3
    exact k v T' L hqq X')
theorem Go.callUpB (X : Stand p l e R s m args below meth c T locs cells slots) (hx : p.tables.exec = Jvm.exec) (hZ : Z.Warmed39 s.vm) {own : String} {index : Nat} (hown : s.vm.findClass own = some m.cls) {y : MethodName} {bytes : ByteArray} {maxL : Nat} {ret : Option FieldType} {C : String} (w1 : (Jvm.Cond.methodLink own index y).before a0 Z = true) (w2 : (Jvm.Cond.sameMethod y.cls y.cls y.name y.desc).before a0 Z = true) (w3 : (Jvm.Cond.instanceMethod y).before a0 Z = true) (w4 : (Jvm.Cond.superclass own y.cls).before a0 Z = true) (hn : y.name ≠ "<init>") (w5 : (Jvm.Cond.code y bytes maxL ret).before a0 Z = true) {W : Nat} {Pre : Pt → Array Value → Prop} {Post : Pt → Array Value → Option Value → Pt → Prop} (hK : Back l R p e below s args y 3 W Pre Post) (eT : T.heap = h) {a : Addr} (F : Exa Z h a C) {pc : Nat} (pc' : Nat) {Ls : Array Slot} {stk argsL rest : List Value} (hp : pc' = pc + 3) (hsz : Ls.size = c.maxLocals) (hlen : ∀ sig, parseMethodDescriptor y.desc = some sig → argsL.length = sig.parameters.length) (hst : stk = argsL.reverse ++ .ref a :: rest) (hW : (rest.map fun v => v.category).sum ≤ W) (hd : decode c.code pc = .ok (.invokespecial index, 3)) (hpre : ∀ vm₁, s.WarmedH vm₁ → Pre ⟨T.setVm vm₁, locs, cells, slots⟩ (.ref a :: argsL).toArray)
    (k : ∀ (v : Option Value) (vm₁ : Vm) (T' : State) (locs' : List Loc) (cells' slots' : Nat), Stand p l e R s m args below meth c T' locs' cells' slots' → Post ⟨T.setVm vm₁, locs, cells, slots⟩ (.ref a :: argsL).toArray v ⟨T', locs', cells', slots'⟩ → Go p e below F0 (T'.setTop (mkF m pc' Ls (v.toList ++ rest)))) : Go p e below F0 (T.setTop (mkF m pc Ls stk)) := by
  subst hp
  obtain ⟨v, vm₁, ⟨T', L', c', n'⟩, -, X', hP, st⟩ := superBack X hx hZ (y := y) hown w1 w2 w3 w4 hn hK eT (Ins.self F) (g := mkF m pc Ls stk) rfl hsz w5 hlen hst (by show 2 * 0 + _ ≤ _; rw [Nat.mul_zero, Nat.zero_add]; exact hW) hd hpre
  exact Go.step (fun t kt => st.trans kt) (k v vm₁ T' L' c' n' X' hP)
theorem Go.callUp (X : Stand p l e R s m args below meth c T locs cells slots) (hx : p.tables.exec = Jvm.exec) (hZ : Z.Warmed39 s.vm) {own : String} {index : Nat} (hown : s.vm.findClass own = some m.cls) {y : MethodName} {bytes : ByteArray} {maxL : Nat} {ret : Option FieldType} {C : String} (w1 : (Jvm.Cond.methodLink own index y).before a0 Z = true) (w2 : (Jvm.Cond.sameMethod y.cls y.cls y.name y.desc).before a0 Z = true) (w3 : (Jvm.Cond.instanceMethod y).before a0 Z = true) (w4 : (Jvm.Cond.superclass own y.cls).before a0 Z = true) (hn : y.name ≠ "<init>") (w5 : (Jvm.Cond.code y bytes maxL ret).before a0 Z = true) {rm : Room} {Qc : Option Value → Heap → List Loc → Prop}  (wc : (Jvm.Cond.code y bytes maxL ret).before a0 Z = true) (wz : (Jvm.Cond.initialized y.cls).before a0 Z = true) {as : Array Value} (hC : Ctr l Z y bytes maxL ret rm as h Qc) (eT : T.heap = h) {a : Addr} (F : Exa Z h a C) {pc : Nat} (pc' : Nat) {Ls : Array Slot} {stk argsL rest : List Value} (hp : pc' = pc + 3) (hsz : Ls.size = c.maxLocals) (hlen : ∀ sig, parseMethodDescriptor y.desc = some sig → argsL.length = sig.parameters.length) (hst : stk = argsL.reverse ++ .ref a :: rest) (has : (.ref a :: argsL).toArray = as) {W : Nat} (hW : (rest.map fun v => v.category).sum ≤ W) (hq : rm.frames + 1 ≤ R.frames ∧ W + (maxL + 11) + rm.locals ≤ R.locals ∧ cells + rm.cells ≤ R.cells ∧ slots + rm.slots ≤ R.slots) (hd : decode c.code pc = .ok (.invokespecial index, 3))
    (k : ∀ (v : Option Value) (T' : State) (L : List Loc), Qc v T'.heap L → Stand p l e R s m args below meth c T' (locs ++ L) (cells + rm.cells) (slots + rm.slots) → Go p e below F0 (T'.setTop (mkF m pc' Ls (v.toList ++ rest)))) : Go p e below F0 (T.setTop (mkF m pc Ls stk)) :=
  Go.callUpB X hx hZ hown w1 w2 w3 w4 hn w5 (backOf (W := W) (hC []) hZ wc wz hq.1 hq.2.1) eT F pc' hp hsz hlen hst hW hd (fun _ _ => ⟨has, eT, hq.2.2.1, hq.2.2.2⟩) (fun v vm₁ T' locs' cells' slots' X' ⟨L, hqq, h1, h2, h3⟩ => by
    try dsimp only at h1 h2 h3
    subst h1 h2 h3
    exact k v T' L hqq X')
theorem Go.arraycopy (X : Stand p l e R s m args below meth c T locs cells slots) (hx : p.tables.exec = Jvm.exec) (hZ : Z.Warmed39 s.vm) {own : String} {index : Nat} (hown : s.vm.findClass own = some m.cls) (w1 : (Jvm.Cond.methodLink own index Jvm.Stand.acN).before a0 Z = true) (w2 : (Jvm.Cond.native Jvm.Stand.acN).before a0 Z = true) (w3 : (Jvm.Cond.static Jvm.Stand.acN).before a0 Z = true) (w4 : (Jvm.Cond.initialized "java/lang/System").before a0 Z = true) (eT : T.heap = h) {a b : Addr} {k1 k2 : ClassId} {ty : FieldType} {z z' sp dp nn : Int32} {vs vd us : List Value} {dv dd : Value} (A : Arv Z h a k1 ty z vs dv) (B : Arv Z h b k2 ty z' vd dd) (hty : refKind ty = false) (h1 : ¬ sp < 0) (h2 : ¬ dp < 0) (h3 : ¬ nn < 0) (h4 : sp.toNatClampNeg + nn.toNatClampNeg ≤ z.toNatClampNeg) (h5 : dp.toNatClampNeg + nn.toNatClampNeg ≤ z'.toNatClampNeg) (hus : us = (List.range nn.toNatClampNeg).map fun i => vs.getD (sp.toNatClampNeg + i) dv) (hl : dp.toNatClampNeg + nn.toNatClampNeg ≤ vd.length) {n0 : Nat} (N : Fr n0 locs) (ge : n0 ≤ b) (hf : 1 ≤ R.frames) {W : Nat} {pc : Nat} (pc' : Nat) {Ls : Array Slot} {rest : List Value} (hsz : Ls.size = c.maxLocals) (hW : (rest.map fun v => v.category).sum ≤ W) (hlo : W + (nativeFrameWords "java/lang/System" "arraycopy" 5 + 11) ≤ R.locals) (hp : pc' = pc + 3) (hd : decode c.code pc = .ok (.invokestatic index, 3))
    (k : ∀ T' h' L, T'.heap = h' → Fr n0 L → Keep h h' [b] → Arv Z h' b k2 ty z' (vd.take dp.toNatClampNeg ++ us ++ vd.drop (dp.toNatClampNeg + nn.toNatClampNeg)) dd → Stand p l e R s m args below meth c T' L cells slots → Go p e below F0 (T'.setTop (mkF m pc' Ls rest))) : Go p e below F0 (T.setTop (mkF m pc Ls (.int nn :: .int dp :: .ref b :: .int sp :: .ref a :: rest))) := by
  subst hp
  obtain ⟨T', h', L, X', e', N', K', V', st⟩ := cpA X hx hZ hown w1 w2 w3 w4 eT A B (Or.inl ⟨rfl, hty⟩) h1 h2 h3 h4 h5 hus hl N ge (g := mkF m pc Ls (.int nn :: .int dp :: .ref b :: .int sp :: .ref a :: rest)) rfl hsz rfl hd hf (W := W) (by show 2 * 0 + _ ≤ _; rw [Nat.mul_zero, Nat.zero_add]; exact hW) hlo
  exact Go.step st (k T' h' L e' N' K' V' X')
end OwnGo
end Jvm.RoadKit
namespace Jvm.RoadKit
open Sem ClassFile Op Lib Jvm.Stand Jvm.Free Jvm.LawKit Bundle Jvm.Free.Exc
section OwnWide
variable {p : Program} {l : Launch} {e : Env} {R : Room} {s : State} {m : MethodId} {args : Array Value} {below : List Frame} {meth : Method} {c : Code} {T : State} {locs : List Loc} {cells slots kc ks : Nat} {Z : State} {a0 : Array Value} {h : Heap} {Q : Option Value → Heap → List Loc → Prop} {F0 : State → Outcome → Prop} {EL : List (String × Nat)} {vm0 : Vm} {sf : List Addr} {QW : Option Value → Vm → Heap → List Loc → Prop}
/-- the wide end: constants may have been resolved meanwhile -/
def EndW (Z : State) (EL : List (String × Nat)) (s : State) (QW : Option Value → Vm → Heap → List Loc → Prop) (kc ks : Nat) (U : State) (o : Outcome) : Prop :=
  ∃ v L, o = .returned v ∧ QW v U.vm U.heap L ∧ CHr Z EL s.vm s.heap U.vm U.heap ∧ ReturnedEndW s o U L kc ks
def KN (l : Launch) (vm : Vm) (below : List Frame) : Prop := l.stackTraces = true ∧ vm.MethodsKnown ∧ vm.FramesKnown below
theorem KN.at {k0 : Nat} (K : KN l s.vm below) (hS : s.Since vm0 k0) : KN l vm0 below := ⟨K.1, Vm.MethodsKnown.alikeC hS.1.alike K.2.1, Vm.FramesKnown.alikeC hS.1.alike K.2.2⟩
def CtrW (l : Launch) (Z : State) (EL : List (String × Nat)) (y : MethodName) (bytes : ByteArray) (maxL : Nat) (ret : Option FieldType) (rm : Room) (as : Array Value) (h : Heap) (sf : List Addr) (QW : Option Value → Vm → Heap → List Loc → Prop) : Prop :=
  ∀ ws : List Jvm.Cond, MetFree l y (head1 (Jvm.Cond.code y bytes maxL ret :: ws) rm) (fun a U => a = as ∧ Z.Warmed39 U.vm ∧ U.heap = h ∧ CHv Z EL U.vm h ∧ ∀ x ∈ sf, Safe Z EL U.vm h x) (fun _ _ bl U _ => KN l U.vm bl) (fun _ U o U' => EndW Z EL U QW rm.cells rm.slots U' o)
theorem since0 (s : State) (n : Nat) : s.Since s.vm n := State.WarmedH.since (State.WarmedH.refl s) n
theorem CtrW.of {y : MethodName} {bytes : ByteArray} {maxL : Nat} {ret : Option FieldType} {rm : Room} {as : Array Value} (hp : plainFor y = true)
    (body : ∀ (p : Program) (e : Env) (s : State) (m : MethodId) (below : List Frame) (meth : Method) (c : Code) (T : State), p.tables.exec = Jvm.exec → Z.Warmed39 s.vm → c.code = bytes → c.maxLocals = maxL → s.vm.findClass y.cls = some m.cls → meth.name = y.name → meth.sig.returnType = ret → meth.locks = false → T.heap = h → s.heap = h → s.Since s.vm h.size → CHr Z EL s.vm s.heap s.vm h → (∀ x ∈ sf, Safe Z EL s.vm h x) → KN l s.vm below → Stand p l e rm (s.setVm s.vm) m as below meth c T [] 0 0 →
      Go p e below (EndW Z EL s QW rm.cells rm.slots) (T.setTop (entryFrame m as maxL))) : CtrW l Z EL y bytes maxL ret rm as h sf QW := by
  intro ws
  refine MetFree.of_bodySF hp hisR ?_
  intro p e s m args below meth c s₁ Bd hml0 hP hK
  obtain ⟨rfl, hZ, hh, hC, hs⟩ := hP
  exact body p e s m below meth c s₁ Bd.exec hZ Bd.bytes hml0 (findClass_of_methodNamed Bd.named) (name_of_methodNamed Bd.named Bd.method).1 Bd.returns Bd.notSynchronized (by rw [← hh, Bd.state]; rfl) hh (since0 s _) (by rw [hh]; exact CHr.refl hC) hs hK (Stand.of_body Bd)
theorem Go.endW (X : Stand p l e R (s.setVm vm0) m args below meth c T locs cells slots) (hx : p.tables.exec = Jvm.exec) {v : Option Value} (hv : meth.sig.returnType = none → v = none) (hlk : meth.locks = false) (hc : cells ≤ kc) (hs : slots ≤ ks) (hZ : Z.Warmed39 vm0) (hEL : EW Z a0 EL) (eT : T.heap = h) {k0 : Nat} (hS : s.Since vm0 k0) (hk : k0 ≤ h.size) (hC : CHr Z EL s.vm s.heap vm0 h) (q : CHr Z EL vm0 h T.vm h → QW v T.vm h locs) {g : JFrame}
    (st : ∀ fs, (∀ (f : JFrame) (acts : List Action), f.method = m → f.locked = none → f.entered = [] → (doReturn e (T.setTop f) acts v).1 = T.setFrames fs) → Steps p.tables e below (T.setTop g) (T.setFrames fs)) : Go p e below (EndW Z EL s QW kc ks) (T.setTop g) := by
  obtain ⟨fs, hr, hrun, hended, hE⟩ := X.leaveW hS (by rw [eT]; exact hk) (v := v) hv hlk
  have hat := CHv.at X hZ hEL hC.1
  refine ⟨_, _, st fs hr, hrun, hended, v, locs, rfl, ?_, ?_, hE.1, hE.2.1, hE.2.2.1, hE.2.2.2.mono hc hs⟩
  · show QW v T.vm T.heap locs
    rw [eT]; exact q hat
  · show CHr Z EL s.vm s.heap T.vm T.heap
    rw [eT]; exact hC.trans hat
theorem Go.ret0W (X : Stand p l e R (s.setVm vm0) m args below meth c T locs cells slots) (hx : p.tables.exec = Jvm.exec) (hlk : meth.locks = false) (hZ : Z.Warmed39 vm0) (hEL : EW Z a0 EL) (eT : T.heap = h) {k0 : Nat} (hS : s.Since vm0 k0) (hk : k0 ≤ h.size) (hC : CHr Z EL s.vm s.heap vm0 h) (hret : meth.sig.returnType = none) {pc : Nat} {Ls : Array Slot} (hd : decode c.code pc = .ok (.return_, 1)) (hc : cells ≤ kc) (hs : slots ≤ ks) (q : CHr Z EL vm0 h T.vm h → QW none T.vm h locs) : Go p e below (EndW Z EL s QW kc ks) (T.setTop (mkF m pc Ls [])) :=
  Go.endW X hx (fun _ => rfl) hlk hc hs hZ hEL eT hS hk hC q (fun fs hr => X.returnOut hx hret hd hr)
theorem Go.retNW (X : Stand p l e R (s.setVm vm0) m args below meth c T locs cells slots) (hx : p.tables.exec = Jvm.exec) (hlk : meth.locks = false) (hZ : Z.Warmed39 vm0) (hEL : EW Z a0 EL) (eT : T.heap = h) {k0 : Nat} (hS : s.Since vm0 k0) (hk : k0 ≤ h.size) (hC : CHr Z EL s.vm s.heap vm0 h) {t : FieldType} (hret : meth.sig.returnType = some t) (ht : t = .boolean ∨ t = .byte ∨ t = .char ∨ t = .short) {pc : Nat} {Ls : Array Slot} {z : Int32} {rest : List Value} (hd : decode c.code pc = .ok (.ireturn, 1)) (hc : cells ≤ kc) (hs : slots ≤ ks) (q : CHr Z EL vm0 h T.vm h → QW (some (.int (nar t z))) T.vm h locs) : Go p e below (EndW Z EL s QW kc ks) (T.setTop (mkF m pc Ls (.int z :: rest))) :=
  Go.endW X hx (fun h => by rw [hret] at h; cases h) hlk hc hs hZ hEL eT hS hk hC q (fun fs hr => Jvm.RoadKit.retN X hx hret ht hd hr)
theorem Go.retRW (X : Stand p l e R (s.setVm vm0) m args below meth c T locs cells slots) (hx : p.tables.exec = Jvm.exec) (hlk : meth.locks = false) (hZ : Z.Warmed39 vm0) (hEL : EW Z a0 EL) (eT : T.heap = h) {k0 : Nat} (hS : s.Since vm0 k0) (hk : k0 ≤ h.size) (hC : CHr Z EL s.vm s.heap vm0 h) {t : FieldType} (hret : meth.sig.returnType = some t) (ht : t.isReference = true) {pc : Nat} {Ls : Array Slot} {v : Value} (hv : v.isRef = true) {rest : List Value} (hd : decode c.code pc = .ok (.areturn, 1)) (hc : cells ≤ kc) (hs : slots ≤ ks) (q : CHr Z EL vm0 h T.vm h → QW (some v) T.vm h locs) : Go p e below (EndW Z EL s QW kc ks) (T.setTop (mkF m pc Ls (v :: rest))) :=
  Go.endW X hx (fun h => by rw [hret] at h; cases h) hlk hc hs hZ hEL eT hS hk hC q (fun fs hr => retOut X hx hret (by rcases ref_cases hv with rfl | ⟨z, rfl⟩ <;> cases t <;> simp [FieldType.isReference] at ht <;> rfl) (Or.inr (Or.inr (Or.inr (Or.inr ⟨rfl, ht, hv⟩)))) hd hr)
theorem CtrW.back {y : MethodName} {bytes : ByteArray} {maxL : Nat} {ret : Option FieldType} {rm : Room} {len W : Nat} {as : Array Value} (hM : CtrW l Z EL y bytes maxL ret rm as h sf QW)
    (hZ : Z.Warmed39 vm0) (wc : (Jvm.Cond.code y bytes maxL ret).before a0 Z = true) (wz : (Jvm.Cond.initialized y.cls).before a0 Z = true) (hf : rm.frames + 1 ≤ R.frames) (hl : W + (maxL + 11) + rm.locals ≤ R.locals) (hEL : EW Z a0 EL) (H : CHv Z EL vm0 h) (hsf : ∀ x ∈ sf, x < h.size ∧ Safe Z EL vm0 h x) (hKN : KN l vm0 below) :
    BackS l R p e below (s.setVm vm0) args y len W (fun A a => a = as ∧ A.U.heap = h ∧ A.cells + rm.cells ≤ R.cells ∧ A.slots + rm.slots ≤ R.slots)
      (fun A _ v B => ∃ L, QW v B.U.vm B.U.heap L ∧ B.locs = A.locs ++ L ∧ B.cells = A.cells + rm.cells ∧ B.slots = A.slots + rm.slots ∧ CHr Z EL vm0 h B.U.vm B.U.heap) :=
  BackS.of_freeWG (bytes := bytes) (maxL := maxL) (ret := ret) (E := fun _ first o t L k n => k = rm.cells ∧ n = rm.slots ∧ (∃ v, o = .returned v ∧ QW v t.vm t.heap L) ∧ CHr Z EL first.vm first.heap t.vm t.heap) (hM []) hf hl
    (fun m meth c A a Y hp => have hU : Z.Warmed39 A.U.vm := wtrans (s := s.setVm vm0) hZ Y.warmed
      ⟨by show (Jvm.Cond.and _ .tt).before a A.U = true; rw [Cond.before_and, mv hU wc]; rfl, mv hU wc, mv hU wz, hp.2.2.1, hp.2.2.2⟩)
    (fun m meth c A a g mk Y hp => have hA := CHv.at Y hZ hEL H
      ⟨hp.1, wtrans (s := s.setVm vm0) hZ Y.warmed, hp.2.1, hA.1, fun x hx => hA.safe (hsf x hx).1 (hsf x hx).2⟩) (fun m meth c A a g mk Y _ hg => ⟨hKN.1, known_frames Y hg hKN.2.1 hKN.2.2⟩)
    (fun _ _ _ _ ⟨v, L, h1, h2, h3, h4⟩ => ⟨L, _, _, h4, rfl, rfl, ⟨v, h1, h2⟩, h3⟩)
    (fun m meth c A a g mk v t L k n Y hp _ _ ⟨e1, e2, ⟨v', e3, e4⟩, e5⟩ => by
      cases e3; subst e1 e2
      refine ⟨L, e4, rfl, rfl, rfl, (CHv.at Y hZ hEL H).trans ?_⟩
      rw [← hp.2.1]; exact e5)
theorem Go.callSW (X : Stand p l e R (s.setVm vm0) m args below meth c T locs cells slots) (hx : p.tables.exec = Jvm.exec) (hZ : Z.Warmed39 vm0) {own : String} {index : Nat} (hown : vm0.findClass own = some m.cls) {y : MethodName} {bytes : ByteArray} {maxL : Nat} {ret : Option FieldType} {rm : Room} (w1 : (Jvm.Cond.methodLink own index y).before a0 Z = true) (w2 : (Jvm.Cond.static y).before a0 Z = true) (w3 : (Jvm.Cond.initialized y.cls).before a0 Z = true) (w4 : (Jvm.Cond.code y bytes maxL ret).before a0 Z = true) (hy : y.cls ≠ "java/lang/invoke/MethodHandle" ∧ y.cls ≠ "java/lang/invoke/VarHandle") (wc : (Jvm.Cond.code y bytes maxL ret).before a0 Z = true) (wz : (Jvm.Cond.initialized y.cls).before a0 Z = true) {as : Array Value} (hM : CtrW l Z EL y bytes maxL ret rm as h sf QW) (hKN : KN l s.vm below) (hEL : EW Z a0 EL) (H : CHv Z EL vm0 h) (hsf : ∀ x ∈ sf, x < h.size ∧ Safe Z EL vm0 h x) {k0 : Nat} (hS : s.Since vm0 k0) (hk : k0 ≤ h.size) (eT : T.heap = h)  {pc : Nat} (pc' : Nat) {Ls : Array Slot} {stk argsL rest : List Value} (hp : pc' = pc + 3) (hsz : Ls.size = c.maxLocals) (hlen : ∀ sig, parseMethodDescriptor y.desc = some sig → argsL.length = sig.parameters.length) (hst : stk = argsL.reverse ++ rest) (has : argsL.toArray = as) {W : Nat} (hW : (rest.map fun v => v.category).sum ≤ W) (hq : rm.frames + 1 ≤ R.frames ∧ W + (maxL + 11) + rm.locals ≤ R.locals ∧ cells + rm.cells ≤ R.cells ∧ slots + rm.slots ≤ R.slots) (hd : decode c.code pc = .ok (.invokestatic index, 3))
    (k : ∀ (v : Option Value) (T' : State) (L : List Loc) (h' : Heap), T'.heap = h' → QW v T'.vm h' L → CHr Z EL vm0 h T'.vm h' → s.Since T'.vm h'.size → Z.Warmed39 T'.vm → T'.vm.findClass own = some m.cls → Stand p l e R (s.setVm T'.vm) m args below meth c T' (locs ++ L) (cells + rm.cells) (slots + rm.slots) → Go p e below F0 (T'.setTop (mkF m pc' Ls (v.toList ++ rest)))) : Go p e below F0 (T.setTop (mkF m pc Ls stk)) := by
  subst hp
  obtain ⟨v, vm₁, ⟨T', L', c', n'⟩, -, X', h2, hg, ⟨L, hqq, h1, h3, h4, h5⟩, st⟩ := callSS X hx hown (mvT (s := s.setVm vm0) hZ w1) (mvT (s := s.setVm vm0) hZ w2) (mvT (s := s.setVm vm0) hZ w3) (mvT (s := s.setVm vm0) hZ w4) hy (hM.back (W := W) hZ wc wz hq.1 hq.2.1 hEL H hsf (hKN.at hS)) (g := mkF m pc Ls stk) rfl hsz hlen hst (by show 2 * 0 + _ ≤ _; rw [Nat.mul_zero, Nat.zero_add]; exact hW) hd (fun _ _ => ⟨has, eT, hq.2.2.1, hq.2.2.2⟩)
  obtain ⟨X2, hS2, hZ2, hown2⟩ := rebS hS (by rw [eT]; exact hk) X' h2 hg hZ hown
  try dsimp only at h1 h3 h4
  subst h1 h3 h4
  exact Go.step (fun t kt => st.trans kt) (k v T' L T'.heap rfl hqq h5 hS2 hZ2 hown2 X2)
theorem Go.callNW (X : Stand p l e R (s.setVm vm0) m args below meth c T locs cells slots) (hx : p.tables.exec = Jvm.exec) (hZ : Z.Warmed39 vm0) {own : String} {index : Nat} (hown : vm0.findClass own = some m.cls) {y : MethodName} {bytes : ByteArray} {maxL : Nat} {rm : Room} (hn : y.name = "<init>") (w1 : (Jvm.Cond.methodLink own index y).before a0 Z = true) (w2 : (Jvm.Cond.instanceMethod y).before a0 Z = true) (w4 : (Jvm.Cond.code y bytes maxL none).before a0 Z = true) (hy : y.cls ≠ "java/lang/invoke/MethodHandle" ∧ y.cls ≠ "java/lang/invoke/VarHandle") (wc : (Jvm.Cond.code y bytes maxL none).before a0 Z = true) (wz : (Jvm.Cond.initialized y.cls).before a0 Z = true) {as : Array Value} (hM : CtrW l Z EL y bytes maxL none rm as h sf QW) (hKN : KN l s.vm below) (hEL : EW Z a0 EL) (H : CHv Z EL vm0 h) (hsf : ∀ x ∈ sf, x < h.size ∧ Safe Z EL vm0 h x) {k0 : Nat} (hS : s.Since vm0 k0) (hk : k0 ≤ h.size) (eT : T.heap = h) {a : Addr} {pc : Nat} (pc' : Nat) {Ls : Array Slot} {stk argsL rest : List Value} (hp : pc' = pc + 3) (hsz : Ls.size = c.maxLocals) (hlen : ∀ sig, parseMethodDescriptor y.desc = some sig → argsL.length = sig.parameters.length) (hst : stk = argsL.reverse ++ .ref a :: rest) (has : (.ref a :: argsL).toArray = as) {W : Nat} (hW : (rest.map fun v => v.category).sum ≤ W) (hq : rm.frames + 1 ≤ R.frames ∧ W + (maxL + 11) + rm.locals ≤ R.locals ∧ cells + rm.cells ≤ R.cells ∧ slots + rm.slots ≤ R.slots) (hd : decode c.code pc = .ok (.invokespecial index, 3))
    (k : ∀ (v : Option Value) (T' : State) (L : List Loc) (h' : Heap), T'.heap = h' → QW v T'.vm h' L → CHr Z EL vm0 h T'.vm h' → s.Since T'.vm h'.size → Z.Warmed39 T'.vm → T'.vm.findClass own = some m.cls → Stand p l e R (s.setVm T'.vm) m args below meth c T' (locs ++ L) (cells + rm.cells) (slots + rm.slots) → Go p e below F0 (T'.setTop (mkF m pc' Ls (v.toList ++ rest)))) : Go p e below F0 (T.setTop (mkF m pc Ls stk)) := by
  subst hp
  obtain ⟨v, vm₁, ⟨T', L', c', n'⟩, -, X', h2, hg, ⟨L, hqq, h1, h3, h4, h5⟩, st⟩ := X.specialBackS hx (y := y) hn hown (mvT (s := s.setVm vm0) hZ w1) (mvT (s := s.setVm vm0) hZ w2) (mvT (s := s.setVm vm0) hZ w4) hy (hM.back (W := W) hZ wc wz hq.1 hq.2.1 hEL H hsf (hKN.at hS)) (g := mkF m pc Ls stk) rfl hsz (Steps.refl _) (a := a) hlen hst (by show 2 * 0 + _ ≤ _; rw [Nat.mul_zero, Nat.zero_add]; exact hW) hd (fun _ _ => ⟨has, eT, hq.2.2.1, hq.2.2.2⟩)
  obtain ⟨X2, hS2, hZ2, hown2⟩ := rebS hS (by rw [eT]; exact hk) X' h2 hg hZ hown
  try dsimp only at h1 h3 h4
  subst h1 h3 h4
  exact Go.step (fun t kt => st.trans kt) (k v T' L T'.heap rfl hqq h5 hS2 hZ2 hown2 X2)
theorem Go.ldcCH (X : Stand p l e R (s.setVm vm0) m args below meth c T locs cells slots) (hx : p.tables.exec = Jvm.exec) (hZ : Z.Warmed39 vm0) {own text : String} {index : Nat} (hown : vm0.findClass own = some m.cls) (wl : (Jvm.Cond.stringLink own index text).before a0 Z = true) (wS : ∀ a ∈ Bundle.stringAtoms, a.before a0 Z = true) (eT : T.heap = h) {k0 : Nat} (hS : s.Since vm0 k0) (hk : k0 ≤ h.size) (hEL : EW Z a0 EL) (hmem : (own, index) ∈ EL) (H : CHv Z EL vm0 h) {vs : List Value} {z : Int32} (ht : (∀ c ∈ text.toList, c.toNat < 256) ∧ text.toList.map (fun c => Value.int (Jvm.Lit.byteI c.toNat.toUInt16)) = vs) (hz : ¬ z < 0) (hl : z.toNatClampNeg = vs.length) {n : Nat} (hn : 4 * text.toList.length ≤ n) (hbig : n ≤ 536870912) (hc : cells + 2 ≤ R.cells) (hl' : slots + (n + 4) ≤ R.slots) {pc : Nat} (pc' : Nat) {Ls : Array Slot} {rest : List Value} (hp : pc' = pc + 2) (hd : decode c.code pc = .ok (.ldc index, 2))
    (k : ∀ (a : Addr) (T' : State) (h' : Heap) (k1 : Nat) (b : Addr) (kk : ClassId), T'.heap = h' → Ext h h' → s.Since T'.vm k1 → k1 ≤ h'.size → Z.Warmed39 T'.vm → T'.vm.findClass own = some m.cls → Exa Z h' a "java/lang/String" → Fld Z h' a "java/lang/String" "coder" "B" (.int 0) → Fld Z h' a "java/lang/String" "value" "[B" (.ref b) → Arv Z h' b kk .byte z vs (.int 0) → CHr Z EL vm0 h T'.vm h' → (∀ x, Safe Z EL T'.vm h' x → x ≠ a ∧ x ≠ b) → Stand p l e R (s.setVm T'.vm) m args below meth c T' locs (cells + 2) (slots + (n + 4)) → Go p e below F0 (T'.setTop (mkF m pc' Ls (.ref a :: rest)))) : Go p e below F0 (T.setTop (mkF m pc Ls rest)) := by
  subst hp
  obtain ⟨a, T', h', k1, b, kk, X', e', E, hS', hk', hZ', hown', F1, F2, F3, F4, -, -, C, -, hne, st⟩ := Jvm.RoadKit.ldcCH X hx hZ hown wl wS eT hS hk hEL hmem H ht hz hl (g := mkF m pc Ls rest) rfl hd hn hbig hc hl'
  exact Go.step st (k a T' h' k1 b kk e' E hS' hk' hZ' hown' F1 F2 F3 F4 C hne X')
theorem ThS.at {n0 : Nat} (O : Old Z n0 h) : ThS Z h := ThS.ext O.2 ThS.start
end OwnWide
end Jvm.RoadKit
namespace Jvm.Pilot.@@N@@
open Jvm Jvm.ClassFile Sem Op Lib Jvm.Free Jvm.Stand Jvm.LawKit Jvm.RoadKit Bundle Jvm.Pilot.@@N@@.Jvm.D
set_option maxRecDepth 65536
set_option maxHeartbeats 4000000
abbrev B1 : ByteArray := jdk_42_method_3_code
abbrev B2 : ByteArray := jdk_42_method_149_code
abbrev B4 : ByteArray := jdk_52_method_16_code
abbrev B5 : ByteArray := jdk_52_method_21_code
abbrev B42 : ByteArray := jdk_52_method_14_code
abbrev B43 : ByteArray := jdk_52_method_2_code
abbrev B44 : ByteArray := jdk_52_method_3_code
abbrev B45 : ByteArray := jdk_52_method_4_code
abbrev B46 : ByteArray := jdk_52_method_5_code
abbrev B6 : ByteArray := jdk_52_method_15_code
abbrev B7 : ByteArray := prog_11_method_3_code
abbrev B8 : ByteArray := jdk_67_method_1_code
abbrev B9 : ByteArray := jdk_68_method_2_code
abbrev B10 : ByteArray := jdk_67_method_7_code
abbrev B11 : ByteArray := jdk_68_method_22_code
abbrev B12 : ByteArray := jdk_42_method_54_code
abbrev B13 : ByteArray := jdk_42_method_152_code
abbrev B14 : ByteArray := jdk_68_method_9_code
abbrev B15 : ByteArray := jdk_68_method_73_code
abbrev B16 : ByteArray := jdk_68_method_71_code
abbrev B17 : ByteArray := jdk_42_method_147_code
abbrev B18 : ByteArray := jdk_68_method_10_code
abbrev B19 : ByteArray := jdk_48_method_27_code
abbrev B20 : ByteArray := jdk_29_method_65_code
abbrev B21 : ByteArray := jdk_65_method_121_code
abbrev B22 : ByteArray := jdk_29_method_69_code
abbrev B23 : ByteArray := jdk_67_method_42_code
abbrev B24 : ByteArray := jdk_42_method_53_code
abbrev B25 : ByteArray := jdk_42_method_150_code
abbrev B26 : ByteArray := jdk_68_method_64_code
abbrev B27 : ByteArray := jdk_67_method_93_code
abbrev B28 : ByteArray := jdk_68_method_6_code
abbrev B29 : ByteArray := jdk_68_method_68_code
abbrev B30 : ByteArray := jdk_65_method_132_code
abbrev B31 : ByteArray := jdk_65_method_133_code
abbrev B32 : ByteArray := jdk_65_method_131_code
abbrev B33 : ByteArray := prog_15_method_1_code
abbrev B34 : ByteArray := jdk_59_method_2_code
abbrev B35 : ByteArray := jdk_78_method_2_code
abbrev B38 : ByteArray := prog_15_method_2_code
abbrev B39 : ByteArray := jdk_42_method_66_code
abbrev B40 : ByteArray := jdk_78_method_6_code
abbrev B41 : ByteArray := jdk_43_method_13_code
abbrev B47 : ByteArray := jdk_68_method_11_code
abbrev B48 : ByteArray := jdk_43_method_50_code
abbrev B49 : ByteArray := jdk_52_method_86_code
abbrev B50 : ByteArray := jdk_52_method_94_code
abbrev B51 : ByteArray := jdk_52_method_6_code
abbrev B52 : ByteArray := jdk_42_method_157_code
abbrev B53 : ByteArray := jdk_41_method_13_code
abbrev HW (a0 : Array Value) (Z : State) : Prop := ∀ d ∈ tables_1, d.before a0 Z = true
theorem own_tw {Z : State} {a0 : Array Value} (hw : HW a0 Z) (i : Nat) {d : Jvm.Cond} (h : tables_1[i]? = some d) : d.before a0 Z = true := hw d (List.mem_of_getElem? h)
abbrev vI (x : Int32) : Slot := .val (.int x)
abbrev vR (x : Addr) : Slot := .val (.ref x)
abbrev uS : Slot := .unset
abbrev rM (f c s l : Nat) : Room := { frames := f, cells := c, slots := s, locals := l }
theorem nB {a b : Nat} (h : Nat.ble a b = true) : a ≤ b := Nat.le_of_ble_eq_true h
theorem nE {a b : Nat} (h : a = b) : a ≤ b := Nat.le_of_eq h
theorem mG {α : Type} {l : List α} (i : Nat) {a : α} (h : l[i]? = some a) : a ∈ l := List.mem_of_getElem? h
abbrev s0 : String := "java/lang/AbstractStringBuilder"
abbrev s1 : String := "java/lang/String"
abbrev s2 : String := "com/example/rollcall/rollcall/core/RefusedException"
abbrev s3 : String := "java/lang/StringBuilder"
abbrev s4 : String := "java/lang/Throwable"
abbrev s5 : String := "java/lang/StringUTF16"
abbrev s6 : String := "coder"
abbrev s7 : String := "value"
abbrev s8 : String := "maybeLatin1"
abbrev s9 : String := "Ljava/lang/String;"
abbrev s10 : String := "(Ljava/lang/String;)Ljava/lang/StringBuilder;"
abbrev s11 : String := "(Ljava/lang/String;)Ljava/lang/AbstractStringBuilder;"
abbrev s12 : String := "com/example/rollcall/rollcall/core/Names"
abbrev s13 : String := "(Ljava/lang/String;Ljava/lang/String;)Lcom/example/rollcall/rollcall/core/RefusedException;"
abbrev DD (b : ByteArray) (p : Nat) (i : Instr × Nat) : Prop := decode b p = .ok i
abbrev BF (a : Array Value) (Z : State) (d : Jvm.Cond) : Prop := d.before a Z = true
variable {Z : State} {a0 : Array Value}
theorem tw_0 (hw : HW a0 Z) : BF a0 Z (Cond.classLink "com/example/rollcall/rollcall/core/NamesTakenPinLaw" 7 s1) := own_tw hw 0 rfl
theorem tw_1 (hw : HW a0 Z) : BF a0 Z (Cond.instantiable s1 4) := own_tw hw 1 rfl
theorem tw_2 (hw : HW a0 Z) : BF a0 Z (Cond.initialized s1) := own_tw hw 2 rfl
theorem tw_3 (hw : HW a0 Z) : BF a0 Z (Cond.arrayClass Jvm.ClassFile.FieldType.char) := own_tw hw 3 rfl
theorem tw_4 (hw : HW a0 Z) : BF a0 Z (Cond.methodLink "com/example/rollcall/rollcall/core/NamesTakenPinLaw" 9 ⟨s1, "<init>", "([C)V"⟩) := own_tw hw 4 rfl
theorem tw_5 (hw : HW a0 Z) : BF a0 Z (Cond.instanceMethod ⟨s1, "<init>", "([C)V"⟩) := own_tw hw 5 rfl
theorem tw_6 (hw : HW a0 Z) : BF a0 Z (Cond.code ⟨s1, "<init>", "([C)V"⟩ B1 2 (Option.none : Option Jvm.ClassFile.FieldType)) := own_tw hw 6 rfl
theorem tw_7 (hw : HW a0 Z) : BF a0 Z (Cond.methodLink s1 27 ⟨s1, "<init>", "([CIILjava/lang/Void;)V"⟩) := own_tw hw 7 rfl
theorem tw_8 (hw : HW a0 Z) : BF a0 Z (Cond.instanceMethod ⟨s1, "<init>", "([CIILjava/lang/Void;)V"⟩) := own_tw hw 8 rfl
theorem tw_10 (hw : HW a0 Z) : BF a0 Z (Cond.code ⟨s1, "<init>", "([CIILjava/lang/Void;)V"⟩ B2 6 (Option.none : Option Jvm.ClassFile.FieldType)) := own_tw hw 10 rfl
theorem tw_11 (hw : HW a0 Z) : BF a0 Z (Cond.methodLink s1 1 ⟨"java/lang/Object", "<init>", "()V"⟩) := own_tw hw 11 rfl
theorem tw_12 (hw : HW a0 Z) : BF a0 Z (Cond.instanceMethod ⟨"java/lang/Object", "<init>", "()V"⟩) := own_tw hw 12 rfl
theorem tw_13 (hw : HW a0 Z) : BF a0 Z (Cond.code ⟨"java/lang/Object", "<init>", "()V"⟩ object_method_1_code 1 (Option.none : Option Jvm.ClassFile.FieldType)) := own_tw hw 13 rfl
theorem tw_14 (hw : HW a0 Z) : BF a0 Z (Cond.fieldLink s1 38 s1 "COMPACT_STRINGS" "Z") := own_tw hw 14 rfl
theorem tw_15 (hw : HW a0 Z) : BF a0 Z (Cond.methodLink s1 177 ⟨s5, "compress", "([CII)[B"⟩) := own_tw hw 15 rfl
theorem tw_16 (hw : HW a0 Z) : BF a0 Z (Cond.static ⟨s5, "compress", "([CII)[B"⟩) := own_tw hw 16 rfl
theorem tw_17 (hw : HW a0 Z) : BF a0 Z (Cond.initialized s5) := own_tw hw 17 rfl
theorem tw_18 (hw : HW a0 Z) : BF a0 Z (Cond.code ⟨s5, "compress", "([CII)[B"⟩ B4 6 (Option.some (Jvm.ClassFile.FieldType.array Jvm.ClassFile.FieldType.byte))) := own_tw hw 18 rfl
theorem tw_19 (hw : HW a0 Z) : BF a0 Z (Cond.arrayClass Jvm.ClassFile.FieldType.byte) := own_tw hw 19 rfl
theorem tw_20 (hw : HW a0 Z) : BF a0 Z (Cond.methodLink s5 115 ⟨s5, "compress", "([CI[BII)I"⟩) := own_tw hw 20 rfl
theorem tw_21 (hw : HW a0 Z) : BF a0 Z (Cond.static ⟨s5, "compress", "([CI[BII)I"⟩) := own_tw hw 21 rfl
theorem tw_22 (hw : HW a0 Z) : BF a0 Z (Cond.code ⟨s5, "compress", "([CI[BII)I"⟩ B5 7 (Option.some Jvm.ClassFile.FieldType.int)) := own_tw hw 22 rfl
theorem tw_23 (hw : HW a0 Z) : BF a0 Z (Cond.methodLink s1 47 ⟨s5, "coderFromArrayLen", "([BI)B"⟩) := own_tw hw 23 rfl
theorem tw_24 (hw : HW a0 Z) : BF a0 Z (Cond.static ⟨s5, "coderFromArrayLen", "([BI)B"⟩) := own_tw hw 24 rfl
theorem tw_25 (hw : HW a0 Z) : BF a0 Z (Cond.code ⟨s5, "coderFromArrayLen", "([BI)B"⟩ B6 2 (Option.some Jvm.ClassFile.FieldType.byte)) := own_tw hw 25 rfl
theorem tw_26 (hw : HW a0 Z) : BF a0 Z (Cond.fieldLink s1 15 s1 s6 "B") := own_tw hw 26 rfl
theorem tw_27 (hw : HW a0 Z) : BF a0 Z (Cond.laysFinal s1 s1 s6 "B") := own_tw hw 27 rfl
theorem tw_28 (hw : HW a0 Z) : BF a0 Z (Cond.fieldLink s1 9 s1 s7 "[B") := own_tw hw 28 rfl
theorem tw_29 (hw : HW a0 Z) : BF a0 Z (Cond.laysFinal s1 s1 s7 "[B") := own_tw hw 29 rfl
theorem tw_30 (hw : HW a0 Z) : BF a0 Z (Cond.methodLink "com/example/rollcall/rollcall/core/NamesTakenPinLaw" 12 ⟨s12, "taken", s13⟩) := own_tw hw 30 rfl
theorem tw_31 (hw : HW a0 Z) : BF a0 Z (Cond.static ⟨s12, "taken", s13⟩) := own_tw hw 31 rfl
theorem tw_32 (hw : HW a0 Z) : BF a0 Z (Cond.initialized s12) := own_tw hw 32 rfl
theorem tw_33 (hw : HW a0 Z) : BF a0 Z (Cond.code ⟨s12, "taken", s13⟩ B7 2 (Option.some (Jvm.ClassFile.FieldType.object s2))) := own_tw hw 33 rfl
theorem tw_34 (hw : HW a0 Z) : BF a0 Z (Cond.classLink s12 45 s2) := own_tw hw 34 rfl
theorem tw_35 (hw : HW a0 Z) : BF a0 Z (Cond.instantiable s2 7) := own_tw hw 35 rfl
theorem tw_36 (hw : HW a0 Z) : BF a0 Z (Cond.initialized s2) := own_tw hw 36 rfl
theorem tw_37 (hw : HW a0 Z) : BF a0 Z (Cond.stringLink s12 74 "name_taken") := own_tw hw 37 rfl
theorem tw_40 (hw : HW a0 Z) : BF a0 Z (Cond.classLink s12 49 s3) := own_tw hw 40 rfl
theorem tw_41 (hw : HW a0 Z) : BF a0 Z (Cond.instantiable s3 4) := own_tw hw 41 rfl
theorem tw_42 (hw : HW a0 Z) : BF a0 Z (Cond.initialized s3) := own_tw hw 42 rfl
theorem tw_43 (hw : HW a0 Z) : BF a0 Z (Cond.methodLink s12 51 ⟨s3, "<init>", "()V"⟩) := own_tw hw 43 rfl
theorem tw_44 (hw : HW a0 Z) : BF a0 Z (Cond.instanceMethod ⟨s3, "<init>", "()V"⟩) := own_tw hw 44 rfl
theorem tw_45 (hw : HW a0 Z) : BF a0 Z (Cond.code ⟨s3, "<init>", "()V"⟩ B8 1 (Option.none : Option Jvm.ClassFile.FieldType)) := own_tw hw 45 rfl
theorem tw_46 (hw : HW a0 Z) : BF a0 Z (Cond.methodLink s3 1 ⟨s0, "<init>", "(I)V"⟩) := own_tw hw 46 rfl
theorem tw_47 (hw : HW a0 Z) : BF a0 Z (Cond.instanceMethod ⟨s0, "<init>", "(I)V"⟩) := own_tw hw 47 rfl
theorem tw_50 (hw : HW a0 Z) : BF a0 Z (Cond.initialized s0) := own_tw hw 50 rfl
theorem tw_51 (hw : HW a0 Z) : BF a0 Z (Cond.code ⟨s0, "<init>", "(I)V"⟩ B9 2 (Option.none : Option Jvm.ClassFile.FieldType)) := own_tw hw 51 rfl
theorem tw_52 (hw : HW a0 Z) : BF a0 Z (Cond.methodLink s0 3 ⟨"java/lang/Object", "<init>", "()V"⟩) := own_tw hw 52 rfl
theorem tw_53 (hw : HW a0 Z) : BF a0 Z (Cond.fieldLink s0 18 s1 "COMPACT_STRINGS" "Z") := own_tw hw 53 rfl
theorem tw_54 (hw : HW a0 Z) : BF a0 Z (Cond.fieldLink s0 15 s0 s7 "[B") := own_tw hw 54 rfl
theorem tw_55 (hw : HW a0 Z) : BF a0 Z (Cond.lays s3 s0 s7 "[B") := own_tw hw 55 rfl
theorem tw_56 (hw : HW a0 Z) : BF a0 Z (Cond.fieldLink s0 22 s0 s6 "B") := own_tw hw 56 rfl
theorem tw_57 (hw : HW a0 Z) : BF a0 Z (Cond.lays s3 s0 s6 "B") := own_tw hw 57 rfl
theorem tw_58 (hw : HW a0 Z) : BF a0 Z (Cond.stringLink s12 76 "the ") := own_tw hw 58 rfl
theorem tw_59 (hw : HW a0 Z) : BF a0 Z (Cond.methodLink s12 54 ⟨s3, "append", s10⟩) := own_tw hw 59 rfl
theorem tw_60 (hw : HW a0 Z) : BF a0 Z (Cond.declares ⟨s3, "append", s10⟩) := own_tw hw 60 rfl
theorem tw_61 (hw : HW a0 Z) : BF a0 Z (Cond.instanceMethod ⟨s3, "append", s10⟩) := own_tw hw 61 rfl
theorem tw_62 (hw : HW a0 Z) : BF a0 Z (Cond.selects s3 ⟨s3, "append", s10⟩ ⟨s3, "append", s10⟩) := own_tw hw 62 rfl
theorem tw_63 (hw : HW a0 Z) : BF a0 Z (Cond.code ⟨s3, "append", s10⟩ B10 2 (Option.some (Jvm.ClassFile.FieldType.object s3))) := own_tw hw 63 rfl
theorem tw_64 (hw : HW a0 Z) : BF a0 Z (Cond.methodLink s3 29 ⟨s0, "append", s11⟩) := own_tw hw 64 rfl
theorem tw_65 (hw : HW a0 Z) : BF a0 Z (Cond.instanceMethod ⟨s0, "append", s11⟩) := own_tw hw 65 rfl
theorem tw_66 (hw : HW a0 Z) : BF a0 Z (Cond.superclass s3 s0) := own_tw hw 66 rfl
theorem tw_68 (hw : HW a0 Z) : BF a0 Z (Cond.code ⟨s0, "append", s11⟩ B11 3 (Option.some (Jvm.ClassFile.FieldType.object s0))) := own_tw hw 68 rfl
theorem tw_69 (hw : HW a0 Z) : BF a0 Z (Cond.methodLink s0 32 ⟨s1, "length", "()I"⟩) := own_tw hw 69 rfl
theorem tw_70 (hw : HW a0 Z) : BF a0 Z (Cond.declares ⟨s1, "length", "()I"⟩) := own_tw hw 70 rfl
theorem tw_71 (hw : HW a0 Z) : BF a0 Z (Cond.instanceMethod ⟨s1, "length", "()I"⟩) := own_tw hw 71 rfl
theorem tw_72 (hw : HW a0 Z) : BF a0 Z (Cond.selects s1 ⟨s1, "length", "()I"⟩ ⟨s1, "length", "()I"⟩) := own_tw hw 72 rfl
theorem tw_73 (hw : HW a0 Z) : BF a0 Z (Cond.code ⟨s1, "length", "()I"⟩ B12 1 (Option.some Jvm.ClassFile.FieldType.int)) := own_tw hw 73 rfl
theorem tw_74 (hw : HW a0 Z) : BF a0 Z (Cond.methodLink s1 335 ⟨s1, s6, "()B"⟩) := own_tw hw 74 rfl
theorem tw_75 (hw : HW a0 Z) : BF a0 Z (Cond.declares ⟨s1, s6, "()B"⟩) := own_tw hw 75 rfl
theorem tw_76 (hw : HW a0 Z) : BF a0 Z (Cond.instanceMethod ⟨s1, s6, "()B"⟩) := own_tw hw 76 rfl
theorem tw_77 (hw : HW a0 Z) : BF a0 Z (Cond.selects s1 ⟨s1, s6, "()B"⟩ ⟨s1, s6, "()B"⟩) := own_tw hw 77 rfl
theorem tw_78 (hw : HW a0 Z) : BF a0 Z (Cond.code ⟨s1, s6, "()B"⟩ B13 1 (Option.some Jvm.ClassFile.FieldType.byte)) := own_tw hw 78 rfl
theorem tw_79 (hw : HW a0 Z) : BF a0 Z (Cond.fieldLink s0 79 s0 "count" "I") := own_tw hw 79 rfl
theorem tw_80 (hw : HW a0 Z) : BF a0 Z (Cond.lays s3 s0 "count" "I") := own_tw hw 80 rfl
theorem tw_81 (hw : HW a0 Z) : BF a0 Z (Cond.methodLink s0 100 ⟨s0, "ensureCapacityInternal", "(I)V"⟩) := own_tw hw 81 rfl
theorem tw_82 (hw : HW a0 Z) : BF a0 Z (Cond.instanceMethod ⟨s0, "ensureCapacityInternal", "(I)V"⟩) := own_tw hw 82 rfl
theorem tw_83 (hw : HW a0 Z) : BF a0 Z (Cond.privateMethod ⟨s0, "ensureCapacityInternal", "(I)V"⟩) := own_tw hw 83 rfl
theorem tw_84 (hw : HW a0 Z) : BF a0 Z (Cond.selects s3 ⟨s0, "ensureCapacityInternal", "(I)V"⟩ ⟨s0, "ensureCapacityInternal", "(I)V"⟩) := own_tw hw 84 rfl
theorem tw_85 (hw : HW a0 Z) : BF a0 Z (Cond.code ⟨s0, "ensureCapacityInternal", "(I)V"⟩ B14 3 (Option.none : Option Jvm.ClassFile.FieldType)) := own_tw hw 85 rfl
theorem tw_86 (hw : HW a0 Z) : BF a0 Z (Cond.methodLink s0 208 ⟨s0, "putStringAt", "(ILjava/lang/String;)V"⟩) := own_tw hw 86 rfl
theorem tw_87 (hw : HW a0 Z) : BF a0 Z (Cond.instanceMethod ⟨s0, "putStringAt", "(ILjava/lang/String;)V"⟩) := own_tw hw 87 rfl
theorem tw_88 (hw : HW a0 Z) : BF a0 Z (Cond.privateMethod ⟨s0, "putStringAt", "(ILjava/lang/String;)V"⟩) := own_tw hw 88 rfl
theorem tw_89 (hw : HW a0 Z) : BF a0 Z (Cond.selects s3 ⟨s0, "putStringAt", "(ILjava/lang/String;)V"⟩ ⟨s0, "putStringAt", "(ILjava/lang/String;)V"⟩) := own_tw hw 89 rfl
theorem tw_90 (hw : HW a0 Z) : BF a0 Z (Cond.code ⟨s0, "putStringAt", "(ILjava/lang/String;)V"⟩ B15 3 (Option.none : Option Jvm.ClassFile.FieldType)) := own_tw hw 90 rfl
theorem tw_91 (hw : HW a0 Z) : BF a0 Z (Cond.methodLink s0 397 ⟨s0, "inflateIfNeededFor", "(Ljava/lang/String;)V"⟩) := own_tw hw 91 rfl
theorem tw_92 (hw : HW a0 Z) : BF a0 Z (Cond.instanceMethod ⟨s0, "inflateIfNeededFor", "(Ljava/lang/String;)V"⟩) := own_tw hw 92 rfl
theorem tw_93 (hw : HW a0 Z) : BF a0 Z (Cond.privateMethod ⟨s0, "inflateIfNeededFor", "(Ljava/lang/String;)V"⟩) := own_tw hw 93 rfl
theorem tw_94 (hw : HW a0 Z) : BF a0 Z (Cond.selects s3 ⟨s0, "inflateIfNeededFor", "(Ljava/lang/String;)V"⟩ ⟨s0, "inflateIfNeededFor", "(Ljava/lang/String;)V"⟩) := own_tw hw 94 rfl
theorem tw_95 (hw : HW a0 Z) : BF a0 Z (Cond.code ⟨s0, "inflateIfNeededFor", "(Ljava/lang/String;)V"⟩ B16 2 (Option.none : Option Jvm.ClassFile.FieldType)) := own_tw hw 95 rfl
theorem tw_96 (hw : HW a0 Z) : BF a0 Z (Cond.methodLink s0 40 ⟨s1, s6, "()B"⟩) := own_tw hw 96 rfl
theorem tw_97 (hw : HW a0 Z) : BF a0 Z (Cond.methodLink s0 399 ⟨s1, "getBytes", "([BIB)V"⟩) := own_tw hw 97 rfl
theorem tw_98 (hw : HW a0 Z) : BF a0 Z (Cond.declares ⟨s1, "getBytes", "([BIB)V"⟩) := own_tw hw 98 rfl
theorem tw_99 (hw : HW a0 Z) : BF a0 Z (Cond.instanceMethod ⟨s1, "getBytes", "([BIB)V"⟩) := own_tw hw 99 rfl
theorem tw_100 (hw : HW a0 Z) : BF a0 Z (Cond.selects s1 ⟨s1, "getBytes", "([BIB)V"⟩ ⟨s1, "getBytes", "([BIB)V"⟩) := own_tw hw 100 rfl
theorem tw_101 (hw : HW a0 Z) : BF a0 Z (Cond.code ⟨s1, "getBytes", "([BIB)V"⟩ B17 4 (Option.none : Option Jvm.ClassFile.FieldType)) := own_tw hw 101 rfl
theorem tw_102 (hw : HW a0 Z) : BF a0 Z (Cond.methodLink s1 212 ⟨"java/lang/System", "arraycopy", "(Ljava/lang/Object;ILjava/lang/Object;II)V"⟩) := own_tw hw 102 rfl
theorem tw_103 (hw : HW a0 Z) : BF a0 Z (Cond.static ⟨"java/lang/System", "arraycopy", "(Ljava/lang/Object;ILjava/lang/Object;II)V"⟩) := own_tw hw 103 rfl
theorem tw_104 (hw : HW a0 Z) : BF a0 Z (Cond.initialized "java/lang/System") := own_tw hw 104 rfl
theorem tw_105 (hw : HW a0 Z) : BF a0 Z (Cond.native ⟨"java/lang/System", "arraycopy", "(Ljava/lang/Object;ILjava/lang/Object;II)V"⟩) := own_tw hw 105 rfl
theorem tw_106 (hw : HW a0 Z) : BF a0 Z (Cond.stringLink s12 78 " '") := own_tw hw 106 rfl
theorem tw_107 (hw : HW a0 Z) : BF a0 Z (Cond.stringLink s12 80 "' is already taken") := own_tw hw 107 rfl
theorem tw_108 (hw : HW a0 Z) : BF a0 Z (Cond.methodLink s0 104 ⟨s0, "newCapacity", "(I)I"⟩) := own_tw hw 108 rfl
theorem tw_109 (hw : HW a0 Z) : BF a0 Z (Cond.instanceMethod ⟨s0, "newCapacity", "(I)I"⟩) := own_tw hw 109 rfl
theorem tw_110 (hw : HW a0 Z) : BF a0 Z (Cond.privateMethod ⟨s0, "newCapacity", "(I)I"⟩) := own_tw hw 110 rfl
theorem tw_111 (hw : HW a0 Z) : BF a0 Z (Cond.selects s3 ⟨s0, "newCapacity", "(I)I"⟩ ⟨s0, "newCapacity", "(I)I"⟩) := own_tw hw 111 rfl
theorem tw_112 (hw : HW a0 Z) : BF a0 Z (Cond.code ⟨s0, "newCapacity", "(I)I"⟩ B18 6 (Option.some Jvm.ClassFile.FieldType.int)) := own_tw hw 112 rfl
theorem tw_113 (hw : HW a0 Z) : BF a0 Z (Cond.methodLink s0 114 ⟨"jdk/internal/util/ArraysSupport", "newLength", "(III)I"⟩) := own_tw hw 113 rfl
theorem tw_114 (hw : HW a0 Z) : BF a0 Z (Cond.static ⟨"jdk/internal/util/ArraysSupport", "newLength", "(III)I"⟩) := own_tw hw 114 rfl
theorem tw_115 (hw : HW a0 Z) : BF a0 Z (Cond.initialized "jdk/internal/util/ArraysSupport") := own_tw hw 115 rfl
theorem tw_116 (hw : HW a0 Z) : BF a0 Z (Cond.code ⟨"jdk/internal/util/ArraysSupport", "newLength", "(III)I"⟩ B19 4 (Option.some Jvm.ClassFile.FieldType.int)) := own_tw hw 116 rfl
theorem tw_117 (hw : HW a0 Z) : BF a0 Z (Cond.methodLink "jdk/internal/util/ArraysSupport" 194 ⟨"java/lang/Math", "max", "(II)I"⟩) := own_tw hw 117 rfl
theorem tw_118 (hw : HW a0 Z) : BF a0 Z (Cond.static ⟨"java/lang/Math", "max", "(II)I"⟩) := own_tw hw 118 rfl
theorem tw_119 (hw : HW a0 Z) : BF a0 Z (Cond.initialized "java/lang/Math") := own_tw hw 119 rfl
theorem tw_120 (hw : HW a0 Z) : BF a0 Z (Cond.code ⟨"java/lang/Math", "max", "(II)I"⟩ B20 2 (Option.some Jvm.ClassFile.FieldType.int)) := own_tw hw 120 rfl
theorem tw_121 (hw : HW a0 Z) : BF a0 Z (Cond.constant "jdk/internal/util/ArraysSupport" 200 (2147483639 : Int32)) := own_tw hw 121 rfl
theorem tw_122 (hw : HW a0 Z) : BF a0 Z (Cond.constant s0 39 (2147483647 : Int32)) := own_tw hw 122 rfl
theorem tw_123 (hw : HW a0 Z) : BF a0 Z (Cond.methodLink s0 108 ⟨"java/util/Arrays", "copyOf", "([BI)[B"⟩) := own_tw hw 123 rfl
theorem tw_124 (hw : HW a0 Z) : BF a0 Z (Cond.static ⟨"java/util/Arrays", "copyOf", "([BI)[B"⟩) := own_tw hw 124 rfl
theorem tw_125 (hw : HW a0 Z) : BF a0 Z (Cond.initialized "java/util/Arrays") := own_tw hw 125 rfl
theorem tw_126 (hw : HW a0 Z) : BF a0 Z (Cond.code ⟨"java/util/Arrays", "copyOf", "([BI)[B"⟩ B21 3 (Option.some (Jvm.ClassFile.FieldType.array Jvm.ClassFile.FieldType.byte))) := own_tw hw 126 rfl
theorem tw_127 (hw : HW a0 Z) : BF a0 Z (Cond.methodLink "java/util/Arrays" 304 ⟨"java/lang/Math", "min", "(II)I"⟩) := own_tw hw 127 rfl
theorem tw_128 (hw : HW a0 Z) : BF a0 Z (Cond.static ⟨"java/lang/Math", "min", "(II)I"⟩) := own_tw hw 128 rfl
theorem tw_129 (hw : HW a0 Z) : BF a0 Z (Cond.code ⟨"java/lang/Math", "min", "(II)I"⟩ B22 2 (Option.some Jvm.ClassFile.FieldType.int)) := own_tw hw 129 rfl
theorem tw_130 (hw : HW a0 Z) : BF a0 Z (Cond.methodLink "java/util/Arrays" 150 ⟨"java/lang/System", "arraycopy", "(Ljava/lang/Object;ILjava/lang/Object;II)V"⟩) := own_tw hw 130 rfl
theorem tw_131 (hw : HW a0 Z) : BF a0 Z (Cond.methodLink s12 67 ⟨s3, "toString", "()Ljava/lang/String;"⟩) := own_tw hw 131 rfl
theorem tw_132 (hw : HW a0 Z) : BF a0 Z (Cond.declares ⟨s3, "toString", "()Ljava/lang/String;"⟩) := own_tw hw 132 rfl
theorem tw_133 (hw : HW a0 Z) : BF a0 Z (Cond.instanceMethod ⟨s3, "toString", "()Ljava/lang/String;"⟩) := own_tw hw 133 rfl
theorem tw_134 (hw : HW a0 Z) : BF a0 Z (Cond.selects s3 ⟨s3, "toString", "()Ljava/lang/String;"⟩ ⟨s3, "toString", "()Ljava/lang/String;"⟩) := own_tw hw 134 rfl
theorem tw_135 (hw : HW a0 Z) : BF a0 Z (Cond.code ⟨s3, "toString", "()Ljava/lang/String;"⟩ B23 1 (Option.some (Jvm.ClassFile.FieldType.object s1))) := own_tw hw 135 rfl
theorem tw_136 (hw : HW a0 Z) : BF a0 Z (Cond.classLink s3 18 s1) := own_tw hw 136 rfl
theorem tw_137 (hw : HW a0 Z) : BF a0 Z (Cond.methodLink s3 137 ⟨s1, "<init>", "(Ljava/lang/StringBuilder;)V"⟩) := own_tw hw 137 rfl
theorem tw_138 (hw : HW a0 Z) : BF a0 Z (Cond.instanceMethod ⟨s1, "<init>", "(Ljava/lang/StringBuilder;)V"⟩) := own_tw hw 138 rfl
theorem tw_139 (hw : HW a0 Z) : BF a0 Z (Cond.code ⟨s1, "<init>", "(Ljava/lang/StringBuilder;)V"⟩ B24 2 (Option.none : Option Jvm.ClassFile.FieldType)) := own_tw hw 139 rfl
theorem tw_140 (hw : HW a0 Z) : BF a0 Z (Cond.methodLink s1 489 ⟨s1, "<init>", "(Ljava/lang/AbstractStringBuilder;Ljava/lang/Void;)V"⟩) := own_tw hw 140 rfl
theorem tw_141 (hw : HW a0 Z) : BF a0 Z (Cond.instanceMethod ⟨s1, "<init>", "(Ljava/lang/AbstractStringBuilder;Ljava/lang/Void;)V"⟩) := own_tw hw 141 rfl
theorem tw_142 (hw : HW a0 Z) : BF a0 Z (Cond.code ⟨s1, "<init>", "(Ljava/lang/AbstractStringBuilder;Ljava/lang/Void;)V"⟩ B25 5 (Option.none : Option Jvm.ClassFile.FieldType)) := own_tw hw 142 rfl
theorem tw_143 (hw : HW a0 Z) : BF a0 Z (Cond.methodLink s1 552 ⟨s0, "getValue", "()[B"⟩) := own_tw hw 143 rfl
theorem tw_144 (hw : HW a0 Z) : BF a0 Z (Cond.declares ⟨s0, "getValue", "()[B"⟩) := own_tw hw 144 rfl
theorem tw_145 (hw : HW a0 Z) : BF a0 Z (Cond.instanceMethod ⟨s0, "getValue", "()[B"⟩) := own_tw hw 145 rfl
theorem tw_146 (hw : HW a0 Z) : BF a0 Z (Cond.selects s3 ⟨s0, "getValue", "()[B"⟩ ⟨s0, "getValue", "()[B"⟩) := own_tw hw 146 rfl
theorem tw_147 (hw : HW a0 Z) : BF a0 Z (Cond.code ⟨s0, "getValue", "()[B"⟩ B26 1 (Option.some (Jvm.ClassFile.FieldType.array Jvm.ClassFile.FieldType.byte))) := own_tw hw 147 rfl
theorem tw_148 (hw : HW a0 Z) : BF a0 Z (Cond.methodLink s1 549 ⟨s0, "length", "()I"⟩) := own_tw hw 148 rfl
theorem tw_149 (hw : HW a0 Z) : BF a0 Z (Cond.declares ⟨s0, "length", "()I"⟩) := own_tw hw 149 rfl
theorem tw_150 (hw : HW a0 Z) : BF a0 Z (Cond.instanceMethod ⟨s0, "length", "()I"⟩) := own_tw hw 150 rfl
theorem tw_151 (hw : HW a0 Z) : BF a0 Z (Cond.selects s3 ⟨s0, "length", "()I"⟩ ⟨s3, "length", "()I"⟩) := own_tw hw 151 rfl
theorem tw_152 (hw : HW a0 Z) : BF a0 Z (Cond.instanceMethod ⟨s3, "length", "()I"⟩) := own_tw hw 152 rfl
theorem tw_153 (hw : HW a0 Z) : BF a0 Z (Cond.code ⟨s3, "length", "()I"⟩ B27 1 (Option.some Jvm.ClassFile.FieldType.int)) := own_tw hw 153 rfl
theorem tw_154 (hw : HW a0 Z) : BF a0 Z (Cond.methodLink s3 343 ⟨s0, "length", "()I"⟩) := own_tw hw 154 rfl
theorem tw_155 (hw : HW a0 Z) : BF a0 Z (Cond.code ⟨s0, "length", "()I"⟩ B28 1 (Option.some Jvm.ClassFile.FieldType.int)) := own_tw hw 155 rfl
theorem tw_156 (hw : HW a0 Z) : BF a0 Z (Cond.methodLink s1 1047 ⟨s0, "isLatin1", "()Z"⟩) := own_tw hw 156 rfl
theorem tw_157 (hw : HW a0 Z) : BF a0 Z (Cond.declares ⟨s0, "isLatin1", "()Z"⟩) := own_tw hw 157 rfl
theorem tw_158 (hw : HW a0 Z) : BF a0 Z (Cond.instanceMethod ⟨s0, "isLatin1", "()Z"⟩) := own_tw hw 158 rfl
theorem tw_159 (hw : HW a0 Z) : BF a0 Z (Cond.selects s3 ⟨s0, "isLatin1", "()Z"⟩ ⟨s0, "isLatin1", "()Z"⟩) := own_tw hw 159 rfl
theorem tw_160 (hw : HW a0 Z) : BF a0 Z (Cond.code ⟨s0, "isLatin1", "()Z"⟩ B29 1 (Option.some Jvm.ClassFile.FieldType.boolean)) := own_tw hw 160 rfl
theorem tw_161 (hw : HW a0 Z) : BF a0 Z (Cond.methodLink s1 54 ⟨"java/util/Arrays", "copyOfRange", "([BII)[B"⟩) := own_tw hw 161 rfl
theorem tw_162 (hw : HW a0 Z) : BF a0 Z (Cond.static ⟨"java/util/Arrays", "copyOfRange", "([BII)[B"⟩) := own_tw hw 162 rfl
theorem tw_163 (hw : HW a0 Z) : BF a0 Z (Cond.code ⟨"java/util/Arrays", "copyOfRange", "([BII)[B"⟩ B30 3 (Option.some (Jvm.ClassFile.FieldType.array Jvm.ClassFile.FieldType.byte))) := own_tw hw 163 rfl
theorem tw_164 (hw : HW a0 Z) : BF a0 Z (Cond.methodLink "java/util/Arrays" 339 ⟨"java/util/Arrays", "copyOfRangeByte", "([BII)[B"⟩) := own_tw hw 164 rfl
theorem tw_165 (hw : HW a0 Z) : BF a0 Z (Cond.static ⟨"java/util/Arrays", "copyOfRangeByte", "([BII)[B"⟩) := own_tw hw 165 rfl
theorem tw_166 (hw : HW a0 Z) : BF a0 Z (Cond.code ⟨"java/util/Arrays", "copyOfRangeByte", "([BII)[B"⟩ B31 5 (Option.some (Jvm.ClassFile.FieldType.array Jvm.ClassFile.FieldType.byte))) := own_tw hw 166 rfl
theorem tw_167 (hw : HW a0 Z) : BF a0 Z (Cond.methodLink "java/util/Arrays" 343 ⟨"java/util/Arrays", "checkLength", "(II)V"⟩) := own_tw hw 167 rfl
theorem tw_168 (hw : HW a0 Z) : BF a0 Z (Cond.static ⟨"java/util/Arrays", "checkLength", "(II)V"⟩) := own_tw hw 168 rfl
theorem tw_169 (hw : HW a0 Z) : BF a0 Z (Cond.code ⟨"java/util/Arrays", "checkLength", "(II)V"⟩ B32 2 (Option.none : Option Jvm.ClassFile.FieldType)) := own_tw hw 169 rfl
theorem tw_170 (hw : HW a0 Z) : BF a0 Z (Cond.methodLink s12 71 ⟨s2, "<init>", "(Ljava/lang/String;Ljava/lang/String;)V"⟩) := own_tw hw 170 rfl
theorem tw_171 (hw : HW a0 Z) : BF a0 Z (Cond.instanceMethod ⟨s2, "<init>", "(Ljava/lang/String;Ljava/lang/String;)V"⟩) := own_tw hw 171 rfl
theorem tw_172 (hw : HW a0 Z) : BF a0 Z (Cond.code ⟨s2, "<init>", "(Ljava/lang/String;Ljava/lang/String;)V"⟩ B33 3 (Option.none : Option Jvm.ClassFile.FieldType)) := own_tw hw 172 rfl
theorem tw_173 (hw : HW a0 Z) : BF a0 Z (Cond.methodLink s2 1 ⟨"java/lang/Exception", "<init>", "(Ljava/lang/String;)V"⟩) := own_tw hw 173 rfl
theorem tw_174 (hw : HW a0 Z) : BF a0 Z (Cond.instanceMethod ⟨"java/lang/Exception", "<init>", "(Ljava/lang/String;)V"⟩) := own_tw hw 174 rfl
theorem tw_176 (hw : HW a0 Z) : BF a0 Z (Cond.initialized "java/lang/Exception") := own_tw hw 176 rfl
theorem tw_177 (hw : HW a0 Z) : BF a0 Z (Cond.code ⟨"java/lang/Exception", "<init>", "(Ljava/lang/String;)V"⟩ B34 2 (Option.none : Option Jvm.ClassFile.FieldType)) := own_tw hw 177 rfl
theorem tw_178 (hw : HW a0 Z) : BF a0 Z (Cond.methodLink "java/lang/Exception" 7 ⟨s4, "<init>", "(Ljava/lang/String;)V"⟩) := own_tw hw 178 rfl
theorem tw_179 (hw : HW a0 Z) : BF a0 Z (Cond.instanceMethod ⟨s4, "<init>", "(Ljava/lang/String;)V"⟩) := own_tw hw 179 rfl
theorem tw_182 (hw : HW a0 Z) : BF a0 Z (Cond.initialized s4) := own_tw hw 182 rfl
theorem tw_183 (hw : HW a0 Z) : BF a0 Z (Cond.code ⟨s4, "<init>", "(Ljava/lang/String;)V"⟩ B35 2 (Option.none : Option Jvm.ClassFile.FieldType)) := own_tw hw 183 rfl
theorem tw_184 (hw : HW a0 Z) : BF a0 Z (Cond.methodLink s4 1 ⟨"java/lang/Object", "<init>", "()V"⟩) := own_tw hw 184 rfl
theorem tw_185 (hw : HW a0 Z) : BF a0 Z (Cond.fieldLink s4 7 s4 "cause" "Ljava/lang/Throwable;") := own_tw hw 185 rfl
theorem tw_186 (hw : HW a0 Z) : BF a0 Z (Cond.lays s2 s4 "cause" "Ljava/lang/Throwable;") := own_tw hw 186 rfl
theorem tw_187 (hw : HW a0 Z) : BF a0 Z (Cond.fieldLink s4 13 s4 "UNASSIGNED_STACK" "[Ljava/lang/StackTraceElement;") := own_tw hw 187 rfl
theorem tw_188 (hw : HW a0 Z) : BF a0 Z (Cond.fieldLink s4 17 s4 "stackTrace" "[Ljava/lang/StackTraceElement;") := own_tw hw 188 rfl
theorem tw_189 (hw : HW a0 Z) : BF a0 Z (Cond.lays s2 s4 "stackTrace" "[Ljava/lang/StackTraceElement;") := own_tw hw 189 rfl
theorem tw_190 (hw : HW a0 Z) : BF a0 Z (Cond.fieldLink s4 20 s4 "SUPPRESSED_SENTINEL" "Ljava/util/List;") := own_tw hw 190 rfl
theorem tw_191 (hw : HW a0 Z) : BF a0 Z (Cond.fieldLink s4 24 s4 "suppressedExceptions" "Ljava/util/List;") := own_tw hw 191 rfl
theorem tw_192 (hw : HW a0 Z) : BF a0 Z (Cond.lays s2 s4 "suppressedExceptions" "Ljava/util/List;") := own_tw hw 192 rfl
theorem tw_216 (hw : HW a0 Z) : BF a0 Z (Cond.lays s2 s4 "detailMessage" s9) := own_tw hw 216 rfl
theorem tw_217 (hw : HW a0 Z) : BF a0 Z (Cond.lays s2 s4 "backtrace" "Ljava/lang/Object;") := own_tw hw 217 rfl
theorem tw_218 (hw : HW a0 Z) : BF a0 Z (Cond.lays s2 s4 "depth" "I") := own_tw hw 218 rfl
theorem tw_220 (hw : HW a0 Z) : BF a0 Z (Cond.fieldLink s4 31 s4 "detailMessage" s9) := own_tw hw 220 rfl
theorem tw_221 (hw : HW a0 Z) : BF a0 Z (Cond.fieldLink s2 7 s2 "code" s9) := own_tw hw 221 rfl
theorem tw_222 (hw : HW a0 Z) : BF a0 Z (Cond.laysFinal s2 s2 "code" s9) := own_tw hw 222 rfl
theorem tw_223 (hw : HW a0 Z) : BF a0 Z (Cond.stringLink "com/example/rollcall/rollcall/core/NamesTakenPinLaw" 18 "name_taken") := own_tw hw 223 rfl
theorem tw_224 (hw : HW a0 Z) : BF a0 Z (Cond.methodLink "com/example/rollcall/rollcall/core/NamesTakenPinLaw" 20 ⟨s2, "code", "()Ljava/lang/String;"⟩) := own_tw hw 224 rfl
theorem tw_225 (hw : HW a0 Z) : BF a0 Z (Cond.declares ⟨s2, "code", "()Ljava/lang/String;"⟩) := own_tw hw 225 rfl
theorem tw_226 (hw : HW a0 Z) : BF a0 Z (Cond.instanceMethod ⟨s2, "code", "()Ljava/lang/String;"⟩) := own_tw hw 226 rfl
theorem tw_227 (hw : HW a0 Z) : BF a0 Z (Cond.selects s2 ⟨s2, "code", "()Ljava/lang/String;"⟩ ⟨s2, "code", "()Ljava/lang/String;"⟩) := own_tw hw 227 rfl
theorem tw_228 (hw : HW a0 Z) : BF a0 Z (Cond.code ⟨s2, "code", "()Ljava/lang/String;"⟩ B38 1 (Option.some (Jvm.ClassFile.FieldType.object s1))) := own_tw hw 228 rfl
theorem tw_229 (hw : HW a0 Z) : BF a0 Z (Cond.methodLink "com/example/rollcall/rollcall/core/NamesTakenPinLaw" 26 ⟨s1, "equals", "(Ljava/lang/Object;)Z"⟩) := own_tw hw 229 rfl
theorem tw_230 (hw : HW a0 Z) : BF a0 Z (Cond.declares ⟨s1, "equals", "(Ljava/lang/Object;)Z"⟩) := own_tw hw 230 rfl
theorem tw_231 (hw : HW a0 Z) : BF a0 Z (Cond.instanceMethod ⟨s1, "equals", "(Ljava/lang/Object;)Z"⟩) := own_tw hw 231 rfl
theorem tw_232 (hw : HW a0 Z) : BF a0 Z (Cond.selects s1 ⟨s1, "equals", "(Ljava/lang/Object;)Z"⟩ ⟨s1, "equals", "(Ljava/lang/Object;)Z"⟩) := own_tw hw 232 rfl
theorem tw_233 (hw : HW a0 Z) : BF a0 Z (Cond.code ⟨s1, "equals", "(Ljava/lang/Object;)Z"⟩ B39 3 (Option.some Jvm.ClassFile.FieldType.boolean)) := own_tw hw 233 rfl
theorem tw_234 (hw : HW a0 Z) : BF a0 Z (Cond.methodLink "com/example/rollcall/rollcall/core/NamesTakenPinLaw" 30 ⟨s2, "getMessage", "()Ljava/lang/String;"⟩) := own_tw hw 234 rfl
theorem tw_235 (hw : HW a0 Z) : BF a0 Z (Cond.sameMethod s2 s4 "getMessage" "()Ljava/lang/String;") := own_tw hw 235 rfl
theorem tw_236 (hw : HW a0 Z) : BF a0 Z (Cond.declares ⟨s4, "getMessage", "()Ljava/lang/String;"⟩) := own_tw hw 236 rfl
theorem tw_237 (hw : HW a0 Z) : BF a0 Z (Cond.instanceMethod ⟨s4, "getMessage", "()Ljava/lang/String;"⟩) := own_tw hw 237 rfl
theorem tw_238 (hw : HW a0 Z) : BF a0 Z (Cond.selects s2 ⟨s2, "getMessage", "()Ljava/lang/String;"⟩ ⟨s4, "getMessage", "()Ljava/lang/String;"⟩) := own_tw hw 238 rfl
theorem tw_239 (hw : HW a0 Z) : BF a0 Z (Cond.code ⟨s4, "getMessage", "()Ljava/lang/String;"⟩ B40 1 (Option.some (Jvm.ClassFile.FieldType.object s1))) := own_tw hw 239 rfl
theorem tw_240 (hw : HW a0 Z) : BF a0 Z (Cond.classLink s1 10 s1) := own_tw hw 240 rfl
theorem tw_241 (hw : HW a0 Z) : BF a0 Z (Cond.methodLink s1 541 ⟨"java/lang/StringLatin1", "equals", "([B[B)Z"⟩) := own_tw hw 241 rfl
theorem tw_242 (hw : HW a0 Z) : BF a0 Z (Cond.static ⟨"java/lang/StringLatin1", "equals", "([B[B)Z"⟩) := own_tw hw 242 rfl
theorem tw_243 (hw : HW a0 Z) : BF a0 Z (Cond.initialized "java/lang/StringLatin1") := own_tw hw 243 rfl
theorem tw_244 (hw : HW a0 Z) : BF a0 Z (Cond.code ⟨"java/lang/StringLatin1", "equals", "([B[B)Z"⟩ B41 3 (Option.some Jvm.ClassFile.FieldType.boolean)) := own_tw hw 244 rfl
theorem tw_245 (hw : HW a0 Z) : BF a0 Z (Cond.methodLink s5 119 ⟨s5, "toBytes", "([CII)[B"⟩) := own_tw hw 245 rfl
theorem tw_246 (hw : HW a0 Z) : BF a0 Z (Cond.static ⟨s5, "toBytes", "([CII)[B"⟩) := own_tw hw 246 rfl
theorem tw_247 (hw : HW a0 Z) : BF a0 Z (Cond.code ⟨s5, "toBytes", "([CII)[B"⟩ B42 5 (Option.some (Jvm.ClassFile.FieldType.array Jvm.ClassFile.FieldType.byte))) := own_tw hw 247 rfl
theorem tw_248 (hw : HW a0 Z) : BF a0 Z (Cond.methodLink s5 107 ⟨s5, "newBytesFor", "(I)[B"⟩) := own_tw hw 248 rfl
theorem tw_249 (hw : HW a0 Z) : BF a0 Z (Cond.static ⟨s5, "newBytesFor", "(I)[B"⟩) := own_tw hw 249 rfl
theorem tw_250 (hw : HW a0 Z) : BF a0 Z (Cond.code ⟨s5, "newBytesFor", "(I)[B"⟩ B43 1 (Option.some (Jvm.ClassFile.FieldType.array Jvm.ClassFile.FieldType.byte))) := own_tw hw 250 rfl
theorem tw_251 (hw : HW a0 Z) : BF a0 Z (Cond.methodLink s5 11 ⟨s5, "newBytesLength", "(I)I"⟩) := own_tw hw 251 rfl
theorem tw_252 (hw : HW a0 Z) : BF a0 Z (Cond.static ⟨s5, "newBytesLength", "(I)I"⟩) := own_tw hw 252 rfl
theorem tw_253 (hw : HW a0 Z) : BF a0 Z (Cond.code ⟨s5, "newBytesLength", "(I)I"⟩ B44 1 (Option.some Jvm.ClassFile.FieldType.int)) := own_tw hw 253 rfl
theorem tw_254 (hw : HW a0 Z) : BF a0 Z (Cond.constant s5 20 (1073741823 : Int32)) := own_tw hw 254 rfl
theorem tw_255 (hw : HW a0 Z) : BF a0 Z (Cond.methodLink s5 111 ⟨s5, "putChar", "([BII)V"⟩) := own_tw hw 255 rfl
theorem tw_256 (hw : HW a0 Z) : BF a0 Z (Cond.static ⟨s5, "putChar", "([BII)V"⟩) := own_tw hw 256 rfl
theorem tw_257 (hw : HW a0 Z) : BF a0 Z (Cond.code ⟨s5, "putChar", "([BII)V"⟩ B45 3 (Option.none : Option Jvm.ClassFile.FieldType)) := own_tw hw 257 rfl
theorem tw_258 (hw : HW a0 Z) : BF a0 Z (Cond.fieldLink s5 44 s5 "$assertionsDisabled" "Z") := own_tw hw 258 rfl
theorem tw_259 (hw : HW a0 Z) : BF a0 Z (Cond.fieldLink s5 59 s5 "HI_BYTE_SHIFT" "I") := own_tw hw 259 rfl
theorem tw_260 (hw : HW a0 Z) : BF a0 Z (Cond.fieldLink s5 63 s5 "LO_BYTE_SHIFT" "I") := own_tw hw 260 rfl
theorem tw_261 (hw : HW a0 Z) : BF a0 Z (Cond.methodLink s5 71 ⟨s5, "getChar", "([BI)C"⟩) := own_tw hw 261 rfl
theorem tw_262 (hw : HW a0 Z) : BF a0 Z (Cond.static ⟨s5, "getChar", "([BI)C"⟩) := own_tw hw 262 rfl
theorem tw_263 (hw : HW a0 Z) : BF a0 Z (Cond.code ⟨s5, "getChar", "([BI)C"⟩ B46 2 (Option.some Jvm.ClassFile.FieldType.char)) := own_tw hw 263 rfl
theorem tw_264 (hw : HW a0 Z) : BF a0 Z (Cond.methodLink s0 195 ⟨s0, "inflate", "()V"⟩) := own_tw hw 264 rfl
theorem tw_265 (hw : HW a0 Z) : BF a0 Z (Cond.instanceMethod ⟨s0, "inflate", "()V"⟩) := own_tw hw 265 rfl
theorem tw_266 (hw : HW a0 Z) : BF a0 Z (Cond.privateMethod ⟨s0, "inflate", "()V"⟩) := own_tw hw 266 rfl
theorem tw_267 (hw : HW a0 Z) : BF a0 Z (Cond.selects s3 ⟨s0, "inflate", "()V"⟩ ⟨s0, "inflate", "()V"⟩) := own_tw hw 267 rfl
theorem tw_268 (hw : HW a0 Z) : BF a0 Z (Cond.code ⟨s0, "inflate", "()V"⟩ B47 2 (Option.none : Option Jvm.ClassFile.FieldType)) := own_tw hw 268 rfl
theorem tw_269 (hw : HW a0 Z) : BF a0 Z (Cond.methodLink s0 83 ⟨s0, "isLatin1", "()Z"⟩) := own_tw hw 269 rfl
theorem tw_270 (hw : HW a0 Z) : BF a0 Z (Cond.methodLink s0 26 ⟨s5, "newBytesFor", "(I)[B"⟩) := own_tw hw 270 rfl
theorem tw_271 (hw : HW a0 Z) : BF a0 Z (Cond.methodLink s0 125 ⟨"java/lang/StringLatin1", "inflate", "([BI[BII)V"⟩) := own_tw hw 271 rfl
theorem tw_272 (hw : HW a0 Z) : BF a0 Z (Cond.static ⟨"java/lang/StringLatin1", "inflate", "([BI[BII)V"⟩) := own_tw hw 272 rfl
theorem tw_273 (hw : HW a0 Z) : BF a0 Z (Cond.code ⟨"java/lang/StringLatin1", "inflate", "([BI[BII)V"⟩ B48 5 (Option.none : Option Jvm.ClassFile.FieldType)) := own_tw hw 273 rfl
theorem tw_274 (hw : HW a0 Z) : BF a0 Z (Cond.methodLink "java/lang/StringLatin1" 240 ⟨s5, "inflate", "([BI[BII)V"⟩) := own_tw hw 274 rfl
theorem tw_275 (hw : HW a0 Z) : BF a0 Z (Cond.static ⟨s5, "inflate", "([BI[BII)V"⟩) := own_tw hw 275 rfl
theorem tw_276 (hw : HW a0 Z) : BF a0 Z (Cond.code ⟨s5, "inflate", "([BI[BII)V"⟩ B49 6 (Option.none : Option Jvm.ClassFile.FieldType)) := own_tw hw 276 rfl
theorem tw_277 (hw : HW a0 Z) : BF a0 Z (Cond.methodLink s5 173 ⟨s5, "checkBoundsOffCount", "(II[B)V"⟩) := own_tw hw 277 rfl
theorem tw_278 (hw : HW a0 Z) : BF a0 Z (Cond.static ⟨s5, "checkBoundsOffCount", "(II[B)V"⟩) := own_tw hw 278 rfl
theorem tw_279 (hw : HW a0 Z) : BF a0 Z (Cond.code ⟨s5, "checkBoundsOffCount", "(II[B)V"⟩ B50 3 (Option.none : Option Jvm.ClassFile.FieldType)) := own_tw hw 279 rfl
theorem tw_280 (hw : HW a0 Z) : BF a0 Z (Cond.methodLink s5 48 ⟨s5, "length", "([B)I"⟩) := own_tw hw 280 rfl
theorem tw_281 (hw : HW a0 Z) : BF a0 Z (Cond.static ⟨s5, "length", "([B)I"⟩) := own_tw hw 281 rfl
theorem tw_282 (hw : HW a0 Z) : BF a0 Z (Cond.code ⟨s5, "length", "([B)I"⟩ B51 1 (Option.some Jvm.ClassFile.FieldType.int)) := own_tw hw 282 rfl
theorem tw_283 (hw : HW a0 Z) : BF a0 Z (Cond.methodLink s5 419 ⟨s1, "checkBoundsOffCount", "(III)I"⟩) := own_tw hw 283 rfl
theorem tw_284 (hw : HW a0 Z) : BF a0 Z (Cond.static ⟨s1, "checkBoundsOffCount", "(III)I"⟩) := own_tw hw 284 rfl
theorem tw_285 (hw : HW a0 Z) : BF a0 Z (Cond.code ⟨s1, "checkBoundsOffCount", "(III)I"⟩ B52 3 (Option.some Jvm.ClassFile.FieldType.int)) := own_tw hw 285 rfl
theorem tw_286 (hw : HW a0 Z) : BF a0 Z (Cond.fieldLink s1 1053 "jdk/internal/util/Preconditions" "SIOOBE_FORMATTER" "Ljava/util/function/BiFunction;") := own_tw hw 286 rfl
theorem tw_287 (hw : HW a0 Z) : BF a0 Z (Cond.initialized "jdk/internal/util/Preconditions") := own_tw hw 287 rfl
theorem tw_288 (hw : HW a0 Z) : BF a0 Z (Cond.methodLink s1 1065 ⟨"jdk/internal/util/Preconditions", "checkFromIndexSize", "(IIILjava/util/function/BiFunction;)I"⟩) := own_tw hw 288 rfl
theorem tw_289 (hw : HW a0 Z) : BF a0 Z (Cond.static ⟨"jdk/internal/util/Preconditions", "checkFromIndexSize", "(IIILjava/util/function/BiFunction;)I"⟩) := own_tw hw 289 rfl
theorem tw_290 (hw : HW a0 Z) : BF a0 Z (Cond.code ⟨"jdk/internal/util/Preconditions", "checkFromIndexSize", "(IIILjava/util/function/BiFunction;)I"⟩ B53 4 (Option.some Jvm.ClassFile.FieldType.int)) := own_tw hw 290 rfl
theorem tw_291 (hw : HW a0 Z) : BF a0 Z (Cond.methodLink s1 106 ⟨"java/lang/StringLatin1", "inflate", "([BI[BII)V"⟩) := own_tw hw 291 rfl
theorem tw_292 (hw : HW a0 Z) : BF a0 Z (Cond.fieldLink s1 1048 s0 s8 "Z") := own_tw hw 292 rfl
theorem tw_293 (hw : HW a0 Z) : BF a0 Z (Cond.lays s3 s0 s8 "Z") := own_tw hw 293 rfl
section OwnStart
variable {args : Array Value} {first s : State} {o : Option Outcome} {idx : List Nat} {t : Term}
theorem own_eqI {k : Int32} (h : (Jvm.Cond.eq t (Term.int k)).value args first o s idx = some true) : t.eval args first o idx s = some (.int k) := by
  cases ht : t.eval args first o idx s with
  | none => simp [Cond.value, ht] at h
  | some x => cases x <;> simp [Cond.value, ht, Term.eval] at h; subst h; rfl
theorem own_len {a : Addr} {cl : Cell} {ty : FieldType} {n : Int32} (ev : t.eval args s none [] s = some (.ref a)) (A : Arr s s.heap a cl ty) (h : (Jvm.Cond.eq (.length t) (Term.int n)).value args s none s [] = some true) : cl.slots.size < 2 ^ 31 ∧ cl.slots.size.toInt32 = n := by
  have h1 := own_eqI h
  have h2 : s.arrayAt? a = some cl := Arr.fin (Vm.Alike.refl _) A
  simp only [Term.eval, ev, Bind.bind, Option.bind, h2, Pure.pure] at h1
  split at h1
  · exact ⟨by assumption, by simpa using h1⟩
  · simp at h1
end OwnStart

section OwnAuto
theorem own_rlit {k : Int32} {n : Int} (h : k.toInt = n) : n ≤ k.toInt ∧ k.toInt ≤ n := by omega
theorem own_ri2c {x z : Int32} (h : (x.toUInt32.toUInt16.toUInt32.toInt32) = z) : 0 ≤ z.toInt ∧ z.toInt ≤ 65535 := by subst h; have := c_i2c x; omega
theorem own_ri2b {x z : Int32} (h : (x.toInt8.toInt32) = z) : -128 ≤ z.toInt ∧ z.toInt ≤ 127 := by subst h; have := c_i2b x; omega
theorem own_rushr {x q z : Int32} {k : Nat} {B : Int} (h : ((x.toUInt32 >>> (q &&& 31).toUInt32).toInt32) = z) (hk : q.toBitVec.toNat % 32 = k) (h0 : 0 < k) (hB : (4294967295 : Int) / ((2 ^ k : Nat) : Int) ≤ B) : 0 ≤ z.toInt ∧ z.toInt ≤ B := by
  subst h
  rw [c_iushr x q k hk h0]
  have h1 : 0 ≤ x.toInt % 4294967296 := Int.emod_nonneg _ (by decide)
  have h2 : x.toInt % 4294967296 ≤ 4294967295 := by have := Int.emod_lt_of_pos x.toInt (by decide : (0 : Int) < 4294967296); omega
  have hp : (0 : Int) < ((2 ^ k : Nat) : Int) := Int.ofNat_lt.mpr (Nat.two_pow_pos k)
  exact ⟨Int.ediv_nonneg h1 (Int.le_of_lt hp), Int.le_trans (Int.ediv_le_ediv hp h2) hB⟩
theorem own_i2c_id {x : Int32} {a b : Int} (hr : a ≤ x.toInt ∧ x.toInt ≤ b) (ha : 0 ≤ a) (hb : b ≤ 65535) : (x.toUInt32.toUInt16.toUInt32.toInt32) = x := by apply Int32.toInt_inj.mp; have := c_i2c x; omega
theorem own_i2b_id {x : Int32} {a b : Int} (hr : a ≤ x.toInt ∧ x.toInt ≤ b) (ha : -128 ≤ a) (hb : b ≤ 127) : (x.toInt8.toInt32) = x := by apply Int32.toInt_inj.mp; have := c_i2b x; omega
theorem own_byte_back {c b : Int32} {lo hi : Int} (h : (c.toInt8.toInt32) = b) (hr : lo ≤ c.toInt ∧ c.toInt ≤ hi) (h1 : 0 ≤ lo) (h2 : hi ≤ 255) : (b &&& (255 : Int32)) = c := by
  subst h
  apply Int32.toInt_inj.mp
  rw [c_mask _ (255 : Int32) 8 (by decide) (by decide)]
  have e := c_i2b c
  have e2 : ((2 ^ 8 : Nat) : Int) = 256 := by decide
  rw [e2]; omega
theorem own_nar_byte {x : Int32} {a b : Int} (hr : a ≤ x.toInt ∧ x.toInt ≤ b) (ha : -128 ≤ a) (hb : b ≤ 127) : nar .byte x = x := own_i2b_id hr ha hb
theorem own_nar_char {x : Int32} {a b : Int} (hr : a ≤ x.toInt ∧ x.toInt ≤ b) (ha : 0 ≤ a) (hb : b ≤ 65535) : nar .char x = x := own_i2c_id hr ha hb
end OwnAuto

def EL0 : List (String × Nat) := [("com/example/rollcall/rollcall/core/Names", 74), ("com/example/rollcall/rollcall/core/Names", 76), ("com/example/rollcall/rollcall/core/Names", 78), ("com/example/rollcall/rollcall/core/Names", 80), ("com/example/rollcall/rollcall/core/NamesTakenPinLaw", 18)]
theorem own_EW {Z : State} {a0 : Array Value} (hw : HW a0 Z) : EW Z a0 EL0 := (EW.cons (tw_37 hw) (by decide) (EW.cons (tw_58 hw) (by decide) (EW.cons (tw_106 hw) (by decide) (EW.cons (tw_107 hw) (by decide) (EW.cons (tw_223 hw) (by decide) EW.nil)))))
theorem own_SA {Z : State} {a0 : Array Value} (hw : HW a0 Z) : ∀ a ∈ Bundle.stringAtoms, a.before a0 Z = true := fun a ha => hw a ((by decide +kernel : ∀ w ∈ Bundle.stringAtoms, w ∈ tables_1) a ha)
def Glob (Z : State) (α : Int32) (β : Addr) (γ : Addr) (δ : Addr) (ε : Value) (ζ : ClassId) (η : ClassId) : Prop := Sta Z Z.heap "java/lang/String" "COMPACT_STRINGS" "Z" (.int α) ∧ Sta Z Z.heap "java/lang/Throwable" "$assertionsDisabled" "Z" (.int 1) ∧ Sta Z Z.heap "java/lang/Throwable" "UNASSIGNED_STACK" "[Ljava/lang/StackTraceElement;" (.ref β) ∧ Sta Z Z.heap "java/lang/Throwable" "SUPPRESSED_SENTINEL" "Ljava/util/List;" (.ref γ) ∧ Exa Z Z.heap γ "java/util/Collections$EmptyList" ∧ Sta Z Z.heap "java/lang/Throwable" "EMPTY_THROWABLE_ARRAY" "[Ljava/lang/Throwable;" (.ref δ) ∧ Sta Z Z.heap "java/lang/StringUTF16" "$assertionsDisabled" "Z" (.int 1) ∧ Sta Z Z.heap "java/lang/StringUTF16" "HI_BYTE_SHIFT" "I" (.int 0) ∧ Sta Z Z.heap "java/lang/StringUTF16" "LO_BYTE_SHIFT" "I" (.int 8) ∧ Sta Z Z.heap "jdk/internal/util/Preconditions" "SIOOBE_FORMATTER" "Ljava/util/function/BiFunction;" ε ∧ Arv Z Z.heap β ζ (.object "java/lang/StackTraceElement") (0 : Int32) [] .null ∧ Arv Z Z.heap δ η (.object "java/lang/Throwable") (0 : Int32) [] .null ∧ ¬ α = (0 : Int32) ∧ ε.isRef = true
theorem own_getDI' (l : List Int32) (n : Nat) (d : Int32) : (l.map Value.int).getD n (.int d) = .int (l.getD n d) := by
  induction l generalizing n with
  | nil => rfl
  | cons a r ih => cases n with
    | zero => rfl
    | succ k => exact ih k
theorem own_ofN {i : Nat} (h : i < 2 ^ 31) : (Int32.ofNat i).toInt = i := Int32.toInt_ofNat_of_lt h
theorem own_ofN0 {i : Nat} (h : i < 2 ^ 31) : ¬ Int32.ofNat i < 0 := by rw [Int32.lt_iff_toInt_lt, own_ofN h]; show ¬ (i : Int) < 0; omega
theorem own_ofNc {i : Nat} (h : i < 2 ^ 31) : (Int32.ofNat i).toNatClampNeg = i := by
  have q := nat_of (own_ofN0 h); rw [own_ofN h] at q; omega
theorem own_ofNlt {i : Nat} {z : Int32} (h : i < 2 ^ 31) (q : (i : Int) < z.toInt) : Int32.ofNat i < z := by rw [Int32.lt_iff_toInt_lt, own_ofN h]; exact q
theorem own_ofNge {i : Nat} {z : Int32} (h : i < 2 ^ 31) (q : z.toInt ≤ (i : Int)) : ¬ Int32.ofNat i < z := by rw [Int32.lt_iff_toInt_lt, own_ofN h]; omega
theorem own_ofNs (i : Nat) : Int32.ofNat i + Int32.ofInt 1 = Int32.ofNat (i + 1) := by rw [Int32.ofNat_add]; rfl
theorem own_ltN {z : Int32} {n : Nat} (h : z.toInt = n) : n < 2 ^ 31 := by have := rng32 z; omega
theorem own_takeS {us vs : List Int32} {i : Nat} (h1 : i < us.length) (h2 : i < vs.length) (ht : us.take i = vs.take i) (he : us.getD i 0 = vs.getD i 0) : us.take (i + 1) = vs.take (i + 1) := by
  rw [List.take_succ, List.take_succ, ht]
  simp only [List.getD_eq_getElem?_getD, List.getElem?_eq_getElem h1, List.getElem?_eq_getElem h2, Option.getD_some] at he
  rw [List.getElem?_eq_getElem h1, List.getElem?_eq_getElem h2, he]
theorem own_setR (us : List Value) (k : Nat) (v d : Value) : (us ++ List.replicate (k + 1) d).set us.length v = (us ++ [v]) ++ List.replicate k d := by
  rw [List.set_append_right _ _ (Nat.le_refl _), Nat.sub_self, List.replicate_succ, List.set_cons_zero, List.append_assoc]; rfl
def own_vb (c : Int32) : Value := .int c.toInt8.toInt32
theorem own_shl1 {i : Nat} (h : 2 * i < 2 ^ 31) : (Int32.ofNat i <<< ((1 : Int32) &&& 31)) = Int32.ofNat (2 * i) := by
  apply Int32.toInt_inj.mp
  have e := c_ishl (Int32.ofNat i) 1 1 (by decide)
  have r := rng32 (Int32.ofNat i <<< ((1 : Int32) &&& 31))
  have p : ((2 ^ 1 : Nat) : Int) = 2 := by decide
  rw [own_ofN (by omega), p] at e
  rw [own_ofN (by omega)]; omega
theorem own_shr0 (c : Int32) : (c >>> ((0 : Int32) &&& 31)) = c := by
  apply Int32.toInt_inj.mp
  have p : ((2 ^ 0 : Nat) : Int) = 1 := by decide
  rw [c_ishr c 0 0 (by decide), p]; omega
def own_hi (c : Int32) : Int32 := (c >>> ((8 : Int32) &&& 31)).toInt8.toInt32
theorem own_rhi {c z : Int32} (h : own_hi c = z) : -128 ≤ z.toInt ∧ z.toInt ≤ 127 := by
  subst h; have := c_i2b (c >>> ((8 : Int32) &&& 31)); unfold own_hi; omega
theorem own_hi0 {c : Int32} {a b : Int} (h : a ≤ c.toInt ∧ c.toInt ≤ b) (ha : 0 ≤ a) (hb : b ≤ 255) : own_hi c = 0 := by
  apply Int32.toInt_inj.mp
  have p : ((2 ^ 8 : Nat) : Int) = 256 := by decide
  have d := c_ishr c 8 8 (by decide)
  rw [p] at d
  have e := c_i2b (c >>> ((8 : Int32) &&& 31)); unfold own_hi
  have z : (0 : Int32).toInt = 0 := rfl
  omega
theorem own_chr {c : Int32} (h : 0 ≤ c.toInt ∧ c.toInt ≤ 65535) : (((c.toInt8.toInt32 &&& 255) <<< ((0 : Int32) &&& 31)) ||| ((own_hi c &&& 255) <<< ((8 : Int32) &&& 31))).toUInt32.toUInt16.toUInt32.toInt32 = c := by
  have p8 : ((2 ^ 8 : Nat) : Int) = 256 := by decide
  have p0 : ((2 ^ 0 : Nat) : Int) = 1 := by decide
  have e1 := c_i2b c
  have m1 := c_mask c.toInt8.toInt32 255 8 (by decide) (by decide)
  have s1 := c_ishl (c.toInt8.toInt32 &&& 255) 0 0 (by decide)
  have d2 := c_ishr c 8 8 (by decide)
  have e2 : ((own_hi c).toInt - (c >>> ((8 : Int32) &&& 31)).toInt) % 256 = 0 := (c_i2b (c >>> ((8 : Int32) &&& 31))).1
  have m2 := c_mask (own_hi c) 255 8 (by decide) (by decide)
  have s2 := c_ishl (own_hi c &&& 255) 8 8 (by decide)
  rw [p8] at m1 d2 m2 s2
  rw [p0] at s1
  have r1 := rng32 ((c.toInt8.toInt32 &&& 255) <<< ((0 : Int32) &&& 31))
  have r2 := rng32 ((own_hi c &&& 255) <<< ((8 : Int32) &&& 31))
  generalize (c.toInt8.toInt32 &&& 255) <<< ((0 : Int32) &&& 31) = A at *
  generalize (own_hi c &&& 255) <<< ((8 : Int32) &&& 31) = B at *
  have hA : A.toInt = c.toInt % 256 := by omega
  have hB : B.toInt = c.toInt / 256 * 256 := by omega
  have o := c_or' A B 8 (by decide) 256 p8.symm (by omega) (by omega) (by omega)
  have r := rng32 (A ||| B)
  have i := c_i2c (A ||| B)
  apply Int32.toInt_inj.mp; omega
def own_u16 : List Int32 → List Value
  | [] => []
  | c :: r => .int c.toInt8.toInt32 :: .int (own_hi c) :: own_u16 r
theorem own_u16_len (cs : List Int32) : (own_u16 cs).length = 2 * cs.length := by
  induction cs with
  | nil => rfl
  | cons a r ih => simp only [own_u16, List.length_cons, ih]; omega
theorem own_u16_app (a b : List Int32) : own_u16 (a ++ b) = own_u16 a ++ own_u16 b := by
  induction a with
  | nil => rfl
  | cons x r ih => simp only [List.cons_append, own_u16, ih]
theorem own_u16_get (cs : List Int32) (j : Nat) (hj : j < cs.length) : (own_u16 cs).getD (2 * j) (.int 0) = .int (cs.getD j 0).toInt8.toInt32 ∧ (own_u16 cs).getD (2 * j + 1) (.int 0) = .int (own_hi (cs.getD j 0)) := by
  induction cs generalizing j with
  | nil => exact absurd hj (Nat.not_lt_zero _)
  | cons a r ih =>
    cases j with
    | zero => exact ⟨rfl, rfl⟩
    | succ k =>
      have q := ih k (Nat.lt_of_succ_lt_succ hj)
      rw [show 2 * (k + 1) = 2 * k + 1 + 1 from by omega]
      exact q
theorem own_set2 (A B : List Value) (a b v w : Value) {n : Nat} (hn : n = A.length) : ((A ++ (a :: b :: B)).set n v).set (n + 1) w = (A ++ [v, w]) ++ B := by
  subst hn
  rw [List.set_append_right _ _ (Nat.le_refl _), Nat.sub_self, List.set_cons_zero, List.set_append_right _ _ (Nat.le_succ _), show A.length + 1 - A.length = 0 + 1 from by omega, List.set_cons_succ, List.set_cons_zero, List.append_assoc]; rfl
theorem own_u16_snoc (cs : List Int32) (i : Nat) (hi : i < cs.length) : own_u16 (cs.take (i + 1)) = own_u16 (cs.take i) ++ [.int (cs.getD i 0).toInt8.toInt32, .int (own_hi (cs.getD i 0))] := by
  rw [List.take_succ, List.getElem?_eq_getElem hi, List.getD_eq_getElem?_getD, List.getElem?_eq_getElem hi, own_u16_app]; rfl
theorem own_u16_tlen (cs : List Int32) {i : Nat} (hi : i ≤ cs.length) : (own_u16 (cs.take i)).length = 2 * i := by rw [own_u16_len, List.length_take]; omega
theorem own_getDv (cs : List Int32) (rest : List Value) {i : Nat} (hi : i < cs.length) : (cs.map own_vb ++ rest).getD i (.int 0) = .int (cs.getD i 0).toInt8.toInt32 := by
  rw [List.getD_eq_getElem?_getD, List.getElem?_append_left (by rw [List.length_map]; exact hi), List.getElem?_map, List.getD_eq_getElem?_getD, List.getElem?_eq_getElem hi]; rfl
def own_ltA (cs : List Int32) : Prop := ∀ c ∈ cs, ¬ (255 : Int32) < c
def own_at (cs : List Int32) (nd : Int32) : Prop := ∃ j : Nat, j < cs.length ∧ nd = Int32.ofNat j ∧ (255 : Int32) < cs.getD j 0
theorem own_ltA_r {cs : List Int32} (h : own_ltA cs) {c : Int32} (hc : c ∈ cs) {a b : Int} (r : a ≤ c.toInt ∧ c.toInt ≤ b) (ha : 0 ≤ a) : 0 ≤ c.toInt ∧ c.toInt ≤ 255 := by
  have q := h c hc
  rw [Int32.lt_iff_toInt_lt] at q
  have e : (255 : Int32).toInt = 255 := rfl
  omega
theorem own_ltA_0 : own_ltA [] := fun c h => nomatch h
theorem own_ltA_c {c : Int32} {cs : List Int32} {a b : Int} (r : a ≤ c.toInt ∧ c.toInt ≤ b) (hb : b ≤ 255) (q : own_ltA cs) : own_ltA (c :: cs) := fun d hd => by
  rcases List.mem_cons.mp hd with rfl | hd
  · rw [Int32.lt_iff_toInt_lt]; have e : (255 : Int32).toInt = 255 := rfl; omega
  · exact q d hd
theorem own_ltA_2 {a b : Int32} {cs : List Int32} (ha : a ∈ cs) (hb : b ∈ cs) (h : own_ltA cs) : own_ltA [a, b] := fun d hd => by
  rcases List.mem_cons.mp hd with rfl | hd
  · exact h _ ha
  · rcases List.mem_singleton.mp hd with rfl; exact h _ hb
theorem own_getD_mem {cs : List Int32} {i : Nat} (hi : i < cs.length) : cs.getD i 0 ∈ cs := by rw [List.getD_eq_getElem?_getD, List.getElem?_eq_getElem hi]; exact List.getElem_mem hi
theorem own_ltA_of {cs : List Int32} (h : ∀ j, j < cs.length → ¬ (255 : Int32) < cs.getD j 0) : own_ltA cs := fun c hc => by
  obtain ⟨j, hj, rfl⟩ := List.mem_iff_getElem.mp hc
  have q := h j hj
  rw [List.getD_eq_getElem?_getD, List.getElem?_eq_getElem hj] at q
  exact q
theorem own_uc {c : Int32} {a b : Int32} {x : List Int32} {r y : List Value} (h1 : c.toInt8.toInt32 = a) (h2 : own_hi c = b) (q : own_u16 x ++ r = y) : own_u16 (c :: x) ++ r = .int a :: .int b :: y := by
  rw [← h1, ← h2, ← q]; rfl
theorem own_mca {c : Int32} {v : Int32} {x : List Int32} {r y : List Value} (h : c.toInt8.toInt32 = v) (q : x.map own_vb ++ r = y) : (c :: x).map own_vb ++ r = .int v :: y := by rw [← h, ← q]; rfl
def own_str (cs : List Int32) (cd zn : Int32) (ls : List Value) : Prop := (own_ltA cs ∧ cd = 0 ∧ zn = Int32.ofNat cs.length ∧ ls = cs.map own_vb) ∨ (¬ own_ltA cs ∧ cd = 1 ∧ zn = Int32.ofNat (2 * cs.length) ∧ ls = own_u16 cs)
theorem own_str_t {cs : List Int32} {cd zn : Int32} {ls : List Value} (h : own_str cs cd zn ls) (q : own_ltA cs) : cd = 0 ∧ zn = Int32.ofNat cs.length ∧ ls = cs.map own_vb := by
  rcases h with h | h
  · exact h.2
  · exact absurd q h.1
theorem own_str_f {cs : List Int32} {cd zn : Int32} {ls : List Value} (h : own_str cs cd zn ls) (q : ¬ own_ltA cs) : cd = 1 ∧ zn = Int32.ofNat (2 * cs.length) ∧ ls = own_u16 cs := by
  rcases h with h | h
  · exact absurd h.1 q
  · exact h.2
theorem own_w0 : ∀ c ∈ ([] : List Int32), 0 ≤ c.toInt ∧ c.toInt ≤ 65535 := fun c h => nomatch h
theorem own_wc {c : Int32} {cs : List Int32} {a b : Int} (r : a ≤ c.toInt ∧ c.toInt ≤ b) (ha : 0 ≤ a) (hb : b ≤ 65535) (q : ∀ c ∈ cs, 0 ≤ c.toInt ∧ c.toInt ≤ 65535) : ∀ d ∈ c :: cs, 0 ≤ d.toInt ∧ d.toInt ≤ 65535 := fun d hd => by
  rcases List.mem_cons.mp hd with rfl | hd
  · omega
  · exact q d hd
theorem own_x0 : ∀ c ∈ ([] : List Int32), 0 ≤ c.toInt ∧ c.toInt ≤ 255 := fun c h => nomatch h
theorem own_xc {c : Int32} {cs : List Int32} {a b : Int} (r : a ≤ c.toInt ∧ c.toInt ≤ b) (ha : 0 ≤ a) (hb : b ≤ 255) (q : ∀ c ∈ cs, 0 ≤ c.toInt ∧ c.toInt ≤ 255) : ∀ d ∈ c :: cs, 0 ≤ d.toInt ∧ d.toInt ≤ 255 := fun d hd => by
  rcases List.mem_cons.mp hd with rfl | hd
  · omega
  · exact q d hd

abbrev LL0 (a0 a1 a2 a3 : Int32) : List Int32 := [116, 104, 101, 32, a0, a1, 32, 39, a2, a3, 39, 32, 105, 115, 32, 97, 108, 114, 101, 97, 100, 121, 32, 116, 97, 107, 101, 110]
abbrev LL1 (a0 a1 a2 a3 : Int32) : List Value := [.int 116, .int 0, .int 104, .int 0, .int 101, .int 0, .int 32, .int 0, .int a0, .int a1, .int a2, .int a3, .int 32, .int 0, .int 39, .int 0, .int 0, .int 0, .int 0, .int 0, .int 0, .int 0, .int 0, .int 0, .int 0, .int 0, .int 0, .int 0, .int 0, .int 0, .int 0, .int 0]
abbrev LL2 : List Value := [.int 116, .int 104, .int 101, .int 32, .int 0, .int 0, .int 0, .int 0, .int 0, .int 0, .int 0, .int 0, .int 0, .int 0, .int 0, .int 0]
abbrev LL3 (a0 a1 : Int32) : List Value := [.int 116, .int 104, .int 101, .int 32, .int a0, .int a1, .int 32, .int 39, .int 0, .int 0, .int 0, .int 0, .int 0, .int 0, .int 0, .int 0]
abbrev LL4 : List Value := [.int 0, .int 0, .int 0, .int 0, .int 0, .int 0, .int 0, .int 0, .int 0, .int 0, .int 0, .int 0, .int 0, .int 0, .int 0, .int 0]
abbrev LL5 : List Value := [.int 39, .int 32, .int 105, .int 115, .int 32, .int 97, .int 108, .int 114, .int 101, .int 97, .int 100, .int 121, .int 32, .int 116, .int 97, .int 107, .int 101, .int 110]
abbrev LL6 (a0 a1 a2 a3 : Int32) : List Value := [.int 116, .int 0, .int 104, .int 0, .int 101, .int 0, .int 32, .int 0, .int a0, .int a1, .int a2, .int a3, .int 0, .int 0, .int 0, .int 0, .int 0, .int 0, .int 0, .int 0, .int 0, .int 0, .int 0, .int 0, .int 0, .int 0, .int 0, .int 0, .int 0, .int 0, .int 0, .int 0]
abbrev LL7 (a0 a1 a2 a3 : Int32) : List Value := [.int 116, .int 104, .int 101, .int 32, .int a0, .int a1, .int 32, .int 39, .int a2, .int a3, .int 39, .int 32, .int 105, .int 115, .int 32, .int 97, .int 108, .int 114, .int 101, .int 97, .int 100, .int 121, .int 32, .int 116, .int 97, .int 107, .int 101, .int 110]
abbrev LL8 (a0 a1 : Int32) : List Value := [.int 116, .int 104, .int 101, .int 32, .int a0, .int a1, .int 0, .int 0, .int 0, .int 0, .int 0, .int 0, .int 0, .int 0, .int 0, .int 0]
abbrev LL9 : List Value := [.int 0, .int 0, .int 0, .int 0, .int 0, .int 0, .int 0, .int 0, .int 0, .int 0, .int 0, .int 0]
abbrev LL10 (a0 a1 : Int32) : List Value := [.int 116, .int 0, .int 104, .int 0, .int 101, .int 0, .int 32, .int 0, .int a0, .int 0, .int a1, .int 0, .int 32, .int 0, .int 39, .int 0, .int 0, .int 0, .int 0, .int 0, .int 0, .int 0, .int 0, .int 0, .int 0, .int 0, .int 0, .int 0, .int 0, .int 0, .int 0, .int 0]
abbrev LL11 (a0 a1 a2 a3 a4 a5 a6 a7 a8 a9 a10 a11 a12 a13 a14 a15 a16 a17 a18 a19 : Int32) : List Value := [.int a0, .int a1, .int a2, .int a3, .int a4, .int a5, .int a6, .int a7, .int a8, .int a9, .int a10, .int a11, .int a12, .int a13, .int a14, .int a15, .int a16, .int a17, .int a18, .int a19, .int 39, .int 0, .int 32, .int 0, .int 105, .int 0, .int 115, .int 0, .int 32, .int 0, .int 97, .int 0, .int 108, .int 0, .int 114, .int 0, .int 101, .int 0, .int 97, .int 0, .int 100, .int 0, .int 121, .int 0, .int 32, .int 0, .int 116, .int 0, .int 97, .int 0, .int 107, .int 0, .int 101, .int 0, .int 110, .int 0, .int 0, .int 0, .int 0, .int 0, .int 0, .int 0, .int 0, .int 0, .int 0, .int 0, .int 0, .int 0]
abbrev LL12 : List Value := [.int 116, .int 0, .int 104, .int 0, .int 101, .int 0, .int 32, .int 0, .int 0, .int 0, .int 0, .int 0, .int 0, .int 0, .int 0, .int 0, .int 0, .int 0, .int 0, .int 0, .int 0, .int 0, .int 0, .int 0, .int 0, .int 0, .int 0, .int 0, .int 0, .int 0, .int 0, .int 0]
abbrev LL13 (a0 a1 a2 a3 a4 a5 : Int32) : List Value := [.int 116, .int 0, .int 104, .int 0, .int 101, .int 0, .int 32, .int 0, .int a0, .int a1, .int a2, .int a3, .int 32, .int 0, .int 39, .int 0, .int a4, .int 0, .int a5, .int 0, .int 0, .int 0, .int 0, .int 0, .int 0, .int 0, .int 0, .int 0, .int 0, .int 0, .int 0, .int 0]
abbrev LL14 (a0 a1 a2 a3 a4 a5 a6 a7 a8 a9 a10 a11 a12 a13 a14 a15 a16 a17 a18 a19 a20 a21 a22 a23 a24 a25 a26 a27 : Int32) : List Value := [.int a0, .int a1, .int a2, .int a3, .int a4, .int a5, .int a6, .int a7, .int a8, .int a9, .int a10, .int a11, .int a12, .int a13, .int a14, .int a15, .int a16, .int a17, .int a18, .int a19, .int a20, .int a21, .int a22, .int a23, .int a24, .int a25, .int a26, .int a27]
abbrev LL15 (a0 a1 a2 a3 a4 a5 a6 a7 a8 a9 a10 a11 a12 a13 a14 a15 a16 a17 a18 a19 : Int32) : List Value := [.int a0, .int a1, .int a2, .int a3, .int a4, .int a5, .int a6, .int a7, .int a8, .int a9, .int a10, .int a11, .int a12, .int a13, .int a14, .int a15, .int a16, .int a17, .int a18, .int a19, .int 0, .int 0, .int 0, .int 0, .int 0, .int 0, .int 0, .int 0, .int 0, .int 0, .int 0, .int 0, .int 0, .int 0, .int 0, .int 0, .int 0, .int 0, .int 0, .int 0, .int 0, .int 0, .int 0, .int 0, .int 0, .int 0, .int 0, .int 0, .int 0, .int 0, .int 0, .int 0, .int 0, .int 0, .int 0, .int 0, .int 0, .int 0, .int 0, .int 0, .int 0, .int 0, .int 0, .int 0, .int 0, .int 0, .int 0, .int 0]
abbrev LL16 (a0 a1 a2 a3 a4 a5 a6 a7 a8 a9 a10 a11 a12 a13 a14 a15 a16 a17 a18 a19 a20 a21 a22 a23 a24 a25 a26 a27 a28 a29 a30 a31 a32 a33 a34 a35 a36 a37 a38 a39 a40 a41 a42 a43 a44 a45 a46 a47 a48 a49 a50 a51 a52 a53 a54 a55 : Int32) : List Value := [.int a0, .int a1, .int a2, .int a3, .int a4, .int a5, .int a6, .int a7, .int a8, .int a9, .int a10, .int a11, .int a12, .int a13, .int a14, .int a15, .int a16, .int a17, .int a18, .int a19, .int a20, .int a21, .int a22, .int a23, .int a24, .int a25, .int a26, .int a27, .int a28, .int a29, .int a30, .int a31, .int a32, .int a33, .int a34, .int a35, .int a36, .int a37, .int a38, .int a39, .int a40, .int a41, .int a42, .int a43, .int a44, .int a45, .int a46, .int a47, .int a48, .int a49, .int a50, .int a51, .int a52, .int a53, .int a54, .int a55]
abbrev LL17 : List Value := [.int 110, .int 97, .int 109, .int 101, .int 95, .int 116, .int 97, .int 107, .int 101, .int 110]
abbrev LL18 : List Value := [.int 0, .int 0, .int 0, .int 0, .int 0, .int 0, .int 0, .int 0, .int 0, .int 0, .int 0, .int 0, .int 0, .int 0, .int 0, .int 0, .int 0, .int 0, .int 0, .int 0, .int 0, .int 0, .int 0, .int 0, .int 0, .int 0, .int 0, .int 0, .int 0, .int 0, .int 0, .int 0]
abbrev LL19 (a0 a1 a2 a3 : Int32) : List Value := [.int 116, .int 104, .int 101, .int 32, .int a0, .int a1, .int 32, .int 39, .int a2, .int a3, .int 0, .int 0, .int 0, .int 0, .int 0, .int 0]
abbrev LL20 (a0 a1 a2 a3 a4 a5 a6 a7 a8 a9 : Int32) : List Value := [.int a0, .int a1, .int a2, .int a3, .int a4, .int a5, .int a6, .int a7, .int a8, .int a9, .int 0, .int 0, .int 0, .int 0, .int 0, .int 0]
abbrev LL21 (a0 a1 a2 a3 a4 a5 a6 a7 a8 a9 : Int32) : List Value := [.int a0, .int a1, .int a2, .int a3, .int a4, .int a5, .int a6, .int a7, .int a8, .int a9, .int 0, .int 0, .int 0, .int 0, .int 0, .int 0, .int 0, .int 0, .int 0, .int 0, .int 0, .int 0, .int 0, .int 0, .int 0, .int 0, .int 0, .int 0, .int 0, .int 0, .int 0, .int 0, .int 0, .int 0]
abbrev LL22 (a0 a1 a2 a3 a4 a5 a6 a7 a8 a9 : Int32) : List Value := [.int a0, .int a1, .int a2, .int a3, .int a4, .int a5, .int a6, .int a7, .int a8, .int a9, .int 39, .int 32, .int 105, .int 115, .int 32, .int 97, .int 108, .int 114, .int 101, .int 97, .int 100, .int 121, .int 32, .int 116, .int 97, .int 107, .int 101, .int 110, .int 0, .int 0, .int 0, .int 0, .int 0, .int 0]
abbrev LL23 (a0 a1 a2 a3 a4 a5 a6 a7 a8 a9 a10 a11 a12 a13 a14 a15 a16 a17 a18 a19 a20 a21 a22 a23 a24 a25 a26 a27 : Int32) : List Value := [.int a0, .int a1, .int a2, .int a3, .int a4, .int a5, .int a6, .int a7, .int a8, .int a9, .int a10, .int a11, .int a12, .int a13, .int a14, .int a15, .int a16, .int a17, .int a18, .int a19, .int a20, .int a21, .int a22, .int a23, .int a24, .int a25, .int a26, .int a27, .int 0, .int 0, .int 0, .int 0, .int 0, .int 0]
abbrev LL24 (a0 a1 : Int32) : List Int32 := [116, 104, 101, 32, a0, a1, 32, 39]
abbrev LL25 (a0 a1 a2 a3 a4 a5 : Int32) : List Value := [.int 116, .int 0, .int 104, .int 0, .int 101, .int 0, .int 32, .int 0, .int a0, .int 0, .int a1, .int 0, .int 32, .int 0, .int 39, .int 0, .int a2, .int a3, .int a4, .int a5, .int 0, .int 0, .int 0, .int 0, .int 0, .int 0, .int 0, .int 0, .int 0, .int 0, .int 0, .int 0]
abbrev LL26 (a0 a1 a2 a3 a4 a5 a6 a7 a8 a9 a10 a11 a12 a13 a14 a15 a16 a17 a18 a19 : Int32) : List Value := [.int a0, .int a1, .int a2, .int a3, .int a4, .int a5, .int a6, .int a7, .int a8, .int a9, .int a10, .int a11, .int a12, .int a13, .int a14, .int a15, .int a16, .int a17, .int a18, .int a19, .int 0, .int 0, .int 0, .int 0, .int 0, .int 0, .int 0, .int 0, .int 0, .int 0, .int 0, .int 0]
abbrev LL27 : List Int32 := [39, 32, 105, 115, 32, 97, 108, 114, 101, 97, 100, 121, 32, 116, 97, 107, 101, 110]
abbrev LL28 (a0 a1 a2 a3 a4 a5 a6 a7 a8 a9 a10 a11 a12 a13 a14 a15 a16 a17 a18 a19 a20 a21 a22 a23 a24 a25 a26 a27 a28 a29 a30 a31 a32 a33 a34 a35 a36 a37 a38 a39 a40 a41 a42 a43 a44 a45 a46 a47 a48 a49 a50 a51 a52 a53 a54 a55 : Int32) : List Value := [.int a0, .int a1, .int a2, .int a3, .int a4, .int a5, .int a6, .int a7, .int a8, .int a9, .int a10, .int a11, .int a12, .int a13, .int a14, .int a15, .int a16, .int a17, .int a18, .int a19, .int a20, .int a21, .int a22, .int a23, .int a24, .int a25, .int a26, .int a27, .int a28, .int a29, .int a30, .int a31, .int a32, .int a33, .int a34, .int a35, .int a36, .int a37, .int a38, .int a39, .int a40, .int a41, .int a42, .int a43, .int a44, .int a45, .int a46, .int a47, .int a48, .int a49, .int a50, .int a51, .int a52, .int a53, .int a54, .int a55, .int 0, .int 0, .int 0, .int 0, .int 0, .int 0, .int 0, .int 0, .int 0, .int 0, .int 0, .int 0]
abbrev LL29 (a0 a1 a2 a3 a4 a5 : Int32) : List Value := [.int 116, .int 0, .int 104, .int 0, .int 101, .int 0, .int 32, .int 0, .int a0, .int 0, .int a1, .int 0, .int 32, .int 0, .int 39, .int 0, .int a2, .int a3, .int a4, .int a5, .int 39, .int 0, .int 32, .int 0, .int 105, .int 0, .int 115, .int 0, .int 32, .int 0, .int 97, .int 0, .int 108, .int 0, .int 114, .int 0, .int 101, .int 0, .int 97, .int 0, .int 100, .int 0, .int 121, .int 0, .int 32, .int 0, .int 116, .int 0, .int 97, .int 0, .int 107, .int 0, .int 101, .int 0, .int 110, .int 0]
abbrev LL30 (a0 a1 a2 a3 a4 a5 : Int32) : List Value := [.int 116, .int 0, .int 104, .int 0, .int 101, .int 0, .int 32, .int 0, .int a0, .int a1, .int a2, .int a3, .int 32, .int 0, .int 39, .int 0, .int a4, .int 0, .int a5, .int 0, .int 39, .int 0, .int 32, .int 0, .int 105, .int 0, .int 115, .int 0, .int 32, .int 0, .int 97, .int 0, .int 108, .int 0, .int 114, .int 0, .int 101, .int 0, .int 97, .int 0, .int 100, .int 0, .int 121, .int 0, .int 32, .int 0, .int 116, .int 0, .int 97, .int 0, .int 107, .int 0, .int 101, .int 0, .int 110, .int 0]
abbrev LL31 (a0 a1 a2 a3 a4 a5 a6 a7 : Int32) : List Value := [.int 116, .int 0, .int 104, .int 0, .int 101, .int 0, .int 32, .int 0, .int a0, .int a1, .int a2, .int a3, .int 32, .int 0, .int 39, .int 0, .int a4, .int a5, .int a6, .int a7, .int 0, .int 0, .int 0, .int 0, .int 0, .int 0, .int 0, .int 0, .int 0, .int 0, .int 0, .int 0]
abbrev LL32 (a0 a1 a2 a3 a4 a5 a6 a7 : Int32) : List Value := [.int 116, .int 0, .int 104, .int 0, .int 101, .int 0, .int 32, .int 0, .int a0, .int a1, .int a2, .int a3, .int 32, .int 0, .int 39, .int 0, .int a4, .int a5, .int a6, .int a7, .int 39, .int 0, .int 32, .int 0, .int 105, .int 0, .int 115, .int 0, .int 32, .int 0, .int 97, .int 0, .int 108, .int 0, .int 114, .int 0, .int 101, .int 0, .int 97, .int 0, .int 100, .int 0, .int 121, .int 0, .int 32, .int 0, .int 116, .int 0, .int 97, .int 0, .int 107, .int 0, .int 101, .int 0, .int 110, .int 0]
abbrev LL33 : List Value := [.int 0, .int 0, .int 0, .int 0, .int 0, .int 0, .int 0, .int 0, .int 0, .int 0, .int 0, .int 0, .int 0, .int 0, .int 0, .int 0, .int 0, .int 0, .int 0, .int 0, .int 0, .int 0, .int 0, .int 0, .int 0, .int 0, .int 0, .int 0, .int 0, .int 0, .int 0, .int 0, .int 0, .int 0, .int 0, .int 0, .int 0, .int 0, .int 0, .int 0, .int 0, .int 0, .int 0, .int 0, .int 0, .int 0, .int 0, .int 0, .int 0, .int 0, .int 0, .int 0, .int 0, .int 0, .int 0, .int 0]
abbrev LL34 : List Int32 := [110, 97, 109, 101, 95, 116, 97, 107, 101, 110]
abbrev LL35 : List Value := [.int 0, .int 0, .int 0, .int 0, .int 0, .int 0, .int 0, .int 0]
abbrev LL36 (a0 a1 a2 a3 a4 a5 : Int32) : List Int32 := [116, 0, 104, 0, 101, 0, 32, 0, a0, 0, a1, 0, 32, 0, 39, 0, a2, a3, a4, a5, 39, 0, 32, 0, 105, 0, 115, 0, 32, 0, 97, 0, 108, 0, 114, 0, 101, 0, 97, 0, 100, 0, 121, 0, 32, 0, 116, 0, 97, 0, 107, 0, 101, 0, 110, 0]
abbrev LL37 (a0 a1 a2 a3 a4 a5 : Int32) : List Int32 := [116, 0, 104, 0, 101, 0, 32, 0, a0, a1, a2, a3, 32, 0, 39, 0, a4, 0, a5, 0, 39, 0, 32, 0, 105, 0, 115, 0, 32, 0, 97, 0, 108, 0, 114, 0, 101, 0, 97, 0, 100, 0, 121, 0, 32, 0, 116, 0, 97, 0, 107, 0, 101, 0, 110, 0]
abbrev LL38 (a0 a1 a2 a3 a4 a5 a6 a7 : Int32) : List Int32 := [116, 0, 104, 0, 101, 0, 32, 0, a0, a1, a2, a3, 32, 0, 39, 0, a4, a5, a6, a7, 39, 0, 32, 0, 105, 0, 115, 0, 32, 0, 97, 0, 108, 0, 114, 0, 101, 0, 97, 0, 100, 0, 121, 0, 32, 0, 116, 0, 97, 0, 107, 0, 101, 0, 110, 0]
abbrev LL39 : List Value := [.int 0, .int 0, .int 0, .int 0, .int 0, .int 0, .int 0, .int 0, .int 0, .int 0, .int 0, .int 0, .int 0, .int 0, .int 0, .int 0, .int 0, .int 0, .int 0, .int 0, .int 0, .int 0, .int 0, .int 0, .int 0, .int 0, .int 0, .int 0]
abbrev LL40 (a0 a1 a2 a3 a4 a5 a6 a7 a8 a9 a10 a11 a12 a13 a14 a15 a16 a17 a18 a19 : Int32) : List Value := [.int a0, .int a1, .int a2, .int a3, .int a4, .int a5, .int a6, .int a7, .int a8, .int a9, .int a10, .int a11, .int a12, .int a13, .int a14, .int a15, .int a16, .int a17, .int a18, .int a19]
abbrev LL41 : List Value := [.int 0, .int 0, .int 0, .int 0, .int 0, .int 0, .int 0, .int 0, .int 0, .int 0, .int 0, .int 0, .int 0, .int 0, .int 0, .int 0, .int 0, .int 0, .int 0, .int 0, .int 0, .int 0, .int 0, .int 0]
abbrev LL42 (a0 a1 a2 a3 : Int32) : List Value := [.int 116, .int 0, .int 104, .int 0, .int 101, .int 0, .int 32, .int 0, .int a0, .int a1, .int a2, .int a3]
abbrev LL43 (a0 a1 a2 a3 : Int32) : List Value := [.int 116, .int 0, .int 104, .int 0, .int 101, .int 0, .int 32, .int 0, .int a0, .int a1, .int a2, .int a3, .int 32, .int 0, .int 39, .int 0]
abbrev f0_ (Z : State) (h : Heap) (x : Addr) (v : Value) : Prop := Fld Z h x s1 s6 "B" v
abbrev f1_ (Z : State) (h : Heap) (x : Addr) (v : Value) : Prop := Fld Z h x s0 s6 "B" v
abbrev f2_ (Z : State) (h : Heap) (x : Addr) (v : Value) : Prop := Fld Z h x s1 s7 "[B" v
abbrev f3_ (Z : State) (h : Heap) (x : Addr) (v : Value) : Prop := Fld Z h x s0 s7 "[B" v
abbrev f4_ (Z : State) (h : Heap) (x : Addr) (v : Value) : Prop := Fld Z h x s0 "count" "I" v
abbrev f5_ (Z : State) (h : Heap) (x : Addr) (v : Value) : Prop := Fld Z h x s0 s8 "Z" v
abbrev f6_ (Z : State) (h : Heap) (x : Addr) (v : Value) : Prop := Fld Z h x s2 "code" s9 v
abbrev f7_ (Z : State) (h : Heap) (x : Addr) (v : Value) : Prop := Fld Z h x s4 "detailMessage" s9 v
abbrev f8_ (Z : State) (h : Heap) (x : Addr) (v : Value) : Prop := Fld Z h x s4 "cause" "Ljava/lang/Throwable;" v
abbrev f9_ (Z : State) (h : Heap) (x : Addr) (v : Value) : Prop := Fld Z h x s4 "suppressedExceptions" "Ljava/util/List;" v
variable {l : Launch} {Z : State} {a0 : Array Value} {h0 : Heap} {n0 : Nat} {β γ δ x0 x1 x2 x3 : Addr} {ζ η kk0 kk1 : ClassId} {ε : Value} {α p0 p1 p2 p3 p4 p5 p6 p7 p8 p9 p10 p11 p12 p13 p14 p15 p16 p17 p18 p19 p20 p21 p22 p23 p24 p25 p26 p27 p28 p29 p30 p31 p32 p33 p34 p35 p36 p37 p38 p39 p40 p41 p42 p43 p44 p45 p46 p47 p48 p49 p50 p51 p52 p53 p54 p55 : Int32} {ls0 : List Value}
section OwnThr
open Jvm.Lib.Cold Jvm.Free.Exc LibCode.Throwable
def own_rc : String := "com/example/rollcall/rollcall/core/RefusedException"
def own_exc : List Jvm.Cond := (excAtoms own_rc).erase (.lays tN tN "suppressedExceptions" listD)
theorem own_exc_in : ∀ w ∈ own_exc, w ∈ tables_1 := by decide +kernel
theorem own_exc_ok : own_exc.all xOk = true := by decide +kernel
theorem own_pars {d : String} {ps : List FieldType} {g : MethodDescriptor} (h : parseMethodDescriptor d = some g) (q : (parseMethodDescriptor d).map (·.parameters) = some ps) : g.parameters = ps := by
  rw [h] at q; simpa using q
/-- Throwable's own tables, as the laws of fillInStackTrace want them, out of the sheet's words -/
theorem own_L {args : Array Value} {s : State} {pl : Platform} (p1 : pl.frameOwnsMonitors = true) (p2 : pl.finalization = false) (p3 : pl.magicAccessors = ({} : Platform).magicAccessors) (W : ∀ d ∈ own_exc, d.before args s = true) :
    ∃ T : ThrowableC, T.Links pl s ∧ s.vm.findClass tN = some T.cT ∧ s.methodNamed? tFill = some T.fill ∧ s.methodNamed? tFill0 = some T.fill0 ∧ s.fieldFound? tN "stackTrace" steD = some (T.cT, T.kT, T.i17, T.fStack) ∧ T.fStack.type = .array (.object "java/lang/StackTraceElement") ∧ T.fStack.name = "stackTrace" ∧ s.fieldFound? tN "UNASSIGNED_STACK" steD = some (T.cT, T.kT, T.i13, T.fUnassigned) ∧ ∃ cell, s.heap[T.aS]? = some cell ∧ cell.vm.isStatics = true := by
  have w := fun d (hd : d ∈ own_exc) => (show d.holds args s none s [] = true from W d hd)
  obtain ⟨⟨c, iN⟩, mN, n1, n2, n3, n4, n5, n6⟩ := Cond.native_spec (w (.native tFill0) (by decide +kernel))
  have fc : s.vm.findClass tN = some c := findClass_of_methodNamed n1
  obtain ⟨k, hk, nm⟩ := Vm.findClass_spec fc
  obtain ⟨_, k1, _, _, u1, _, _, _, _, ni⟩ := Cond.superclass_spec fc (w (.superclass tN "java/lang/Object") (by decide +kernel))
  cases hk.symm.trans u1
  obtain ⟨jN, mN', a1, a2, a3, a4, a5, a6, a7⟩ := Cond.ownMethod (x := tFill0) fc hk (w (.instanceMethod tFill0) (by decide +kernel))
  cases n1.symm.trans a1
  cases n2.symm.trans a2
  obtain ⟨iF, mF, b1, b2, b3, b4, b5, -, -⟩ := Cond.ownMethod (x := tFill) fc hk (w (.instanceMethod tFill) (by decide +kernel))
  obtain ⟨mF', cF, c1, c2, c3, c4, c5, c6, -, c7⟩ := Cond.codeSync_spec b1 (w (.codeSync tFill Fill.code 1 (some (.object tN))) (by decide +kernel))
  cases b2.symm.trans c1
  obtain ⟨mo, mO, o1, o2, o3, o4⟩ := Cond.instanceMethod_spec (w (.instanceMethod oInit) (by decide +kernel))
  obtain ⟨mO', cO, q1, q2, q3, q4, -, q5, -, q6⟩ := Cond.code_spec o1 (w (.code oInit ⟨#[0xb1]⟩ 1 none) (by decide +kernel))
  cases o2.symm.trans q1
  obtain ⟨kO, r1, r2⟩ := Vm.findClass_spec (findClass_of_methodNamed o1)
  obtain ⟨r3, r4⟩ := name_of_methodNamed o1 o2
  obtain ⟨x1, y1, cf, l1, m1, f1, v1⟩ := Cond.linkedMethod fc hk o1 (w (.methodLink tN 1 oInit) (by decide +kernel)) pl p3
  obtain ⟨x2, y2, cf2, l2, m2, f2, v2⟩ := Cond.linkedMethod fc hk b1 (w (.methodLink tN 27 tFill) (by decide +kernel)) pl p3
  cases f1.symm.trans f2
  obtain ⟨x3, y3, cf3, l3, m3, f3, v3⟩ := Cond.linkedMethod fc hk n1 (w (.methodLink tN 202 tFill0) (by decide +kernel)) pl p3
  cases f1.symm.trans f3
  obtain ⟨x7, i7, g7, d71, d72, d73, d74, d75, -, -, -⟩ := Cond.ownField (t := .object tN) fc hk (by decide +kernel) (w (.fieldLink tN 7 tN "cause" thD) (by decide +kernel)) (w (.lays tN tN "cause" thD) (by decide +kernel)) pl p3
  obtain ⟨x17, i17, g17, s1, s2, s3, s4, s5, s6, s7, s8⟩ := Cond.ownField (t := .array (.object "java/lang/StackTraceElement")) fc hk (by decide +kernel) (w (.fieldLink tN 17 tN "stackTrace" steD) (by decide +kernel)) (w (.lays tN tN "stackTrace" steD) (by decide +kernel)) pl p3
  obtain ⟨x24, i24, g24, t1, t2, t3, t4, t5, t6, -, t8⟩ := Cond.ownField (C' := own_rc) (t := .object "java/util/List") fc hk (by decide +kernel) (w (.fieldLink tN 24 tN "suppressedExceptions" listD) (by decide +kernel)) (w (.lays own_rc tN "suppressedExceptions" listD) (by decide +kernel)) pl p3
  obtain ⟨x13, i13, g13, aS, cS, e1, e2, e3, e4, -, -, e5, e6, e7, -, -, e8⟩ := Cond.ownStatic (t := .array (.object "java/lang/StackTraceElement")) fc hk (by decide +kernel) (w (.fieldLink tN 13 tN "UNASSIGNED_STACK" steD) (by decide +kernel)) (w (.laysStatic tN "UNASSIGNED_STACK" steD) (by decide +kernel)) pl p3
  obtain ⟨x20, i20, g20, _, _, h1, h2, h3, h4, -⟩ := Cond.ownStatic (t := .object "java/util/List") fc hk (by decide +kernel) (w (.fieldLink tN 20 tN "SUPPRESSED_SENTINEL" listD) (by decide +kernel)) (w (.laysStatic tN "SUPPRESSED_SENTINEL" listD) (by decide +kernel)) pl p3
  obtain ⟨_, _, cM, kM, iM, gM, _, _, z1, z2, z3, _⟩ := Cond.lays_spec (w (.lays tN tN "detailMessage" msgD) (by decide +kernel))
  obtain ⟨cR, kR, _, _, _, _, j1, j2, _⟩ := Cond.lays_spec (w (.lays own_rc tN "detailMessage" msgD) (by decide +kernel))
  obtain ⟨-, dS, k1', k2⟩ := Cond.laysAt j1 j2 s8 (w (.lays own_rc tN "stackTrace" steD) (by decide +kernel))
  obtain ⟨-, dP, k3, k4⟩ := Cond.laysAt j1 j2 t8 (w (.lays own_rc tN "suppressedExceptions" listD) (by decide +kernel))
  have ap := Cond.laysApart k1' k3 k2 k4 (by rw [s6, t6]; decide)
  refine ⟨{ cT := c, kT := k, cO := c, aS := aS, fillIdx := iF, fill0Idx := iN, initSIdx := 0, obj := mo, kObj := kO, methFill := mF, methFill0 := mN, methInitS := mF, methObj := mO, codeFill := cF, codeInitS := cF, codeObj := cO, fBack := g7, fDepth := g7, fStack := g17, fCause := g7, fSupp := g24, fMsg := gM, fUnassigned := g13, fSentinel := g20, cfT := cf, ci1 := x1, n1 := y1, ci27 := x2, n27 := y2, ci202 := x3, n202 := y3, ci7 := x7, i7 := i7, ci13 := x13, i13 := i13, ci17 := x17, i17 := i17, ci20 := x20, i20 := i20, ci24 := x24, i24 := i24 }, ?_, fc, b1, n1, s8, s7, s6, e8, cS, e6, e7⟩
  constructor
  case owns => exact p1
  case noFinalization => exact p2
  case cls => exact hk
  case name => exact nm
  case boot => exact Vm.findClass_boot fc hk
  case notInterface => exact ni
  case initialized => exact Cond.initialized_spec fc hk (w (.initialized tN) (by decide +kernel))
  case fillParams => exact own_pars c7 (by decide +kernel)
  case fill0Params => exact own_pars n6 (by decide +kernel)
  case objFound => rw [r4]; exact lookupSpecial_of_named o1 o2 o3
  case objParams => rw [own_pars q6 (ps := []) (by decide +kernel)]; rfl
  case stackApartSupp => exact ap
  all_goals assumption
theorem own_fr3 {p : Program} {l : Launch} {e : Env} {R : Room} {s : State} {m : MethodId} {args : Array Value} {below : List Frame} {meth : Method} {c : Code} {T : State} {cells slots : Nat} {k : Nat} {a : Addr} {i j n : Nat} {locs : List Loc} (X : Stand p l e R s m args below meth c T (locs ++ [⟨a, i⟩, ⟨a, j⟩, ⟨a, n⟩]) cells slots) (N : Fr k locs) (q : k ≤ a) : Fr k (locs ++ [⟨a, i⟩, ⟨a, j⟩, ⟨a, n⟩]) := N.app fun y hy => by
  simp only [List.mem_cons, List.not_mem_nil, or_false] at hy
  rcases hy with rfl | rfl | rfl <;> exact q
theorem own_slot {Z s : State} (hZ : Z.Warmed39 s.vm) {C n d : String} {c : ClassId} {k : Class} {i : Nat} {f : Field} (h : s.fieldFound? C n d = some (c, k, i, f)) : ∃ c k i, Z.fieldFound? C n d = some (c, k, i, f) := Jvm.Free.BdW.found_ride (U := s) (U' := Z) hZ.alike.symm ⟨_, _, _, h⟩
theorem own_slotOf {Z s : State} (hZ : Z.Warmed39 s.vm) {C n d : String} {c : ClassId} {k : Class} {i : Nat} {f : Field} (h : s.fieldFound? C n d = some (c, k, i, f)) : Jvm.RoadKit.slotOf Z C n d = f.slot := by
  obtain ⟨c, k, i, q⟩ := own_slot hZ h
  simp [Jvm.RoadKit.slotOf, q]
theorem own_fldv {Z s : State} {h : Heap} (hZ : Z.Warmed39 s.vm) {C n d : String} {c : ClassId} {k : Class} {i : Nat} {f : Field} {a : Addr} {cell : Cell} {v : Value} (q : s.fieldFound? C n d = some (c, k, i, f)) (F : Fld Z h a C n d v) (hc : h[a]? = some cell) : cell.slots[f.slot]? = some v := by
  obtain ⟨c1, k1, i1, q1⟩ := own_slot hZ q
  obtain ⟨c2, cf, k2, i2, f2, g1, g2, -, -, -, -, g7⟩ := F
  cases hc.symm.trans g1
  cases q1.symm.trans g2
  exact g7
set_option maxHeartbeats 4000000 in
theorem Go.fill {p : Program} {l : Launch} {e : Env} {R : Room} {s : State} {m : MethodId} {args : Array Value} {below : List Frame} {meth : Method} {c : Code} {T : State} {locs : List Loc} {cells slots : Nat} {Z : State} {a0 : Array Value} {h : Heap} {F0 : State → Outcome → Prop} (X : Stand p l e R s m args below meth c T locs cells slots) (hx : p.tables.exec = Jvm.exec) (hZ : Z.Warmed39 s.vm) (hl : l.stackTraces = true) (hTK : s.vm.MethodsKnown) (hBelow : s.vm.FramesKnown below) (hw : HW a0 Z) (wi : (Jvm.Cond.instantiable own_rc 7).before a0 Z = true) (hown : s.vm.findClass tN = some m.cls) (hT0 : ThS Z s.heap) (eT : T.heap = h) {a u : Addr} (E : Exa Z h a own_rc) (N : Unt h a) (FS : Fld Z h a tN "stackTrace" steD (.ref u)) (SU : Sta Z h tN "UNASSIGNED_STACK" steD (.ref u)) (FB : Fld Z h a tN "backtrace" obD .null) {pc : Nat} (pc' : Nat) {Ls : Array Slot} {rest : List Value} (hp : pc' = pc + 3) (hsz : Ls.size = c.maxLocals) (hd : decode c.code pc = .ok (.invokevirtual 27, 3)) {W : Nat} (hW : (rest.map fun v => v.category).sum ≤ W) (hf : 3 ≤ R.frames) (hlo : W + 42 ≤ R.locals) (hc : cells + 1 ≤ R.cells) (hsl : slots + 2752 ≤ R.slots)
    (k : ∀ T' h1 h2 h3 h4 nH nn, T'.heap = h4 → Ext h h1 → Wr h1 h2 a (Jvm.RoadKit.slotOf Z tN "backtrace" obD) (.ref nH) → Wr h2 h3 a (Jvm.RoadKit.slotOf Z tN "depth" "I") (.int nn) → Wr h3 h4 a (Jvm.RoadKit.slotOf Z tN "stackTrace" steD) (.ref u) → Stand p l e R s m args below meth c T' (locs ++ [⟨a, Jvm.RoadKit.slotOf Z tN "backtrace" obD⟩, ⟨a, Jvm.RoadKit.slotOf Z tN "depth" "I"⟩, ⟨a, Jvm.RoadKit.slotOf Z tN "stackTrace" steD⟩]) (cells + 1) (slots + 2752) → Go p e below F0 (T'.setTop (mkF m pc' Ls (.ref a :: rest)))) : Go p e below F0 (T.setTop (mkF m pc Ls (.ref a :: rest))) := by
  have WW : ∀ d ∈ own_exc, d.before args s = true := fun d hd => mvX hT0 hZ (List.all_eq_true.mp own_exc_ok d hd) (hw d (own_exc_in d hd))
  have w := fun d (hd : d ∈ own_exc) => (show d.holds args s none s [] = true from WW d hd)
  have p3 : e.platform.magicAccessors = ({} : Platform).magicAccessors := by rw [X.admits.platform]
  obtain ⟨TT, L, fc, nf, nf0, ffS, tyS, nmS, ffU, -, -, -⟩ := own_L (pl := e.platform) (by rw [X.admits.platform]) (by rw [X.admits.platform]) p3 WW
  obtain ⟨cell, u1, u2, u3⟩ := id N
  obtain ⟨cE, kE, q1, q2, q3, -, q5⟩ := id E
  cases u1.symm.trans q1
  have fR : s.vm.findClass own_rc = some cell.cls := by rw [hZ.alike.findClass]; exact q2
  obtain ⟨kX, hkX, heX⟩ := hZ.alike.2.2 _ _ q3
  obtain ⟨c4, k4, i1, i2, i3, -⟩ := Cond.instantiable_spec wi
  cases q2.symm.trans i1
  cases q3.symm.trans i2
  have ord : kX.kind = .ordinary := by rw [heX]; exact i3
  have size : cell.slots.size = kX.instanceTypes.size := by rw [heX]; exact q5 i3
  have tk : ∀ {f : Field} {v : Value}, kX.instanceTypes[f.slot]? = some f.type → fits f.type v = true → Jvm.Takes s cell f v := fun h1 h2 => by
    obtain ⟨r1, r2⟩ := Takes.of_laid (s := s) hkX ord h1 h2
    exact ⟨by rw [size]; simpa using r1, by rw [u2]; exact r2⟩
  obtain ⟨x198, i198, gB, b1, b2, b3, b4, -, b5, b6, ffB⟩ := Cond.ownField (t := .object "java/lang/Object") fc L.cls (by decide +kernel) (w (.fieldLink tN 198 tN "backtrace" obD) (by decide +kernel)) (w (.lays tN tN "backtrace" obD) (by decide +kernel)) e.platform p3
  obtain ⟨_, _, cD, kD, iD, gD, -, -, ffD, d4, -⟩ := Cond.lays_spec (w (.lays own_rc tN "depth" "I") (by decide +kernel))
  cases Option.some.inj ((Cond.lays_declared (w (.lays own_rc tN "depth" "I") (by decide +kernel)) ffD).symm.trans fc)
  obtain ⟨hkD, atD⟩ := State.fieldFound?_spec ffD
  cases Option.some.inj (hkD.symm.trans L.cls)
  obtain ⟨nmD, tyD⟩ := State.fieldFound?_type ffD (t := .int) (by decide +kernel)
  obtain ⟨laS, -⟩ := Cond.laysAt fR hkX ffS (w (.lays own_rc tN "stackTrace" steD) (by decide +kernel))
  obtain ⟨laB, -⟩ := Cond.laysAt fR hkX ffB (w (.lays own_rc tN "backtrace" obD) (by decide +kernel))
  obtain ⟨laD, -⟩ := Cond.laysAt fR hkX ffD (w (.lays own_rc tN "depth" "I") (by decide +kernel))
  obtain ⟨comp, cO, kO, -, -, hkO, kindO, hO⟩ := Cond.arrayOver_spec (w (.arrayOver (.object "java/lang/Object")) (by decide +kernel))
  obtain ⟨cU, iU, kU, fU, stU, cellU, g1, -, -, g4, g5, g6, g7⟩ := id SU
  obtain ⟨kU', r1, r2⟩ := State.fieldFound?_setVm hZ.alike g1
  have r3 := (show s.fieldFound? tN "UNASSIGNED_STACK" steD = _ from r1).symm.trans ffU
  simp only [Option.some.injEq, Prod.mk.injEq] at r3
  obtain ⟨-, e2, -, e4⟩ := r3
  have est : stU = TT.aS := by
    have z1 : kU'.statics = some stU := by rw [r2]; exact g4
    rw [e2] at z1; exact Option.some.inj (z1.symm.trans L.statics)
  subst est
  rw [e4] at g7
  have hne : TT.aS ≠ a := fun z => by
    rw [z] at g5; cases u1.symm.trans g5; rw [u2] at g6; cases g6
  have hsel0 : selectMethod e.platform s.vm cell.cls TT.fill0 = .method TT.fill0 := by
    obtain ⟨c2, r2, m2, z1, z2, z3, z4, -⟩ := Cond.selects_spec (w (.selects own_rc tFill0 tFill0) (by decide +kernel))
    cases z1.symm.trans fR
    cases z2.symm.trans (State.methodFound?_of_named nf0 (by decide))
    cases z3.symm.trans nf0
    rw [Launch.admits_selectMethod X.admits]; exact z4
  have bk := Jvm.Free.Str.fillPays (l := l) (R := R) (below := below) (sargs := args) (len := 3) (W := W) hx (by rw [X.admits.platform]; exact hl) TT L nf (u0 := ⟨.ref u, rfl⟩) (fun z => by cases z) (self := a) (cell := cell) (cellS := cellU)
    (fun z q => by rw [u2] at q; cases q) (by rw [u2]; simp) (by rw [u3]) (by rw [u3]) (own_fldv hZ ffS FS u1) hsel0 hne (fun z => by rw [z] at g6; cases g6) g7 (tk laS (by rw [tyS]; rfl))
    ⟨⟨x198, i198, gB⟩, ⟨b1, b2, b3, b4⟩, own_fldv hZ ffB FB u1⟩ hTK hBelow fc hO hkO kindO (Cond.soleField_find fc L.cls (w (.soleField tN "backtrace") (by decide +kernel)) b3 b5 b4) (Cond.soleField_find fc L.cls (w (.soleField tN "depth") (by decide +kernel)) atD nmD d4)
    (fun z => tk laB (by rw [b6]; rfl)) (fun z => tk laD (by rw [tyD]; rfl)) hf hlo
  have wZ := fun d (hd : d ∈ own_exc) => hw d (own_exc_in d hd)
  refine Go.callVB (W := W) X hx hZ (own := tN) (index := 27) (x := tFill) (y := tFill) (C := own_rc) hown (wZ _ (by decide +kernel)) (wZ _ (by decide +kernel)) (notFace_of_selects (C := own_rc) (args := #[]) (mvT hZ (wZ (.selects own_rc tFill tFill) (by decide +kernel)))) (wZ _ (by decide +kernel)) (wZ _ (by decide +kernel)) (by decide) bk eT E pc' (argsL := []) (rest := rest) hp hsz (fun sig q => by have z := own_pars (ps := []) q (by decide +kernel); rw [z]; rfl) rfl hW hd (fun vm1 _ => ⟨rfl, hc, hsl, by show T.heap[a]? = _; rw [eT]; exact u1, by show T.heap[TT.aS]? = _; rw [eT]; exact g5⟩) ?_
  intro v vm1 T' locs' cells' slots' X' hP
  obtain ⟨rfl, vm2, lines, hlen, -, hU, h1, h2, h3⟩ := hP
  dsimp only [Pt.U, Pt.locs, Pt.cells, Pt.slots] at hU h1 h2 h3
  subst h1 h2 h3
  have sB := own_slotOf hZ ffB
  have sD := own_slotOf hZ ffD
  have sS := own_slotOf hZ ffS
  have lt : a < h.size := (Array.getElem?_eq_some_iff.mp u1).1
  have at1 : (h.push (traceHolder cO lines))[a]? = some cell := by rw [Array.getElem?_push_lt lt, ← Array.getElem?_eq_getElem lt]; exact u1
  have kB := (tk (v := .ref 0) laB (by rw [b6]; rfl)).1
  have kD := (tk (v := .int 0) laD (by rw [tyD]; rfl)).1
  have kS := (tk (v := .ref 0) laS (by rw [tyS]; rfl)).1
  have ns : cell.vm.isStatics = false := by rw [u2]; rfl
  have at2 : ∀ (g : Heap) (C D : Cell), g[a]? = some D → (g.setIfInBounds a C)[a]? = some C := fun g C D q => by
    rw [Array.getElem?_setIfInBounds_self_of_lt (Array.getElem?_eq_some_iff.mp q).1]
  refine k T' _ _ _ _ h.size lines.length.toInt32 ?_ ⟨by simp, fun x C q => ?_⟩ ⟨cell, at1, ns, by rw [sB]; exact kB, rfl⟩ ⟨_, at2 _ _ _ at1, ns, by rw [sD]; simpa [Cell.setSlot] using kD, rfl⟩ ⟨_, at2 _ _ _ (at2 _ _ _ at1), ns, by rw [sS]; simpa [Cell.setSlot] using kS, rfl⟩ ?_
  · have eS : (T.setVm vm1).heap.size = h.size := by show T.heap.size = h.size; rw [eT]
    rw [hU, sB, sD, sS, eS]
    show ((T.heap.push _).setIfInBounds a _) = _
    rw [eT, Array.setIfInBounds_setIfInBounds, Array.setIfInBounds_setIfInBounds]
  · rw [Array.getElem?_push_lt (Array.getElem?_eq_some_iff.mp q).1, ← Array.getElem?_eq_getElem]; exact q
  · rw [sB, sD, sS]; exact X'.more (Nat.le_refl _) (Nat.add_le_add_left (traceHolder_size_le cO hlen) _)
end OwnThr

theorem d1_0 : DD B1 0 (.aload_n 0, 1) := by decide +kernel
theorem d1_1 : DD B1 1 (.aload_n 1, 1) := by decide +kernel
theorem d1_2 : DD B1 2 (.iconst 0, 1) := by decide +kernel
theorem d1_3 : DD B1 3 (.aload_n 1, 1) := by decide +kernel
theorem d1_4 : DD B1 4 (.arraylength, 1) := by decide +kernel
theorem d1_5 : DD B1 5 (.aconst_null, 1) := by decide +kernel
theorem d2_0 : DD B2 0 (.aload_n 0, 1) := by decide +kernel
theorem d2_1 : DD B2 1 (.invokespecial 1, 3) := by decide +kernel
theorem d2_4 : DD B2 4 (.iload_n 3, 1) := by decide +kernel
theorem d2_5 : DD B2 5 (.ifCond .ne 22, 3) := by decide +kernel
theorem d2_27 : DD B2 27 (.getstatic 38, 3) := by decide +kernel
theorem d2_30 : DD B2 30 (.ifCond .eq 28, 3) := by decide +kernel
theorem d2_33 : DD B2 33 (.aload_n 1, 1) := by decide +kernel
theorem d2_34 : DD B2 34 (.iload_n 2, 1) := by decide +kernel
theorem d2_35 : DD B2 35 (.iload_n 3, 1) := by decide +kernel
theorem d4_0 : DD B4 0 (.iload_n 2, 1) := by decide +kernel
theorem d4_1 : DD B4 1 (.newarray .byte, 2) := by decide +kernel
theorem d4_3 : DD B4 3 (.astore_n 3, 1) := by decide +kernel
theorem d4_4 : DD B4 4 (.aload_n 0, 1) := by decide +kernel
theorem d4_5 : DD B4 5 (.iload_n 1, 1) := by decide +kernel
theorem d4_6 : DD B4 6 (.aload_n 3, 1) := by decide +kernel
theorem d4_7 : DD B4 7 (.iconst 0, 1) := by decide +kernel
theorem d4_8 : DD B4 8 (.iload_n 2, 1) := by decide +kernel
theorem ef_5_RIRII (m : MethodId) (x0 : Addr) (x1 : Int32) (x2 : Addr) (x3 : Int32) (x4 : Int32) : entryFrame m #[(.ref x0), (.int x1), (.ref x2), (.int x3), (.int x4)] 7 = mkF m 0 #[.val (.ref x0), .val (.int x1), .val (.ref x2), .val (.int x3), .val (.int x4), .unset, .unset] [] := by first | (simp [entryFrame, mkF, argsToLocals, Value.category]; done) | rfl
theorem pn_c0 : plainName "java/lang/StringUTF16" = true := by first | (simp [plainName, overriddenIn]; done) | decide +kernel
theorem d5_0 : DD B5 0 (.iconst 0, 1) := by decide +kernel
theorem d5_1 : DD B5 1 (.istore 5, 2) := by decide +kernel
theorem d5_3 : DD B5 3 (.iload 5, 2) := by decide +kernel
theorem d5_5 : DD B5 5 (.iload 4, 2) := by decide +kernel
theorem d5_7 : DD B5 7 (.if_icmp .ge 37, 3) := by decide +kernel
theorem d5_44 : DD B5 44 (.iload 4, 2) := by decide +kernel
theorem d5_46 : DD B5 46 (.ireturn, 1) := by decide +kernel
theorem d5_10 : DD B5 10 (.aload_n 0, 1) := by decide +kernel
theorem d5_11 : DD B5 11 (.iload_n 1, 1) := by decide +kernel
theorem d5_12 : DD B5 12 (.caload, 1) := by decide +kernel
theorem d5_13 : DD B5 13 (.istore 6, 2) := by decide +kernel
theorem d5_15 : DD B5 15 (.iload 6, 2) := by decide +kernel
theorem d5_17 : DD B5 17 (.sipush 255, 3) := by decide +kernel
theorem d5_20 : DD B5 20 (.if_icmp .le 6, 3) := by decide +kernel
theorem d5_23 : DD B5 23 (.iload 5, 2) := by decide +kernel
theorem d5_25 : DD B5 25 (.ireturn, 1) := by decide +kernel
theorem d5_26 : DD B5 26 (.aload_n 2, 1) := by decide +kernel
theorem d5_27 : DD B5 27 (.iload_n 3, 1) := by decide +kernel
theorem d5_28 : DD B5 28 (.iload 6, 2) := by decide +kernel
theorem d5_30 : DD B5 30 (.i2b, 1) := by decide +kernel
theorem d5_31 : DD B5 31 (.bastore, 1) := by decide +kernel
theorem d5_32 : DD B5 32 (.iinc 1 1, 3) := by decide +kernel
theorem d5_35 : DD B5 35 (.iinc 3 1, 3) := by decide +kernel
theorem d5_38 : DD B5 38 (.iinc 5 1, 3) := by decide +kernel
theorem d5_41 : DD B5 41 (.goto (-38), 3) := by decide +kernel
theorem gl_cc (l : Launch) (Z : State) (a0 : Array Value) (hw : HW a0 Z) (x0 x1 : Addr) (k0 k1 : ClassId) (z : Int32) (cs : List Int32) (h0 : Heap) (n0 : Nat) (P0 : Arv Z h0 x0 k0 .char z (cs.map Value.int) (.int 0)) (P1 : Arv Z h0 x1 k1 .byte z (List.replicate cs.length (.int 0)) (.int 0)) (ha : z.toInt = cs.length) (ge : n0 ≤ x1) (ne : x0 ≠ x1) :
    Ctr l Z (⟨"java/lang/StringUTF16", "compress", "([CI[BII)I"⟩ : MethodName) B5 7 (some .int) ({ frames := 0, cells := 0, slots := 0, locals := 0 } : Room) #[(.ref x0), (.int 0), (.ref x1), (.int 0), (.int z)] h0 (fun v h L => Fr n0 L ∧ Keep h0 h [x1] ∧ ((own_ltA cs ∧ v = some (.int z) ∧ Arv Z h x1 k1 .byte z (cs.map own_vb) (.int 0)) ∨ (¬ own_ltA cs ∧ ∃ nd : Int32, own_at cs nd ∧ ¬ nd = z ∧ v = some (.int nd)))) := by
  refine Ctr.of (plainFor_of_name pn_c0) ?_
  intro p e s m below meth c T0 hx hZ hby hml hown hnm hret hlk e0 es X0
  refine Go.cast (ef_5_RIRII m x0 (0 : Int32) x1 (0 : Int32) z) ?_
  generalize hFF : EndN s _ _ _ = FF
  have hN := own_ltN ha
  refine Go.iconst X0 hx (pc' := 1) rfl (hb hby d5_0) (v := (0 : Int32)) rfl ?_
  refine Go.istore X0 hx (pc' := 3) rfl (hb hby d5_1) (Ls' := #[.val (.ref x0), .val (.int (Int32.ofNat 0)), .val (.ref x1), .val (.int (Int32.ofNat 0)), .val (.int z), .val (.int (Int32.ofNat 0)), .unset]) rfl ?_
  have loop : ∀ (k i : Nat) (T : State) (h : Heap) (L : List Loc) (sl : Slot), i + k = cs.length → (∀ j, j < i → ¬ (255 : Int32) < cs.getD j 0) → (sl = .unset ∨ ∃ q : Int32, sl = .val (.int q)) → T.heap = h → Stand p l e ({ frames := 0, cells := 0, slots := 0, locals := 0 } : Room) s m #[(.ref x0), (.int 0), (.ref x1), (.int 0), (.int z)] below meth c T L 0 0 → Fr n0 L → Keep h0 h [x1] → Arv Z h x0 k0 .char z (cs.map Value.int) (.int 0) → Arv Z h x1 k1 .byte z (((cs.take i).map own_vb) ++ List.replicate k (.int 0)) (.int 0) → Go p e below FF (T.setTop (mkF m 3 #[.val (.ref x0), .val (.int (Int32.ofNat i)), .val (.ref x1), .val (.int (Int32.ofNat i)), .val (.int z), .val (.int (Int32.ofNat i)), sl] [])) := by
    intro k
    induction k with
    | zero =>
      intro i T h L sl hi hbl hs eT X N K Q0 Q1
      have ht : cs.take i = cs := List.take_of_length_le (by omega)
      rw [ht, List.replicate_zero, List.append_nil] at Q1
      refine Go.iload X hx (pc' := 5) rfl (hb hby d5_3) rfl ?_
      refine Go.iload X hx (pc' := 7) rfl (hb hby d5_5) rfl ?_
      refine Go.icmpYes X hx (pc' := 44) (hb hby d5_7) (flt (own_ofNge (by omega) (by omega))).2.1 (by decide) (by decide) ?_
      refine Go.iload X hx (pc' := 46) rfl (hb hby d5_44) rfl ?_
      subst hFF
      refine Go.retI X hx hlk hret (hb hby d5_46) (by decide) (by decide) ?_
      rw [eT]
      exact ⟨N, K, Or.inl ⟨own_ltA_of (fun j hj => hbl j (by omega)), rfl, Q1⟩⟩
    | succ k ih =>
      intro i T h L sl hi hbl hs eT X N K Q0 Q1
      have hj : ¬ Int32.ofNat i < 0 ∧ Int32.ofNat i < z := ⟨own_ofN0 (by omega), own_ofNlt (by omega) (by omega)⟩
      have hc := own_ofNc (i := i) (by omega)
      have hlt : (cs.take i).length = i := by rw [List.length_take]; omega
      refine Go.iload X hx (pc' := 5) rfl (hb hby d5_3) rfl ?_
      refine Go.iload X hx (pc' := 7) rfl (hb hby d5_5) rfl ?_
      refine Go.icmpNo X hx (pc' := 10) rfl (hb hby d5_7) (tlt hj.2).2.1 ?_
      refine Go.aloadN X hx (pc' := 11) rfl (hb hby d5_10) rfl rfl ?_
      refine Go.iloadN X hx (pc' := 12) rfl (hb hby d5_11) rfl ?_
      refine Go.caload X hx hZ eT Q0 (v := (.int (cs.getD i 0))) hj (by rw [hc]; exact own_getDI' _ _ _) (pc' := 13) rfl (hb hby d5_12) ?_
      refine Go.istore X hx (pc' := 15) rfl (hb hby d5_13) (Ls' := #[.val (.ref x0), .val (.int (Int32.ofNat i)), .val (.ref x1), .val (.int (Int32.ofNat i)), .val (.int z), .val (.int (Int32.ofNat i)), (.val (.int (cs.getD i 0)))]) (by rcases hs with rfl | ⟨q, rfl⟩ <;> rfl) ?_
      refine Go.iload X hx (pc' := 17) rfl (hb hby d5_15) rfl ?_
      refine Go.sipush X hx (pc' := 20) rfl (hb hby d5_17) (v := (255 : Int32)) (by decide) ?_
      by_cases hq : (255 : Int32) < cs.getD i 0
      · skip
        refine Go.icmpNo X hx (pc' := 23) rfl (hb hby d5_20) (tlt hq).2.2.2 ?_
        refine Go.iload X hx (pc' := 25) rfl (hb hby d5_23) rfl ?_
        subst hFF
        refine Go.retI X hx hlk hret (hb hby d5_25) (by decide) (by decide) ?_
        rw [eT]
        exact ⟨N, K, Or.inr ⟨fun q => q _ (own_getD_mem (by omega)) hq, _, ⟨i, by omega, rfl, hq⟩, fun q => by have q2 := congrArg Int32.toInt q; rw [own_ofN (by omega), ha] at q2; omega, rfl⟩⟩
      refine Go.icmpYes X hx (pc' := 26) (hb hby d5_20) (flt hq).2.2.2 (by decide) (by decide) ?_
      refine Go.aloadN X hx (pc' := 27) rfl (hb hby d5_26) rfl rfl ?_
      refine Go.iloadN X hx (pc' := 28) rfl (hb hby d5_27) rfl ?_
      refine Go.iload X hx (pc' := 30) rfl (hb hby d5_28) rfl ?_
      refine Go.i2b X hx (pc' := 31) rfl (hb hby d5_30) ?_
      have hb8 : nar .byte (cs.getD i 0).toInt8.toInt32 = (cs.getD i 0).toInt8.toInt32 := own_nar_byte (own_ri2b rfl) (by decide) (by decide)
      refine Go.bastore X hx hZ eT Q1 ((cs.getD i 0).toInt8.toInt32) hb8 hj i hc (by simp only [List.length_append, List.length_map, List.length_replicate]; omega) (pc' := 32) rfl (hb hby d5_31) ?_
      intro T' h' e' W V X'
      have V' : Arv Z h' x1 k1 .byte z (((cs.take (i + 1)).map own_vb) ++ List.replicate k (.int 0)) (.int 0) := by
        have q := own_setR ((cs.take i).map own_vb) k (.int (cs.getD i 0).toInt8.toInt32) (.int 0)
        rw [List.length_map, hlt] at q
        rw [q] at V
        have t1 : cs.take (i + 1) = cs.take i ++ [cs.getD i 0] := by
          rw [List.take_succ, List.getElem?_eq_getElem (by omega), List.getD_eq_getElem?_getD, List.getElem?_eq_getElem (by omega)]; rfl
        rw [t1, List.map_append]; exact V
      refine Go.iinc X' hx (pc' := 35) rfl (hb hby d5_32) rfl (y := Int32.ofNat (i + 1)) (own_ofNs i) (Ls' := #[.val (.ref x0), .val (.int (Int32.ofNat (i + 1))), .val (.ref x1), .val (.int (Int32.ofNat i)), .val (.int z), .val (.int (Int32.ofNat i)), (.val (.int (cs.getD i 0)))]) rfl ?_
      refine Go.iinc X' hx (pc' := 38) rfl (hb hby d5_35) rfl (y := Int32.ofNat (i + 1)) (own_ofNs i) (Ls' := #[.val (.ref x0), .val (.int (Int32.ofNat (i + 1))), .val (.ref x1), .val (.int (Int32.ofNat (i + 1))), .val (.int z), .val (.int (Int32.ofNat i)), (.val (.int (cs.getD i 0)))]) rfl ?_
      refine Go.iinc X' hx (pc' := 41) rfl (hb hby d5_38) rfl (y := Int32.ofNat (i + 1)) (own_ofNs i) (Ls' := #[.val (.ref x0), .val (.int (Int32.ofNat (i + 1))), .val (.ref x1), .val (.int (Int32.ofNat (i + 1))), .val (.int z), .val (.int (Int32.ofNat (i + 1))), (.val (.int (cs.getD i 0)))]) rfl ?_
      refine Go.goto X' hx (pc' := 3) (hb hby d5_41) (by decide) (by decide) ?_
      exact ih (i + 1) T' h' _ _ (by omega) (fun j hj' => by rcases Nat.lt_or_eq_of_le (Nat.le_of_lt_succ hj') with q | q; exact hbl j q; subst q; exact hq) (Or.inr ⟨_, rfl⟩) e' X' (Fr.snoc X' N ge) (K.wr W (Or.inl (List.mem_of_getElem? (i := 0) rfl))) (Q0.other W ne) V'
  exact loop cs.length 0 T0 h0 [] _ (by omega) (fun j hj => absurd hj (Nat.not_lt_zero j)) (Or.inl rfl) e0 X0 (Fr.nil n0) (Keep.refl h0 [x1]) P0 (by simpa using P1)
theorem pd_0 : parseMethodDescriptor "([CI[BII)I" = some ⟨[(.array .char), .int, (.array .byte), .int, .int], some .int⟩ := by decide +kernel
theorem d4_9 : DD B4 9 (.invokestatic 115, 3) := by decide +kernel
theorem d4_12 : DD B4 12 (.istore 4, 2) := by decide +kernel
theorem d4_14 : DD B4 14 (.iload 4, 2) := by decide +kernel
theorem d4_16 : DD B4 16 (.iload_n 2, 1) := by decide +kernel
theorem d4_17 : DD B4 17 (.if_icmp .eq 40, 3) := by decide +kernel
theorem d4_57 : DD B4 57 (.aload_n 3, 1) := by decide +kernel
theorem d4_58 : DD B4 58 (.areturn, 1) := by decide +kernel
theorem d4_20 : DD B4 20 (.aload_n 0, 1) := by decide +kernel
theorem d4_21 : DD B4 21 (.iload_n 1, 1) := by decide +kernel
theorem d4_22 : DD B4 22 (.iload_n 2, 1) := by decide +kernel
theorem d42_0 : DD B42 0 (.iload_n 2, 1) := by decide +kernel
theorem d43_0 : DD B43 0 (.iload_n 0, 1) := by decide +kernel
theorem d44_0 : DD B44 0 (.iload_n 0, 1) := by decide +kernel
theorem d44_1 : DD B44 1 (.ifCond .ge 11, 3) := by decide +kernel
theorem d44_12 : DD B44 12 (.iload_n 0, 1) := by decide +kernel
theorem d44_13 : DD B44 13 (.ldc 20, 2) := by decide +kernel
theorem d44_15 : DD B44 15 (.if_icmp .lt 40, 3) := by decide +kernel
theorem d44_55 : DD B44 55 (.iload_n 0, 1) := by decide +kernel
theorem d44_56 : DD B44 56 (.iconst 1, 1) := by decide +kernel
theorem d44_57 : DD B44 57 (.ishl, 1) := by decide +kernel
theorem d44_58 : DD B44 58 (.ireturn, 1) := by decide +kernel
theorem ef_44_I (m : MethodId) (x0 : Int32) : entryFrame m #[(.int x0)] 1 = mkF m 0 #[.val (.int x0)] [] := by first | (simp [entryFrame, mkF, argsToLocals, Value.category]; done) | rfl
theorem au_6 (hw : HW a0 Z)  (Z0 : n0 ≤ h0.size) :
    Ctr l Z ⟨s5, "newBytesLength", "(I)I"⟩ B44 1 (some .int) (rM 0 0 0 0) #[.int 2] h0 (fun v h L => v = some (.int 4) ∧ Fr n0 L ∧ h = h0) := by
 refine Ctr.of (plainFor_of_name pn_c0) fun p e s m below meth c T0 hx hZ hby hml hown hnm hret hlk e0 es X0 => Go.cast (ef_44_I m (2 : Int32)) ?_
 generalize hFF : EndN s _ _ _ = FF
 refine iN X0 hx 1 rfl hby d44_0 rfl ?_
 refine Go.ifYes X0 hx 12 (hb hby d44_1) (by decide) (by decide) (by decide) ?_
 refine iN X0 hx 13 rfl hby d44_12 rfl ?_
 refine Go.ldcI X0 hx hZ hown (tw_254 hw) 15 rfl (hb hby d44_13) ?_
 refine Go.icmpYes X0 hx 55 (hb hby d44_15) (by decide) (by decide) (by decide) ?_
 refine iN X0 hx 56 rfl hby d44_55 rfl ?_
 refine Go.iconst X0 hx 57 rfl (hb hby d44_56) (v := (1 : Int32)) rfl ?_
 refine Go.ishl X0 hx 58 rfl (hb hby d44_57) ?_
 rw [show ((2 : Int32) <<< ((1 : Int32) &&& 31)) = (4 : Int32) from by decide]
 subst hFF
 refine Go.retI X0 hx hlk hret (hb hby d44_58) (by decide) (by decide) ?_
 rw [e0]
 exact ⟨rfl, (Fr.nil n0), rfl⟩
theorem pd_1 : parseMethodDescriptor "(I)I" = some ⟨[.int], some .int⟩ := by decide +kernel
theorem d43_1 : DD B43 1 (.invokestatic 11, 3) := by decide +kernel
theorem d43_4 : DD B43 4 (.newarray .byte, 2) := by decide +kernel
theorem d43_6 : DD B43 6 (.areturn, 1) := by decide +kernel
theorem ef_43_I (m : MethodId) (x0 : Int32) : entryFrame m #[(.int x0)] 1 = mkF m 0 #[.val (.int x0)] [] := by first | (simp [entryFrame, mkF, argsToLocals, Value.category]; done) | rfl
theorem au_5 (hw : HW a0 Z)  (Z0 : n0 ≤ h0.size) :
    Ctr l Z ⟨s5, "newBytesFor", "(I)[B"⟩ B43 1 (some (.array .byte)) (rM 1 1 4 12) #[.int 2] h0 (fun v h L => ∃ (y0 : Addr) (y1 : ClassId), v = some (.ref y0) ∧ Fr n0 L ∧ Keep h0 h [] ∧ h0.size ≤ y0 ∧ Arv Z h y0 y1 .byte (4 : Int32) [.int 0, .int 0, .int 0, .int 0] (.int 0) ∧ Exa Z h y0 "[B") := by
 refine Ctr.of (plainFor_of_name pn_c0) fun p e s m below meth c T0 hx hZ hby hml hown hnm hret hlk e0 es X0 => Go.cast (ef_43_I m (2 : Int32)) ?_
 generalize hFF : EndN s _ _ _ = FF
 refine iN X0 hx 1 rfl hby d43_0 rfl ?_
 refine Go.callS X0 hx hZ hown (tw_251 hw) (tw_252 hw) (tw_17 hw) (tw_253 hw) (by decide) (tw_253 hw) (tw_17 hw) (au_6 hw Z0) e0 (argsL := [.int 2]) (rest := []) 4 rfl (hml ▸ rfl) (lenOf pd_1 rfl) rfl rfl (W := 0) (nE rfl) (by decide) (hb hby d43_1) ?_
 intro v1 T1 L1 q1 X1
 obtain ⟨rfl, N1, e1⟩ := q1
 show Go _ _ _ _ (T1.setTop (mkF m 4 #[vI 2] [.int 4]))
 refine Go.newarray X1 hx hZ (ty := .byte) rfl (tw_19 hw) e1 (by decide) (cap := 4) (by decide) (by decide) (by decide) (by decide) (ad := "[B") (by decide) 4 6 rfl (hb hby d43_4) ?_
 intro T2 h2 b2 k2 e2 E2 g2 V2 A2 X2
 have V2' : Arv Z h2 b2 k2 .byte (4 : Int32) [.int 0, .int 0, .int 0, .int 0] (.int 0) := V2
 subst hFF
 refine Go.retR X2 hx hlk (t := (.array .byte)) hret rfl rfl (hb hby d43_6) (by decide) (by decide) ?_
 rw [e2]
 exact ⟨b2, k2, rfl, (Fr.app (Fr.nil n0) N1), ((Keep.refl h0 []).ext E2), (Nat.le_trans (Keep.refl h0 []).1 (Nat.le_of_eq g2.symm)), V2', A2⟩
theorem pd_2 : parseMethodDescriptor "(I)[B" = some ⟨[.int], some (.array .byte)⟩ := by decide +kernel
theorem d42_1 : DD B42 1 (.invokestatic 107, 3) := by decide +kernel
theorem d42_4 : DD B42 4 (.astore_n 3, 1) := by decide +kernel
theorem d42_5 : DD B42 5 (.iconst 0, 1) := by decide +kernel
theorem d42_6 : DD B42 6 (.istore 4, 2) := by decide +kernel
theorem ef_45_RII (m : MethodId) (x0 : Addr) (x1 : Int32) (x2 : Int32) : entryFrame m #[(.ref x0), (.int x1), (.int x2)] 3 = mkF m 0 #[.val (.ref x0), .val (.int x1), .val (.int x2)] [] := by first | (simp [entryFrame, mkF, argsToLocals, Value.category]; done) | rfl
theorem d45_0 : DD B45 0 (.getstatic 44, 3) := by decide +kernel
theorem d45_3 : DD B45 3 (.ifCond .ne 25, 3) := by decide +kernel
theorem d45_28 : DD B45 28 (.iload_n 1, 1) := by decide +kernel
theorem d45_29 : DD B45 29 (.iconst 1, 1) := by decide +kernel
theorem d45_30 : DD B45 30 (.ishl, 1) := by decide +kernel
theorem d45_31 : DD B45 31 (.istore_n 1, 1) := by decide +kernel
theorem d45_32 : DD B45 32 (.aload_n 0, 1) := by decide +kernel
theorem d45_33 : DD B45 33 (.iload_n 1, 1) := by decide +kernel
theorem d45_34 : DD B45 34 (.iinc 1 1, 3) := by decide +kernel
theorem d45_37 : DD B45 37 (.iload_n 2, 1) := by decide +kernel
theorem d45_38 : DD B45 38 (.getstatic 59, 3) := by decide +kernel
theorem d45_41 : DD B45 41 (.ishr, 1) := by decide +kernel
theorem d45_42 : DD B45 42 (.i2b, 1) := by decide +kernel
theorem d45_43 : DD B45 43 (.bastore, 1) := by decide +kernel
theorem d45_44 : DD B45 44 (.aload_n 0, 1) := by decide +kernel
theorem d45_45 : DD B45 45 (.iload_n 1, 1) := by decide +kernel
theorem d45_46 : DD B45 46 (.iload_n 2, 1) := by decide +kernel
theorem d45_47 : DD B45 47 (.getstatic 63, 3) := by decide +kernel
theorem d45_50 : DD B45 50 (.ishr, 1) := by decide +kernel
theorem d45_51 : DD B45 51 (.i2b, 1) := by decide +kernel
theorem d45_52 : DD B45 52 (.bastore, 1) := by decide +kernel
theorem d45_53 : DD B45 53 (.return_, 1) := by decide +kernel
theorem gl_pc (l : Launch) (Z : State) (a0 : Array Value) (hw : HW a0 Z) (x0 : Addr) (k0 : ClassId) (z : Int32) (ls : List Value) (j : Nat) (cc : Int32) (h0 : Heap) (n0 : Nat) (O0 : Old Z n0 h0) (S1 : Sta Z Z.heap "java/lang/StringUTF16" "$assertionsDisabled" "Z" (.int 1)) (S2 : Sta Z Z.heap "java/lang/StringUTF16" "HI_BYTE_SHIFT" "I" (.int 0)) (S3 : Sta Z Z.heap "java/lang/StringUTF16" "LO_BYTE_SHIFT" "I" (.int 8)) (P0 : Arv Z h0 x0 k0 .byte z ls (.int 0)) (hz : z.toInt = ls.length) (hj : 2 * j + 1 < ls.length) (ge : n0 ≤ x0) :
    Ctr l Z (⟨"java/lang/StringUTF16", "putChar", "([BII)V"⟩ : MethodName) B45 3 none ({ frames := 0, cells := 0, slots := 0, locals := 0 } : Room) #[(.ref x0), (.int (Int32.ofNat j)), (.int cc)] h0 (fun v h L => v = none ∧ Fr n0 L ∧ Keep h0 h [x0] ∧ Arv Z h x0 k0 .byte z ((ls.set (2 * j) (.int cc.toInt8.toInt32)).set (2 * j + 1) (.int (own_hi cc))) (.int 0)) := by
  refine Ctr.of (plainFor_of_name pn_c0) ?_
  intro p e s m below meth c T0 hx hZ hby hml hown hnm hret hlk e0 es X0
  refine Go.cast (ef_45_RII m x0 (Int32.ofNat j) cc) ?_
  generalize hFF : EndN s _ _ _ = FF
  have hN := own_ltN hz
  refine Go.getS X0 hx hZ hown (host := "") (Or.inl (tw_258 hw)) Via.refl e0 (S1.ext O0.2) (pc' := 3) rfl (hb hby d45_0) ?_
  intro T1 e1 X1
  refine Go.ifYes X1 hx (pc' := 28) (hb hby d45_3) (by decide) (by decide) (by decide) ?_
  refine Go.iloadN X1 hx (pc' := 29) rfl (hb hby d45_28) rfl ?_
  refine Go.iconst X1 hx (pc' := 30) rfl (hb hby d45_29) (v := (1 : Int32)) rfl ?_
  refine Go.ishl X1 hx (pc' := 31) rfl (hb hby d45_30) ?_
  rw [own_shl1 (by omega)]
  refine Go.istoreN X1 hx (pc' := 32) rfl (hb hby d45_31) (Ls' := #[.val (.ref x0), .val (.int (Int32.ofNat (2 * j))), .val (.int cc)]) rfl ?_
  refine Go.aloadN X1 hx (pc' := 33) rfl (hb hby d45_32) rfl rfl ?_
  refine Go.iloadN X1 hx (pc' := 34) rfl (hb hby d45_33) rfl ?_
  refine Go.iinc X1 hx (pc' := 37) rfl (hb hby d45_34) rfl (y := Int32.ofNat (2 * j + 1)) (own_ofNs (2 * j)) (Ls' := #[.val (.ref x0), .val (.int (Int32.ofNat (2 * j + 1))), .val (.int cc)]) rfl ?_
  refine Go.iloadN X1 hx (pc' := 38) rfl (hb hby d45_37) rfl ?_
  refine Go.getS X1 hx hZ hown (host := "") (Or.inl (tw_259 hw)) Via.refl e1 (S2.ext O0.2) (pc' := 41) rfl (hb hby d45_38) ?_
  intro T2 e2 X2
  refine Go.ishr X2 hx (pc' := 42) rfl (hb hby d45_41) ?_
  rw [own_shr0 cc]
  refine Go.i2b X2 hx (pc' := 43) rfl (hb hby d45_42) ?_
  have hj1 : ¬ Int32.ofNat (2 * j) < 0 ∧ Int32.ofNat (2 * j) < z := ⟨own_ofN0 (by omega), own_ofNlt (by omega) (by omega)⟩
  have hj2 : ¬ Int32.ofNat (2 * j + 1) < 0 ∧ Int32.ofNat (2 * j + 1) < z := ⟨own_ofN0 (by omega), own_ofNlt (by omega) (by omega)⟩
  have b1 : nar .byte cc.toInt8.toInt32 = cc.toInt8.toInt32 := own_nar_byte (own_ri2b rfl) (by decide) (by decide)
  have b2 : nar .byte (own_hi cc) = own_hi cc := own_nar_byte (own_rhi rfl) (by decide) (by decide)
  refine Go.bastore X2 hx hZ e2 P0 (cc.toInt8.toInt32) b1 hj1 (2 * j) (own_ofNc (by omega)) (by omega) (pc' := 44) rfl (hb hby d45_43) ?_
  intro T3 h3 e3 W3 V3 X3
  refine Go.aloadN X3 hx (pc' := 45) rfl (hb hby d45_44) rfl rfl ?_
  refine Go.iloadN X3 hx (pc' := 46) rfl (hb hby d45_45) rfl ?_
  refine Go.iloadN X3 hx (pc' := 47) rfl (hb hby d45_46) rfl ?_
  refine Go.getS X3 hx hZ hown (host := "") (Or.inl (tw_260 hw)) Via.refl e3 (S3.ext (O0.wr W3 ge).2) (pc' := 50) rfl (hb hby d45_47) ?_
  intro T4 e4 X4
  refine Go.ishr X4 hx (pc' := 51) rfl (hb hby d45_50) ?_
  refine Go.i2b X4 hx (pc' := 52) rfl (hb hby d45_51) ?_
  refine Go.bastore X4 hx hZ e4 V3 (own_hi cc) b2 hj2 (2 * j + 1) (own_ofNc (by omega)) (by rw [List.length_set]; omega) (pc' := 53) rfl (hb hby d45_52) ?_
  intro T5 h5 e5 W5 V5 X5
  subst hFF
  refine Go.ret0 X5 hx hlk hret (hb hby d45_53) (by decide) (by decide) ?_
  rw [e5]
  exact ⟨rfl, Fr.snoc X5 (Fr.snoc X3 (Fr.nil n0) ge) ge, ((Keep.refl h0 [x0]).wr W3 (Or.inl (List.mem_of_getElem? (i := 0) rfl))).wr W5 (Or.inl (List.mem_of_getElem? (i := 0) rfl)), V5⟩
theorem d42_8 : DD B42 8 (.iload 4, 2) := by decide +kernel
theorem d42_10 : DD B42 10 (.iload_n 2, 1) := by decide +kernel
theorem d42_11 : DD B42 11 (.if_icmp .ge 21, 3) := by decide +kernel
theorem d42_14 : DD B42 14 (.aload_n 3, 1) := by decide +kernel
theorem d42_15 : DD B42 15 (.iload 4, 2) := by decide +kernel
theorem d42_17 : DD B42 17 (.aload_n 0, 1) := by decide +kernel
theorem d42_18 : DD B42 18 (.iload_n 1, 1) := by decide +kernel
theorem d42_19 : DD B42 19 (.caload, 1) := by decide +kernel
theorem pd_3 : parseMethodDescriptor "([BII)V" = some ⟨[(.array .byte), .int, .int], none⟩ := by decide +kernel
theorem d42_20 : DD B42 20 (.invokestatic 111, 3) := by decide +kernel
theorem d42_23 : DD B42 23 (.iinc 1 1, 3) := by decide +kernel
theorem d42_26 : DD B42 26 (.iinc 4 1, 3) := by decide +kernel
theorem d42_29 : DD B42 29 (.goto (-21), 3) := by decide +kernel
set_option maxRecDepth 65536 in
set_option maxHeartbeats 4000000 in
theorem lp_tb {p : Program} {l : Launch} {e : Env} {R : Room} {s : State} {m : MethodId} {args : Array Value} {below : List Frame} {meth : Method} {c : Code} {T : State} {locs : List Loc} {cells slots : Nat} {Z : State} {a0 : Array Value} {h : Heap} {F0 : State → Outcome → Prop} (hw : HW a0 Z) (X : Stand p l e R s m args below meth c T locs cells slots) (hx : p.tables.exec = Jvm.exec) (hZ : Z.Warmed39 s.vm) (hby : c.code = B42) (hml : c.maxLocals = 5) (hown : s.vm.findClass "java/lang/StringUTF16" = some m.cls) (eT : T.heap = h) {n0 : Nat} (O : Old Z n0 h) (N : Fr n0 locs) (S1 : Sta Z Z.heap "java/lang/StringUTF16" "$assertionsDisabled" "Z" (.int 1)) (S2 : Sta Z Z.heap "java/lang/StringUTF16" "HI_BYTE_SHIFT" "I" (.int 0)) (S3 : Sta Z Z.heap "java/lang/StringUTF16" "LO_BYTE_SHIFT" "I" (.int 8)) (hf : 0 + 1 ≤ R.frames) (hl : 0 + (3 + 11) + 0 ≤ R.locals) (hc : cells ≤ R.cells) (hs : slots ≤ R.slots) {x0 x3 : Addr} {k0 k3 : ClassId} {z zz : Int32} {cs : List Int32} (P0 : Arv Z h x0 k0 .char z (cs.map Value.int) (.int 0)) {m0 : List Value} (P3 : Arv Z h x3 k3 .byte zz m0 (.int 0)) (ha : z.toInt = cs.length) (hzz : zz.toInt = m0.length) (hm : m0.length = 2 * cs.length) (ge : n0 ≤ x3) (ne : x0 ≠ x3)
    (k : ∀ T' h' L', T'.heap = h' → Stand p l e R s m args below meth c T' L' cells slots → Fr n0 L' → Keep h h' [x3] → Arv Z h' x3 k3 .byte zz (own_u16 cs) (.int 0) → Go p e below F0 (T'.setTop (mkF m 32 #[.val (.ref x0), .val (.int z), .val (.int z), .val (.ref x3), .val (.int z)] []))) : Go p e below F0 (T.setTop (mkF m 8 #[.val (.ref x0), .val (.int 0), .val (.int z), .val (.ref x3), .val (.int 0)] [])) := by
  have hN := own_ltN hzz
  have loop : ∀ (r i : Nat) (T1 : State) (h1 : Heap) (L1 : List Loc) (mid : List Value), i + r = cs.length → mid.length = 2 * r → T1.heap = h1 → Stand p l e R s m args below meth c T1 L1 cells slots → Fr n0 L1 → Keep h h1 [x3] → Old Z n0 h1 → Arv Z h1 x0 k0 .char z (cs.map Value.int) (.int 0) → Arv Z h1 x3 k3 .byte zz (own_u16 (cs.take i) ++ mid) (.int 0) → Go p e below F0 (T1.setTop (mkF m 8 #[.val (.ref x0), .val (.int (Int32.ofNat i)), .val (.int z), .val (.ref x3), .val (.int (Int32.ofNat i))] [])) := by
    intro r
    induction r with
    | zero =>
      intro i T1 h1 L1 mid hi hmid eY Y N1 K1 O1 Q0 Q3
      obtain rfl : mid = [] := List.eq_nil_of_length_eq_zero (by omega)
      rw [List.take_of_length_le (by omega), List.append_nil] at Q3
      have ez : Int32.ofNat i = z := Int32.toInt_inj.mp (by rw [own_ofN (by omega), ha]; omega)
      refine Go.iload Y hx (pc' := 10) rfl (hb hby d42_8) rfl ?_
      refine Go.iloadN Y hx (pc' := 11) rfl (hb hby d42_10) rfl ?_
      refine Go.icmpYes Y hx (pc' := 32) (hb hby d42_11) (flt (own_ofNge (by omega) (by omega))).2.1 (by decide) (by decide) ?_
      rw [ez]
      exact k T1 h1 L1 eY Y N1 K1 Q3
    | succ r ih =>
      intro i T1 h1 L1 mid hi hmid eY Y N1 K1 O1 Q0 Q3
      obtain ⟨u, v, mid', rfl⟩ : ∃ u v mid', mid = u :: v :: mid' := by
        rcases mid with _ | ⟨u, _ | ⟨v, mid'⟩⟩
        · exact absurd hmid (by simp only [List.length_nil]; omega)
        · exact absurd hmid (by simp only [List.length_cons, List.length_nil]; omega)
        · exact ⟨u, v, mid', rfl⟩
      have hm' : mid'.length = 2 * r := by simp only [List.length_cons] at hmid; omega
      have hA := own_u16_tlen cs (i := i) (by omega)
      have hj : ¬ Int32.ofNat i < 0 ∧ Int32.ofNat i < z := ⟨own_ofN0 (by omega), own_ofNlt (by omega) (by omega)⟩
      have hlen : (own_u16 (cs.take i) ++ u :: v :: mid').length = 2 * cs.length := by simp only [List.length_append, List.length_cons, hA]; omega
      refine Go.iload Y hx (pc' := 10) rfl (hb hby d42_8) rfl ?_
      refine Go.iloadN Y hx (pc' := 11) rfl (hb hby d42_10) rfl ?_
      refine Go.icmpNo Y hx (pc' := 14) rfl (hb hby d42_11) (tlt hj.2).2.1 ?_
      refine Go.aloadN Y hx (pc' := 15) rfl (hb hby d42_14) rfl rfl ?_
      refine Go.iload Y hx (pc' := 17) rfl (hb hby d42_15) rfl ?_
      refine Go.aloadN Y hx (pc' := 18) rfl (hb hby d42_17) rfl rfl ?_
      refine Go.iloadN Y hx (pc' := 19) rfl (hb hby d42_18) rfl ?_
      refine Go.caload Y hx hZ eY Q0 (v := (.int (cs.getD i 0))) hj (by rw [own_ofNc (by omega)]; exact own_getDI' _ _ _) (pc' := 20) rfl (hb hby d42_19) ?_
      refine Go.callS Y hx hZ hown (tw_255 hw) (tw_256 hw) (tw_17 hw) (tw_257 hw) (by decide) (tw_257 hw) (tw_17 hw) (gl_pc l Z a0 hw x3 k3 zz (own_u16 (cs.take i) ++ u :: v :: mid') i (cs.getD i 0) h1 n0 O1 S1 S2 S3 Q3 (by rw [hlen]; omega) (by rw [hlen]; omega) ge) eY (argsL := [(.ref x3), (.int (Int32.ofNat i)), (.int (cs.getD i 0))]) (rest := []) (pc' := 23) rfl (by rw [hml]; rfl) (lenOf pd_3 rfl) rfl rfl (W := 0) (Nat.le_of_eq rfl) ⟨hf, hl, hc, hs⟩ (hb hby d42_20) ?_
      intro w2 T2 L2 q2 X2
      obtain ⟨rfl, N2, K2, V2⟩ := q2
      rw [own_set2 _ _ _ _ _ _ hA.symm, ← own_u16_snoc cs i (by omega)] at V2
      have Y2 : Stand p l e R s m args below meth c T2 (L1 ++ L2) cells slots := X2
      show Go p e below F0 (T2.setTop (mkF m 23 #[.val (.ref x0), .val (.int (Int32.ofNat i)), .val (.int z), .val (.ref x3), .val (.int (Int32.ofNat i))] []))
      refine Go.iinc Y2 hx (pc' := 26) rfl (hb hby d42_23) rfl (y := Int32.ofNat (i + 1)) (own_ofNs i) (Ls' := #[.val (.ref x0), .val (.int (Int32.ofNat (i + 1))), .val (.int z), .val (.ref x3), .val (.int (Int32.ofNat i))]) rfl ?_
      refine Go.iinc Y2 hx (pc' := 29) rfl (hb hby d42_26) rfl (y := Int32.ofNat (i + 1)) (own_ofNs i) (Ls' := #[.val (.ref x0), .val (.int (Int32.ofNat (i + 1))), .val (.int z), .val (.ref x3), .val (.int (Int32.ofNat (i + 1)))]) rfl ?_
      refine Go.goto Y2 hx (pc' := 8) (hb hby d42_29) (by decide) (by decide) ?_
      exact ih (i + 1) T2 T2.heap (L1 ++ L2) mid' (by omega) hm' rfl Y2 (Fr.app N1 N2) (K1.trans K2 (allS (Or.inl (List.mem_of_getElem? (i := 0) rfl)) all0)) (O1.keep K2 (allS ge all0)) (Q0.keep K2 (ninS ne nin0)) V2
  exact loop cs.length 0 T h locs m0 (by omega) hm eT X N (Keep.refl h [x3]) O P0 P3
theorem d42_32 : DD B42 32 (.aload_n 3, 1) := by decide +kernel
theorem d42_33 : DD B42 33 (.areturn, 1) := by decide +kernel
theorem ef_42_RII (m : MethodId) (x0 : Addr) (x1 : Int32) (x2 : Int32) : entryFrame m #[(.ref x0), (.int x1), (.int x2)] 5 = mkF m 0 #[.val (.ref x0), .val (.int x1), .val (.int x2), .unset, .unset] [] := by first | (simp [entryFrame, mkF, argsToLocals, Value.category]; done) | rfl
theorem au_4 (hw : HW a0 Z)   (O0 : Old Z n0 h0) (G : Glob Z α β γ δ ε ζ η) (P0 : Arv Z h0 x0 kk0 .char (2 : Int32) [.int p0, .int p1] (.int 0)) :
    Ctr l Z ⟨s5, "toBytes", "([CII)[B"⟩ B42 5 (some (.array .byte)) (rM 2 1 4 24) #[.ref x0, .int 0, .int 2] h0 (fun v h L => ∃ (y0 : Addr) (y1 : ClassId), v = some (.ref y0) ∧ Fr n0 L ∧ Keep h0 h [] ∧ h0.size ≤ y0 ∧ Arv Z h y0 y1 .byte (4 : Int32) (own_u16 [p0, p1]) (.int 0) ∧ Exa Z h y0 "[B") := by
 refine Ctr.of (plainFor_of_name pn_c0) ?_
 intro p e s m below meth c T0 hx hZ hby hml hown hnm hret hlk e0 es X0
 have G' := G
 obtain ⟨-, -, -, -, -, -, G6, G7, G8, -, -, -, -, -⟩ := G'
 refine Go.cast (ef_42_RII m x0 (0 : Int32) (2 : Int32)) ?_
 generalize hFF : EndN s _ _ _ = FF
 refine iN X0 hx 1 rfl hby d42_0 rfl ?_
 refine Go.callS X0 hx hZ hown (tw_248 hw) (tw_249 hw) (tw_17 hw) (tw_250 hw) (by decide) (tw_250 hw) (tw_17 hw) (au_5 hw O0.z) e0 (argsL := [.int 2]) (rest := []) 4 rfl (hml ▸ rfl) (lenOf pd_2 rfl) rfl rfl (W := 0) (nE rfl) (by decide) (hb hby d42_1) ?_
 intro v1 T1 L1 q1 X1
 obtain ⟨h1, e1⟩ := hpz T1
 rw [e1] at q1
 obtain ⟨b1_0, k1_0, rfl, N1, K1, s1_0, F1_0, F1_1⟩ := q1
 show Go _ _ _ _ (T1.setTop (mkF m 4 #[vR x0, vI 0, vI 2, uS, uS] [.ref b1_0]))
 refine Go.astoreN X1 hx 5 rfl (hb hby d42_4) (Ls' := #[vR x0, vI 0, vI 2, vR b1_0, uS]) rfl rfl ?_
 refine Go.iconst X1 hx 6 rfl (hb hby d42_5) (v := (0 : Int32)) rfl ?_
 refine Go.istore X1 hx 8 rfl (hb hby d42_6) (Ls' := #[vR x0, vI 0, vI 2, vR b1_0, vI 0]) rfl ?_
 have sz5 := Nat.le_trans (Keep.refl h0 []).1 s1_0
 refine lp_tb hw X1 hx hZ hby hml hown e1 (O0.keep K1 all0) (Fr.app (Fr.nil n0) N1) G6 G7 G8 (by decide) (by decide) (by decide) (by decide) (cs := [p0, p1]) (P0.keep K1 nin0) (m0 := [.int 0, .int 0, .int 0, .int 0]) F1_0 rfl rfl rfl (Nat.le_trans O0.z sz5) (Nat.ne_of_lt (Nat.lt_of_lt_of_le P0.lt s1_0)) ?_
 intro T7 h7 L7 e7 X7 N7 K7 V7
 show Go _ _ _ _ (T7.setTop (mkF m 32 #[vR x0, vI 2, vI 2, vR b1_0, vI 2] []))
 refine aN X7 hx 33 rfl hby d42_32 rfl rfl ?_
 subst hFF
 refine Go.retR X7 hx hlk (t := (.array .byte)) hret rfl rfl (hb hby d42_33) (by decide) (by decide) ?_
 rw [e7]
 exact ⟨b1_0, k1_0, rfl, N7, (((Keep.refl h0 []).trans K1 all0).trans K7 (allS (Or.inr sz5) all0)), sz5, V7, (F1_1.keep K7)⟩
theorem pd_4 : parseMethodDescriptor "([CII)[B" = some ⟨[(.array .char), .int, .int], some (.array .byte)⟩ := by decide +kernel
theorem d4_23 : DD B4 23 (.invokestatic 119, 3) := by decide +kernel
theorem d4_26 : DD B4 26 (.astore 5, 2) := by decide +kernel
theorem d4_28 : DD B4 28 (.aload 5, 2) := by decide +kernel
theorem d4_30 : DD B4 30 (.iload 4, 2) := by decide +kernel
theorem ef_46_RI (m : MethodId) (x0 : Addr) (x1 : Int32) : entryFrame m #[(.ref x0), (.int x1)] 2 = mkF m 0 #[.val (.ref x0), .val (.int x1)] [] := by first | (simp [entryFrame, mkF, argsToLocals, Value.category]; done) | rfl
theorem d46_0 : DD B46 0 (.getstatic 44, 3) := by decide +kernel
theorem d46_3 : DD B46 3 (.ifCond .ne 25, 3) := by decide +kernel
theorem d46_28 : DD B46 28 (.iload_n 1, 1) := by decide +kernel
theorem d46_29 : DD B46 29 (.iconst 1, 1) := by decide +kernel
theorem d46_30 : DD B46 30 (.ishl, 1) := by decide +kernel
theorem d46_31 : DD B46 31 (.istore_n 1, 1) := by decide +kernel
theorem d46_32 : DD B46 32 (.aload_n 0, 1) := by decide +kernel
theorem d46_33 : DD B46 33 (.iload_n 1, 1) := by decide +kernel
theorem d46_34 : DD B46 34 (.iinc 1 1, 3) := by decide +kernel
theorem d46_37 : DD B46 37 (.baload, 1) := by decide +kernel
theorem d46_38 : DD B46 38 (.sipush 255, 3) := by decide +kernel
theorem d46_41 : DD B46 41 (.iand, 1) := by decide +kernel
theorem d46_42 : DD B46 42 (.getstatic 59, 3) := by decide +kernel
theorem d46_45 : DD B46 45 (.ishl, 1) := by decide +kernel
theorem d46_46 : DD B46 46 (.aload_n 0, 1) := by decide +kernel
theorem d46_47 : DD B46 47 (.iload_n 1, 1) := by decide +kernel
theorem d46_48 : DD B46 48 (.baload, 1) := by decide +kernel
theorem d46_49 : DD B46 49 (.sipush 255, 3) := by decide +kernel
theorem d46_52 : DD B46 52 (.iand, 1) := by decide +kernel
theorem d46_53 : DD B46 53 (.getstatic 63, 3) := by decide +kernel
theorem d46_56 : DD B46 56 (.ishl, 1) := by decide +kernel
theorem d46_57 : DD B46 57 (.ior, 1) := by decide +kernel
theorem d46_58 : DD B46 58 (.i2c, 1) := by decide +kernel
theorem d46_59 : DD B46 59 (.ireturn, 1) := by decide +kernel
theorem gl_gc (l : Launch) (Z : State) (a0 : Array Value) (hw : HW a0 Z) (x0 : Addr) (k0 : ClassId) (z nd : Int32) (cs : List Int32) (h0 : Heap) (n0 : Nat) (O0 : Old Z n0 h0) (S1 : Sta Z Z.heap "java/lang/StringUTF16" "$assertionsDisabled" "Z" (.int 1)) (S2 : Sta Z Z.heap "java/lang/StringUTF16" "HI_BYTE_SHIFT" "I" (.int 0)) (S3 : Sta Z Z.heap "java/lang/StringUTF16" "LO_BYTE_SHIFT" "I" (.int 8)) (P0 : Arv Z h0 x0 k0 .byte z (own_u16 cs) (.int 0)) (hz : z.toInt = (own_u16 cs).length) (hr : ∀ c ∈ cs, 0 ≤ c.toInt ∧ c.toInt ≤ 65535) (ha : own_at cs nd) :
    Ctr l Z (⟨"java/lang/StringUTF16", "getChar", "([BI)C"⟩ : MethodName) B46 2 (some .char) ({ frames := 0, cells := 0, slots := 0, locals := 0 } : Room) #[(.ref x0), (.int nd)] h0 (fun v h L => ∃ ch : Int32, (255 : Int32) < ch ∧ v = some (.int ch) ∧ L = [] ∧ h = h0) := by
  refine Ctr.of (plainFor_of_name pn_c0) ?_
  intro p e s m below meth c T0 hx hZ hby hml hown hnm hret hlk e0 es X0
  refine Go.cast (ef_46_RI m x0 nd) ?_
  generalize hFF : EndN s _ _ _ = FF
  obtain ⟨j, hj, rfl, hgt⟩ := ha
  have hN := own_ltN hz
  have hl := own_u16_len cs
  have r := hr _ (own_getD_mem hj)
  have g := own_u16_get cs j hj
  refine Go.getS X0 hx hZ hown (host := "") (Or.inl (tw_258 hw)) Via.refl e0 (S1.ext O0.2) (pc' := 3) rfl (hb hby d46_0) ?_
  intro T1 e1 X1
  refine Go.ifYes X1 hx (pc' := 28) (hb hby d46_3) (by decide) (by decide) (by decide) ?_
  refine Go.iloadN X1 hx (pc' := 29) rfl (hb hby d46_28) rfl ?_
  refine Go.iconst X1 hx (pc' := 30) rfl (hb hby d46_29) (v := (1 : Int32)) rfl ?_
  refine Go.ishl X1 hx (pc' := 31) rfl (hb hby d46_30) ?_
  rw [own_shl1 (by omega)]
  refine Go.istoreN X1 hx (pc' := 32) rfl (hb hby d46_31) (Ls' := #[.val (.ref x0), .val (.int (Int32.ofNat (2 * j)))]) rfl ?_
  refine Go.aloadN X1 hx (pc' := 33) rfl (hb hby d46_32) rfl rfl ?_
  refine Go.iloadN X1 hx (pc' := 34) rfl (hb hby d46_33) rfl ?_
  refine Go.iinc X1 hx (pc' := 37) rfl (hb hby d46_34) rfl (y := Int32.ofNat (2 * j + 1)) (own_ofNs (2 * j)) (Ls' := #[.val (.ref x0), .val (.int (Int32.ofNat (2 * j + 1)))]) rfl ?_
  have hj1 : ¬ Int32.ofNat (2 * j) < 0 ∧ Int32.ofNat (2 * j) < z := ⟨own_ofN0 (by omega), own_ofNlt (by omega) (by omega)⟩
  have hj2 : ¬ Int32.ofNat (2 * j + 1) < 0 ∧ Int32.ofNat (2 * j + 1) < z := ⟨own_ofN0 (by omega), own_ofNlt (by omega) (by omega)⟩
  refine Go.baload X1 hx hZ e1 P0 (v := (.int (cs.getD j 0).toInt8.toInt32)) hj1 (by rw [own_ofNc (by omega)]; exact g.1) (pc' := 38) rfl (hb hby d46_37) ?_
  refine Go.sipush X1 hx (pc' := 41) rfl (hb hby d46_38) (v := (255 : Int32)) (by decide) ?_
  refine Go.iand X1 hx (pc' := 42) rfl (hb hby d46_41) ?_
  refine Go.getS X1 hx hZ hown (host := "") (Or.inl (tw_259 hw)) Via.refl e1 (S2.ext O0.2) (pc' := 45) rfl (hb hby d46_42) ?_
  intro T2 e2 X2
  refine Go.ishl X2 hx (pc' := 46) rfl (hb hby d46_45) ?_
  refine Go.aloadN X2 hx (pc' := 47) rfl (hb hby d46_46) rfl rfl ?_
  refine Go.iloadN X2 hx (pc' := 48) rfl (hb hby d46_47) rfl ?_
  refine Go.baload X2 hx hZ e2 P0 (v := (.int (own_hi (cs.getD j 0)))) hj2 (by rw [own_ofNc (by omega)]; exact g.2) (pc' := 49) rfl (hb hby d46_48) ?_
  refine Go.sipush X2 hx (pc' := 52) rfl (hb hby d46_49) (v := (255 : Int32)) (by decide) ?_
  refine Go.iand X2 hx (pc' := 53) rfl (hb hby d46_52) ?_
  refine Go.getS X2 hx hZ hown (host := "") (Or.inl (tw_260 hw)) Via.refl e2 (S3.ext O0.2) (pc' := 56) rfl (hb hby d46_53) ?_
  intro T3 e3 X3
  refine Go.ishl X3 hx (pc' := 57) rfl (hb hby d46_56) ?_
  refine Go.ior X3 hx (pc' := 58) rfl (hb hby d46_57) ?_
  refine Go.i2c X3 hx (pc' := 59) rfl (hb hby d46_58) ?_
  rw [own_chr r]
  subst hFF
  refine Go.retN X3 hx hlk (t := .char) hret (by simp) (hb hby d46_59) (by decide) (by decide) ?_
  rw [e3, own_nar_char r (by decide) (by decide)]
  exact ⟨_, hgt, rfl, rfl, rfl⟩
theorem pd_5 : parseMethodDescriptor "([BI)C" = some ⟨[(.array .byte), .int], some .char⟩ := by decide +kernel
theorem d4_32 : DD B4 32 (.invokestatic 71, 3) := by decide +kernel
theorem d4_35 : DD B4 35 (.sipush 255, 3) := by decide +kernel
theorem d4_38 : DD B4 38 (.if_icmp .gt 16, 3) := by decide +kernel
theorem d4_54 : DD B4 54 (.aload 5, 2) := by decide +kernel
theorem d4_56 : DD B4 56 (.areturn, 1) := by decide +kernel
theorem ef_4_RII (m : MethodId) (x0 : Addr) (x1 : Int32) (x2 : Int32) : entryFrame m #[(.ref x0), (.int x1), (.int x2)] 6 = mkF m 0 #[.val (.ref x0), .val (.int x1), .val (.int x2), .unset, .unset, .unset] [] := by first | (simp [entryFrame, mkF, argsToLocals, Value.category]; done) | rfl
theorem au_3 (hw : HW a0 Z)   (O0 : Old Z n0 h0) (G : Glob Z α β γ δ ε ζ η) (P0 : Arv Z h0 x0 kk0 .char (2 : Int32) [.int p0, .int p1] (.int 0)) (R_p0 : 0 ≤ p0.toInt ∧ p0.toInt ≤ 65535) (R_p1 : 0 ≤ p1.toInt ∧ p1.toInt ≤ 65535) :
    Ctr l Z ⟨s5, "compress", "([CII)[B"⟩ B4 6 (some (.array .byte)) (rM 3 2 6 40) #[.ref x0, .int 0, .int 2] h0 (fun v h L => (∃ (y0 : Addr) (y1 : ClassId), own_ltA [p0, p1] ∧ v = some (.ref y0) ∧ Fr n0 L ∧ Keep h0 h [] ∧ h0.size ≤ y0 ∧ Arv Z h y0 y1 .byte (2 : Int32) ([p0, p1].map own_vb) (.int 0) ∧ Exa Z h y0 "[B") ∨ (∃ (y0 : Addr) (y1 : ClassId), ¬ (own_ltA [p0, p1]) ∧ v = some (.ref y0) ∧ Fr n0 L ∧ Keep h0 h [] ∧ h0.size ≤ y0 ∧ Arv Z h y0 y1 .byte (4 : Int32) (own_u16 [p0, p1]) (.int 0) ∧ Exa Z h y0 "[B")) := by
 refine Ctr.of (plainFor_of_name pn_c0) ?_
 intro p e s m below meth c T0 hx hZ hby hml hown hnm hret hlk e0 es X0
 have G' := G
 obtain ⟨-, -, -, -, -, -, G6, G7, G8, -, -, -, -, -⟩ := G'
 refine Go.cast (ef_4_RII m x0 (0 : Int32) (2 : Int32)) ?_
 generalize hFF : EndN s _ _ _ = FF
 refine iN X0 hx 1 rfl hby d4_0 rfl ?_
 refine Go.newarray X0 hx hZ (ty := .byte) rfl (tw_19 hw) e0 (by decide) (cap := 2) (by decide) (by decide) (by decide) (by decide) (ad := "[B") (by decide) 2 3 rfl (hb hby d4_1) ?_
 intro T1 h1 b1 k1 e1 E1 g1 V1 A1 X1
 have V1' : Arv Z h1 b1 k1 .byte (2 : Int32) [.int 0, .int 0] (.int 0) := V1
 refine Go.astoreN X1 hx 4 rfl (hb hby d4_3) (Ls' := #[vR x0, vI 0, vI 2, vR b1, uS, uS]) rfl rfl ?_
 refine aN X1 hx 5 rfl hby d4_4 rfl rfl ?_
 refine iN X1 hx 6 rfl hby d4_5 rfl ?_
 refine aN X1 hx 7 rfl hby d4_6 rfl rfl ?_
 refine Go.iconst X1 hx 8 rfl (hb hby d4_7) (v := (0 : Int32)) rfl ?_
 refine iN X1 hx 9 rfl hby d4_8 rfl ?_
 have fk2 := (P0.ext E1)
 have sz4 := Nat.le_trans (Keep.refl h0 []).1 (Nat.le_of_eq g1.symm)
 have ge3 := Nat.le_trans O0.z sz4
 have ne5 := Nat.ne_of_lt (Nat.lt_of_lt_of_le P0.lt (Nat.le_of_eq g1.symm))
 refine Go.callS X1 hx hZ hown (tw_20 hw) (tw_21 hw) (tw_17 hw) (tw_22 hw) (by decide) (tw_22 hw) (tw_17 hw) (gl_cc l Z a0 hw x0 b1 kk0 k1 (2 : Int32) [p0, p1] h1 n0 fk2 V1' rfl ge3 ne5) e1 (argsL := [.ref x0, .int 0, .ref b1, .int 0, .int 2]) (rest := []) 12 rfl (hml ▸ rfl) (lenOf pd_0 rfl) rfl rfl (W := 0) (nE rfl) (by decide) (hb hby d4_9) ?_
 intro v6 T6 L6 q6 X6
 obtain ⟨h6, e6⟩ := hpz T6
 rw [e6] at q6
 obtain ⟨N6, K6, D6⟩ := q6
 rcases D6 with ⟨a6, rfl, V6⟩ | ⟨a6, nd6, t6, u6, rfl⟩
 have r7 : 0 ≤ p0.toInt ∧ p0.toInt ≤ 255 := own_ltA_r a6 (mG 0 rfl) R_p0 (by decide)
 have r8 : 0 ≤ p1.toInt ∧ p1.toInt ≤ 255 := own_ltA_r a6 (mG 1 rfl) R_p1 (by decide)
 show Go _ _ _ _ (T6.setTop (mkF m 12 #[vR x0, vI 0, vI 2, vR b1, uS, uS] [.int 2]))
 refine Go.istore X6 hx 14 rfl (hb hby d4_12) (Ls' := #[vR x0, vI 0, vI 2, vR b1, vI 2, uS]) rfl ?_
 refine Go.iload X6 hx 16 rfl (hb hby d4_14) rfl ?_
 refine iN X6 hx 17 rfl hby d4_16 rfl ?_
 refine Go.icmpYes X6 hx 57 (hb hby d4_17) (by decide) (by decide) (by decide) ?_
 refine aN X6 hx 58 rfl hby d4_57 rfl rfl ?_
 subst hFF
 refine Go.retR X6 hx hlk (t := (.array .byte)) hret rfl rfl (hb hby d4_58) (by decide) (by decide) ?_
 rw [e6]
 exact Or.inl ⟨b1, k1, a6, rfl, (Fr.app (Fr.nil n0) N6), (((Keep.refl h0 []).ext E1).trans K6 (allS (Or.inr sz4) all0)), sz4, V6, (A1.keep K6)⟩
 show Go _ _ _ _ (T6.setTop (mkF m 12 #[vR x0, vI 0, vI 2, vR b1, uS, uS] [.int nd6]))
 refine Go.istore X6 hx 14 rfl (hb hby d4_12) (Ls' := #[vR x0, vI 0, vI 2, vR b1, vI nd6, uS]) rfl ?_
 refine Go.iload X6 hx 16 rfl (hb hby d4_14) rfl ?_
 refine iN X6 hx 17 rfl hby d4_16 rfl ?_
 refine Go.icmpNo X6 hx 20 rfl (hb hby d4_17) (feq u6).1 ?_
 refine aN X6 hx 21 rfl hby d4_20 rfl rfl ?_
 refine iN X6 hx 22 rfl hby d4_21 rfl ?_
 refine iN X6 hx 23 rfl hby d4_22 rfl ?_
 have O13 := ((O0.ext E1).keep K6 (allS ge3 all0))
 refine Go.callS X6 hx hZ hown (tw_245 hw) (tw_246 hw) (tw_17 hw) (tw_247 hw) (by decide) (tw_247 hw) (tw_17 hw) (au_4 hw O13 G (fk2.keep K6 (ninS ne5 nin0))) e6 (argsL := [.ref x0, .int 0, .int 2]) (rest := []) 26 rfl (hml ▸ rfl) (lenOf pd_4 rfl) rfl rfl (W := 0) (nE rfl) (by decide) (hb hby d4_23) ?_
 intro v15 T15 L15 q15 X15
 obtain ⟨h15, e15⟩ := hpz T15
 rw [e15] at q15
 obtain ⟨b15_0, k15_0, rfl, N15, K15, s15_0, F15_0, F15_1⟩ := q15
 show Go _ _ _ _ (T15.setTop (mkF m 26 #[vR x0, vI 0, vI 2, vR b1, vI nd6, uS] [.ref b15_0]))
 refine Go.astore X15 hx 28 rfl (hb hby d4_26) (Ls' := #[vR x0, vI 0, vI 2, vR b1, vI nd6, vR b15_0]) rfl rfl ?_
 refine Go.aload X15 hx 30 rfl (hb hby d4_28) rfl rfl ?_
 refine Go.iload X15 hx 32 rfl (hb hby d4_30) rfl ?_
 refine Go.callS X15 hx hZ hown (tw_261 hw) (tw_262 hw) (tw_17 hw) (tw_263 hw) (by decide) (tw_263 hw) (tw_17 hw) (gl_gc l Z a0 hw b15_0 k15_0 (4 : Int32) nd6 [p0, p1] h15 n0 (O13.keep K15 all0) G6 G7 G8 F15_0 (by rw [own_u16_len]; rfl) (own_wc R_p0 (by decide) (by decide) (own_wc R_p1 (by decide) (by decide) own_w0)) t6) e15 (argsL := [.ref b15_0, .int nd6]) (rest := []) 35 rfl (hml ▸ rfl) (lenOf pd_5 rfl) rfl rfl (W := 0) (nE rfl) (by decide) (hb hby d4_32) ?_
 intro v17 T17 L17 q17 X17
 obtain ⟨h17, e17⟩ := hpz T17
 rw [e17] at q17
 obtain ⟨ch17, hg17, rfl, rfl, f17⟩ := q17
 show Go _ _ _ _ (T17.setTop (mkF m 35 #[vR x0, vI 0, vI 2, vR b1, vI nd6, vR b15_0] [.int ch17]))
 refine Go.sipush X17 hx 38 rfl (hb hby d4_35) (v := (255 : Int32)) (by decide) ?_
 refine Go.icmpYes X17 hx 54 (hb hby d4_38) (tlt hg17).2.2.1 (by decide) (by decide) ?_
 refine Go.aload X17 hx 56 rfl (hb hby d4_54) rfl rfl ?_
 subst hFF
 refine Go.retR X17 hx hlk (t := (.array .byte)) hret rfl rfl (hb hby d4_56) (by decide) (by decide) ?_
 rw [(e17.trans f17)]
 have Kp19 := (((Keep.refl h0 []).ext E1).trans K6 (allS (Or.inr sz4) all0))
 exact Or.inr (⟨b15_0, k15_0, a6, rfl, (Fr.app (Fr.app (Fr.app (Fr.nil n0) N6) N15) (Fr.nil n0)), (Kp19.trans K15 all0), (Nat.le_trans Kp19.1 s15_0), F15_0, F15_1⟩)
theorem d2_36 : DD B2 36 (.invokestatic 177, 3) := by decide +kernel
theorem d2_39 : DD B2 39 (.astore 5, 2) := by decide +kernel
theorem d2_41 : DD B2 41 (.aload_n 0, 1) := by decide +kernel
theorem d2_42 : DD B2 42 (.aload 5, 2) := by decide +kernel
theorem d2_44 : DD B2 44 (.iload_n 3, 1) := by decide +kernel
theorem d6_0 : DD B6 0 (.iload_n 1, 1) := by decide +kernel
theorem d6_1 : DD B6 1 (.aload_n 0, 1) := by decide +kernel
theorem d6_2 : DD B6 2 (.arraylength, 1) := by decide +kernel
theorem d6_3 : DD B6 3 (.isub, 1) := by decide +kernel
theorem d6_4 : DD B6 4 (.bipush 31, 2) := by decide +kernel
theorem d6_6 : DD B6 6 (.iushr, 1) := by decide +kernel
theorem d6_7 : DD B6 7 (.i2b, 1) := by decide +kernel
theorem d6_8 : DD B6 8 (.ireturn, 1) := by decide +kernel
theorem ef_6_RI (m : MethodId) (x0 : Addr) (x1 : Int32) : entryFrame m #[(.ref x0), (.int x1)] 2 = mkF m 0 #[.val (.ref x0), .val (.int x1)] [] := by first | (simp [entryFrame, mkF, argsToLocals, Value.category]; done) | rfl
theorem au_7 (hw : HW a0 Z)  (Z0 : n0 ≤ h0.size) (P0 : Arv Z h0 x0 kk0 .byte (2 : Int32) ls0 (.int 0)) :
    Ctr l Z ⟨s5, "coderFromArrayLen", "([BI)B"⟩ B6 2 (some .byte) (rM 0 0 0 0) #[.ref x0, .int 2] h0 (fun v h L => v = some (.int 0) ∧ Fr n0 L ∧ h = h0) := by
 refine Ctr.of (plainFor_of_name pn_c0) fun p e s m below meth c T0 hx hZ hby hml hown hnm hret hlk e0 es X0 => Go.cast (ef_6_RI m x0 (2 : Int32)) ?_
 generalize hFF : EndN s _ _ _ = FF
 refine iN X0 hx 1 rfl hby d6_0 rfl ?_
 refine aN X0 hx 2 rfl hby d6_1 rfl rfl ?_
 refine Go.arraylength X0 hx hZ e0 P0 3 rfl (hb hby d6_2) ?_
 refine Go.isub X0 hx 4 rfl (hb hby d6_3) ?_
 rw [show ((2 : Int32) - (2 : Int32)) = (0 : Int32) from by decide]
 refine Go.bipush X0 hx 6 rfl (hb hby d6_4) (v := (31 : Int32)) (by decide) ?_
 refine Go.iushr X0 hx 7 rfl (hb hby d6_6) ?_
 rw [show (((0 : Int32).toUInt32 >>> ((31 : Int32) &&& 31).toUInt32).toInt32) = (0 : Int32) from by decide]
 refine Go.i2b X0 hx 8 rfl (hb hby d6_7) ?_
 rw [show ((0 : Int32).toInt8.toInt32) = (0 : Int32) from by decide]
 subst hFF
 refine Go.retN X0 hx hlk (t := .byte) hret (by simp) (hb hby d6_8) (by decide) (by decide) ?_
 rw [e0]
 exact ⟨(congrArg (fun z => some (Value.int z)) (by decide : nar .byte (0 : Int32) = (0 : Int32))), (Fr.nil n0), rfl⟩
theorem pd_6 : parseMethodDescriptor "([BI)B" = some ⟨[(.array .byte), .int], some .byte⟩ := by decide +kernel
theorem d2_45 : DD B2 45 (.invokestatic 47, 3) := by decide +kernel
theorem d2_48 : DD B2 48 (.putfield 15, 3) := by decide +kernel
theorem d2_51 : DD B2 51 (.aload_n 0, 1) := by decide +kernel
theorem d2_52 : DD B2 52 (.aload 5, 2) := by decide +kernel
theorem d2_54 : DD B2 54 (.putfield 9, 3) := by decide +kernel
theorem d2_57 : DD B2 57 (.return_, 1) := by decide +kernel
theorem au_8 (hw : HW a0 Z)  (Z0 : n0 ≤ h0.size) (P0 : Arv Z h0 x0 kk0 .byte (4 : Int32) ls0 (.int 0)) :
    Ctr l Z ⟨s5, "coderFromArrayLen", "([BI)B"⟩ B6 2 (some .byte) (rM 0 0 0 0) #[.ref x0, .int 2] h0 (fun v h L => v = some (.int 1) ∧ Fr n0 L ∧ h = h0) := by
 refine Ctr.of (plainFor_of_name pn_c0) fun p e s m below meth c T0 hx hZ hby hml hown hnm hret hlk e0 es X0 => Go.cast (ef_6_RI m x0 (2 : Int32)) ?_
 generalize hFF : EndN s _ _ _ = FF
 refine iN X0 hx 1 rfl hby d6_0 rfl ?_
 refine aN X0 hx 2 rfl hby d6_1 rfl rfl ?_
 refine Go.arraylength X0 hx hZ e0 P0 3 rfl (hb hby d6_2) ?_
 refine Go.isub X0 hx 4 rfl (hb hby d6_3) ?_
 rw [show ((2 : Int32) - (4 : Int32)) = (-2 : Int32) from by decide]
 refine Go.bipush X0 hx 6 rfl (hb hby d6_4) (v := (31 : Int32)) (by decide) ?_
 refine Go.iushr X0 hx 7 rfl (hb hby d6_6) ?_
 rw [show (((-2 : Int32).toUInt32 >>> ((31 : Int32) &&& 31).toUInt32).toInt32) = (1 : Int32) from by decide]
 refine Go.i2b X0 hx 8 rfl (hb hby d6_7) ?_
 rw [show ((1 : Int32).toInt8.toInt32) = (1 : Int32) from by decide]
 subst hFF
 refine Go.retN X0 hx hlk (t := .byte) hret (by simp) (hb hby d6_8) (by decide) (by decide) ?_
 rw [e0]
 exact ⟨(congrArg (fun z => some (Value.int z)) (by decide : nar .byte (1 : Int32) = (1 : Int32))), (Fr.nil n0), rfl⟩
theorem ef_2_RRIIN (m : MethodId) (x0 : Addr) (x1 : Addr) (x2 : Int32) (x3 : Int32)  : entryFrame m #[(.ref x0), (.ref x1), (.int x2), (.int x3), .null] 6 = mkF m 0 #[.val (.ref x0), .val (.ref x1), .val (.int x2), .val (.int x3), .val .null, .unset] [] := by first | (simp [entryFrame, mkF, argsToLocals, Value.category]; done) | rfl
theorem pn_c1 : plainName "java/lang/String" = true := by first | (simp [plainName, overriddenIn]; done) | decide +kernel
theorem au_2 (hw : HW a0 Z)   (O0 : Old Z n0 h0) (G : Glob Z α β γ δ ε ζ η) (P0 : Exa Z h0 x0 s1) (P1 : f0_ Z h0 x0 (.int 0)) (P2 : f2_ Z h0 x0 .null) (P3 : Arv Z h0 x1 kk0 .char (2 : Int32) [.int p0, .int p1] (.int 0)) (R_p0 : 0 ≤ p0.toInt ∧ p0.toInt ≤ 65535) (R_p1 : 0 ≤ p1.toInt ∧ p1.toInt ≤ 65535) (g_x0 : n0 ≤ x0) :
    Ctr l Z ⟨s1, "<init>", "([CIILjava/lang/Void;)V"⟩ B2 6 none (rM 4 2 6 57) #[.ref x0, .ref x1, .int 0, .int 2, .null] h0 (fun v h L => ∃ (y0 y1 : Int32) (y2 : List Value) (y3 : Addr) (y4 : ClassId), own_str [p0, p1] y0 y1 y2 ∧ v = none ∧ Fr n0 L ∧ Keep h0 h [x0] ∧ h0.size ≤ y3 ∧ f0_ Z h x0 (.int y0) ∧ f2_ Z h x0 (.ref y3) ∧ Arv Z h y3 y4 .byte y1 y2 (.int 0) ∧ Exa Z h y3 "[B") := by
 refine Ctr.of (plainFor_of_name pn_c1) ?_
 intro p e s m below meth c T0 hx hZ hby hml hown hnm hret hlk e0 es X0
 have G' := G
 obtain ⟨G0, -, -, -, -, -, -, -, -, -, -, -, G12, -⟩ := G'
 refine Go.cast (ef_2_RRIIN m x0 x1 (0 : Int32) (2 : Int32)) ?_
 generalize hFF : EndN s _ _ _ = FF
 refine aN X0 hx 1 rfl hby d2_0 rfl rfl ?_
 refine Go.initO X0 hx hZ hown (tw_11 hw) (tw_12 hw) (tw_13 hw) e0 (by decide) (W := 0) (hml ▸ rfl) (nE rfl) (by decide) (pc' := 4) rfl (hb hby d2_1) ?_
 intro T1 e1 X1
 refine iN X1 hx 5 rfl hby d2_4 rfl ?_
 refine Go.ifYes X1 hx 27 (hb hby d2_5) (by decide) (by decide) (by decide) ?_
 refine Go.getS X1 hx hZ hown (host := "") (Or.inl (tw_14 hw)) Via.refl e1 (G0.ext O0.2) 30 rfl (hb hby d2_27) ?_
 intro T3 e3 X3
 refine Go.ifNo X3 hx 33 rfl (hb hby d2_30) (feq G12).1 ?_
 refine aN X3 hx 34 rfl hby d2_33 rfl rfl ?_
 refine iN X3 hx 35 rfl hby d2_34 rfl ?_
 refine iN X3 hx 36 rfl hby d2_35 rfl ?_
 refine Go.callS X3 hx hZ hown (tw_15 hw) (tw_16 hw) (tw_17 hw) (tw_18 hw) (by decide) (tw_18 hw) (tw_17 hw) (au_3 hw O0 G P3 R_p0 R_p1) e3 (argsL := [.ref x1, .int 0, .int 2]) (rest := []) 39 rfl (hml ▸ rfl) (lenOf pd_4 rfl) rfl rfl (W := 0) (nE rfl) (by decide) (hb hby d2_36) ?_
 intro v4 T4 L4 q4 X4
 obtain ⟨h4, e4⟩ := hpz T4
 rw [e4] at q4
 rcases q4 with ⟨b4_0_0, k4_0_0, c4_0_0, rfl, N4_0, K4_0, s4_0_0, F4_0_0, F4_0_1⟩ | ⟨b4_1_0, k4_1_0, c4_1_0, rfl, N4_1, K4_1, s4_1_0, F4_1_0, F4_1_1⟩
 have r5 : 0 ≤ p0.toInt ∧ p0.toInt ≤ 255 := own_ltA_r c4_0_0 (mG 0 rfl) R_p0 (by decide)
 have r6 : 0 ≤ p1.toInt ∧ p1.toInt ≤ 255 := own_ltA_r c4_0_0 (mG 1 rfl) R_p1 (by decide)
 show Go _ _ _ _ (T4.setTop (mkF m 39 #[vR x0, vR x1, vI 0, vI 2, .val .null, uS] [.ref b4_0_0]))
 refine Go.astore X4 hx 41 rfl (hb hby d2_39) (Ls' := #[vR x0, vR x1, vI 0, vI 2, .val .null, vR b4_0_0]) rfl rfl ?_
 refine aN X4 hx 42 rfl hby d2_41 rfl rfl ?_
 refine Go.aload X4 hx 44 rfl (hb hby d2_42) rfl rfl ?_
 refine iN X4 hx 45 rfl hby d2_44 rfl ?_
 have Kp8 := ((Keep.refl h0 [x0]).trans K4_0 all0)
 refine Go.callS X4 hx hZ hown (tw_23 hw) (tw_24 hw) (tw_17 hw) (tw_25 hw) (by decide) (tw_25 hw) (tw_17 hw) (au_7 hw (Nat.le_trans O0.z Kp8.1) F4_0_0) e4 (argsL := [.ref b4_0_0, .int 2]) (rest := [.ref x0]) 48 rfl (hml ▸ rfl) (lenOf pd_6 rfl) rfl rfl (W := 1) (nE rfl) (by decide) (hb hby d2_45) ?_
 intro v9 T9 L9 q9 X9
 obtain ⟨rfl, N9, e9⟩ := q9
 show Go _ _ _ _ (T9.setTop (mkF m 48 #[vR x0, vR x1, vI 0, vI 2, .val .null, vR b4_0_0] [.int 0, .ref x0]))
 have fk11 := (P0.keep K4_0)
 refine Go.putFN X9 hx hZ hown (tw_26 hw) Via.refl e9 (P1.keep K4_0 nin0) fk11 (Or.inr ⟨(tw_27 hw), rfl, hnm⟩) (tw_1 hw) (ty := .byte) (v' := (.int 0)) (by decide) (by decide) (by decide) 51 rfl (hb hby d2_48) ?_
 intro T12 h12 e12 W12 F12 X12
 have N12 := Fr.snoc X12 (Fr.app (Fr.app (Fr.nil n0) N4_0) N9) g_x0
 refine aN X12 hx 52 rfl hby d2_51 rfl rfl ?_
 refine Go.aload X12 hx 54 rfl (hb hby d2_52) rfl rfl ?_
 refine Go.putF X12 hx hZ hown (host := "") (Or.inl (tw_28 hw)) Via.refl e12 ((P2.keep K4_0 nin0).other W12 (Or.inr (slot_ne (Or.inr (tw_29 hw)) (Or.inr (tw_27 hw)) (by decide) (t := (.array .byte)) (t' := .byte) (by decide) (by decide)))) (fk11.wr W12) (Or.inr ⟨(tw_29 hw), rfl, hnm⟩) (tw_1 hw) (ty := (.array .byte)) (by decide) rfl rfl 57 rfl (hb hby d2_54) ?_
 intro T15 h15 e15 W15 F15 X15
 have N15 := Fr.snoc X15 N12 g_x0
 subst hFF
 refine Go.ret0 X15 hx hlk hret (hb hby d2_57) (by decide) (by decide) ?_
 rw [e15]
 have ne17 := Nat.ne_of_lt (Nat.lt_of_lt_of_le P0.lt s4_0_0)
 obtain ⟨scd, szn, sls, hst, sF, sV⟩ : ∃ (cd zn : Int32) (ls : List Value), own_str [p0, p1] cd zn ls ∧ f0_ Z h15 x0 (.int cd) ∧ Arv Z h15 b4_0_0 k4_0_0 .byte zn ls (.int 0) := ⟨_, _, _, Or.inl ⟨c4_0_0, rfl, rfl, rfl⟩, (F12.other W15 (Or.inr (slot_ne (Or.inr (tw_27 hw)) (Or.inr (tw_29 hw)) (by decide) (t := .byte) (t' := (.array .byte)) (by decide) (by decide)))), ((F4_0_0.other W12 (Ne.symm ne17)).other W15 (Ne.symm ne17))⟩
 exact ⟨scd, szn, sls, b4_0_0, k4_0_0, hst, rfl, N15, ((Kp8.wr W12 (Or.inl (mG 0 rfl))).wr W15 (Or.inl (mG 0 rfl))), (Nat.le_trans (Keep.refl h0 [x0]).1 s4_0_0), sF, F15, sV, ((F4_0_1.wr W12).wr W15)⟩
 show Go _ _ _ _ (T4.setTop (mkF m 39 #[vR x0, vR x1, vI 0, vI 2, .val .null, uS] [.ref b4_1_0]))
 refine Go.astore X4 hx 41 rfl (hb hby d2_39) (Ls' := #[vR x0, vR x1, vI 0, vI 2, .val .null, vR b4_1_0]) rfl rfl ?_
 refine aN X4 hx 42 rfl hby d2_41 rfl rfl ?_
 refine Go.aload X4 hx 44 rfl (hb hby d2_42) rfl rfl ?_
 refine iN X4 hx 45 rfl hby d2_44 rfl ?_
 have Kp24 := ((Keep.refl h0 [x0]).trans K4_1 all0)
 refine Go.callS X4 hx hZ hown (tw_23 hw) (tw_24 hw) (tw_17 hw) (tw_25 hw) (by decide) (tw_25 hw) (tw_17 hw) (au_8 hw (Nat.le_trans O0.z Kp24.1) F4_1_0) e4 (argsL := [.ref b4_1_0, .int 2]) (rest := [.ref x0]) 48 rfl (hml ▸ rfl) (lenOf pd_6 rfl) rfl rfl (W := 1) (nE rfl) (by decide) (hb hby d2_45) ?_
 intro v25 T25 L25 q25 X25
 obtain ⟨rfl, N25, e25⟩ := q25
 show Go _ _ _ _ (T25.setTop (mkF m 48 #[vR x0, vR x1, vI 0, vI 2, .val .null, vR b4_1_0] [.int 1, .ref x0]))
 have fk27 := (P0.keep K4_1)
 refine Go.putFN X25 hx hZ hown (tw_26 hw) Via.refl e25 (P1.keep K4_1 nin0) fk27 (Or.inr ⟨(tw_27 hw), rfl, hnm⟩) (tw_1 hw) (ty := .byte) (v' := (.int 1)) (by decide) (by decide) (by decide) 51 rfl (hb hby d2_48) ?_
 intro T28 h28 e28 W28 F28 X28
 have N28 := Fr.snoc X28 (Fr.app (Fr.app (Fr.nil n0) N4_1) N25) g_x0
 refine aN X28 hx 52 rfl hby d2_51 rfl rfl ?_
 refine Go.aload X28 hx 54 rfl (hb hby d2_52) rfl rfl ?_
 refine Go.putF X28 hx hZ hown (host := "") (Or.inl (tw_28 hw)) Via.refl e28 ((P2.keep K4_1 nin0).other W28 (Or.inr (slot_ne (Or.inr (tw_29 hw)) (Or.inr (tw_27 hw)) (by decide) (t := (.array .byte)) (t' := .byte) (by decide) (by decide)))) (fk27.wr W28) (Or.inr ⟨(tw_29 hw), rfl, hnm⟩) (tw_1 hw) (ty := (.array .byte)) (by decide) rfl rfl 57 rfl (hb hby d2_54) ?_
 intro T31 h31 e31 W31 F31 X31
 have N31 := Fr.snoc X31 N28 g_x0
 subst hFF
 refine Go.ret0 X31 hx hlk hret (hb hby d2_57) (by decide) (by decide) ?_
 rw [e31]
 have ne33 := Nat.ne_of_lt (Nat.lt_of_lt_of_le P0.lt s4_1_0)
 obtain ⟨scd, szn, sls, hst, sF, sV⟩ : ∃ (cd zn : Int32) (ls : List Value), own_str [p0, p1] cd zn ls ∧ f0_ Z h31 x0 (.int cd) ∧ Arv Z h31 b4_1_0 k4_1_0 .byte zn ls (.int 0) := ⟨_, _, _, Or.inr ⟨c4_1_0, rfl, rfl, rfl⟩, (F28.other W31 (Or.inr (slot_ne (Or.inr (tw_27 hw)) (Or.inr (tw_29 hw)) (by decide) (t := .byte) (t' := (.array .byte)) (by decide) (by decide)))), ((F4_1_0.other W28 (Ne.symm ne33)).other W31 (Ne.symm ne33))⟩
 exact ⟨scd, szn, sls, b4_1_0, k4_1_0, hst, rfl, N31, ((Kp24.wr W28 (Or.inl (mG 0 rfl))).wr W31 (Or.inl (mG 0 rfl))), (Nat.le_trans (Keep.refl h0 [x0]).1 s4_1_0), sF, F31, sV, ((F4_1_1.wr W28).wr W31)⟩
theorem pd_7 : parseMethodDescriptor "([CIILjava/lang/Void;)V" = some ⟨[(.array .char), .int, .int, (.object "java/lang/Void")], none⟩ := by decide +kernel
theorem d1_6 : DD B1 6 (.invokespecial 27, 3) := by decide +kernel
theorem d1_9 : DD B1 9 (.return_, 1) := by decide +kernel
theorem ef_1_RR (m : MethodId) (x0 : Addr) (x1 : Addr) : entryFrame m #[(.ref x0), (.ref x1)] 2 = mkF m 0 #[.val (.ref x0), .val (.ref x1)] [] := by first | (simp [entryFrame, mkF, argsToLocals, Value.category]; done) | rfl
theorem au_1 (hw : HW a0 Z)   (O0 : Old Z n0 h0) (G : Glob Z α β γ δ ε ζ η) (P0 : Exa Z h0 x0 s1) (P1 : f0_ Z h0 x0 (.int 0)) (P2 : f2_ Z h0 x0 .null) (P3 : Arv Z h0 x1 kk0 .char (2 : Int32) [.int p0, .int p1] (.int 0)) (R_p0 : 0 ≤ p0.toInt ∧ p0.toInt ≤ 65535) (R_p1 : 0 ≤ p1.toInt ∧ p1.toInt ≤ 65535) (g_x0 : n0 ≤ x0) :
    Ctr l Z ⟨s1, "<init>", "([C)V"⟩ B1 2 none (rM 5 2 6 74) #[.ref x0, .ref x1] h0 (fun v h L => ∃ (y0 y1 : Int32) (y2 : List Value) (y3 : Addr) (y4 : ClassId), own_str [p0, p1] y0 y1 y2 ∧ v = none ∧ Fr n0 L ∧ Keep h0 h [x0] ∧ h0.size ≤ y3 ∧ f0_ Z h x0 (.int y0) ∧ f2_ Z h x0 (.ref y3) ∧ Arv Z h y3 y4 .byte y1 y2 (.int 0) ∧ Exa Z h y3 "[B") := by
 refine Ctr.of (plainFor_of_name pn_c1) fun p e s m below meth c T0 hx hZ hby hml hown hnm hret hlk e0 es X0 => Go.cast (ef_1_RR m x0 x1) ?_
 generalize hFF : EndN s _ _ _ = FF
 refine aN X0 hx 1 rfl hby d1_0 rfl rfl ?_
 refine aN X0 hx 2 rfl hby d1_1 rfl rfl ?_
 refine Go.iconst X0 hx 3 rfl (hb hby d1_2) (v := (0 : Int32)) rfl ?_
 refine aN X0 hx 4 rfl hby d1_3 rfl rfl ?_
 refine Go.arraylength X0 hx hZ e0 P3 5 rfl (hb hby d1_4) ?_
 refine Go.anull X0 hx 6 rfl (hb hby d1_5) ?_
 refine Go.callN X0 hx hZ hown rfl (tw_7 hw) (tw_8 hw) (tw_10 hw) (by decide) (tw_10 hw) (tw_2 hw) (au_2 hw O0 G P0 P1 P2 P3 R_p0 R_p1 g_x0) e0 (a := x0) (argsL := [.ref x1, .int 0, .int 2, .null]) (rest := []) 9 rfl (hml ▸ rfl) (lenOf pd_7 rfl) rfl rfl (W := 0) (nE rfl) (by decide) (hb hby d1_6) ?_
 intro v1 T1 L1 q1 X1
 obtain ⟨h1, e1⟩ := hpz T1
 rw [e1] at q1
 obtain ⟨z1_0, z1_1, z1_2, b1_0, k1_0, c1_0, rfl, N1, K1, s1_0, F1_0, F1_1, F1_2, F1_3⟩ := q1
 subst hFF
 refine Go.ret0 X1 hx hlk hret (hb hby d1_9) (by decide) (by decide) ?_
 rw [e1]
 exact ⟨z1_0, z1_1, z1_2, b1_0, k1_0, c1_0, rfl, (Fr.app (Fr.nil n0) N1), ((Keep.refl h0 [x0]).trans K1 (allS (Or.inl (mG 0 rfl)) all0)), (Nat.le_trans (Keep.refl h0 [x0]).1 s1_0), F1_0, F1_1, F1_2, F1_3⟩
theorem pd_8 : parseMethodDescriptor "([C)V" = some ⟨[(.array .char)], none⟩ := by decide +kernel
theorem au_14 (hw : HW a0 Z)  (Z0 : n0 ≤ h0.size) :
    Ctr l Z ⟨s5, "newBytesLength", "(I)I"⟩ B44 1 (some .int) (rM 0 0 0 0) #[.int 28] h0 (fun v h L => v = some (.int 56) ∧ Fr n0 L ∧ h = h0) := by
 refine Ctr.of (plainFor_of_name pn_c0) fun p e s m below meth c T0 hx hZ hby hml hown hnm hret hlk e0 es X0 => Go.cast (ef_44_I m (28 : Int32)) ?_
 generalize hFF : EndN s _ _ _ = FF
 refine iN X0 hx 1 rfl hby d44_0 rfl ?_
 refine Go.ifYes X0 hx 12 (hb hby d44_1) (by decide) (by decide) (by decide) ?_
 refine iN X0 hx 13 rfl hby d44_12 rfl ?_
 refine Go.ldcI X0 hx hZ hown (tw_254 hw) 15 rfl (hb hby d44_13) ?_
 refine Go.icmpYes X0 hx 55 (hb hby d44_15) (by decide) (by decide) (by decide) ?_
 refine iN X0 hx 56 rfl hby d44_55 rfl ?_
 refine Go.iconst X0 hx 57 rfl (hb hby d44_56) (v := (1 : Int32)) rfl ?_
 refine Go.ishl X0 hx 58 rfl (hb hby d44_57) ?_
 rw [show ((28 : Int32) <<< ((1 : Int32) &&& 31)) = (56 : Int32) from by decide]
 subst hFF
 refine Go.retI X0 hx hlk hret (hb hby d44_58) (by decide) (by decide) ?_
 rw [e0]
 exact ⟨rfl, (Fr.nil n0), rfl⟩
theorem au_13 (hw : HW a0 Z)  (Z0 : n0 ≤ h0.size) :
    Ctr l Z ⟨s5, "newBytesFor", "(I)[B"⟩ B43 1 (some (.array .byte)) (rM 1 1 56 12) #[.int 28] h0 (fun v h L => ∃ (y0 : Addr) (y1 : ClassId), v = some (.ref y0) ∧ Fr n0 L ∧ Keep h0 h [] ∧ h0.size ≤ y0 ∧ Arv Z h y0 y1 .byte (56 : Int32) LL33 (.int 0) ∧ Exa Z h y0 "[B") := by
 refine Ctr.of (plainFor_of_name pn_c0) fun p e s m below meth c T0 hx hZ hby hml hown hnm hret hlk e0 es X0 => Go.cast (ef_43_I m (28 : Int32)) ?_
 generalize hFF : EndN s _ _ _ = FF
 refine iN X0 hx 1 rfl hby d43_0 rfl ?_
 refine Go.callS X0 hx hZ hown (tw_251 hw) (tw_252 hw) (tw_17 hw) (tw_253 hw) (by decide) (tw_253 hw) (tw_17 hw) (au_14 hw Z0) e0 (argsL := [.int 28]) (rest := []) 4 rfl (hml ▸ rfl) (lenOf pd_1 rfl) rfl rfl (W := 0) (nE rfl) (by decide) (hb hby d43_1) ?_
 intro v1 T1 L1 q1 X1
 obtain ⟨rfl, N1, e1⟩ := q1
 show Go _ _ _ _ (T1.setTop (mkF m 4 #[vI 28] [.int 56]))
 refine Go.newarray X1 hx hZ (ty := .byte) rfl (tw_19 hw) e1 (by decide) (cap := 56) (by decide) (by decide) (by decide) (by decide) (ad := "[B") (by decide) 56 6 rfl (hb hby d43_4) ?_
 intro T2 h2 b2 k2 e2 E2 g2 V2 A2 X2
 have V2' : Arv Z h2 b2 k2 .byte (56 : Int32) LL33 (.int 0) := V2
 subst hFF
 refine Go.retR X2 hx hlk (t := (.array .byte)) hret rfl rfl (hb hby d43_6) (by decide) (by decide) ?_
 rw [e2]
 exact ⟨b2, k2, rfl, (Fr.app (Fr.nil n0) N1), ((Keep.refl h0 []).ext E2), (Nat.le_trans (Keep.refl h0 []).1 (Nat.le_of_eq g2.symm)), V2', A2⟩
theorem au_12 (hw : HW a0 Z)   (O0 : Old Z n0 h0) (G : Glob Z α β γ δ ε ζ η) (P0 : Arv Z h0 x0 kk0 .char (28 : Int32) (LL7 p0 p1 p2 p3) (.int 0)) :
    Ctr l Z ⟨s5, "toBytes", "([CII)[B"⟩ B42 5 (some (.array .byte)) (rM 2 1 56 24) #[.ref x0, .int 0, .int 28] h0 (fun v h L => ∃ (y0 : Addr) (y1 : ClassId), v = some (.ref y0) ∧ Fr n0 L ∧ Keep h0 h [] ∧ h0.size ≤ y0 ∧ Arv Z h y0 y1 .byte (56 : Int32) (own_u16 (LL0 p0 p1 p2 p3)) (.int 0) ∧ Exa Z h y0 "[B") := by
 refine Ctr.of (plainFor_of_name pn_c0) ?_
 intro p e s m below meth c T0 hx hZ hby hml hown hnm hret hlk e0 es X0
 have G' := G
 obtain ⟨-, -, -, -, -, -, G6, G7, G8, -, -, -, -, -⟩ := G'
 refine Go.cast (ef_42_RII m x0 (0 : Int32) (28 : Int32)) ?_
 generalize hFF : EndN s _ _ _ = FF
 refine iN X0 hx 1 rfl hby d42_0 rfl ?_
 refine Go.callS X0 hx hZ hown (tw_248 hw) (tw_249 hw) (tw_17 hw) (tw_250 hw) (by decide) (tw_250 hw) (tw_17 hw) (au_13 hw O0.z) e0 (argsL := [.int 28]) (rest := []) 4 rfl (hml ▸ rfl) (lenOf pd_2 rfl) rfl rfl (W := 0) (nE rfl) (by decide) (hb hby d42_1) ?_
 intro v1 T1 L1 q1 X1
 obtain ⟨h1, e1⟩ := hpz T1
 rw [e1] at q1
 obtain ⟨b1_0, k1_0, rfl, N1, K1, s1_0, F1_0, F1_1⟩ := q1
 show Go _ _ _ _ (T1.setTop (mkF m 4 #[vR x0, vI 0, vI 28, uS, uS] [.ref b1_0]))
 refine Go.astoreN X1 hx 5 rfl (hb hby d42_4) (Ls' := #[vR x0, vI 0, vI 28, vR b1_0, uS]) rfl rfl ?_
 refine Go.iconst X1 hx 6 rfl (hb hby d42_5) (v := (0 : Int32)) rfl ?_
 refine Go.istore X1 hx 8 rfl (hb hby d42_6) (Ls' := #[vR x0, vI 0, vI 28, vR b1_0, vI 0]) rfl ?_
 have sz5 := Nat.le_trans (Keep.refl h0 []).1 s1_0
 refine lp_tb hw X1 hx hZ hby hml hown e1 (O0.keep K1 all0) (Fr.app (Fr.nil n0) N1) G6 G7 G8 (by decide) (by decide) (by decide) (by decide) (cs := (LL0 p0 p1 p2 p3)) (P0.keep K1 nin0) (m0 := LL33) F1_0 rfl rfl rfl (Nat.le_trans O0.z sz5) (Nat.ne_of_lt (Nat.lt_of_lt_of_le P0.lt s1_0)) ?_
 intro T7 h7 L7 e7 X7 N7 K7 V7
 show Go _ _ _ _ (T7.setTop (mkF m 32 #[vR x0, vI 28, vI 28, vR b1_0, vI 28] []))
 refine aN X7 hx 33 rfl hby d42_32 rfl rfl ?_
 subst hFF
 refine Go.retR X7 hx hlk (t := (.array .byte)) hret rfl rfl (hb hby d42_33) (by decide) (by decide) ?_
 rw [e7]
 exact ⟨b1_0, k1_0, rfl, N7, (((Keep.refl h0 []).trans K1 all0).trans K7 (allS (Or.inr sz5) all0)), sz5, V7, (F1_1.keep K7)⟩
theorem au_11 (hw : HW a0 Z)   (O0 : Old Z n0 h0) (G : Glob Z α β γ δ ε ζ η) (P0 : Arv Z h0 x0 kk0 .char (28 : Int32) (LL7 p0 p1 p2 p3) (.int 0)) (R_p0 : 0 ≤ p0.toInt ∧ p0.toInt ≤ 65535) (R_p1 : 0 ≤ p1.toInt ∧ p1.toInt ≤ 65535) (R_p2 : 0 ≤ p2.toInt ∧ p2.toInt ≤ 65535) (R_p3 : 0 ≤ p3.toInt ∧ p3.toInt ≤ 65535) :
    Ctr l Z ⟨s5, "compress", "([CII)[B"⟩ B4 6 (some (.array .byte)) (rM 3 2 84 40) #[.ref x0, .int 0, .int 28] h0 (fun v h L => (∃ (y0 : Addr) (y1 : ClassId), own_ltA (LL0 p0 p1 p2 p3) ∧ v = some (.ref y0) ∧ Fr n0 L ∧ Keep h0 h [] ∧ h0.size ≤ y0 ∧ Arv Z h y0 y1 .byte (28 : Int32) ((LL0 p0 p1 p2 p3).map own_vb) (.int 0) ∧ Exa Z h y0 "[B") ∨ (∃ (y0 : Addr) (y1 : ClassId), ¬ (own_ltA (LL0 p0 p1 p2 p3)) ∧ v = some (.ref y0) ∧ Fr n0 L ∧ Keep h0 h [] ∧ h0.size ≤ y0 ∧ Arv Z h y0 y1 .byte (56 : Int32) (own_u16 (LL0 p0 p1 p2 p3)) (.int 0) ∧ Exa Z h y0 "[B")) := by
 refine Ctr.of (plainFor_of_name pn_c0) ?_
 intro p e s m below meth c T0 hx hZ hby hml hown hnm hret hlk e0 es X0
 have G' := G
 obtain ⟨-, -, -, -, -, -, G6, G7, G8, -, -, -, -, -⟩ := G'
 refine Go.cast (ef_4_RII m x0 (0 : Int32) (28 : Int32)) ?_
 generalize hFF : EndN s _ _ _ = FF
 refine iN X0 hx 1 rfl hby d4_0 rfl ?_
 refine Go.newarray X0 hx hZ (ty := .byte) rfl (tw_19 hw) e0 (by decide) (cap := 28) (by decide) (by decide) (by decide) (by decide) (ad := "[B") (by decide) 28 3 rfl (hb hby d4_1) ?_
 intro T1 h1 b1 k1 e1 E1 g1 V1 A1 X1
 have V1' : Arv Z h1 b1 k1 .byte (28 : Int32) LL39 (.int 0) := V1
 refine Go.astoreN X1 hx 4 rfl (hb hby d4_3) (Ls' := #[vR x0, vI 0, vI 28, vR b1, uS, uS]) rfl rfl ?_
 refine aN X1 hx 5 rfl hby d4_4 rfl rfl ?_
 refine iN X1 hx 6 rfl hby d4_5 rfl ?_
 refine aN X1 hx 7 rfl hby d4_6 rfl rfl ?_
 refine Go.iconst X1 hx 8 rfl (hb hby d4_7) (v := (0 : Int32)) rfl ?_
 refine iN X1 hx 9 rfl hby d4_8 rfl ?_
 have fk2 := (P0.ext E1)
 have sz4 := Nat.le_trans (Keep.refl h0 []).1 (Nat.le_of_eq g1.symm)
 have ge3 := Nat.le_trans O0.z sz4
 have ne5 := Nat.ne_of_lt (Nat.lt_of_lt_of_le P0.lt (Nat.le_of_eq g1.symm))
 refine Go.callS X1 hx hZ hown (tw_20 hw) (tw_21 hw) (tw_17 hw) (tw_22 hw) (by decide) (tw_22 hw) (tw_17 hw) (gl_cc l Z a0 hw x0 b1 kk0 k1 (28 : Int32) (LL0 p0 p1 p2 p3) h1 n0 fk2 V1' rfl ge3 ne5) e1 (argsL := [.ref x0, .int 0, .ref b1, .int 0, .int 28]) (rest := []) 12 rfl (hml ▸ rfl) (lenOf pd_0 rfl) rfl rfl (W := 0) (nE rfl) (by decide) (hb hby d4_9) ?_
 intro v6 T6 L6 q6 X6
 obtain ⟨h6, e6⟩ := hpz T6
 rw [e6] at q6
 obtain ⟨N6, K6, D6⟩ := q6
 rcases D6 with ⟨a6, rfl, V6⟩ | ⟨a6, nd6, t6, u6, rfl⟩
 have r7 : 0 ≤ p0.toInt ∧ p0.toInt ≤ 255 := own_ltA_r a6 (mG 4 rfl) R_p0 (by decide)
 have r8 : 0 ≤ p1.toInt ∧ p1.toInt ≤ 255 := own_ltA_r a6 (mG 5 rfl) R_p1 (by decide)
 have r9 : 0 ≤ p2.toInt ∧ p2.toInt ≤ 255 := own_ltA_r a6 (mG 8 rfl) R_p2 (by decide)
 have r10 : 0 ≤ p3.toInt ∧ p3.toInt ≤ 255 := own_ltA_r a6 (mG 9 rfl) R_p3 (by decide)
 show Go _ _ _ _ (T6.setTop (mkF m 12 #[vR x0, vI 0, vI 28, vR b1, uS, uS] [.int 28]))
 refine Go.istore X6 hx 14 rfl (hb hby d4_12) (Ls' := #[vR x0, vI 0, vI 28, vR b1, vI 28, uS]) rfl ?_
 refine Go.iload X6 hx 16 rfl (hb hby d4_14) rfl ?_
 refine iN X6 hx 17 rfl hby d4_16 rfl ?_
 refine Go.icmpYes X6 hx 57 (hb hby d4_17) (by decide) (by decide) (by decide) ?_
 refine aN X6 hx 58 rfl hby d4_57 rfl rfl ?_
 subst hFF
 refine Go.retR X6 hx hlk (t := (.array .byte)) hret rfl rfl (hb hby d4_58) (by decide) (by decide) ?_
 rw [e6]
 exact Or.inl ⟨b1, k1, a6, rfl, (Fr.app (Fr.nil n0) N6), (((Keep.refl h0 []).ext E1).trans K6 (allS (Or.inr sz4) all0)), sz4, V6, (A1.keep K6)⟩
 show Go _ _ _ _ (T6.setTop (mkF m 12 #[vR x0, vI 0, vI 28, vR b1, uS, uS] [.int nd6]))
 refine Go.istore X6 hx 14 rfl (hb hby d4_12) (Ls' := #[vR x0, vI 0, vI 28, vR b1, vI nd6, uS]) rfl ?_
 refine Go.iload X6 hx 16 rfl (hb hby d4_14) rfl ?_
 refine iN X6 hx 17 rfl hby d4_16 rfl ?_
 refine Go.icmpNo X6 hx 20 rfl (hb hby d4_17) (feq u6).1 ?_
 refine aN X6 hx 21 rfl hby d4_20 rfl rfl ?_
 refine iN X6 hx 22 rfl hby d4_21 rfl ?_
 refine iN X6 hx 23 rfl hby d4_22 rfl ?_
 have O15 := ((O0.ext E1).keep K6 (allS ge3 all0))
 refine Go.callS X6 hx hZ hown (tw_245 hw) (tw_246 hw) (tw_17 hw) (tw_247 hw) (by decide) (tw_247 hw) (tw_17 hw) (au_12 hw O15 G (fk2.keep K6 (ninS ne5 nin0))) e6 (argsL := [.ref x0, .int 0, .int 28]) (rest := []) 26 rfl (hml ▸ rfl) (lenOf pd_4 rfl) rfl rfl (W := 0) (nE rfl) (by decide) (hb hby d4_23) ?_
 intro v17 T17 L17 q17 X17
 obtain ⟨h17, e17⟩ := hpz T17
 rw [e17] at q17
 obtain ⟨b17_0, k17_0, rfl, N17, K17, s17_0, F17_0, F17_1⟩ := q17
 show Go _ _ _ _ (T17.setTop (mkF m 26 #[vR x0, vI 0, vI 28, vR b1, vI nd6, uS] [.ref b17_0]))
 refine Go.astore X17 hx 28 rfl (hb hby d4_26) (Ls' := #[vR x0, vI 0, vI 28, vR b1, vI nd6, vR b17_0]) rfl rfl ?_
 refine Go.aload X17 hx 30 rfl (hb hby d4_28) rfl rfl ?_
 refine Go.iload X17 hx 32 rfl (hb hby d4_30) rfl ?_
 refine Go.callS X17 hx hZ hown (tw_261 hw) (tw_262 hw) (tw_17 hw) (tw_263 hw) (by decide) (tw_263 hw) (tw_17 hw) (gl_gc l Z a0 hw b17_0 k17_0 (56 : Int32) nd6 (LL0 p0 p1 p2 p3) h17 n0 (O15.keep K17 all0) G6 G7 G8 F17_0 (by rw [own_u16_len]; rfl) (own_wc (own_rlit (n := 116) (by decide)) (by decide) (by decide) (own_wc (own_rlit (n := 104) (by decide)) (by decide) (by decide) (own_wc (own_rlit (n := 101) (by decide)) (by decide) (by decide) (own_wc (own_rlit (n := 32) (by decide)) (by decide) (by decide) (own_wc R_p0 (by decide) (by decide) (own_wc R_p1 (by decide) (by decide) (own_wc (own_rlit (n := 32) (by decide)) (by decide) (by decide) (own_wc (own_rlit (n := 39) (by decide)) (by decide) (by decide) (own_wc R_p2 (by decide) (by decide) (own_wc R_p3 (by decide) (by decide) (own_wc (own_rlit (n := 39) (by decide)) (by decide) (by decide) (own_wc (own_rlit (n := 32) (by decide)) (by decide) (by decide) (own_wc (own_rlit (n := 105) (by decide)) (by decide) (by decide) (own_wc (own_rlit (n := 115) (by decide)) (by decide) (by decide) (own_wc (own_rlit (n := 32) (by decide)) (by decide) (by decide) (own_wc (own_rlit (n := 97) (by decide)) (by decide) (by decide) (own_wc (own_rlit (n := 108) (by decide)) (by decide) (by decide) (own_wc (own_rlit (n := 114) (by decide)) (by decide) (by decide) (own_wc (own_rlit (n := 101) (by decide)) (by decide) (by decide) (own_wc (own_rlit (n := 97) (by decide)) (by decide) (by decide) (own_wc (own_rlit (n := 100) (by decide)) (by decide) (by decide) (own_wc (own_rlit (n := 121) (by decide)) (by decide) (by decide) (own_wc (own_rlit (n := 32) (by decide)) (by decide) (by decide) (own_wc (own_rlit (n := 116) (by decide)) (by decide) (by decide) (own_wc (own_rlit (n := 97) (by decide)) (by decide) (by decide) (own_wc (own_rlit (n := 107) (by decide)) (by decide) (by decide) (own_wc (own_rlit (n := 101) (by decide)) (by decide) (by decide) (own_wc (own_rlit (n := 110) (by decide)) (by decide) (by decide) own_w0)))))))))))))))))))))))))))) t6) e17 (argsL := [.ref b17_0, .int nd6]) (rest := []) 35 rfl (hml ▸ rfl) (lenOf pd_5 rfl) rfl rfl (W := 0) (nE rfl) (by decide) (hb hby d4_32) ?_
 intro v19 T19 L19 q19 X19
 obtain ⟨h19, e19⟩ := hpz T19
 rw [e19] at q19
 obtain ⟨ch19, hg19, rfl, rfl, f19⟩ := q19
 show Go _ _ _ _ (T19.setTop (mkF m 35 #[vR x0, vI 0, vI 28, vR b1, vI nd6, vR b17_0] [.int ch19]))
 refine Go.sipush X19 hx 38 rfl (hb hby d4_35) (v := (255 : Int32)) (by decide) ?_
 refine Go.icmpYes X19 hx 54 (hb hby d4_38) (tlt hg19).2.2.1 (by decide) (by decide) ?_
 refine Go.aload X19 hx 56 rfl (hb hby d4_54) rfl rfl ?_
 subst hFF
 refine Go.retR X19 hx hlk (t := (.array .byte)) hret rfl rfl (hb hby d4_56) (by decide) (by decide) ?_
 rw [(e19.trans f19)]
 have Kp21 := (((Keep.refl h0 []).ext E1).trans K6 (allS (Or.inr sz4) all0))
 exact Or.inr (⟨b17_0, k17_0, a6, rfl, (Fr.app (Fr.app (Fr.app (Fr.nil n0) N6) N17) (Fr.nil n0)), (Kp21.trans K17 all0), (Nat.le_trans Kp21.1 s17_0), F17_0, F17_1⟩)
theorem au_15 (hw : HW a0 Z)  (Z0 : n0 ≤ h0.size) (P0 : Arv Z h0 x0 kk0 .byte (28 : Int32) ls0 (.int 0)) :
    Ctr l Z ⟨s5, "coderFromArrayLen", "([BI)B"⟩ B6 2 (some .byte) (rM 0 0 0 0) #[.ref x0, .int 28] h0 (fun v h L => v = some (.int 0) ∧ Fr n0 L ∧ h = h0) := by
 refine Ctr.of (plainFor_of_name pn_c0) fun p e s m below meth c T0 hx hZ hby hml hown hnm hret hlk e0 es X0 => Go.cast (ef_6_RI m x0 (28 : Int32)) ?_
 generalize hFF : EndN s _ _ _ = FF
 refine iN X0 hx 1 rfl hby d6_0 rfl ?_
 refine aN X0 hx 2 rfl hby d6_1 rfl rfl ?_
 refine Go.arraylength X0 hx hZ e0 P0 3 rfl (hb hby d6_2) ?_
 refine Go.isub X0 hx 4 rfl (hb hby d6_3) ?_
 rw [show ((28 : Int32) - (28 : Int32)) = (0 : Int32) from by decide]
 refine Go.bipush X0 hx 6 rfl (hb hby d6_4) (v := (31 : Int32)) (by decide) ?_
 refine Go.iushr X0 hx 7 rfl (hb hby d6_6) ?_
 rw [show (((0 : Int32).toUInt32 >>> ((31 : Int32) &&& 31).toUInt32).toInt32) = (0 : Int32) from by decide]
 refine Go.i2b X0 hx 8 rfl (hb hby d6_7) ?_
 rw [show ((0 : Int32).toInt8.toInt32) = (0 : Int32) from by decide]
 subst hFF
 refine Go.retN X0 hx hlk (t := .byte) hret (by simp) (hb hby d6_8) (by decide) (by decide) ?_
 rw [e0]
 exact ⟨(congrArg (fun z => some (Value.int z)) (by decide : nar .byte (0 : Int32) = (0 : Int32))), (Fr.nil n0), rfl⟩
theorem au_16 (hw : HW a0 Z)  (Z0 : n0 ≤ h0.size) (P0 : Arv Z h0 x0 kk0 .byte (56 : Int32) ls0 (.int 0)) :
    Ctr l Z ⟨s5, "coderFromArrayLen", "([BI)B"⟩ B6 2 (some .byte) (rM 0 0 0 0) #[.ref x0, .int 28] h0 (fun v h L => v = some (.int 1) ∧ Fr n0 L ∧ h = h0) := by
 refine Ctr.of (plainFor_of_name pn_c0) fun p e s m below meth c T0 hx hZ hby hml hown hnm hret hlk e0 es X0 => Go.cast (ef_6_RI m x0 (28 : Int32)) ?_
 generalize hFF : EndN s _ _ _ = FF
 refine iN X0 hx 1 rfl hby d6_0 rfl ?_
 refine aN X0 hx 2 rfl hby d6_1 rfl rfl ?_
 refine Go.arraylength X0 hx hZ e0 P0 3 rfl (hb hby d6_2) ?_
 refine Go.isub X0 hx 4 rfl (hb hby d6_3) ?_
 rw [show ((28 : Int32) - (56 : Int32)) = (-28 : Int32) from by decide]
 refine Go.bipush X0 hx 6 rfl (hb hby d6_4) (v := (31 : Int32)) (by decide) ?_
 refine Go.iushr X0 hx 7 rfl (hb hby d6_6) ?_
 rw [show (((-28 : Int32).toUInt32 >>> ((31 : Int32) &&& 31).toUInt32).toInt32) = (1 : Int32) from by decide]
 refine Go.i2b X0 hx 8 rfl (hb hby d6_7) ?_
 rw [show ((1 : Int32).toInt8.toInt32) = (1 : Int32) from by decide]
 subst hFF
 refine Go.retN X0 hx hlk (t := .byte) hret (by simp) (hb hby d6_8) (by decide) (by decide) ?_
 rw [e0]
 exact ⟨(congrArg (fun z => some (Value.int z)) (by decide : nar .byte (1 : Int32) = (1 : Int32))), (Fr.nil n0), rfl⟩
theorem au_10 (hw : HW a0 Z)   (O0 : Old Z n0 h0) (G : Glob Z α β γ δ ε ζ η) (P0 : Exa Z h0 x0 s1) (P1 : f0_ Z h0 x0 (.int 0)) (P2 : f2_ Z h0 x0 .null) (P3 : Arv Z h0 x1 kk0 .char (28 : Int32) (LL7 p0 p1 p2 p3) (.int 0)) (R_p0 : 0 ≤ p0.toInt ∧ p0.toInt ≤ 65535) (R_p1 : 0 ≤ p1.toInt ∧ p1.toInt ≤ 65535) (R_p2 : 0 ≤ p2.toInt ∧ p2.toInt ≤ 65535) (R_p3 : 0 ≤ p3.toInt ∧ p3.toInt ≤ 65535) (g_x0 : n0 ≤ x0) :
    Ctr l Z ⟨s1, "<init>", "([CIILjava/lang/Void;)V"⟩ B2 6 none (rM 4 2 84 57) #[.ref x0, .ref x1, .int 0, .int 28, .null] h0 (fun v h L => ∃ (y0 y1 : Int32) (y2 : List Value) (y3 : Addr) (y4 : ClassId), own_str (LL0 p0 p1 p2 p3) y0 y1 y2 ∧ v = none ∧ Fr n0 L ∧ Keep h0 h [x0] ∧ h0.size ≤ y3 ∧ f0_ Z h x0 (.int y0) ∧ f2_ Z h x0 (.ref y3) ∧ Arv Z h y3 y4 .byte y1 y2 (.int 0) ∧ Exa Z h y3 "[B") := by
 refine Ctr.of (plainFor_of_name pn_c1) ?_
 intro p e s m below meth c T0 hx hZ hby hml hown hnm hret hlk e0 es X0
 have G' := G
 obtain ⟨G0, -, -, -, -, -, -, -, -, -, -, -, G12, -⟩ := G'
 refine Go.cast (ef_2_RRIIN m x0 x1 (0 : Int32) (28 : Int32)) ?_
 generalize hFF : EndN s _ _ _ = FF
 refine aN X0 hx 1 rfl hby d2_0 rfl rfl ?_
 refine Go.initO X0 hx hZ hown (tw_11 hw) (tw_12 hw) (tw_13 hw) e0 (by decide) (W := 0) (hml ▸ rfl) (nE rfl) (by decide) (pc' := 4) rfl (hb hby d2_1) ?_
 intro T1 e1 X1
 refine iN X1 hx 5 rfl hby d2_4 rfl ?_
 refine Go.ifYes X1 hx 27 (hb hby d2_5) (by decide) (by decide) (by decide) ?_
 refine Go.getS X1 hx hZ hown (host := "") (Or.inl (tw_14 hw)) Via.refl e1 (G0.ext O0.2) 30 rfl (hb hby d2_27) ?_
 intro T3 e3 X3
 refine Go.ifNo X3 hx 33 rfl (hb hby d2_30) (feq G12).1 ?_
 refine aN X3 hx 34 rfl hby d2_33 rfl rfl ?_
 refine iN X3 hx 35 rfl hby d2_34 rfl ?_
 refine iN X3 hx 36 rfl hby d2_35 rfl ?_
 refine Go.callS X3 hx hZ hown (tw_15 hw) (tw_16 hw) (tw_17 hw) (tw_18 hw) (by decide) (tw_18 hw) (tw_17 hw) (au_11 hw O0 G P3 R_p0 R_p1 R_p2 R_p3) e3 (argsL := [.ref x1, .int 0, .int 28]) (rest := []) 39 rfl (hml ▸ rfl) (lenOf pd_4 rfl) rfl rfl (W := 0) (nE rfl) (by decide) (hb hby d2_36) ?_
 intro v4 T4 L4 q4 X4
 obtain ⟨h4, e4⟩ := hpz T4
 rw [e4] at q4
 rcases q4 with ⟨b4_0_0, k4_0_0, c4_0_0, rfl, N4_0, K4_0, s4_0_0, F4_0_0, F4_0_1⟩ | ⟨b4_1_0, k4_1_0, c4_1_0, rfl, N4_1, K4_1, s4_1_0, F4_1_0, F4_1_1⟩
 have r5 : 0 ≤ p0.toInt ∧ p0.toInt ≤ 255 := own_ltA_r c4_0_0 (mG 4 rfl) R_p0 (by decide)
 have r6 : 0 ≤ p1.toInt ∧ p1.toInt ≤ 255 := own_ltA_r c4_0_0 (mG 5 rfl) R_p1 (by decide)
 have r7 : 0 ≤ p2.toInt ∧ p2.toInt ≤ 255 := own_ltA_r c4_0_0 (mG 8 rfl) R_p2 (by decide)
 have r8 : 0 ≤ p3.toInt ∧ p3.toInt ≤ 255 := own_ltA_r c4_0_0 (mG 9 rfl) R_p3 (by decide)
 show Go _ _ _ _ (T4.setTop (mkF m 39 #[vR x0, vR x1, vI 0, vI 28, .val .null, uS] [.ref b4_0_0]))
 refine Go.astore X4 hx 41 rfl (hb hby d2_39) (Ls' := #[vR x0, vR x1, vI 0, vI 28, .val .null, vR b4_0_0]) rfl rfl ?_
 refine aN X4 hx 42 rfl hby d2_41 rfl rfl ?_
 refine Go.aload X4 hx 44 rfl (hb hby d2_42) rfl rfl ?_
 refine iN X4 hx 45 rfl hby d2_44 rfl ?_
 have Kp10 := ((Keep.refl h0 [x0]).trans K4_0 all0)
 refine Go.callS X4 hx hZ hown (tw_23 hw) (tw_24 hw) (tw_17 hw) (tw_25 hw) (by decide) (tw_25 hw) (tw_17 hw) (au_15 hw (Nat.le_trans O0.z Kp10.1) F4_0_0) e4 (argsL := [.ref b4_0_0, .int 28]) (rest := [.ref x0]) 48 rfl (hml ▸ rfl) (lenOf pd_6 rfl) rfl rfl (W := 1) (nE rfl) (by decide) (hb hby d2_45) ?_
 intro v11 T11 L11 q11 X11
 obtain ⟨rfl, N11, e11⟩ := q11
 show Go _ _ _ _ (T11.setTop (mkF m 48 #[vR x0, vR x1, vI 0, vI 28, .val .null, vR b4_0_0] [.int 0, .ref x0]))
 have fk13 := (P0.keep K4_0)
 refine Go.putFN X11 hx hZ hown (tw_26 hw) Via.refl e11 (P1.keep K4_0 nin0) fk13 (Or.inr ⟨(tw_27 hw), rfl, hnm⟩) (tw_1 hw) (ty := .byte) (v' := (.int 0)) (by decide) (by decide) (by decide) 51 rfl (hb hby d2_48) ?_
 intro T14 h14 e14 W14 F14 X14
 have N14 := Fr.snoc X14 (Fr.app (Fr.app (Fr.nil n0) N4_0) N11) g_x0
 refine aN X14 hx 52 rfl hby d2_51 rfl rfl ?_
 refine Go.aload X14 hx 54 rfl (hb hby d2_52) rfl rfl ?_
 refine Go.putF X14 hx hZ hown (host := "") (Or.inl (tw_28 hw)) Via.refl e14 ((P2.keep K4_0 nin0).other W14 (Or.inr (slot_ne (Or.inr (tw_29 hw)) (Or.inr (tw_27 hw)) (by decide) (t := (.array .byte)) (t' := .byte) (by decide) (by decide)))) (fk13.wr W14) (Or.inr ⟨(tw_29 hw), rfl, hnm⟩) (tw_1 hw) (ty := (.array .byte)) (by decide) rfl rfl 57 rfl (hb hby d2_54) ?_
 intro T17 h17 e17 W17 F17 X17
 have N17 := Fr.snoc X17 N14 g_x0
 subst hFF
 refine Go.ret0 X17 hx hlk hret (hb hby d2_57) (by decide) (by decide) ?_
 rw [e17]
 have ne19 := Nat.ne_of_lt (Nat.lt_of_lt_of_le P0.lt s4_0_0)
 obtain ⟨scd, szn, sls, hst, sF, sV⟩ : ∃ (cd zn : Int32) (ls : List Value), own_str (LL0 p0 p1 p2 p3) cd zn ls ∧ f0_ Z h17 x0 (.int cd) ∧ Arv Z h17 b4_0_0 k4_0_0 .byte zn ls (.int 0) := ⟨_, _, _, Or.inl ⟨c4_0_0, rfl, rfl, rfl⟩, (F14.other W17 (Or.inr (slot_ne (Or.inr (tw_27 hw)) (Or.inr (tw_29 hw)) (by decide) (t := .byte) (t' := (.array .byte)) (by decide) (by decide)))), ((F4_0_0.other W14 (Ne.symm ne19)).other W17 (Ne.symm ne19))⟩
 exact ⟨scd, szn, sls, b4_0_0, k4_0_0, hst, rfl, N17, ((Kp10.wr W14 (Or.inl (mG 0 rfl))).wr W17 (Or.inl (mG 0 rfl))), (Nat.le_trans (Keep.refl h0 [x0]).1 s4_0_0), sF, F17, sV, ((F4_0_1.wr W14).wr W17)⟩
 show Go _ _ _ _ (T4.setTop (mkF m 39 #[vR x0, vR x1, vI 0, vI 28, .val .null, uS] [.ref b4_1_0]))
 refine Go.astore X4 hx 41 rfl (hb hby d2_39) (Ls' := #[vR x0, vR x1, vI 0, vI 28, .val .null, vR b4_1_0]) rfl rfl ?_
 refine aN X4 hx 42 rfl hby d2_41 rfl rfl ?_
 refine Go.aload X4 hx 44 rfl (hb hby d2_42) rfl rfl ?_
 refine iN X4 hx 45 rfl hby d2_44 rfl ?_
 have Kp26 := ((Keep.refl h0 [x0]).trans K4_1 all0)
 refine Go.callS X4 hx hZ hown (tw_23 hw) (tw_24 hw) (tw_17 hw) (tw_25 hw) (by decide) (tw_25 hw) (tw_17 hw) (au_16 hw (Nat.le_trans O0.z Kp26.1) F4_1_0) e4 (argsL := [.ref b4_1_0, .int 28]) (rest := [.ref x0]) 48 rfl (hml ▸ rfl) (lenOf pd_6 rfl) rfl rfl (W := 1) (nE rfl) (by decide) (hb hby d2_45) ?_
 intro v27 T27 L27 q27 X27
 obtain ⟨rfl, N27, e27⟩ := q27
 show Go _ _ _ _ (T27.setTop (mkF m 48 #[vR x0, vR x1, vI 0, vI 28, .val .null, vR b4_1_0] [.int 1, .ref x0]))
 have fk29 := (P0.keep K4_1)
 refine Go.putFN X27 hx hZ hown (tw_26 hw) Via.refl e27 (P1.keep K4_1 nin0) fk29 (Or.inr ⟨(tw_27 hw), rfl, hnm⟩) (tw_1 hw) (ty := .byte) (v' := (.int 1)) (by decide) (by decide) (by decide) 51 rfl (hb hby d2_48) ?_
 intro T30 h30 e30 W30 F30 X30
 have N30 := Fr.snoc X30 (Fr.app (Fr.app (Fr.nil n0) N4_1) N27) g_x0
 refine aN X30 hx 52 rfl hby d2_51 rfl rfl ?_
 refine Go.aload X30 hx 54 rfl (hb hby d2_52) rfl rfl ?_
 refine Go.putF X30 hx hZ hown (host := "") (Or.inl (tw_28 hw)) Via.refl e30 ((P2.keep K4_1 nin0).other W30 (Or.inr (slot_ne (Or.inr (tw_29 hw)) (Or.inr (tw_27 hw)) (by decide) (t := (.array .byte)) (t' := .byte) (by decide) (by decide)))) (fk29.wr W30) (Or.inr ⟨(tw_29 hw), rfl, hnm⟩) (tw_1 hw) (ty := (.array .byte)) (by decide) rfl rfl 57 rfl (hb hby d2_54) ?_
 intro T33 h33 e33 W33 F33 X33
 have N33 := Fr.snoc X33 N30 g_x0
 subst hFF
 refine Go.ret0 X33 hx hlk hret (hb hby d2_57) (by decide) (by decide) ?_
 rw [e33]
 have ne35 := Nat.ne_of_lt (Nat.lt_of_lt_of_le P0.lt s4_1_0)
 obtain ⟨scd, szn, sls, hst, sF, sV⟩ : ∃ (cd zn : Int32) (ls : List Value), own_str (LL0 p0 p1 p2 p3) cd zn ls ∧ f0_ Z h33 x0 (.int cd) ∧ Arv Z h33 b4_1_0 k4_1_0 .byte zn ls (.int 0) := ⟨_, _, _, Or.inr ⟨c4_1_0, rfl, rfl, rfl⟩, (F30.other W33 (Or.inr (slot_ne (Or.inr (tw_27 hw)) (Or.inr (tw_29 hw)) (by decide) (t := .byte) (t' := (.array .byte)) (by decide) (by decide)))), ((F4_1_0.other W30 (Ne.symm ne35)).other W33 (Ne.symm ne35))⟩
 exact ⟨scd, szn, sls, b4_1_0, k4_1_0, hst, rfl, N33, ((Kp26.wr W30 (Or.inl (mG 0 rfl))).wr W33 (Or.inl (mG 0 rfl))), (Nat.le_trans (Keep.refl h0 [x0]).1 s4_1_0), sF, F33, sV, ((F4_1_1.wr W30).wr W33)⟩
theorem au_9 (hw : HW a0 Z)   (O0 : Old Z n0 h0) (G : Glob Z α β γ δ ε ζ η) (P0 : Exa Z h0 x0 s1) (P1 : f0_ Z h0 x0 (.int 0)) (P2 : f2_ Z h0 x0 .null) (P3 : Arv Z h0 x1 kk0 .char (28 : Int32) (LL7 p0 p1 p2 p3) (.int 0)) (R_p0 : 0 ≤ p0.toInt ∧ p0.toInt ≤ 65535) (R_p1 : 0 ≤ p1.toInt ∧ p1.toInt ≤ 65535) (R_p2 : 0 ≤ p2.toInt ∧ p2.toInt ≤ 65535) (R_p3 : 0 ≤ p3.toInt ∧ p3.toInt ≤ 65535) (g_x0 : n0 ≤ x0) :
    Ctr l Z ⟨s1, "<init>", "([C)V"⟩ B1 2 none (rM 5 2 84 74) #[.ref x0, .ref x1] h0 (fun v h L => ∃ (y0 y1 : Int32) (y2 : List Value) (y3 : Addr) (y4 : ClassId), own_str (LL0 p0 p1 p2 p3) y0 y1 y2 ∧ v = none ∧ Fr n0 L ∧ Keep h0 h [x0] ∧ h0.size ≤ y3 ∧ f0_ Z h x0 (.int y0) ∧ f2_ Z h x0 (.ref y3) ∧ Arv Z h y3 y4 .byte y1 y2 (.int 0) ∧ Exa Z h y3 "[B") := by
 refine Ctr.of (plainFor_of_name pn_c1) fun p e s m below meth c T0 hx hZ hby hml hown hnm hret hlk e0 es X0 => Go.cast (ef_1_RR m x0 x1) ?_
 generalize hFF : EndN s _ _ _ = FF
 refine aN X0 hx 1 rfl hby d1_0 rfl rfl ?_
 refine aN X0 hx 2 rfl hby d1_1 rfl rfl ?_
 refine Go.iconst X0 hx 3 rfl (hb hby d1_2) (v := (0 : Int32)) rfl ?_
 refine aN X0 hx 4 rfl hby d1_3 rfl rfl ?_
 refine Go.arraylength X0 hx hZ e0 P3 5 rfl (hb hby d1_4) ?_
 refine Go.anull X0 hx 6 rfl (hb hby d1_5) ?_
 refine Go.callN X0 hx hZ hown rfl (tw_7 hw) (tw_8 hw) (tw_10 hw) (by decide) (tw_10 hw) (tw_2 hw) (au_10 hw O0 G P0 P1 P2 P3 R_p0 R_p1 R_p2 R_p3 g_x0) e0 (a := x0) (argsL := [.ref x1, .int 0, .int 28, .null]) (rest := []) 9 rfl (hml ▸ rfl) (lenOf pd_7 rfl) rfl rfl (W := 0) (nE rfl) (by decide) (hb hby d1_6) ?_
 intro v1 T1 L1 q1 X1
 obtain ⟨h1, e1⟩ := hpz T1
 rw [e1] at q1
 obtain ⟨z1_0, z1_1, z1_2, b1_0, k1_0, c1_0, rfl, N1, K1, s1_0, F1_0, F1_1, F1_2, F1_3⟩ := q1
 subst hFF
 refine Go.ret0 X1 hx hlk hret (hb hby d1_9) (by decide) (by decide) ?_
 rw [e1]
 exact ⟨z1_0, z1_1, z1_2, b1_0, k1_0, c1_0, rfl, (Fr.app (Fr.nil n0) N1), ((Keep.refl h0 [x0]).trans K1 (allS (Or.inl (mG 0 rfl)) all0)), (Nat.le_trans (Keep.refl h0 [x0]).1 s1_0), F1_0, F1_1, F1_2, F1_3⟩
theorem d7_0 : DD B7 0 (.new 45, 3) := by decide +kernel
theorem d7_3 : DD B7 3 (.dup, 1) := by decide +kernel
theorem d7_4 : DD B7 4 (.ldc 74, 2) := by decide +kernel
theorem d7_6 : DD B7 6 (.new 49, 3) := by decide +kernel
theorem d7_9 : DD B7 9 (.dup, 1) := by decide +kernel
theorem d8_0 : DD B8 0 (.aload_n 0, 1) := by decide +kernel
theorem d8_1 : DD B8 1 (.bipush 16, 2) := by decide +kernel
theorem d9_0 : DD B9 0 (.aload_n 0, 1) := by decide +kernel
theorem d9_1 : DD B9 1 (.invokespecial 3, 3) := by decide +kernel
theorem d9_4 : DD B9 4 (.getstatic 18, 3) := by decide +kernel
theorem d9_7 : DD B9 7 (.ifCond .eq 18, 3) := by decide +kernel
theorem d9_10 : DD B9 10 (.aload_n 0, 1) := by decide +kernel
theorem d9_11 : DD B9 11 (.iload_n 1, 1) := by decide +kernel
theorem d9_12 : DD B9 12 (.newarray .byte, 2) := by decide +kernel
theorem d9_14 : DD B9 14 (.putfield 15, 3) := by decide +kernel
theorem d9_17 : DD B9 17 (.aload_n 0, 1) := by decide +kernel
theorem d9_18 : DD B9 18 (.iconst 0, 1) := by decide +kernel
theorem d9_19 : DD B9 19 (.putfield 22, 3) := by decide +kernel
theorem d9_22 : DD B9 22 (.goto 16, 3) := by decide +kernel
theorem d9_38 : DD B9 38 (.return_, 1) := by decide +kernel
theorem ef_9_RI (m : MethodId) (x0 : Addr) (x1 : Int32) : entryFrame m #[(.ref x0), (.int x1)] 2 = mkF m 0 #[.val (.ref x0), .val (.int x1)] [] := by first | (simp [entryFrame, mkF, argsToLocals, Value.category]; done) | rfl
theorem pn_c2 : plainName "java/lang/AbstractStringBuilder" = true := by first | (simp [plainName, overriddenIn]; done) | decide +kernel
theorem au_20 (hw : HW a0 Z)   (O0 : Old Z n0 h0) (G : Glob Z α β γ δ ε ζ η) (P0 : Exa Z h0 x0 s3) (P1 : f1_ Z h0 x0 (.int 0)) (P2 : f4_ Z h0 x0 (.int 0)) (P3 : f5_ Z h0 x0 (.int 0)) (P4 : f3_ Z h0 x0 .null) (g_x0 : n0 ≤ x0) :
    Ctr l Z ⟨s0, "<init>", "(I)V"⟩ B9 2 none (rM 1 1 16 12) #[.ref x0, .int 16] h0 (fun v h L => ∃ (y0 : Addr) (y1 : ClassId), v = none ∧ Fr n0 L ∧ Keep h0 h [x0] ∧ h0.size ≤ y0 ∧ f1_ Z h x0 (.int 0) ∧ f4_ Z h x0 (.int 0) ∧ f5_ Z h x0 (.int 0) ∧ f3_ Z h x0 (.ref y0) ∧ Arv Z h y0 y1 .byte (16 : Int32) LL4 (.int 0) ∧ Exa Z h y0 "[B") := by
 refine Ctr.of (plainFor_of_name pn_c2) ?_
 intro p e s m below meth c T0 hx hZ hby hml hown hnm hret hlk e0 es X0
 have G' := G
 obtain ⟨G0, -, -, -, -, -, -, -, -, -, -, -, G12, -⟩ := G'
 refine Go.cast (ef_9_RI m x0 (16 : Int32)) ?_
 generalize hFF : EndN s _ _ _ = FF
 refine aN X0 hx 1 rfl hby d9_0 rfl rfl ?_
 refine Go.initO X0 hx hZ hown (tw_52 hw) (tw_12 hw) (tw_13 hw) e0 (by decide) (W := 0) (hml ▸ rfl) (nE rfl) (by decide) (pc' := 4) rfl (hb hby d9_1) ?_
 intro T1 e1 X1
 refine Go.getS X1 hx hZ hown (host := "") (Or.inl (tw_53 hw)) Via.refl e1 (G0.ext O0.2) 7 rfl (hb hby d9_4) ?_
 intro T3 e3 X3
 refine Go.ifNo X3 hx 10 rfl (hb hby d9_7) (feq G12).1 ?_
 refine aN X3 hx 11 rfl hby d9_10 rfl rfl ?_
 refine iN X3 hx 12 rfl hby d9_11 rfl ?_
 refine Go.newarray X3 hx hZ (ty := .byte) rfl (tw_19 hw) e3 (by decide) (cap := 16) (by decide) (by decide) (by decide) (by decide) (ad := "[B") (by decide) 16 14 rfl (hb hby d9_12) ?_
 intro T4 h4 b4 k4 e4 E4 g4 V4 A4 X4
 have V4' : Arv Z h4 b4 k4 .byte (16 : Int32) LL4 (.int 0) := V4
 have fk6 := (P0.ext E4)
 refine Go.putF X4 hx hZ hown (host := "") (Or.inl (tw_54 hw)) Via.refl e4 (P4.ext E4) fk6 (Or.inl (tw_55 hw)) (tw_41 hw) (ty := (.array .byte)) (by decide) rfl rfl 17 rfl (hb hby d9_14) ?_
 intro T7 h7 e7 W7 F7 X7
 have N7 := Fr.snoc X7 (Fr.nil n0) g_x0
 refine aN X7 hx 18 rfl hby d9_17 rfl rfl ?_
 refine Go.iconst X7 hx 19 rfl (hb hby d9_18) (v := (0 : Int32)) rfl ?_
 refine Go.putFN X7 hx hZ hown (tw_56 hw) Via.refl e7 ((P1.ext E4).other W7 (Or.inr (slot_ne (Or.inl (tw_57 hw)) (Or.inl (tw_55 hw)) (by decide) (t := .byte) (t' := (.array .byte)) (by decide) (by decide)))) (fk6.wr W7) (Or.inl (tw_57 hw)) (tw_41 hw) (ty := .byte) (v' := (.int 0)) (by decide) (by decide) (by decide) 22 rfl (hb hby d9_19) ?_
 intro T10 h10 e10 W10 F10 X10
 have N10 := Fr.snoc X10 N7 g_x0
 refine Go.goto X10 hx 38 (hb hby d9_22) (by decide) (by decide) ?_
 subst hFF
 refine Go.ret0 X10 hx hlk hret (hb hby d9_38) (by decide) (by decide) ?_
 rw [e10]
 have ne14 := Nat.ne_of_lt (Nat.lt_of_lt_of_le P0.lt (Nat.le_of_eq g4.symm))
 exact ⟨b4, k4, rfl, N10, ((((Keep.refl h0 [x0]).ext E4).wr W7 (Or.inl (mG 0 rfl))).wr W10 (Or.inl (mG 0 rfl))), (Nat.le_trans (Keep.refl h0 [x0]).1 (Nat.le_of_eq g4.symm)), F10, (((P2.ext E4).other W7 (Or.inr (slot_ne (Or.inl (tw_80 hw)) (Or.inl (tw_55 hw)) (by decide) (t := .int) (t' := (.array .byte)) (by decide) (by decide)))).other W10 (Or.inr (slot_ne (Or.inl (tw_80 hw)) (Or.inl (tw_57 hw)) (by decide) (t := .int) (t' := .byte) (by decide) (by decide)))), (((P3.ext E4).other W7 (Or.inr (slot_ne (Or.inl (tw_293 hw)) (Or.inl (tw_55 hw)) (by decide) (t := .boolean) (t' := (.array .byte)) (by decide) (by decide)))).other W10 (Or.inr (slot_ne (Or.inl (tw_293 hw)) (Or.inl (tw_57 hw)) (by decide) (t := .boolean) (t' := .byte) (by decide) (by decide)))), (F7.other W10 (Or.inr (slot_ne (Or.inl (tw_55 hw)) (Or.inl (tw_57 hw)) (by decide) (t := (.array .byte)) (t' := .byte) (by decide) (by decide)))), ((V4'.other W7 (Ne.symm ne14)).other W10 (Ne.symm ne14)), ((A4.wr W7).wr W10)⟩
theorem pd_9 : parseMethodDescriptor "(I)V" = some ⟨[.int], none⟩ := by decide +kernel
theorem d8_3 : DD B8 3 (.invokespecial 1, 3) := by decide +kernel
theorem d8_6 : DD B8 6 (.return_, 1) := by decide +kernel
theorem ef_8_R (m : MethodId) (x0 : Addr) : entryFrame m #[(.ref x0)] 1 = mkF m 0 #[.val (.ref x0)] [] := by first | (simp [entryFrame, mkF, argsToLocals, Value.category]; done) | rfl
theorem pn_c3 : plainName "java/lang/StringBuilder" = true := by first | (simp [plainName, overriddenIn]; done) | decide +kernel
theorem au_19 (hw : HW a0 Z)   (O0 : Old Z n0 h0) (G : Glob Z α β γ δ ε ζ η) (P0 : Exa Z h0 x0 s3) (P1 : f1_ Z h0 x0 (.int 0)) (P2 : f4_ Z h0 x0 (.int 0)) (P3 : f5_ Z h0 x0 (.int 0)) (P4 : f3_ Z h0 x0 .null) (g_x0 : n0 ≤ x0) :
    Ctr l Z ⟨s3, "<init>", "()V"⟩ B8 1 none (rM 2 1 16 25) #[.ref x0] h0 (fun v h L => ∃ (y0 : Addr) (y1 : ClassId), v = none ∧ Fr n0 L ∧ Keep h0 h [x0] ∧ h0.size ≤ y0 ∧ f1_ Z h x0 (.int 0) ∧ f4_ Z h x0 (.int 0) ∧ f5_ Z h x0 (.int 0) ∧ f3_ Z h x0 (.ref y0) ∧ Arv Z h y0 y1 .byte (16 : Int32) LL4 (.int 0) ∧ Exa Z h y0 "[B") := by
 refine Ctr.of (plainFor_of_name pn_c3) fun p e s m below meth c T0 hx hZ hby hml hown hnm hret hlk e0 es X0 => Go.cast (ef_8_R m x0) ?_
 generalize hFF : EndN s _ _ _ = FF
 refine aN X0 hx 1 rfl hby d8_0 rfl rfl ?_
 refine Go.bipush X0 hx 3 rfl (hb hby d8_1) (v := (16 : Int32)) (by decide) ?_
 refine Go.callN X0 hx hZ hown rfl (tw_46 hw) (tw_47 hw) (tw_51 hw) (by decide) (tw_51 hw) (tw_50 hw) (au_20 hw O0 G P0 P1 P2 P3 P4 g_x0) e0 (a := x0) (argsL := [.int 16]) (rest := []) 6 rfl (hml ▸ rfl) (lenOf pd_9 rfl) rfl rfl (W := 0) (nE rfl) (by decide) (hb hby d8_3) ?_
 intro v1 T1 L1 q1 X1
 obtain ⟨h1, e1⟩ := hpz T1
 rw [e1] at q1
 obtain ⟨b1_0, k1_0, rfl, N1, K1, s1_0, F1_0, F1_1, F1_2, F1_3, F1_4, F1_5⟩ := q1
 subst hFF
 refine Go.ret0 X1 hx hlk hret (hb hby d8_6) (by decide) (by decide) ?_
 rw [e1]
 exact ⟨b1_0, k1_0, rfl, (Fr.app (Fr.nil n0) N1), ((Keep.refl h0 [x0]).trans K1 (allS (Or.inl (mG 0 rfl)) all0)), (Nat.le_trans (Keep.refl h0 [x0]).1 s1_0), F1_0, F1_1, F1_2, F1_3, F1_4, F1_5⟩
theorem pd_10 : parseMethodDescriptor "()V" = some ⟨[], none⟩ := by decide +kernel
theorem d7_10 : DD B7 10 (.invokespecial 51, 3) := by decide +kernel
theorem d7_13 : DD B7 13 (.ldc 76, 2) := by decide +kernel
theorem d10_0 : DD B10 0 (.aload_n 0, 1) := by decide +kernel
theorem d10_1 : DD B10 1 (.aload_n 1, 1) := by decide +kernel
theorem d11_0 : DD B11 0 (.aload_n 1, 1) := by decide +kernel
theorem d11_1 : DD B11 1 (.ifnonnull 8, 3) := by decide +kernel
theorem d11_9 : DD B11 9 (.aload_n 1, 1) := by decide +kernel
theorem d12_0 : DD B12 0 (.aload_n 0, 1) := by decide +kernel
theorem d12_1 : DD B12 1 (.getfield 9, 3) := by decide +kernel
theorem d12_4 : DD B12 4 (.arraylength, 1) := by decide +kernel
theorem d12_5 : DD B12 5 (.aload_n 0, 1) := by decide +kernel
theorem d13_0 : DD B13 0 (.getstatic 38, 3) := by decide +kernel
theorem d13_3 : DD B13 3 (.ifCond .eq 10, 3) := by decide +kernel
theorem d13_6 : DD B13 6 (.aload_n 0, 1) := by decide +kernel
theorem d13_7 : DD B13 7 (.getfield 15, 3) := by decide +kernel
theorem d13_10 : DD B13 10 (.goto 4, 3) := by decide +kernel
theorem d13_14 : DD B13 14 (.ireturn, 1) := by decide +kernel
theorem ef_13_R (m : MethodId) (x0 : Addr) : entryFrame m #[(.ref x0)] 1 = mkF m 0 #[.val (.ref x0)] [] := by first | (simp [entryFrame, mkF, argsToLocals, Value.category]; done) | rfl
theorem au_24 (hw : HW a0 Z)   (O0 : Old Z n0 h0) (G : Glob Z α β γ δ ε ζ η) (P1 : f0_ Z h0 x0 (.int 0)) :
    Ctr l Z ⟨s1, s6, "()B"⟩ B13 1 (some .byte) (rM 0 0 0 0) #[.ref x0] h0 (fun v h L => v = some (.int 0) ∧ Fr n0 L ∧ h = h0) := by
 refine Ctr.of (plainFor_of_name pn_c1) ?_
 intro p e s m below meth c T0 hx hZ hby hml hown hnm hret hlk e0 es X0
 have G' := G
 obtain ⟨G0, -, -, -, -, -, -, -, -, -, -, -, G12, -⟩ := G'
 refine Go.cast (ef_13_R m x0) ?_
 generalize hFF : EndN s _ _ _ = FF
 refine Go.getS X0 hx hZ hown (host := "") (Or.inl (tw_14 hw)) Via.refl e0 (G0.ext O0.2) 3 rfl (hb hby d13_0) ?_
 intro T2 e2 X2
 refine Go.ifNo X2 hx 6 rfl (hb hby d13_3) (feq G12).1 ?_
 refine aN X2 hx 7 rfl hby d13_6 rfl rfl ?_
 refine gF X2 hx hZ hown (tw_26 hw) e2 P1 10 rfl (hb hby d13_7) ?_
 intro T3 e3 X3
 refine Go.goto X3 hx 14 (hb hby d13_10) (by decide) (by decide) ?_
 subst hFF
 refine Go.retN X3 hx hlk (t := .byte) hret (by simp) (hb hby d13_14) (by decide) (by decide) ?_
 rw [e3]
 exact ⟨(congrArg (fun z => some (Value.int z)) (by decide : nar .byte (0 : Int32) = (0 : Int32))), (Fr.nil n0), rfl⟩
theorem pd_11 : parseMethodDescriptor "()B" = some ⟨[], some .byte⟩ := by decide +kernel
theorem d12_6 : DD B12 6 (.invokevirtual 335, 3) := by decide +kernel
theorem d12_9 : DD B12 9 (.ishr, 1) := by decide +kernel
theorem d12_10 : DD B12 10 (.ireturn, 1) := by decide +kernel
theorem ef_12_R (m : MethodId) (x0 : Addr) : entryFrame m #[(.ref x0)] 1 = mkF m 0 #[.val (.ref x0)] [] := by first | (simp [entryFrame, mkF, argsToLocals, Value.category]; done) | rfl
theorem au_23 (hw : HW a0 Z)   (O0 : Old Z n0 h0) (G : Glob Z α β γ δ ε ζ η) (P0 : Exa Z h0 x0 s1) (P1 : f0_ Z h0 x0 (.int 0)) (P2 : f2_ Z h0 x0 (.ref x1)) (P3 : Arv Z h0 x1 kk0 .byte (4 : Int32) ls0 (.int (0 : Int32))) :
    Ctr l Z ⟨s1, "length", "()I"⟩ B12 1 (some .int) (rM 1 0 0 13) #[.ref x0] h0 (fun v h L => v = some (.int 4) ∧ Fr n0 L ∧ h = h0) := by
 refine Ctr.of (plainFor_of_name pn_c1) fun p e s m below meth c T0 hx hZ hby hml hown hnm hret hlk e0 es X0 => Go.cast (ef_12_R m x0) ?_
 generalize hFF : EndN s _ _ _ = FF
 refine aN X0 hx 1 rfl hby d12_0 rfl rfl ?_
 refine gF X0 hx hZ hown (tw_28 hw) e0 P2 4 rfl (hb hby d12_1) ?_
 intro T1 e1 X1
 refine Go.arraylength X1 hx hZ e1 P3 5 rfl (hb hby d12_4) ?_
 refine aN X1 hx 6 rfl hby d12_5 rfl rfl ?_
 refine Go.callV X1 hx hZ hown (tw_74 hw) (tw_75 hw) (nF (mvT hZ (tw_77 hw))) (tw_77 hw) (tw_76 hw) (by decide) (tw_78 hw) (tw_2 hw) (au_24 hw O0 G P1) e1 P0 (argsL := []) (rest := [.int 4]) 9 rfl (hml ▸ rfl) (lenOf pd_11 rfl) rfl rfl (W := 1) (nE rfl) (by decide) (hb hby d12_6) ?_
 intro v2 T2 L2 q2 X2
 obtain ⟨rfl, N2, e2⟩ := q2
 show Go _ _ _ _ (T2.setTop (mkF m 9 #[vR x0] [.int 0, .int 4]))
 refine Go.ishr X2 hx 10 rfl (hb hby d12_9) ?_
 rw [show ((4 : Int32) >>> ((0 : Int32) &&& 31)) = (4 : Int32) from by decide]
 subst hFF
 refine Go.retI X2 hx hlk hret (hb hby d12_10) (by decide) (by decide) ?_
 rw [e2]
 exact ⟨rfl, (Fr.app (Fr.nil n0) N2), rfl⟩
theorem pd_12 : parseMethodDescriptor "()I" = some ⟨[], some .int⟩ := by decide +kernel
theorem d11_10 : DD B11 10 (.invokevirtual 32, 3) := by decide +kernel
theorem d11_13 : DD B11 13 (.istore_n 2, 1) := by decide +kernel
theorem d11_14 : DD B11 14 (.aload_n 0, 1) := by decide +kernel
theorem d11_15 : DD B11 15 (.aload_n 0, 1) := by decide +kernel
theorem d11_16 : DD B11 16 (.getfield 79, 3) := by decide +kernel
theorem d11_19 : DD B11 19 (.iload_n 2, 1) := by decide +kernel
theorem d11_20 : DD B11 20 (.iadd, 1) := by decide +kernel
theorem d14_0 : DD B14 0 (.aload_n 0, 1) := by decide +kernel
theorem d14_1 : DD B14 1 (.getfield 15, 3) := by decide +kernel
theorem d14_4 : DD B14 4 (.arraylength, 1) := by decide +kernel
theorem d14_5 : DD B14 5 (.aload_n 0, 1) := by decide +kernel
theorem d14_6 : DD B14 6 (.getfield 22, 3) := by decide +kernel
theorem d14_9 : DD B14 9 (.ishr, 1) := by decide +kernel
theorem d14_10 : DD B14 10 (.istore_n 2, 1) := by decide +kernel
theorem d14_11 : DD B14 11 (.iload_n 1, 1) := by decide +kernel
theorem d14_12 : DD B14 12 (.iload_n 2, 1) := by decide +kernel
theorem d14_13 : DD B14 13 (.isub, 1) := by decide +kernel
theorem d14_14 : DD B14 14 (.ifCond .le 24, 3) := by decide +kernel
theorem d14_38 : DD B14 38 (.return_, 1) := by decide +kernel
theorem ef_14_RI (m : MethodId) (x0 : Addr) (x1 : Int32) : entryFrame m #[(.ref x0), (.int x1)] 3 = mkF m 0 #[.val (.ref x0), .val (.int x1), .unset] [] := by first | (simp [entryFrame, mkF, argsToLocals, Value.category]; done) | rfl
theorem au_25 (hw : HW a0 Z)  (Z0 : n0 ≤ h0.size) (P1 : f1_ Z h0 x0 (.int 0)) (P4 : f3_ Z h0 x0 (.ref x1)) (P5 : Arv Z h0 x1 kk0 .byte (16 : Int32) ls0 (.int 0)) :
    Ctr l Z ⟨s0, "ensureCapacityInternal", "(I)V"⟩ B14 3 none (rM 0 0 0 0) #[.ref x0, .int 4] h0 (fun v h L => v = none ∧ Fr n0 L ∧ h = h0) := by
 refine Ctr.of (plainFor_of_name pn_c2) fun p e s m below meth c T0 hx hZ hby hml hown hnm hret hlk e0 es X0 => Go.cast (ef_14_RI m x0 (4 : Int32)) ?_
 generalize hFF : EndN s _ _ _ = FF
 refine aN X0 hx 1 rfl hby d14_0 rfl rfl ?_
 refine gF X0 hx hZ hown (tw_54 hw) e0 P4 4 rfl (hb hby d14_1) ?_
 intro T1 e1 X1
 refine Go.arraylength X1 hx hZ e1 P5 5 rfl (hb hby d14_4) ?_
 refine aN X1 hx 6 rfl hby d14_5 rfl rfl ?_
 refine gF X1 hx hZ hown (tw_56 hw) e1 P1 9 rfl (hb hby d14_6) ?_
 intro T2 e2 X2
 refine Go.ishr X2 hx 10 rfl (hb hby d14_9) ?_
 rw [show ((16 : Int32) >>> ((0 : Int32) &&& 31)) = (16 : Int32) from by decide]
 refine Go.istoreN X2 hx 11 rfl (hb hby d14_10) (Ls' := #[vR x0, vI 4, vI 16]) rfl ?_
 refine iN X2 hx 12 rfl hby d14_11 rfl ?_
 refine iN X2 hx 13 rfl hby d14_12 rfl ?_
 refine Go.isub X2 hx 14 rfl (hb hby d14_13) ?_
 rw [show ((4 : Int32) - (16 : Int32)) = (-12 : Int32) from by decide]
 refine Go.ifYes X2 hx 38 (hb hby d14_14) (by decide) (by decide) (by decide) ?_
 subst hFF
 refine Go.ret0 X2 hx hlk hret (hb hby d14_38) (by decide) (by decide) ?_
 rw [e2]
 exact ⟨rfl, (Fr.nil n0), rfl⟩
theorem d11_21 : DD B11 21 (.invokevirtual 100, 3) := by decide +kernel
theorem d11_24 : DD B11 24 (.aload_n 0, 1) := by decide +kernel
theorem d11_25 : DD B11 25 (.aload_n 0, 1) := by decide +kernel
theorem d11_26 : DD B11 26 (.getfield 79, 3) := by decide +kernel
theorem d11_29 : DD B11 29 (.aload_n 1, 1) := by decide +kernel
theorem d15_0 : DD B15 0 (.aload_n 0, 1) := by decide +kernel
theorem d15_1 : DD B15 1 (.aload_n 2, 1) := by decide +kernel
theorem d16_0 : DD B16 0 (.getstatic 18, 3) := by decide +kernel
theorem d16_3 : DD B16 3 (.ifCond .eq 18, 3) := by decide +kernel
theorem d16_6 : DD B16 6 (.aload_n 0, 1) := by decide +kernel
theorem d16_7 : DD B16 7 (.getfield 22, 3) := by decide +kernel
theorem d16_10 : DD B16 10 (.aload_n 1, 1) := by decide +kernel
theorem d16_11 : DD B16 11 (.invokevirtual 40, 3) := by decide +kernel
theorem d16_14 : DD B16 14 (.if_icmp .eq 7, 3) := by decide +kernel
theorem d16_21 : DD B16 21 (.return_, 1) := by decide +kernel
theorem ef_16_RR (m : MethodId) (x0 : Addr) (x1 : Addr) : entryFrame m #[(.ref x0), (.ref x1)] 2 = mkF m 0 #[.val (.ref x0), .val (.ref x1)] [] := by first | (simp [entryFrame, mkF, argsToLocals, Value.category]; done) | rfl
theorem au_27 (hw : HW a0 Z)   (O0 : Old Z n0 h0) (G : Glob Z α β γ δ ε ζ η) (P1 : f1_ Z h0 x0 (.int 0)) (P5 : Exa Z h0 x1 s1) (P6 : f0_ Z h0 x1 (.int 0)) :
    Ctr l Z ⟨s0, "inflateIfNeededFor", "(Ljava/lang/String;)V"⟩ B16 2 none (rM 1 0 0 13) #[.ref x0, .ref x1] h0 (fun v h L => v = none ∧ Fr n0 L ∧ h = h0) := by
 refine Ctr.of (plainFor_of_name pn_c2) ?_
 intro p e s m below meth c T0 hx hZ hby hml hown hnm hret hlk e0 es X0
 have G' := G
 obtain ⟨G0, -, -, -, -, -, -, -, -, -, -, -, G12, -⟩ := G'
 refine Go.cast (ef_16_RR m x0 x1) ?_
 generalize hFF : EndN s _ _ _ = FF
 refine Go.getS X0 hx hZ hown (host := "") (Or.inl (tw_53 hw)) Via.refl e0 (G0.ext O0.2) 3 rfl (hb hby d16_0) ?_
 intro T2 e2 X2
 refine Go.ifNo X2 hx 6 rfl (hb hby d16_3) (feq G12).1 ?_
 refine aN X2 hx 7 rfl hby d16_6 rfl rfl ?_
 refine gF X2 hx hZ hown (tw_56 hw) e2 P1 10 rfl (hb hby d16_7) ?_
 intro T3 e3 X3
 refine aN X3 hx 11 rfl hby d16_10 rfl rfl ?_
 refine Go.callV X3 hx hZ hown (tw_96 hw) (tw_75 hw) (nF (mvT hZ (tw_77 hw))) (tw_77 hw) (tw_76 hw) (by decide) (tw_78 hw) (tw_2 hw) (au_24 hw O0 G P6) e3 P5 (argsL := []) (rest := [.int 0]) 14 rfl (hml ▸ rfl) (lenOf pd_11 rfl) rfl rfl (W := 1) (nE rfl) (by decide) (hb hby d16_11) ?_
 intro v4 T4 L4 q4 X4
 obtain ⟨rfl, N4, e4⟩ := q4
 show Go _ _ _ _ (T4.setTop (mkF m 14 #[vR x0, vR x1] [.int 0, .int 0]))
 refine Go.icmpYes X4 hx 21 (hb hby d16_14) (by decide) (by decide) (by decide) ?_
 subst hFF
 refine Go.ret0 X4 hx hlk hret (hb hby d16_21) (by decide) (by decide) ?_
 rw [e4]
 exact ⟨rfl, (Fr.app (Fr.nil n0) N4), rfl⟩
theorem pd_13 : parseMethodDescriptor "(Ljava/lang/String;)V" = some ⟨[(.object "java/lang/String")], none⟩ := by decide +kernel
theorem d15_2 : DD B15 2 (.invokevirtual 397, 3) := by decide +kernel
theorem d15_5 : DD B15 5 (.aload_n 2, 1) := by decide +kernel
theorem d15_6 : DD B15 6 (.aload_n 0, 1) := by decide +kernel
theorem d15_7 : DD B15 7 (.getfield 15, 3) := by decide +kernel
theorem d15_10 : DD B15 10 (.iload_n 1, 1) := by decide +kernel
theorem d15_11 : DD B15 11 (.aload_n 0, 1) := by decide +kernel
theorem d15_12 : DD B15 12 (.getfield 22, 3) := by decide +kernel
theorem d17_0 : DD B17 0 (.aload_n 0, 1) := by decide +kernel
theorem d17_1 : DD B17 1 (.invokevirtual 335, 3) := by decide +kernel
theorem d17_4 : DD B17 4 (.iload_n 3, 1) := by decide +kernel
theorem d17_5 : DD B17 5 (.if_icmp .ne 23, 3) := by decide +kernel
theorem d17_8 : DD B17 8 (.aload_n 0, 1) := by decide +kernel
theorem d17_9 : DD B17 9 (.getfield 9, 3) := by decide +kernel
theorem d17_12 : DD B17 12 (.iconst 0, 1) := by decide +kernel
theorem d17_13 : DD B17 13 (.aload_n 1, 1) := by decide +kernel
theorem d17_14 : DD B17 14 (.iload_n 2, 1) := by decide +kernel
theorem d17_15 : DD B17 15 (.iload_n 3, 1) := by decide +kernel
theorem d17_16 : DD B17 16 (.ishl, 1) := by decide +kernel
theorem d17_17 : DD B17 17 (.aload_n 0, 1) := by decide +kernel
theorem d17_18 : DD B17 18 (.getfield 9, 3) := by decide +kernel
theorem d17_21 : DD B17 21 (.arraylength, 1) := by decide +kernel
theorem d17_22 : DD B17 22 (.invokestatic 212, 3) := by decide +kernel
theorem d17_25 : DD B17 25 (.goto 18, 3) := by decide +kernel
theorem d17_43 : DD B17 43 (.return_, 1) := by decide +kernel
theorem ef_17_RRII (m : MethodId) (x0 : Addr) (x1 : Addr) (x2 : Int32) (x3 : Int32) : entryFrame m #[(.ref x0), (.ref x1), (.int x2), (.int x3)] 4 = mkF m 0 #[.val (.ref x0), .val (.ref x1), .val (.int x2), .val (.int x3)] [] := by first | (simp [entryFrame, mkF, argsToLocals, Value.category]; done) | rfl
theorem au_28 (hw : HW a0 Z)   (O0 : Old Z n0 h0) (G : Glob Z α β γ δ ε ζ η) (P0 : Exa Z h0 x0 s1) (P1 : f0_ Z h0 x0 (.int 0)) (P2 : f2_ Z h0 x0 (.ref x2)) (P3 : Arv Z h0 x1 kk0 .byte (16 : Int32) LL4 (.int 0)) (P5 : Arv Z h0 x2 kk1 .byte (4 : Int32) [.int 116, .int 104, .int 101, .int 32] (.int (0 : Int32))) (g_x1 : n0 ≤ x1) :
    Ctr l Z ⟨s1, "getBytes", "([BIB)V"⟩ B17 4 none (rM 1 0 0 18) #[.ref x0, .ref x1, .int 0, .int 0] h0 (fun v h L => v = none ∧ Fr n0 L ∧ Keep h0 h [x1] ∧ Arv Z h x1 kk0 .byte (16 : Int32) LL2 (.int 0)) := by
 refine Ctr.of (plainFor_of_name pn_c1) fun p e s m below meth c T0 hx hZ hby hml hown hnm hret hlk e0 es X0 => Go.cast (ef_17_RRII m x0 x1 (0 : Int32) (0 : Int32)) ?_
 generalize hFF : EndN s _ _ _ = FF
 refine aN X0 hx 1 rfl hby d17_0 rfl rfl ?_
 refine Go.callV X0 hx hZ hown (tw_74 hw) (tw_75 hw) (nF (mvT hZ (tw_77 hw))) (tw_77 hw) (tw_76 hw) (by decide) (tw_78 hw) (tw_2 hw) (au_24 hw O0 G P1) e0 P0 (argsL := []) (rest := []) 4 rfl (hml ▸ rfl) (lenOf pd_11 rfl) rfl rfl (W := 0) (nE rfl) (by decide) (hb hby d17_1) ?_
 intro v1 T1 L1 q1 X1
 obtain ⟨rfl, N1, e1⟩ := q1
 show Go _ _ _ _ (T1.setTop (mkF m 4 #[vR x0, vR x1, vI 0, vI 0] [.int 0]))
 refine iN X1 hx 5 rfl hby d17_4 rfl ?_
 refine Go.icmpNo X1 hx 8 rfl (hb hby d17_5) (by decide) ?_
 refine aN X1 hx 9 rfl hby d17_8 rfl rfl ?_
 refine gF X1 hx hZ hown (tw_28 hw) e1 P2 12 rfl (hb hby d17_9) ?_
 intro T2 e2 X2
 refine Go.iconst X2 hx 13 rfl (hb hby d17_12) (v := (0 : Int32)) rfl ?_
 refine aN X2 hx 14 rfl hby d17_13 rfl rfl ?_
 refine iN X2 hx 15 rfl hby d17_14 rfl ?_
 refine iN X2 hx 16 rfl hby d17_15 rfl ?_
 refine Go.ishl X2 hx 17 rfl (hb hby d17_16) ?_
 rw [show ((0 : Int32) <<< ((0 : Int32) &&& 31)) = (0 : Int32) from by decide]
 refine aN X2 hx 18 rfl hby d17_17 rfl rfl ?_
 refine gF X2 hx hZ hown (tw_28 hw) e2 P2 21 rfl (hb hby d17_18) ?_
 intro T3 e3 X3
 refine Go.arraylength X3 hx hZ e3 P5 22 rfl (hb hby d17_21) ?_
 refine Go.arraycopy X3 hx hZ hown (tw_102 hw) (tw_105 hw) (tw_103 hw) (tw_104 hw) e3 P5 P3 rfl (sp := (0 : Int32)) (dp := (0 : Int32)) (nn := (4 : Int32)) (us := [.int 116, .int 104, .int 101, .int 32]) (by decide) (by decide) (by decide) (by decide) (by decide) rfl (nB rfl) (Fr.app (Fr.nil n0) N1) g_x1 (by decide) (W := 0) (hml ▸ rfl) (nE rfl) (by decide) (pc' := 25) rfl (hb hby d17_22) ?_
 intro T4 h4 L4 e4 N4 K4 V4 X4
 have V4' : Arv Z h4 x1 kk0 .byte (16 : Int32) LL2 (.int 0) := V4
 refine Go.goto X4 hx 43 (hb hby d17_25) (by decide) (by decide) ?_
 subst hFF
 refine Go.ret0 X4 hx hlk hret (hb hby d17_43) (by decide) (by decide) ?_
 rw [e4]
 exact ⟨rfl, N4, ((Keep.refl h0 [x1]).trans K4 (allS (Or.inl (mG 0 rfl)) all0)), V4'⟩
theorem pd_14 : parseMethodDescriptor "([BIB)V" = some ⟨[(.array .byte), .int, .byte], none⟩ := by decide +kernel
theorem d15_15 : DD B15 15 (.invokevirtual 399, 3) := by decide +kernel
theorem d15_18 : DD B15 18 (.return_, 1) := by decide +kernel
theorem ef_15_RIR (m : MethodId) (x0 : Addr) (x1 : Int32) (x2 : Addr) : entryFrame m #[(.ref x0), (.int x1), (.ref x2)] 3 = mkF m 0 #[.val (.ref x0), .val (.int x1), .val (.ref x2)] [] := by first | (simp [entryFrame, mkF, argsToLocals, Value.category]; done) | rfl
theorem au_26 (hw : HW a0 Z)   (O0 : Old Z n0 h0) (G : Glob Z α β γ δ ε ζ η) (P0 : Exa Z h0 x0 s3) (P1 : f1_ Z h0 x0 (.int 0)) (P4 : f3_ Z h0 x0 (.ref x2)) (P5 : Exa Z h0 x1 s1) (P6 : f0_ Z h0 x1 (.int 0)) (P7 : f2_ Z h0 x1 (.ref x3)) (P8 : Arv Z h0 x2 kk0 .byte (16 : Int32) LL4 (.int 0)) (P10 : Arv Z h0 x3 kk1 .byte (4 : Int32) [.int 116, .int 104, .int 101, .int 32] (.int (0 : Int32))) (g_x2 : n0 ≤ x2) :
    Ctr l Z ⟨s0, "putStringAt", "(ILjava/lang/String;)V"⟩ B15 3 none (rM 2 0 0 33) #[.ref x0, .int 0, .ref x1] h0 (fun v h L => v = none ∧ Fr n0 L ∧ Keep h0 h [x2] ∧ Arv Z h x2 kk0 .byte (16 : Int32) LL2 (.int 0)) := by
 refine Ctr.of (plainFor_of_name pn_c2) fun p e s m below meth c T0 hx hZ hby hml hown hnm hret hlk e0 es X0 => Go.cast (ef_15_RIR m x0 (0 : Int32) x1) ?_
 generalize hFF : EndN s _ _ _ = FF
 refine aN X0 hx 1 rfl hby d15_0 rfl rfl ?_
 refine aN X0 hx 2 rfl hby d15_1 rfl rfl ?_
 refine Go.callP X0 hx hZ hown (tw_91 hw) (tw_92 hw) (tw_94 hw) (tw_93 hw) (tw_95 hw) (by decide) (tw_95 hw) (tw_50 hw) (au_27 hw O0 G P1 P5 P6) e0 P0 (argsL := [.ref x1]) (rest := []) 5 rfl (hml ▸ rfl) (lenOf pd_13 rfl) rfl rfl (W := 0) (nE rfl) (by decide) (hb hby d15_2) ?_
 intro v1 T1 L1 q1 X1
 obtain ⟨rfl, N1, e1⟩ := q1
 refine aN X1 hx 6 rfl hby d15_5 rfl rfl ?_
 refine aN X1 hx 7 rfl hby d15_6 rfl rfl ?_
 refine gF X1 hx hZ hown (tw_54 hw) e1 P4 10 rfl (hb hby d15_7) ?_
 intro T2 e2 X2
 refine iN X2 hx 11 rfl hby d15_10 rfl ?_
 refine aN X2 hx 12 rfl hby d15_11 rfl rfl ?_
 refine gF X2 hx hZ hown (tw_56 hw) e2 P1 15 rfl (hb hby d15_12) ?_
 intro T3 e3 X3
 refine Go.callV X3 hx hZ hown (tw_97 hw) (tw_98 hw) (nF (mvT hZ (tw_100 hw))) (tw_100 hw) (tw_99 hw) (by decide) (tw_101 hw) (tw_2 hw) (au_28 hw O0 G P5 P6 P7 P8 P10 g_x2) e3 P5 (argsL := [.ref x2, .int 0, .int 0]) (rest := []) 18 rfl (hml ▸ rfl) (lenOf pd_14 rfl) rfl rfl (W := 0) (nE rfl) (by decide) (hb hby d15_15) ?_
 intro v4 T4 L4 q4 X4
 obtain ⟨h4, e4⟩ := hpz T4
 rw [e4] at q4
 obtain ⟨rfl, N4, K4, F4_0⟩ := q4
 subst hFF
 refine Go.ret0 X4 hx hlk hret (hb hby d15_18) (by decide) (by decide) ?_
 rw [e4]
 exact ⟨rfl, (Fr.app (Fr.app (Fr.nil n0) N1) N4), ((Keep.refl h0 [x2]).trans K4 (allS (Or.inl (mG 0 rfl)) all0)), F4_0⟩
theorem pd_15 : parseMethodDescriptor "(ILjava/lang/String;)V" = some ⟨[.int, (.object "java/lang/String")], none⟩ := by decide +kernel
theorem d11_30 : DD B11 30 (.invokevirtual 208, 3) := by decide +kernel
theorem d11_33 : DD B11 33 (.aload_n 0, 1) := by decide +kernel
theorem d11_34 : DD B11 34 (.dup, 1) := by decide +kernel
theorem d11_35 : DD B11 35 (.getfield 79, 3) := by decide +kernel
theorem d11_38 : DD B11 38 (.iload_n 2, 1) := by decide +kernel
theorem d11_39 : DD B11 39 (.iadd, 1) := by decide +kernel
theorem d11_40 : DD B11 40 (.putfield 79, 3) := by decide +kernel
theorem d11_43 : DD B11 43 (.aload_n 0, 1) := by decide +kernel
theorem d11_44 : DD B11 44 (.areturn, 1) := by decide +kernel
theorem ef_11_RR (m : MethodId) (x0 : Addr) (x1 : Addr) : entryFrame m #[(.ref x0), (.ref x1)] 3 = mkF m 0 #[.val (.ref x0), .val (.ref x1), .unset] [] := by first | (simp [entryFrame, mkF, argsToLocals, Value.category]; done) | rfl
theorem au_22 (hw : HW a0 Z)   (O0 : Old Z n0 h0) (G : Glob Z α β γ δ ε ζ η) (P0 : Exa Z h0 x0 s3) (P1 : f1_ Z h0 x0 (.int 0)) (P2 : f4_ Z h0 x0 (.int 0)) (P3 : f5_ Z h0 x0 (.int 0)) (P4 : f3_ Z h0 x0 (.ref x2)) (P5 : Exa Z h0 x1 s1) (P6 : f0_ Z h0 x1 (.int 0)) (P7 : f2_ Z h0 x1 (.ref x3)) (P8 : Arv Z h0 x2 kk0 .byte (16 : Int32) LL4 (.int 0)) (P10 : Arv Z h0 x3 kk1 .byte (4 : Int32) [.int 116, .int 104, .int 101, .int 32] (.int (0 : Int32))) (g_x2 : n0 ≤ x2) (g_x0 : n0 ≤ x0) (ne_x0_x2 : x0 ≠ x2) :
    Ctr l Z ⟨s0, "append", s11⟩ B11 3 (some (.object s0)) (rM 3 0 0 47) #[.ref x0, .ref x1] h0 (fun v h L => v = some (.ref x0) ∧ Fr n0 L ∧ Keep h0 h [x0, x2] ∧ f1_ Z h x0 (.int 0) ∧ f4_ Z h x0 (.int 4) ∧ f5_ Z h x0 (.int 0) ∧ f3_ Z h x0 (.ref x2) ∧ Arv Z h x2 kk0 .byte (16 : Int32) LL2 (.int 0)) := by
 refine Ctr.of (plainFor_of_name pn_c2) fun p e s m below meth c T0 hx hZ hby hml hown hnm hret hlk e0 es X0 => Go.cast (ef_11_RR m x0 x1) ?_
 generalize hFF : EndN s _ _ _ = FF
 refine aN X0 hx 1 rfl hby d11_0 rfl rfl ?_
 refine Go.ifnonnullYes X0 hx 9 (hb hby d11_1) (by decide) (by decide) ?_
 refine aN X0 hx 10 rfl hby d11_9 rfl rfl ?_
 refine Go.callV X0 hx hZ hown (tw_69 hw) (tw_70 hw) (nF (mvT hZ (tw_72 hw))) (tw_72 hw) (tw_71 hw) (by decide) (tw_73 hw) (tw_2 hw) (au_23 hw O0 G P5 P6 P7 P10) e0 P5 (argsL := []) (rest := []) 13 rfl (hml ▸ rfl) (lenOf pd_12 rfl) rfl rfl (W := 0) (nE rfl) (by decide) (hb hby d11_10) ?_
 intro v1 T1 L1 q1 X1
 obtain ⟨rfl, N1, e1⟩ := q1
 show Go _ _ _ _ (T1.setTop (mkF m 13 #[vR x0, vR x1, uS] [.int 4]))
 refine Go.istoreN X1 hx 14 rfl (hb hby d11_13) (Ls' := #[vR x0, vR x1, vI 4]) rfl ?_
 refine aN X1 hx 15 rfl hby d11_14 rfl rfl ?_
 refine aN X1 hx 16 rfl hby d11_15 rfl rfl ?_
 refine gF X1 hx hZ hown (tw_79 hw) e1 P2 19 rfl (hb hby d11_16) ?_
 intro T2 e2 X2
 refine iN X2 hx 20 rfl hby d11_19 rfl ?_
 refine Go.iadd X2 hx 21 rfl (hb hby d11_20) ?_
 rw [show ((0 : Int32) + (4 : Int32)) = (4 : Int32) from by decide]
 refine Go.callP X2 hx hZ hown (tw_81 hw) (tw_82 hw) (tw_84 hw) (tw_83 hw) (tw_85 hw) (by decide) (tw_85 hw) (tw_50 hw) (au_25 hw O0.z P1 P4 P8) e2 P0 (argsL := [.int 4]) (rest := []) 24 rfl (hml ▸ rfl) (lenOf pd_9 rfl) rfl rfl (W := 0) (nE rfl) (by decide) (hb hby d11_21) ?_
 intro v3 T3 L3 q3 X3
 obtain ⟨rfl, N3, e3⟩ := q3
 refine aN X3 hx 25 rfl hby d11_24 rfl rfl ?_
 refine aN X3 hx 26 rfl hby d11_25 rfl rfl ?_
 refine gF X3 hx hZ hown (tw_79 hw) e3 P2 29 rfl (hb hby d11_26) ?_
 intro T4 e4 X4
 refine aN X4 hx 30 rfl hby d11_29 rfl rfl ?_
 refine Go.callP X4 hx hZ hown (tw_86 hw) (tw_87 hw) (tw_89 hw) (tw_88 hw) (tw_90 hw) (by decide) (tw_90 hw) (tw_50 hw) (au_26 hw O0 G P0 P1 P4 P5 P6 P7 P8 P10 g_x2) e4 P0 (argsL := [.int 0, .ref x1]) (rest := []) 33 rfl (hml ▸ rfl) (lenOf pd_15 rfl) rfl rfl (W := 0) (nE rfl) (by decide) (hb hby d11_30) ?_
 intro v5 T5 L5 q5 X5
 obtain ⟨h5, e5⟩ := hpz T5
 rw [e5] at q5
 obtain ⟨rfl, N5, K5, F5_0⟩ := q5
 refine aN X5 hx 34 rfl hby d11_33 rfl rfl ?_
 refine Go.dup X5 hx 35 rfl (hb hby d11_34) rfl ?_
 have fk6 := (P2.keep K5 (ninS ne_x0_x2 nin0))
 refine gF X5 hx hZ hown (tw_79 hw) e5 fk6 38 rfl (hb hby d11_35) ?_
 intro T7 e7 X7
 refine iN X7 hx 39 rfl hby d11_38 rfl ?_
 refine Go.iadd X7 hx 40 rfl (hb hby d11_39) ?_
 rw [show ((0 : Int32) + (4 : Int32)) = (4 : Int32) from by decide]
 refine Go.putF X7 hx hZ hown (host := "") (Or.inl (tw_79 hw)) Via.refl e7 fk6 (P0.keep K5) (Or.inl (tw_80 hw)) (tw_41 hw) (ty := .int) (by decide) rfl rfl 43 rfl (hb hby d11_40) ?_
 intro T9 h9 e9 W9 F9 X9
 have N9 := Fr.snoc X9 (Fr.app (Fr.app (Fr.app (Fr.nil n0) N1) N3) N5) g_x0
 refine aN X9 hx 44 rfl hby d11_43 rfl rfl ?_
 subst hFF
 refine Go.retR X9 hx hlk (t := (.object s0)) hret rfl rfl (hb hby d11_44) (by decide) (by decide) ?_
 rw [e9]
 exact ⟨rfl, N9, (((Keep.refl h0 [x0, x2]).trans K5 (allS (Or.inl (mG 1 rfl)) all0)).wr W9 (Or.inl (mG 0 rfl))), ((P1.keep K5 (ninS ne_x0_x2 nin0)).other W9 (Or.inr (slot_ne (Or.inl (tw_57 hw)) (Or.inl (tw_80 hw)) (by decide) (t := .byte) (t' := .int) (by decide) (by decide)))), F9, ((P3.keep K5 (ninS ne_x0_x2 nin0)).other W9 (Or.inr (slot_ne (Or.inl (tw_293 hw)) (Or.inl (tw_80 hw)) (by decide) (t := .boolean) (t' := .int) (by decide) (by decide)))), ((P4.keep K5 (ninS ne_x0_x2 nin0)).other W9 (Or.inr (slot_ne (Or.inl (tw_55 hw)) (Or.inl (tw_80 hw)) (by decide) (t := (.array .byte)) (t' := .int) (by decide) (by decide)))), (F5_0.other W9 (Ne.symm ne_x0_x2))⟩
theorem pd_16 : parseMethodDescriptor "(Ljava/lang/String;)Ljava/lang/AbstractStringBuilder;" = some ⟨[(.object "java/lang/String")], some (.object "java/lang/AbstractStringBuilder")⟩ := by decide +kernel
theorem d10_2 : DD B10 2 (.invokespecial 29, 3) := by decide +kernel
theorem d10_5 : DD B10 5 (.pop, 1) := by decide +kernel
theorem d10_6 : DD B10 6 (.aload_n 0, 1) := by decide +kernel
theorem d10_7 : DD B10 7 (.areturn, 1) := by decide +kernel
theorem ef_10_RR (m : MethodId) (x0 : Addr) (x1 : Addr) : entryFrame m #[(.ref x0), (.ref x1)] 2 = mkF m 0 #[.val (.ref x0), .val (.ref x1)] [] := by first | (simp [entryFrame, mkF, argsToLocals, Value.category]; done) | rfl
theorem au_21 (hw : HW a0 Z)   (O0 : Old Z n0 h0) (G : Glob Z α β γ δ ε ζ η) (P0 : Exa Z h0 x0 s3) (P1 : f1_ Z h0 x0 (.int 0)) (P2 : f4_ Z h0 x0 (.int 0)) (P3 : f5_ Z h0 x0 (.int 0)) (P4 : f3_ Z h0 x0 (.ref x2)) (P5 : Exa Z h0 x1 s1) (P6 : f0_ Z h0 x1 (.int 0)) (P7 : f2_ Z h0 x1 (.ref x3)) (P8 : Arv Z h0 x2 kk0 .byte (16 : Int32) LL4 (.int 0)) (P10 : Arv Z h0 x3 kk1 .byte (4 : Int32) [.int 116, .int 104, .int 101, .int 32] (.int (0 : Int32))) (g_x2 : n0 ≤ x2) (g_x0 : n0 ≤ x0) (ne_x0_x2 : x0 ≠ x2) :
    Ctr l Z ⟨s3, "append", s10⟩ B10 2 (some (.object s3)) (rM 4 0 0 61) #[.ref x0, .ref x1] h0 (fun v h L => v = some (.ref x0) ∧ Fr n0 L ∧ Keep h0 h [x0, x2] ∧ f1_ Z h x0 (.int 0) ∧ f4_ Z h x0 (.int 4) ∧ f5_ Z h x0 (.int 0) ∧ f3_ Z h x0 (.ref x2) ∧ Arv Z h x2 kk0 .byte (16 : Int32) LL2 (.int 0)) := by
 refine Ctr.of (plainFor_of_name pn_c3) fun p e s m below meth c T0 hx hZ hby hml hown hnm hret hlk e0 es X0 => Go.cast (ef_10_RR m x0 x1) ?_
 generalize hFF : EndN s _ _ _ = FF
 refine aN X0 hx 1 rfl hby d10_0 rfl rfl ?_
 refine aN X0 hx 2 rfl hby d10_1 rfl rfl ?_
 refine Go.callUp X0 hx hZ hown (tw_64 hw) (own_sameself (tw_84 hw) rfl (tw_65 hw) (by decide)) (tw_65 hw) (tw_66 hw) (by decide) (tw_68 hw) (tw_68 hw) (tw_50 hw) (au_22 hw O0 G P0 P1 P2 P3 P4 P5 P6 P7 P8 P10 g_x2 g_x0 ne_x0_x2) e0 P0 (argsL := [.ref x1]) (rest := []) 5 rfl (hml ▸ rfl) (lenOf pd_16 rfl) rfl rfl (W := 0) (nE rfl) (by decide) (hb hby d10_2) ?_
 intro v1 T1 L1 q1 X1
 obtain ⟨h1, e1⟩ := hpz T1
 rw [e1] at q1
 obtain ⟨rfl, N1, K1, F1_0, F1_1, F1_2, F1_3, F1_4⟩ := q1
 show Go _ _ _ _ (T1.setTop (mkF m 5 #[vR x0, vR x1] [.ref x0]))
 refine Go.pop X1 hx 6 rfl (hb hby d10_5) rfl ?_
 refine aN X1 hx 7 rfl hby d10_6 rfl rfl ?_
 subst hFF
 refine Go.retR X1 hx hlk (t := (.object s3)) hret rfl rfl (hb hby d10_7) (by decide) (by decide) ?_
 rw [e1]
 exact ⟨rfl, (Fr.app (Fr.nil n0) N1), ((Keep.refl h0 [x0, x2]).trans K1 (allS (Or.inl (mG 0 rfl)) (allS (Or.inl (mG 1 rfl)) all0))), F1_0, F1_1, F1_2, F1_3, F1_4⟩
theorem pd_17 : parseMethodDescriptor "(Ljava/lang/String;)Ljava/lang/StringBuilder;" = some ⟨[(.object "java/lang/String")], some (.object "java/lang/StringBuilder")⟩ := by decide +kernel
theorem d7_15 : DD B7 15 (.invokevirtual 54, 3) := by decide +kernel
theorem d7_18 : DD B7 18 (.aload_n 0, 1) := by decide +kernel
theorem au_31 (hw : HW a0 Z)   (O0 : Old Z n0 h0) (G : Glob Z α β γ δ ε ζ η) (P0 : Exa Z h0 x0 s1) (P1 : f0_ Z h0 x0 (.int 0)) (P2 : f2_ Z h0 x0 (.ref x1)) (P3 : Arv Z h0 x1 kk0 .byte (2 : Int32) ls0 (.int 0)) :
    Ctr l Z ⟨s1, "length", "()I"⟩ B12 1 (some .int) (rM 1 0 0 13) #[.ref x0] h0 (fun v h L => v = some (.int 2) ∧ Fr n0 L ∧ h = h0) := by
 refine Ctr.of (plainFor_of_name pn_c1) fun p e s m below meth c T0 hx hZ hby hml hown hnm hret hlk e0 es X0 => Go.cast (ef_12_R m x0) ?_
 generalize hFF : EndN s _ _ _ = FF
 refine aN X0 hx 1 rfl hby d12_0 rfl rfl ?_
 refine gF X0 hx hZ hown (tw_28 hw) e0 P2 4 rfl (hb hby d12_1) ?_
 intro T1 e1 X1
 refine Go.arraylength X1 hx hZ e1 P3 5 rfl (hb hby d12_4) ?_
 refine aN X1 hx 6 rfl hby d12_5 rfl rfl ?_
 refine Go.callV X1 hx hZ hown (tw_74 hw) (tw_75 hw) (nF (mvT hZ (tw_77 hw))) (tw_77 hw) (tw_76 hw) (by decide) (tw_78 hw) (tw_2 hw) (au_24 hw O0 G P1) e1 P0 (argsL := []) (rest := [.int 2]) 9 rfl (hml ▸ rfl) (lenOf pd_11 rfl) rfl rfl (W := 1) (nE rfl) (by decide) (hb hby d12_6) ?_
 intro v2 T2 L2 q2 X2
 obtain ⟨rfl, N2, e2⟩ := q2
 show Go _ _ _ _ (T2.setTop (mkF m 9 #[vR x0] [.int 0, .int 2]))
 refine Go.ishr X2 hx 10 rfl (hb hby d12_9) ?_
 rw [show ((2 : Int32) >>> ((0 : Int32) &&& 31)) = (2 : Int32) from by decide]
 subst hFF
 refine Go.retI X2 hx hlk hret (hb hby d12_10) (by decide) (by decide) ?_
 rw [e2]
 exact ⟨rfl, (Fr.app (Fr.nil n0) N2), rfl⟩
theorem au_32 (hw : HW a0 Z)  (Z0 : n0 ≤ h0.size) (P1 : f1_ Z h0 x0 (.int 0)) (P4 : f3_ Z h0 x0 (.ref x1)) (P5 : Arv Z h0 x1 kk0 .byte (16 : Int32) ls0 (.int 0)) :
    Ctr l Z ⟨s0, "ensureCapacityInternal", "(I)V"⟩ B14 3 none (rM 0 0 0 0) #[.ref x0, .int 6] h0 (fun v h L => v = none ∧ Fr n0 L ∧ h = h0) := by
 refine Ctr.of (plainFor_of_name pn_c2) fun p e s m below meth c T0 hx hZ hby hml hown hnm hret hlk e0 es X0 => Go.cast (ef_14_RI m x0 (6 : Int32)) ?_
 generalize hFF : EndN s _ _ _ = FF
 refine aN X0 hx 1 rfl hby d14_0 rfl rfl ?_
 refine gF X0 hx hZ hown (tw_54 hw) e0 P4 4 rfl (hb hby d14_1) ?_
 intro T1 e1 X1
 refine Go.arraylength X1 hx hZ e1 P5 5 rfl (hb hby d14_4) ?_
 refine aN X1 hx 6 rfl hby d14_5 rfl rfl ?_
 refine gF X1 hx hZ hown (tw_56 hw) e1 P1 9 rfl (hb hby d14_6) ?_
 intro T2 e2 X2
 refine Go.ishr X2 hx 10 rfl (hb hby d14_9) ?_
 rw [show ((16 : Int32) >>> ((0 : Int32) &&& 31)) = (16 : Int32) from by decide]
 refine Go.istoreN X2 hx 11 rfl (hb hby d14_10) (Ls' := #[vR x0, vI 6, vI 16]) rfl ?_
 refine iN X2 hx 12 rfl hby d14_11 rfl ?_
 refine iN X2 hx 13 rfl hby d14_12 rfl ?_
 refine Go.isub X2 hx 14 rfl (hb hby d14_13) ?_
 rw [show ((6 : Int32) - (16 : Int32)) = (-10 : Int32) from by decide]
 refine Go.ifYes X2 hx 38 (hb hby d14_14) (by decide) (by decide) (by decide) ?_
 subst hFF
 refine Go.ret0 X2 hx hlk hret (hb hby d14_38) (by decide) (by decide) ?_
 rw [e2]
 exact ⟨rfl, (Fr.nil n0), rfl⟩
theorem au_34 (hw : HW a0 Z)   (O0 : Old Z n0 h0) (G : Glob Z α β γ δ ε ζ η) (P1 : f1_ Z h0 x0 (.int 0)) (P5 : Exa Z h0 x1 s1) (P6 : f0_ Z h0 x1 (.int 0)) :
    Ctr l Z ⟨s0, "inflateIfNeededFor", "(Ljava/lang/String;)V"⟩ B16 2 none (rM 1 0 0 13) #[.ref x0, .ref x1] h0 (fun v h L => v = none ∧ Fr n0 L ∧ h = h0) := by
 refine Ctr.of (plainFor_of_name pn_c2) ?_
 intro p e s m below meth c T0 hx hZ hby hml hown hnm hret hlk e0 es X0
 have G' := G
 obtain ⟨G0, -, -, -, -, -, -, -, -, -, -, -, G12, -⟩ := G'
 refine Go.cast (ef_16_RR m x0 x1) ?_
 generalize hFF : EndN s _ _ _ = FF
 refine Go.getS X0 hx hZ hown (host := "") (Or.inl (tw_53 hw)) Via.refl e0 (G0.ext O0.2) 3 rfl (hb hby d16_0) ?_
 intro T2 e2 X2
 refine Go.ifNo X2 hx 6 rfl (hb hby d16_3) (feq G12).1 ?_
 refine aN X2 hx 7 rfl hby d16_6 rfl rfl ?_
 refine gF X2 hx hZ hown (tw_56 hw) e2 P1 10 rfl (hb hby d16_7) ?_
 intro T3 e3 X3
 refine aN X3 hx 11 rfl hby d16_10 rfl rfl ?_
 refine Go.callV X3 hx hZ hown (tw_96 hw) (tw_75 hw) (nF (mvT hZ (tw_77 hw))) (tw_77 hw) (tw_76 hw) (by decide) (tw_78 hw) (tw_2 hw) (au_24 hw O0 G P6) e3 P5 (argsL := []) (rest := [.int 0]) 14 rfl (hml ▸ rfl) (lenOf pd_11 rfl) rfl rfl (W := 1) (nE rfl) (by decide) (hb hby d16_11) ?_
 intro v4 T4 L4 q4 X4
 obtain ⟨rfl, N4, e4⟩ := q4
 show Go _ _ _ _ (T4.setTop (mkF m 14 #[vR x0, vR x1] [.int 0, .int 0]))
 refine Go.icmpYes X4 hx 21 (hb hby d16_14) (by decide) (by decide) (by decide) ?_
 subst hFF
 refine Go.ret0 X4 hx hlk hret (hb hby d16_21) (by decide) (by decide) ?_
 rw [e4]
 exact ⟨rfl, (Fr.app (Fr.nil n0) N4), rfl⟩
theorem au_35 (hw : HW a0 Z)   (O0 : Old Z n0 h0) (G : Glob Z α β γ δ ε ζ η) (P0 : Exa Z h0 x0 s1) (P1 : f0_ Z h0 x0 (.int 0)) (P2 : f2_ Z h0 x0 (.ref x2)) (P3 : Arv Z h0 x1 kk0 .byte (16 : Int32) LL2 (.int 0)) (P5 : Arv Z h0 x2 kk1 .byte (2 : Int32) [.int p0, .int p1] (.int 0)) (g_x1 : n0 ≤ x1) :
    Ctr l Z ⟨s1, "getBytes", "([BIB)V"⟩ B17 4 none (rM 1 0 0 18) #[.ref x0, .ref x1, .int 4, .int 0] h0 (fun v h L => v = none ∧ Fr n0 L ∧ Keep h0 h [x1] ∧ Arv Z h x1 kk0 .byte (16 : Int32) (LL8 p0 p1) (.int 0)) := by
 refine Ctr.of (plainFor_of_name pn_c1) fun p e s m below meth c T0 hx hZ hby hml hown hnm hret hlk e0 es X0 => Go.cast (ef_17_RRII m x0 x1 (4 : Int32) (0 : Int32)) ?_
 generalize hFF : EndN s _ _ _ = FF
 refine aN X0 hx 1 rfl hby d17_0 rfl rfl ?_
 refine Go.callV X0 hx hZ hown (tw_74 hw) (tw_75 hw) (nF (mvT hZ (tw_77 hw))) (tw_77 hw) (tw_76 hw) (by decide) (tw_78 hw) (tw_2 hw) (au_24 hw O0 G P1) e0 P0 (argsL := []) (rest := []) 4 rfl (hml ▸ rfl) (lenOf pd_11 rfl) rfl rfl (W := 0) (nE rfl) (by decide) (hb hby d17_1) ?_
 intro v1 T1 L1 q1 X1
 obtain ⟨rfl, N1, e1⟩ := q1
 show Go _ _ _ _ (T1.setTop (mkF m 4 #[vR x0, vR x1, vI 4, vI 0] [.int 0]))
 refine iN X1 hx 5 rfl hby d17_4 rfl ?_
 refine Go.icmpNo X1 hx 8 rfl (hb hby d17_5) (by decide) ?_
 refine aN X1 hx 9 rfl hby d17_8 rfl rfl ?_
 refine gF X1 hx hZ hown (tw_28 hw) e1 P2 12 rfl (hb hby d17_9) ?_
 intro T2 e2 X2
 refine Go.iconst X2 hx 13 rfl (hb hby d17_12) (v := (0 : Int32)) rfl ?_
 refine aN X2 hx 14 rfl hby d17_13 rfl rfl ?_
 refine iN X2 hx 15 rfl hby d17_14 rfl ?_
 refine iN X2 hx 16 rfl hby d17_15 rfl ?_
 refine Go.ishl X2 hx 17 rfl (hb hby d17_16) ?_
 rw [show ((4 : Int32) <<< ((0 : Int32) &&& 31)) = (4 : Int32) from by decide]
 refine aN X2 hx 18 rfl hby d17_17 rfl rfl ?_
 refine gF X2 hx hZ hown (tw_28 hw) e2 P2 21 rfl (hb hby d17_18) ?_
 intro T3 e3 X3
 refine Go.arraylength X3 hx hZ e3 P5 22 rfl (hb hby d17_21) ?_
 refine Go.arraycopy X3 hx hZ hown (tw_102 hw) (tw_105 hw) (tw_103 hw) (tw_104 hw) e3 P5 P3 rfl (sp := (0 : Int32)) (dp := (4 : Int32)) (nn := (2 : Int32)) (us := [.int p0, .int p1]) (by decide) (by decide) (by decide) (by decide) (by decide) rfl (nB rfl) (Fr.app (Fr.nil n0) N1) g_x1 (by decide) (W := 0) (hml ▸ rfl) (nE rfl) (by decide) (pc' := 25) rfl (hb hby d17_22) ?_
 intro T4 h4 L4 e4 N4 K4 V4 X4
 have V4' : Arv Z h4 x1 kk0 .byte (16 : Int32) (LL8 p0 p1) (.int 0) := V4
 refine Go.goto X4 hx 43 (hb hby d17_25) (by decide) (by decide) ?_
 subst hFF
 refine Go.ret0 X4 hx hlk hret (hb hby d17_43) (by decide) (by decide) ?_
 rw [e4]
 exact ⟨rfl, N4, ((Keep.refl h0 [x1]).trans K4 (allS (Or.inl (mG 0 rfl)) all0)), V4'⟩
theorem au_33 (hw : HW a0 Z)   (O0 : Old Z n0 h0) (G : Glob Z α β γ δ ε ζ η) (P0 : Exa Z h0 x0 s3) (P1 : f1_ Z h0 x0 (.int 0)) (P4 : f3_ Z h0 x0 (.ref x2)) (P5 : Exa Z h0 x1 s1) (P6 : f0_ Z h0 x1 (.int 0)) (P7 : f2_ Z h0 x1 (.ref x3)) (P8 : Arv Z h0 x2 kk0 .byte (16 : Int32) LL2 (.int 0)) (P10 : Arv Z h0 x3 kk1 .byte (2 : Int32) [.int p0, .int p1] (.int 0)) (g_x2 : n0 ≤ x2) :
    Ctr l Z ⟨s0, "putStringAt", "(ILjava/lang/String;)V"⟩ B15 3 none (rM 2 0 0 33) #[.ref x0, .int 4, .ref x1] h0 (fun v h L => v = none ∧ Fr n0 L ∧ Keep h0 h [x2] ∧ Arv Z h x2 kk0 .byte (16 : Int32) (LL8 p0 p1) (.int 0)) := by
 refine Ctr.of (plainFor_of_name pn_c2) fun p e s m below meth c T0 hx hZ hby hml hown hnm hret hlk e0 es X0 => Go.cast (ef_15_RIR m x0 (4 : Int32) x1) ?_
 generalize hFF : EndN s _ _ _ = FF
 refine aN X0 hx 1 rfl hby d15_0 rfl rfl ?_
 refine aN X0 hx 2 rfl hby d15_1 rfl rfl ?_
 refine Go.callP X0 hx hZ hown (tw_91 hw) (tw_92 hw) (tw_94 hw) (tw_93 hw) (tw_95 hw) (by decide) (tw_95 hw) (tw_50 hw) (au_34 hw O0 G P1 P5 P6) e0 P0 (argsL := [.ref x1]) (rest := []) 5 rfl (hml ▸ rfl) (lenOf pd_13 rfl) rfl rfl (W := 0) (nE rfl) (by decide) (hb hby d15_2) ?_
 intro v1 T1 L1 q1 X1
 obtain ⟨rfl, N1, e1⟩ := q1
 refine aN X1 hx 6 rfl hby d15_5 rfl rfl ?_
 refine aN X1 hx 7 rfl hby d15_6 rfl rfl ?_
 refine gF X1 hx hZ hown (tw_54 hw) e1 P4 10 rfl (hb hby d15_7) ?_
 intro T2 e2 X2
 refine iN X2 hx 11 rfl hby d15_10 rfl ?_
 refine aN X2 hx 12 rfl hby d15_11 rfl rfl ?_
 refine gF X2 hx hZ hown (tw_56 hw) e2 P1 15 rfl (hb hby d15_12) ?_
 intro T3 e3 X3
 refine Go.callV X3 hx hZ hown (tw_97 hw) (tw_98 hw) (nF (mvT hZ (tw_100 hw))) (tw_100 hw) (tw_99 hw) (by decide) (tw_101 hw) (tw_2 hw) (au_35 hw O0 G P5 P6 P7 P8 P10 g_x2) e3 P5 (argsL := [.ref x2, .int 4, .int 0]) (rest := []) 18 rfl (hml ▸ rfl) (lenOf pd_14 rfl) rfl rfl (W := 0) (nE rfl) (by decide) (hb hby d15_15) ?_
 intro v4 T4 L4 q4 X4
 obtain ⟨h4, e4⟩ := hpz T4
 rw [e4] at q4
 obtain ⟨rfl, N4, K4, F4_0⟩ := q4
 subst hFF
 refine Go.ret0 X4 hx hlk hret (hb hby d15_18) (by decide) (by decide) ?_
 rw [e4]
 exact ⟨rfl, (Fr.app (Fr.app (Fr.nil n0) N1) N4), ((Keep.refl h0 [x2]).trans K4 (allS (Or.inl (mG 0 rfl)) all0)), F4_0⟩
theorem au_30 (hw : HW a0 Z)   (O0 : Old Z n0 h0) (G : Glob Z α β γ δ ε ζ η) (P0 : Exa Z h0 x0 s3) (P1 : f1_ Z h0 x0 (.int 0)) (P2 : f4_ Z h0 x0 (.int 4)) (P3 : f5_ Z h0 x0 (.int 0)) (P4 : f3_ Z h0 x0 (.ref x2)) (P5 : Exa Z h0 x1 s1) (P6 : f0_ Z h0 x1 (.int 0)) (P7 : f2_ Z h0 x1 (.ref x3)) (P8 : Arv Z h0 x2 kk0 .byte (16 : Int32) LL2 (.int 0)) (P10 : Arv Z h0 x3 kk1 .byte (2 : Int32) [.int p0, .int p1] (.int 0)) (g_x2 : n0 ≤ x2) (g_x0 : n0 ≤ x0) (ne_x0_x2 : x0 ≠ x2) :
    Ctr l Z ⟨s0, "append", s11⟩ B11 3 (some (.object s0)) (rM 3 0 0 47) #[.ref x0, .ref x1] h0 (fun v h L => v = some (.ref x0) ∧ Fr n0 L ∧ Keep h0 h [x0, x2] ∧ f1_ Z h x0 (.int 0) ∧ f4_ Z h x0 (.int 6) ∧ f5_ Z h x0 (.int 0) ∧ f3_ Z h x0 (.ref x2) ∧ Arv Z h x2 kk0 .byte (16 : Int32) (LL8 p0 p1) (.int 0)) := by
 refine Ctr.of (plainFor_of_name pn_c2) fun p e s m below meth c T0 hx hZ hby hml hown hnm hret hlk e0 es X0 => Go.cast (ef_11_RR m x0 x1) ?_
 generalize hFF : EndN s _ _ _ = FF
 refine aN X0 hx 1 rfl hby d11_0 rfl rfl ?_
 refine Go.ifnonnullYes X0 hx 9 (hb hby d11_1) (by decide) (by decide) ?_
 refine aN X0 hx 10 rfl hby d11_9 rfl rfl ?_
 refine Go.callV X0 hx hZ hown (tw_69 hw) (tw_70 hw) (nF (mvT hZ (tw_72 hw))) (tw_72 hw) (tw_71 hw) (by decide) (tw_73 hw) (tw_2 hw) (au_31 hw O0 G P5 P6 P7 P10) e0 P5 (argsL := []) (rest := []) 13 rfl (hml ▸ rfl) (lenOf pd_12 rfl) rfl rfl (W := 0) (nE rfl) (by decide) (hb hby d11_10) ?_
 intro v1 T1 L1 q1 X1
 obtain ⟨rfl, N1, e1⟩ := q1
 show Go _ _ _ _ (T1.setTop (mkF m 13 #[vR x0, vR x1, uS] [.int 2]))
 refine Go.istoreN X1 hx 14 rfl (hb hby d11_13) (Ls' := #[vR x0, vR x1, vI 2]) rfl ?_
 refine aN X1 hx 15 rfl hby d11_14 rfl rfl ?_
 refine aN X1 hx 16 rfl hby d11_15 rfl rfl ?_
 refine gF X1 hx hZ hown (tw_79 hw) e1 P2 19 rfl (hb hby d11_16) ?_
 intro T2 e2 X2
 refine iN X2 hx 20 rfl hby d11_19 rfl ?_
 refine Go.iadd X2 hx 21 rfl (hb hby d11_20) ?_
 rw [show ((4 : Int32) + (2 : Int32)) = (6 : Int32) from by decide]
 refine Go.callP X2 hx hZ hown (tw_81 hw) (tw_82 hw) (tw_84 hw) (tw_83 hw) (tw_85 hw) (by decide) (tw_85 hw) (tw_50 hw) (au_32 hw O0.z P1 P4 P8) e2 P0 (argsL := [.int 6]) (rest := []) 24 rfl (hml ▸ rfl) (lenOf pd_9 rfl) rfl rfl (W := 0) (nE rfl) (by decide) (hb hby d11_21) ?_
 intro v3 T3 L3 q3 X3
 obtain ⟨rfl, N3, e3⟩ := q3
 refine aN X3 hx 25 rfl hby d11_24 rfl rfl ?_
 refine aN X3 hx 26 rfl hby d11_25 rfl rfl ?_
 refine gF X3 hx hZ hown (tw_79 hw) e3 P2 29 rfl (hb hby d11_26) ?_
 intro T4 e4 X4
 refine aN X4 hx 30 rfl hby d11_29 rfl rfl ?_
 refine Go.callP X4 hx hZ hown (tw_86 hw) (tw_87 hw) (tw_89 hw) (tw_88 hw) (tw_90 hw) (by decide) (tw_90 hw) (tw_50 hw) (au_33 hw O0 G P0 P1 P4 P5 P6 P7 P8 P10 g_x2) e4 P0 (argsL := [.int 4, .ref x1]) (rest := []) 33 rfl (hml ▸ rfl) (lenOf pd_15 rfl) rfl rfl (W := 0) (nE rfl) (by decide) (hb hby d11_30) ?_
 intro v5 T5 L5 q5 X5
 obtain ⟨h5, e5⟩ := hpz T5
 rw [e5] at q5
 obtain ⟨rfl, N5, K5, F5_0⟩ := q5
 refine aN X5 hx 34 rfl hby d11_33 rfl rfl ?_
 refine Go.dup X5 hx 35 rfl (hb hby d11_34) rfl ?_
 have fk6 := (P2.keep K5 (ninS ne_x0_x2 nin0))
 refine gF X5 hx hZ hown (tw_79 hw) e5 fk6 38 rfl (hb hby d11_35) ?_
 intro T7 e7 X7
 refine iN X7 hx 39 rfl hby d11_38 rfl ?_
 refine Go.iadd X7 hx 40 rfl (hb hby d11_39) ?_
 rw [show ((4 : Int32) + (2 : Int32)) = (6 : Int32) from by decide]
 refine Go.putF X7 hx hZ hown (host := "") (Or.inl (tw_79 hw)) Via.refl e7 fk6 (P0.keep K5) (Or.inl (tw_80 hw)) (tw_41 hw) (ty := .int) (by decide) rfl rfl 43 rfl (hb hby d11_40) ?_
 intro T9 h9 e9 W9 F9 X9
 have N9 := Fr.snoc X9 (Fr.app (Fr.app (Fr.app (Fr.nil n0) N1) N3) N5) g_x0
 refine aN X9 hx 44 rfl hby d11_43 rfl rfl ?_
 subst hFF
 refine Go.retR X9 hx hlk (t := (.object s0)) hret rfl rfl (hb hby d11_44) (by decide) (by decide) ?_
 rw [e9]
 exact ⟨rfl, N9, (((Keep.refl h0 [x0, x2]).trans K5 (allS (Or.inl (mG 1 rfl)) all0)).wr W9 (Or.inl (mG 0 rfl))), ((P1.keep K5 (ninS ne_x0_x2 nin0)).other W9 (Or.inr (slot_ne (Or.inl (tw_57 hw)) (Or.inl (tw_80 hw)) (by decide) (t := .byte) (t' := .int) (by decide) (by decide)))), F9, ((P3.keep K5 (ninS ne_x0_x2 nin0)).other W9 (Or.inr (slot_ne (Or.inl (tw_293 hw)) (Or.inl (tw_80 hw)) (by decide) (t := .boolean) (t' := .int) (by decide) (by decide)))), ((P4.keep K5 (ninS ne_x0_x2 nin0)).other W9 (Or.inr (slot_ne (Or.inl (tw_55 hw)) (Or.inl (tw_80 hw)) (by decide) (t := (.array .byte)) (t' := .int) (by decide) (by decide)))), (F5_0.other W9 (Ne.symm ne_x0_x2))⟩
theorem au_29 (hw : HW a0 Z)   (O0 : Old Z n0 h0) (G : Glob Z α β γ δ ε ζ η) (P0 : Exa Z h0 x0 s3) (P1 : f1_ Z h0 x0 (.int 0)) (P2 : f4_ Z h0 x0 (.int 4)) (P3 : f5_ Z h0 x0 (.int 0)) (P4 : f3_ Z h0 x0 (.ref x2)) (P5 : Exa Z h0 x1 s1) (P6 : f0_ Z h0 x1 (.int 0)) (P7 : f2_ Z h0 x1 (.ref x3)) (P8 : Arv Z h0 x2 kk0 .byte (16 : Int32) LL2 (.int 0)) (P10 : Arv Z h0 x3 kk1 .byte (2 : Int32) [.int p0, .int p1] (.int 0)) (g_x2 : n0 ≤ x2) (g_x0 : n0 ≤ x0) (ne_x0_x2 : x0 ≠ x2) :
    Ctr l Z ⟨s3, "append", s10⟩ B10 2 (some (.object s3)) (rM 4 0 0 61) #[.ref x0, .ref x1] h0 (fun v h L => v = some (.ref x0) ∧ Fr n0 L ∧ Keep h0 h [x0, x2] ∧ f1_ Z h x0 (.int 0) ∧ f4_ Z h x0 (.int 6) ∧ f5_ Z h x0 (.int 0) ∧ f3_ Z h x0 (.ref x2) ∧ Arv Z h x2 kk0 .byte (16 : Int32) (LL8 p0 p1) (.int 0)) := by
 refine Ctr.of (plainFor_of_name pn_c3) fun p e s m below meth c T0 hx hZ hby hml hown hnm hret hlk e0 es X0 => Go.cast (ef_10_RR m x0 x1) ?_
 generalize hFF : EndN s _ _ _ = FF
 refine aN X0 hx 1 rfl hby d10_0 rfl rfl ?_
 refine aN X0 hx 2 rfl hby d10_1 rfl rfl ?_
 refine Go.callUp X0 hx hZ hown (tw_64 hw) (own_sameself (tw_84 hw) rfl (tw_65 hw) (by decide)) (tw_65 hw) (tw_66 hw) (by decide) (tw_68 hw) (tw_68 hw) (tw_50 hw) (au_30 hw O0 G P0 P1 P2 P3 P4 P5 P6 P7 P8 P10 g_x2 g_x0 ne_x0_x2) e0 P0 (argsL := [.ref x1]) (rest := []) 5 rfl (hml ▸ rfl) (lenOf pd_16 rfl) rfl rfl (W := 0) (nE rfl) (by decide) (hb hby d10_2) ?_
 intro v1 T1 L1 q1 X1
 obtain ⟨h1, e1⟩ := hpz T1
 rw [e1] at q1
 obtain ⟨rfl, N1, K1, F1_0, F1_1, F1_2, F1_3, F1_4⟩ := q1
 show Go _ _ _ _ (T1.setTop (mkF m 5 #[vR x0, vR x1] [.ref x0]))
 refine Go.pop X1 hx 6 rfl (hb hby d10_5) rfl ?_
 refine aN X1 hx 7 rfl hby d10_6 rfl rfl ?_
 subst hFF
 refine Go.retR X1 hx hlk (t := (.object s3)) hret rfl rfl (hb hby d10_7) (by decide) (by decide) ?_
 rw [e1]
 exact ⟨rfl, (Fr.app (Fr.nil n0) N1), ((Keep.refl h0 [x0, x2]).trans K1 (allS (Or.inl (mG 0 rfl)) (allS (Or.inl (mG 1 rfl)) all0))), F1_0, F1_1, F1_2, F1_3, F1_4⟩
theorem d7_19 : DD B7 19 (.invokevirtual 54, 3) := by decide +kernel
theorem d7_22 : DD B7 22 (.ldc 78, 2) := by decide +kernel
theorem au_38 (hw : HW a0 Z)   (O0 : Old Z n0 h0) (G : Glob Z α β γ δ ε ζ η) (P0 : Exa Z h0 x0 s1) (P1 : f0_ Z h0 x0 (.int 0)) (P2 : f2_ Z h0 x0 (.ref x1)) (P3 : Arv Z h0 x1 kk0 .byte (2 : Int32) ls0 (.int (0 : Int32))) :
    Ctr l Z ⟨s1, "length", "()I"⟩ B12 1 (some .int) (rM 1 0 0 13) #[.ref x0] h0 (fun v h L => v = some (.int 2) ∧ Fr n0 L ∧ h = h0) := by
 refine Ctr.of (plainFor_of_name pn_c1) fun p e s m below meth c T0 hx hZ hby hml hown hnm hret hlk e0 es X0 => Go.cast (ef_12_R m x0) ?_
 generalize hFF : EndN s _ _ _ = FF
 refine aN X0 hx 1 rfl hby d12_0 rfl rfl ?_
 refine gF X0 hx hZ hown (tw_28 hw) e0 P2 4 rfl (hb hby d12_1) ?_
 intro T1 e1 X1
 refine Go.arraylength X1 hx hZ e1 P3 5 rfl (hb hby d12_4) ?_
 refine aN X1 hx 6 rfl hby d12_5 rfl rfl ?_
 refine Go.callV X1 hx hZ hown (tw_74 hw) (tw_75 hw) (nF (mvT hZ (tw_77 hw))) (tw_77 hw) (tw_76 hw) (by decide) (tw_78 hw) (tw_2 hw) (au_24 hw O0 G P1) e1 P0 (argsL := []) (rest := [.int 2]) 9 rfl (hml ▸ rfl) (lenOf pd_11 rfl) rfl rfl (W := 1) (nE rfl) (by decide) (hb hby d12_6) ?_
 intro v2 T2 L2 q2 X2
 obtain ⟨rfl, N2, e2⟩ := q2
 show Go _ _ _ _ (T2.setTop (mkF m 9 #[vR x0] [.int 0, .int 2]))
 refine Go.ishr X2 hx 10 rfl (hb hby d12_9) ?_
 rw [show ((2 : Int32) >>> ((0 : Int32) &&& 31)) = (2 : Int32) from by decide]
 subst hFF
 refine Go.retI X2 hx hlk hret (hb hby d12_10) (by decide) (by decide) ?_
 rw [e2]
 exact ⟨rfl, (Fr.app (Fr.nil n0) N2), rfl⟩
theorem au_39 (hw : HW a0 Z)  (Z0 : n0 ≤ h0.size) (P1 : f1_ Z h0 x0 (.int 0)) (P4 : f3_ Z h0 x0 (.ref x1)) (P5 : Arv Z h0 x1 kk0 .byte (16 : Int32) ls0 (.int 0)) :
    Ctr l Z ⟨s0, "ensureCapacityInternal", "(I)V"⟩ B14 3 none (rM 0 0 0 0) #[.ref x0, .int 8] h0 (fun v h L => v = none ∧ Fr n0 L ∧ h = h0) := by
 refine Ctr.of (plainFor_of_name pn_c2) fun p e s m below meth c T0 hx hZ hby hml hown hnm hret hlk e0 es X0 => Go.cast (ef_14_RI m x0 (8 : Int32)) ?_
 generalize hFF : EndN s _ _ _ = FF
 refine aN X0 hx 1 rfl hby d14_0 rfl rfl ?_
 refine gF X0 hx hZ hown (tw_54 hw) e0 P4 4 rfl (hb hby d14_1) ?_
 intro T1 e1 X1
 refine Go.arraylength X1 hx hZ e1 P5 5 rfl (hb hby d14_4) ?_
 refine aN X1 hx 6 rfl hby d14_5 rfl rfl ?_
 refine gF X1 hx hZ hown (tw_56 hw) e1 P1 9 rfl (hb hby d14_6) ?_
 intro T2 e2 X2
 refine Go.ishr X2 hx 10 rfl (hb hby d14_9) ?_
 rw [show ((16 : Int32) >>> ((0 : Int32) &&& 31)) = (16 : Int32) from by decide]
 refine Go.istoreN X2 hx 11 rfl (hb hby d14_10) (Ls' := #[vR x0, vI 8, vI 16]) rfl ?_
 refine iN X2 hx 12 rfl hby d14_11 rfl ?_
 refine iN X2 hx 13 rfl hby d14_12 rfl ?_
 refine Go.isub X2 hx 14 rfl (hb hby d14_13) ?_
 rw [show ((8 : Int32) - (16 : Int32)) = (-8 : Int32) from by decide]
 refine Go.ifYes X2 hx 38 (hb hby d14_14) (by decide) (by decide) (by decide) ?_
 subst hFF
 refine Go.ret0 X2 hx hlk hret (hb hby d14_38) (by decide) (by decide) ?_
 rw [e2]
 exact ⟨rfl, (Fr.nil n0), rfl⟩
theorem au_41 (hw : HW a0 Z)   (O0 : Old Z n0 h0) (G : Glob Z α β γ δ ε ζ η) (P1 : f1_ Z h0 x0 (.int 0)) (P5 : Exa Z h0 x1 s1) (P6 : f0_ Z h0 x1 (.int 0)) :
    Ctr l Z ⟨s0, "inflateIfNeededFor", "(Ljava/lang/String;)V"⟩ B16 2 none (rM 1 0 0 13) #[.ref x0, .ref x1] h0 (fun v h L => v = none ∧ Fr n0 L ∧ h = h0) := by
 refine Ctr.of (plainFor_of_name pn_c2) ?_
 intro p e s m below meth c T0 hx hZ hby hml hown hnm hret hlk e0 es X0
 have G' := G
 obtain ⟨G0, -, -, -, -, -, -, -, -, -, -, -, G12, -⟩ := G'
 refine Go.cast (ef_16_RR m x0 x1) ?_
 generalize hFF : EndN s _ _ _ = FF
 refine Go.getS X0 hx hZ hown (host := "") (Or.inl (tw_53 hw)) Via.refl e0 (G0.ext O0.2) 3 rfl (hb hby d16_0) ?_
 intro T2 e2 X2
 refine Go.ifNo X2 hx 6 rfl (hb hby d16_3) (feq G12).1 ?_
 refine aN X2 hx 7 rfl hby d16_6 rfl rfl ?_
 refine gF X2 hx hZ hown (tw_56 hw) e2 P1 10 rfl (hb hby d16_7) ?_
 intro T3 e3 X3
 refine aN X3 hx 11 rfl hby d16_10 rfl rfl ?_
 refine Go.callV X3 hx hZ hown (tw_96 hw) (tw_75 hw) (nF (mvT hZ (tw_77 hw))) (tw_77 hw) (tw_76 hw) (by decide) (tw_78 hw) (tw_2 hw) (au_24 hw O0 G P6) e3 P5 (argsL := []) (rest := [.int 0]) 14 rfl (hml ▸ rfl) (lenOf pd_11 rfl) rfl rfl (W := 1) (nE rfl) (by decide) (hb hby d16_11) ?_
 intro v4 T4 L4 q4 X4
 obtain ⟨rfl, N4, e4⟩ := q4
 show Go _ _ _ _ (T4.setTop (mkF m 14 #[vR x0, vR x1] [.int 0, .int 0]))
 refine Go.icmpYes X4 hx 21 (hb hby d16_14) (by decide) (by decide) (by decide) ?_
 subst hFF
 refine Go.ret0 X4 hx hlk hret (hb hby d16_21) (by decide) (by decide) ?_
 rw [e4]
 exact ⟨rfl, (Fr.app (Fr.nil n0) N4), rfl⟩
theorem au_42 (hw : HW a0 Z)   (O0 : Old Z n0 h0) (G : Glob Z α β γ δ ε ζ η) (P0 : Exa Z h0 x0 s1) (P1 : f0_ Z h0 x0 (.int 0)) (P2 : f2_ Z h0 x0 (.ref x2)) (P3 : Arv Z h0 x1 kk0 .byte (16 : Int32) (LL8 p0 p1) (.int 0)) (P5 : Arv Z h0 x2 kk1 .byte (2 : Int32) [.int 32, .int 39] (.int (0 : Int32))) (g_x1 : n0 ≤ x1) :
    Ctr l Z ⟨s1, "getBytes", "([BIB)V"⟩ B17 4 none (rM 1 0 0 18) #[.ref x0, .ref x1, .int 6, .int 0] h0 (fun v h L => v = none ∧ Fr n0 L ∧ Keep h0 h [x1] ∧ Arv Z h x1 kk0 .byte (16 : Int32) (LL3 p0 p1) (.int 0)) := by
 refine Ctr.of (plainFor_of_name pn_c1) fun p e s m below meth c T0 hx hZ hby hml hown hnm hret hlk e0 es X0 => Go.cast (ef_17_RRII m x0 x1 (6 : Int32) (0 : Int32)) ?_
 generalize hFF : EndN s _ _ _ = FF
 refine aN X0 hx 1 rfl hby d17_0 rfl rfl ?_
 refine Go.callV X0 hx hZ hown (tw_74 hw) (tw_75 hw) (nF (mvT hZ (tw_77 hw))) (tw_77 hw) (tw_76 hw) (by decide) (tw_78 hw) (tw_2 hw) (au_24 hw O0 G P1) e0 P0 (argsL := []) (rest := []) 4 rfl (hml ▸ rfl) (lenOf pd_11 rfl) rfl rfl (W := 0) (nE rfl) (by decide) (hb hby d17_1) ?_
 intro v1 T1 L1 q1 X1
 obtain ⟨rfl, N1, e1⟩ := q1
 show Go _ _ _ _ (T1.setTop (mkF m 4 #[vR x0, vR x1, vI 6, vI 0] [.int 0]))
 refine iN X1 hx 5 rfl hby d17_4 rfl ?_
 refine Go.icmpNo X1 hx 8 rfl (hb hby d17_5) (by decide) ?_
 refine aN X1 hx 9 rfl hby d17_8 rfl rfl ?_
 refine gF X1 hx hZ hown (tw_28 hw) e1 P2 12 rfl (hb hby d17_9) ?_
 intro T2 e2 X2
 refine Go.iconst X2 hx 13 rfl (hb hby d17_12) (v := (0 : Int32)) rfl ?_
 refine aN X2 hx 14 rfl hby d17_13 rfl rfl ?_
 refine iN X2 hx 15 rfl hby d17_14 rfl ?_
 refine iN X2 hx 16 rfl hby d17_15 rfl ?_
 refine Go.ishl X2 hx 17 rfl (hb hby d17_16) ?_
 rw [show ((6 : Int32) <<< ((0 : Int32) &&& 31)) = (6 : Int32) from by decide]
 refine aN X2 hx 18 rfl hby d17_17 rfl rfl ?_
 refine gF X2 hx hZ hown (tw_28 hw) e2 P2 21 rfl (hb hby d17_18) ?_
 intro T3 e3 X3
 refine Go.arraylength X3 hx hZ e3 P5 22 rfl (hb hby d17_21) ?_
 refine Go.arraycopy X3 hx hZ hown (tw_102 hw) (tw_105 hw) (tw_103 hw) (tw_104 hw) e3 P5 P3 rfl (sp := (0 : Int32)) (dp := (6 : Int32)) (nn := (2 : Int32)) (us := [.int 32, .int 39]) (by decide) (by decide) (by decide) (by decide) (by decide) rfl (nB rfl) (Fr.app (Fr.nil n0) N1) g_x1 (by decide) (W := 0) (hml ▸ rfl) (nE rfl) (by decide) (pc' := 25) rfl (hb hby d17_22) ?_
 intro T4 h4 L4 e4 N4 K4 V4 X4
 have V4' : Arv Z h4 x1 kk0 .byte (16 : Int32) (LL3 p0 p1) (.int 0) := V4
 refine Go.goto X4 hx 43 (hb hby d17_25) (by decide) (by decide) ?_
 subst hFF
 refine Go.ret0 X4 hx hlk hret (hb hby d17_43) (by decide) (by decide) ?_
 rw [e4]
 exact ⟨rfl, N4, ((Keep.refl h0 [x1]).trans K4 (allS (Or.inl (mG 0 rfl)) all0)), V4'⟩
theorem au_40 (hw : HW a0 Z)   (O0 : Old Z n0 h0) (G : Glob Z α β γ δ ε ζ η) (P0 : Exa Z h0 x0 s3) (P1 : f1_ Z h0 x0 (.int 0)) (P4 : f3_ Z h0 x0 (.ref x2)) (P5 : Exa Z h0 x1 s1) (P6 : f0_ Z h0 x1 (.int 0)) (P7 : f2_ Z h0 x1 (.ref x3)) (P8 : Arv Z h0 x2 kk0 .byte (16 : Int32) (LL8 p0 p1) (.int 0)) (P10 : Arv Z h0 x3 kk1 .byte (2 : Int32) [.int 32, .int 39] (.int (0 : Int32))) (g_x2 : n0 ≤ x2) :
    Ctr l Z ⟨s0, "putStringAt", "(ILjava/lang/String;)V"⟩ B15 3 none (rM 2 0 0 33) #[.ref x0, .int 6, .ref x1] h0 (fun v h L => v = none ∧ Fr n0 L ∧ Keep h0 h [x2] ∧ Arv Z h x2 kk0 .byte (16 : Int32) (LL3 p0 p1) (.int 0)) := by
 refine Ctr.of (plainFor_of_name pn_c2) fun p e s m below meth c T0 hx hZ hby hml hown hnm hret hlk e0 es X0 => Go.cast (ef_15_RIR m x0 (6 : Int32) x1) ?_
 generalize hFF : EndN s _ _ _ = FF
 refine aN X0 hx 1 rfl hby d15_0 rfl rfl ?_
 refine aN X0 hx 2 rfl hby d15_1 rfl rfl ?_
 refine Go.callP X0 hx hZ hown (tw_91 hw) (tw_92 hw) (tw_94 hw) (tw_93 hw) (tw_95 hw) (by decide) (tw_95 hw) (tw_50 hw) (au_41 hw O0 G P1 P5 P6) e0 P0 (argsL := [.ref x1]) (rest := []) 5 rfl (hml ▸ rfl) (lenOf pd_13 rfl) rfl rfl (W := 0) (nE rfl) (by decide) (hb hby d15_2) ?_
 intro v1 T1 L1 q1 X1
 obtain ⟨rfl, N1, e1⟩ := q1
 refine aN X1 hx 6 rfl hby d15_5 rfl rfl ?_
 refine aN X1 hx 7 rfl hby d15_6 rfl rfl ?_
 refine gF X1 hx hZ hown (tw_54 hw) e1 P4 10 rfl (hb hby d15_7) ?_
 intro T2 e2 X2
 refine iN X2 hx 11 rfl hby d15_10 rfl ?_
 refine aN X2 hx 12 rfl hby d15_11 rfl rfl ?_
 refine gF X2 hx hZ hown (tw_56 hw) e2 P1 15 rfl (hb hby d15_12) ?_
 intro T3 e3 X3
 refine Go.callV X3 hx hZ hown (tw_97 hw) (tw_98 hw) (nF (mvT hZ (tw_100 hw))) (tw_100 hw) (tw_99 hw) (by decide) (tw_101 hw) (tw_2 hw) (au_42 hw O0 G P5 P6 P7 P8 P10 g_x2) e3 P5 (argsL := [.ref x2, .int 6, .int 0]) (rest := []) 18 rfl (hml ▸ rfl) (lenOf pd_14 rfl) rfl rfl (W := 0) (nE rfl) (by decide) (hb hby d15_15) ?_
 intro v4 T4 L4 q4 X4
 obtain ⟨h4, e4⟩ := hpz T4
 rw [e4] at q4
 obtain ⟨rfl, N4, K4, F4_0⟩ := q4
 subst hFF
 refine Go.ret0 X4 hx hlk hret (hb hby d15_18) (by decide) (by decide) ?_
 rw [e4]
 exact ⟨rfl, (Fr.app (Fr.app (Fr.nil n0) N1) N4), ((Keep.refl h0 [x2]).trans K4 (allS (Or.inl (mG 0 rfl)) all0)), F4_0⟩
theorem au_37 (hw : HW a0 Z)   (O0 : Old Z n0 h0) (G : Glob Z α β γ δ ε ζ η) (P0 : Exa Z h0 x0 s3) (P1 : f1_ Z h0 x0 (.int 0)) (P2 : f4_ Z h0 x0 (.int 6)) (P3 : f5_ Z h0 x0 (.int 0)) (P4 : f3_ Z h0 x0 (.ref x2)) (P5 : Exa Z h0 x1 s1) (P6 : f0_ Z h0 x1 (.int 0)) (P7 : f2_ Z h0 x1 (.ref x3)) (P8 : Arv Z h0 x2 kk0 .byte (16 : Int32) (LL8 p0 p1) (.int 0)) (P10 : Arv Z h0 x3 kk1 .byte (2 : Int32) [.int 32, .int 39] (.int (0 : Int32))) (g_x2 : n0 ≤ x2) (g_x0 : n0 ≤ x0) (ne_x0_x2 : x0 ≠ x2) :
    Ctr l Z ⟨s0, "append", s11⟩ B11 3 (some (.object s0)) (rM 3 0 0 47) #[.ref x0, .ref x1] h0 (fun v h L => v = some (.ref x0) ∧ Fr n0 L ∧ Keep h0 h [x0, x2] ∧ f1_ Z h x0 (.int 0) ∧ f4_ Z h x0 (.int 8) ∧ f5_ Z h x0 (.int 0) ∧ f3_ Z h x0 (.ref x2) ∧ Arv Z h x2 kk0 .byte (16 : Int32) (LL3 p0 p1) (.int 0)) := by
 refine Ctr.of (plainFor_of_name pn_c2) fun p e s m below meth c T0 hx hZ hby hml hown hnm hret hlk e0 es X0 => Go.cast (ef_11_RR m x0 x1) ?_
 generalize hFF : EndN s _ _ _ = FF
 refine aN X0 hx 1 rfl hby d11_0 rfl rfl ?_
 refine Go.ifnonnullYes X0 hx 9 (hb hby d11_1) (by decide) (by decide) ?_
 refine aN X0 hx 10 rfl hby d11_9 rfl rfl ?_
 refine Go.callV X0 hx hZ hown (tw_69 hw) (tw_70 hw) (nF (mvT hZ (tw_72 hw))) (tw_72 hw) (tw_71 hw) (by decide) (tw_73 hw) (tw_2 hw) (au_38 hw O0 G P5 P6 P7 P10) e0 P5 (argsL := []) (rest := []) 13 rfl (hml ▸ rfl) (lenOf pd_12 rfl) rfl rfl (W := 0) (nE rfl) (by decide) (hb hby d11_10) ?_
 intro v1 T1 L1 q1 X1
 obtain ⟨rfl, N1, e1⟩ := q1
 show Go _ _ _ _ (T1.setTop (mkF m 13 #[vR x0, vR x1, uS] [.int 2]))
 refine Go.istoreN X1 hx 14 rfl (hb hby d11_13) (Ls' := #[vR x0, vR x1, vI 2]) rfl ?_
 refine aN X1 hx 15 rfl hby d11_14 rfl rfl ?_
 refine aN X1 hx 16 rfl hby d11_15 rfl rfl ?_
 refine gF X1 hx hZ hown (tw_79 hw) e1 P2 19 rfl (hb hby d11_16) ?_
 intro T2 e2 X2
 refine iN X2 hx 20 rfl hby d11_19 rfl ?_
 refine Go.iadd X2 hx 21 rfl (hb hby d11_20) ?_
 rw [show ((6 : Int32) + (2 : Int32)) = (8 : Int32) from by decide]
 refine Go.callP X2 hx hZ hown (tw_81 hw) (tw_82 hw) (tw_84 hw) (tw_83 hw) (tw_85 hw) (by decide) (tw_85 hw) (tw_50 hw) (au_39 hw O0.z P1 P4 P8) e2 P0 (argsL := [.int 8]) (rest := []) 24 rfl (hml ▸ rfl) (lenOf pd_9 rfl) rfl rfl (W := 0) (nE rfl) (by decide) (hb hby d11_21) ?_
 intro v3 T3 L3 q3 X3
 obtain ⟨rfl, N3, e3⟩ := q3
 refine aN X3 hx 25 rfl hby d11_24 rfl rfl ?_
 refine aN X3 hx 26 rfl hby d11_25 rfl rfl ?_
 refine gF X3 hx hZ hown (tw_79 hw) e3 P2 29 rfl (hb hby d11_26) ?_
 intro T4 e4 X4
 refine aN X4 hx 30 rfl hby d11_29 rfl rfl ?_
 refine Go.callP X4 hx hZ hown (tw_86 hw) (tw_87 hw) (tw_89 hw) (tw_88 hw) (tw_90 hw) (by decide) (tw_90 hw) (tw_50 hw) (au_40 hw O0 G P0 P1 P4 P5 P6 P7 P8 P10 g_x2) e4 P0 (argsL := [.int 6, .ref x1]) (rest := []) 33 rfl (hml ▸ rfl) (lenOf pd_15 rfl) rfl rfl (W := 0) (nE rfl) (by decide) (hb hby d11_30) ?_
 intro v5 T5 L5 q5 X5
 obtain ⟨h5, e5⟩ := hpz T5
 rw [e5] at q5
 obtain ⟨rfl, N5, K5, F5_0⟩ := q5
 refine aN X5 hx 34 rfl hby d11_33 rfl rfl ?_
 refine Go.dup X5 hx 35 rfl (hb hby d11_34) rfl ?_
 have fk6 := (P2.keep K5 (ninS ne_x0_x2 nin0))
 refine gF X5 hx hZ hown (tw_79 hw) e5 fk6 38 rfl (hb hby d11_35) ?_
 intro T7 e7 X7
 refine iN X7 hx 39 rfl hby d11_38 rfl ?_
 refine Go.iadd X7 hx 40 rfl (hb hby d11_39) ?_
 rw [show ((6 : Int32) + (2 : Int32)) = (8 : Int32) from by decide]
 refine Go.putF X7 hx hZ hown (host := "") (Or.inl (tw_79 hw)) Via.refl e7 fk6 (P0.keep K5) (Or.inl (tw_80 hw)) (tw_41 hw) (ty := .int) (by decide) rfl rfl 43 rfl (hb hby d11_40) ?_
 intro T9 h9 e9 W9 F9 X9
 have N9 := Fr.snoc X9 (Fr.app (Fr.app (Fr.app (Fr.nil n0) N1) N3) N5) g_x0
 refine aN X9 hx 44 rfl hby d11_43 rfl rfl ?_
 subst hFF
 refine Go.retR X9 hx hlk (t := (.object s0)) hret rfl rfl (hb hby d11_44) (by decide) (by decide) ?_
 rw [e9]
 exact ⟨rfl, N9, (((Keep.refl h0 [x0, x2]).trans K5 (allS (Or.inl (mG 1 rfl)) all0)).wr W9 (Or.inl (mG 0 rfl))), ((P1.keep K5 (ninS ne_x0_x2 nin0)).other W9 (Or.inr (slot_ne (Or.inl (tw_57 hw)) (Or.inl (tw_80 hw)) (by decide) (t := .byte) (t' := .int) (by decide) (by decide)))), F9, ((P3.keep K5 (ninS ne_x0_x2 nin0)).other W9 (Or.inr (slot_ne (Or.inl (tw_293 hw)) (Or.inl (tw_80 hw)) (by decide) (t := .boolean) (t' := .int) (by decide) (by decide)))), ((P4.keep K5 (ninS ne_x0_x2 nin0)).other W9 (Or.inr (slot_ne (Or.inl (tw_55 hw)) (Or.inl (tw_80 hw)) (by decide) (t := (.array .byte)) (t' := .int) (by decide) (by decide)))), (F5_0.other W9 (Ne.symm ne_x0_x2))⟩
theorem au_36 (hw : HW a0 Z)   (O0 : Old Z n0 h0) (G : Glob Z α β γ δ ε ζ η) (P0 : Exa Z h0 x0 s3) (P1 : f1_ Z h0 x0 (.int 0)) (P2 : f4_ Z h0 x0 (.int 6)) (P3 : f5_ Z h0 x0 (.int 0)) (P4 : f3_ Z h0 x0 (.ref x2)) (P5 : Exa Z h0 x1 s1) (P6 : f0_ Z h0 x1 (.int 0)) (P7 : f2_ Z h0 x1 (.ref x3)) (P8 : Arv Z h0 x2 kk0 .byte (16 : Int32) (LL8 p0 p1) (.int 0)) (P10 : Arv Z h0 x3 kk1 .byte (2 : Int32) [.int 32, .int 39] (.int (0 : Int32))) (g_x2 : n0 ≤ x2) (g_x0 : n0 ≤ x0) (ne_x0_x2 : x0 ≠ x2) :
    Ctr l Z ⟨s3, "append", s10⟩ B10 2 (some (.object s3)) (rM 4 0 0 61) #[.ref x0, .ref x1] h0 (fun v h L => v = some (.ref x0) ∧ Fr n0 L ∧ Keep h0 h [x0, x2] ∧ f1_ Z h x0 (.int 0) ∧ f4_ Z h x0 (.int 8) ∧ f5_ Z h x0 (.int 0) ∧ f3_ Z h x0 (.ref x2) ∧ Arv Z h x2 kk0 .byte (16 : Int32) (LL3 p0 p1) (.int 0)) := by
 refine Ctr.of (plainFor_of_name pn_c3) fun p e s m below meth c T0 hx hZ hby hml hown hnm hret hlk e0 es X0 => Go.cast (ef_10_RR m x0 x1) ?_
 generalize hFF : EndN s _ _ _ = FF
 refine aN X0 hx 1 rfl hby d10_0 rfl rfl ?_
 refine aN X0 hx 2 rfl hby d10_1 rfl rfl ?_
 refine Go.callUp X0 hx hZ hown (tw_64 hw) (own_sameself (tw_84 hw) rfl (tw_65 hw) (by decide)) (tw_65 hw) (tw_66 hw) (by decide) (tw_68 hw) (tw_68 hw) (tw_50 hw) (au_37 hw O0 G P0 P1 P2 P3 P4 P5 P6 P7 P8 P10 g_x2 g_x0 ne_x0_x2) e0 P0 (argsL := [.ref x1]) (rest := []) 5 rfl (hml ▸ rfl) (lenOf pd_16 rfl) rfl rfl (W := 0) (nE rfl) (by decide) (hb hby d10_2) ?_
 intro v1 T1 L1 q1 X1
 obtain ⟨h1, e1⟩ := hpz T1
 rw [e1] at q1
 obtain ⟨rfl, N1, K1, F1_0, F1_1, F1_2, F1_3, F1_4⟩ := q1
 show Go _ _ _ _ (T1.setTop (mkF m 5 #[vR x0, vR x1] [.ref x0]))
 refine Go.pop X1 hx 6 rfl (hb hby d10_5) rfl ?_
 refine aN X1 hx 7 rfl hby d10_6 rfl rfl ?_
 subst hFF
 refine Go.retR X1 hx hlk (t := (.object s3)) hret rfl rfl (hb hby d10_7) (by decide) (by decide) ?_
 rw [e1]
 exact ⟨rfl, (Fr.app (Fr.nil n0) N1), ((Keep.refl h0 [x0, x2]).trans K1 (allS (Or.inl (mG 0 rfl)) (allS (Or.inl (mG 1 rfl)) all0))), F1_0, F1_1, F1_2, F1_3, F1_4⟩
theorem d7_24 : DD B7 24 (.invokevirtual 54, 3) := by decide +kernel
theorem d7_27 : DD B7 27 (.aload_n 1, 1) := by decide +kernel
theorem au_45 (hw : HW a0 Z)  (Z0 : n0 ≤ h0.size) (P1 : f1_ Z h0 x0 (.int 0)) (P4 : f3_ Z h0 x0 (.ref x1)) (P5 : Arv Z h0 x1 kk0 .byte (16 : Int32) ls0 (.int 0)) :
    Ctr l Z ⟨s0, "ensureCapacityInternal", "(I)V"⟩ B14 3 none (rM 0 0 0 0) #[.ref x0, .int 10] h0 (fun v h L => v = none ∧ Fr n0 L ∧ h = h0) := by
 refine Ctr.of (plainFor_of_name pn_c2) fun p e s m below meth c T0 hx hZ hby hml hown hnm hret hlk e0 es X0 => Go.cast (ef_14_RI m x0 (10 : Int32)) ?_
 generalize hFF : EndN s _ _ _ = FF
 refine aN X0 hx 1 rfl hby d14_0 rfl rfl ?_
 refine gF X0 hx hZ hown (tw_54 hw) e0 P4 4 rfl (hb hby d14_1) ?_
 intro T1 e1 X1
 refine Go.arraylength X1 hx hZ e1 P5 5 rfl (hb hby d14_4) ?_
 refine aN X1 hx 6 rfl hby d14_5 rfl rfl ?_
 refine gF X1 hx hZ hown (tw_56 hw) e1 P1 9 rfl (hb hby d14_6) ?_
 intro T2 e2 X2
 refine Go.ishr X2 hx 10 rfl (hb hby d14_9) ?_
 rw [show ((16 : Int32) >>> ((0 : Int32) &&& 31)) = (16 : Int32) from by decide]
 refine Go.istoreN X2 hx 11 rfl (hb hby d14_10) (Ls' := #[vR x0, vI 10, vI 16]) rfl ?_
 refine iN X2 hx 12 rfl hby d14_11 rfl ?_
 refine iN X2 hx 13 rfl hby d14_12 rfl ?_
 refine Go.isub X2 hx 14 rfl (hb hby d14_13) ?_
 rw [show ((10 : Int32) - (16 : Int32)) = (-6 : Int32) from by decide]
 refine Go.ifYes X2 hx 38 (hb hby d14_14) (by decide) (by decide) (by decide) ?_
 subst hFF
 refine Go.ret0 X2 hx hlk hret (hb hby d14_38) (by decide) (by decide) ?_
 rw [e2]
 exact ⟨rfl, (Fr.nil n0), rfl⟩
theorem au_47 (hw : HW a0 Z)   (O0 : Old Z n0 h0) (G : Glob Z α β γ δ ε ζ η) (P1 : f1_ Z h0 x0 (.int 0)) (P5 : Exa Z h0 x1 s1) (P6 : f0_ Z h0 x1 (.int 0)) :
    Ctr l Z ⟨s0, "inflateIfNeededFor", "(Ljava/lang/String;)V"⟩ B16 2 none (rM 1 0 0 13) #[.ref x0, .ref x1] h0 (fun v h L => v = none ∧ Fr n0 L ∧ h = h0) := by
 refine Ctr.of (plainFor_of_name pn_c2) ?_
 intro p e s m below meth c T0 hx hZ hby hml hown hnm hret hlk e0 es X0
 have G' := G
 obtain ⟨G0, -, -, -, -, -, -, -, -, -, -, -, G12, -⟩ := G'
 refine Go.cast (ef_16_RR m x0 x1) ?_
 generalize hFF : EndN s _ _ _ = FF
 refine Go.getS X0 hx hZ hown (host := "") (Or.inl (tw_53 hw)) Via.refl e0 (G0.ext O0.2) 3 rfl (hb hby d16_0) ?_
 intro T2 e2 X2
 refine Go.ifNo X2 hx 6 rfl (hb hby d16_3) (feq G12).1 ?_
 refine aN X2 hx 7 rfl hby d16_6 rfl rfl ?_
 refine gF X2 hx hZ hown (tw_56 hw) e2 P1 10 rfl (hb hby d16_7) ?_
 intro T3 e3 X3
 refine aN X3 hx 11 rfl hby d16_10 rfl rfl ?_
 refine Go.callV X3 hx hZ hown (tw_96 hw) (tw_75 hw) (nF (mvT hZ (tw_77 hw))) (tw_77 hw) (tw_76 hw) (by decide) (tw_78 hw) (tw_2 hw) (au_24 hw O0 G P6) e3 P5 (argsL := []) (rest := [.int 0]) 14 rfl (hml ▸ rfl) (lenOf pd_11 rfl) rfl rfl (W := 1) (nE rfl) (by decide) (hb hby d16_11) ?_
 intro v4 T4 L4 q4 X4
 obtain ⟨rfl, N4, e4⟩ := q4
 show Go _ _ _ _ (T4.setTop (mkF m 14 #[vR x0, vR x1] [.int 0, .int 0]))
 refine Go.icmpYes X4 hx 21 (hb hby d16_14) (by decide) (by decide) (by decide) ?_
 subst hFF
 refine Go.ret0 X4 hx hlk hret (hb hby d16_21) (by decide) (by decide) ?_
 rw [e4]
 exact ⟨rfl, (Fr.app (Fr.nil n0) N4), rfl⟩
theorem au_48 (hw : HW a0 Z)   (O0 : Old Z n0 h0) (G : Glob Z α β γ δ ε ζ η) (P0 : Exa Z h0 x0 s1) (P1 : f0_ Z h0 x0 (.int 0)) (P2 : f2_ Z h0 x0 (.ref x2)) (P3 : Arv Z h0 x1 kk0 .byte (16 : Int32) (LL3 p0 p1) (.int 0)) (P5 : Arv Z h0 x2 kk1 .byte (2 : Int32) [.int p2, .int p3] (.int 0)) (g_x1 : n0 ≤ x1) :
    Ctr l Z ⟨s1, "getBytes", "([BIB)V"⟩ B17 4 none (rM 1 0 0 18) #[.ref x0, .ref x1, .int 8, .int 0] h0 (fun v h L => v = none ∧ Fr n0 L ∧ Keep h0 h [x1] ∧ Arv Z h x1 kk0 .byte (16 : Int32) (LL19 p0 p1 p2 p3) (.int 0)) := by
 refine Ctr.of (plainFor_of_name pn_c1) fun p e s m below meth c T0 hx hZ hby hml hown hnm hret hlk e0 es X0 => Go.cast (ef_17_RRII m x0 x1 (8 : Int32) (0 : Int32)) ?_
 generalize hFF : EndN s _ _ _ = FF
 refine aN X0 hx 1 rfl hby d17_0 rfl rfl ?_
 refine Go.callV X0 hx hZ hown (tw_74 hw) (tw_75 hw) (nF (mvT hZ (tw_77 hw))) (tw_77 hw) (tw_76 hw) (by decide) (tw_78 hw) (tw_2 hw) (au_24 hw O0 G P1) e0 P0 (argsL := []) (rest := []) 4 rfl (hml ▸ rfl) (lenOf pd_11 rfl) rfl rfl (W := 0) (nE rfl) (by decide) (hb hby d17_1) ?_
 intro v1 T1 L1 q1 X1
 obtain ⟨rfl, N1, e1⟩ := q1
 show Go _ _ _ _ (T1.setTop (mkF m 4 #[vR x0, vR x1, vI 8, vI 0] [.int 0]))
 refine iN X1 hx 5 rfl hby d17_4 rfl ?_
 refine Go.icmpNo X1 hx 8 rfl (hb hby d17_5) (by decide) ?_
 refine aN X1 hx 9 rfl hby d17_8 rfl rfl ?_
 refine gF X1 hx hZ hown (tw_28 hw) e1 P2 12 rfl (hb hby d17_9) ?_
 intro T2 e2 X2
 refine Go.iconst X2 hx 13 rfl (hb hby d17_12) (v := (0 : Int32)) rfl ?_
 refine aN X2 hx 14 rfl hby d17_13 rfl rfl ?_
 refine iN X2 hx 15 rfl hby d17_14 rfl ?_
 refine iN X2 hx 16 rfl hby d17_15 rfl ?_
 refine Go.ishl X2 hx 17 rfl (hb hby d17_16) ?_
 rw [show ((8 : Int32) <<< ((0 : Int32) &&& 31)) = (8 : Int32) from by decide]
 refine aN X2 hx 18 rfl hby d17_17 rfl rfl ?_
 refine gF X2 hx hZ hown (tw_28 hw) e2 P2 21 rfl (hb hby d17_18) ?_
 intro T3 e3 X3
 refine Go.arraylength X3 hx hZ e3 P5 22 rfl (hb hby d17_21) ?_
 refine Go.arraycopy X3 hx hZ hown (tw_102 hw) (tw_105 hw) (tw_103 hw) (tw_104 hw) e3 P5 P3 rfl (sp := (0 : Int32)) (dp := (8 : Int32)) (nn := (2 : Int32)) (us := [.int p2, .int p3]) (by decide) (by decide) (by decide) (by decide) (by decide) rfl (nB rfl) (Fr.app (Fr.nil n0) N1) g_x1 (by decide) (W := 0) (hml ▸ rfl) (nE rfl) (by decide) (pc' := 25) rfl (hb hby d17_22) ?_
 intro T4 h4 L4 e4 N4 K4 V4 X4
 have V4' : Arv Z h4 x1 kk0 .byte (16 : Int32) (LL19 p0 p1 p2 p3) (.int 0) := V4
 refine Go.goto X4 hx 43 (hb hby d17_25) (by decide) (by decide) ?_
 subst hFF
 refine Go.ret0 X4 hx hlk hret (hb hby d17_43) (by decide) (by decide) ?_
 rw [e4]
 exact ⟨rfl, N4, ((Keep.refl h0 [x1]).trans K4 (allS (Or.inl (mG 0 rfl)) all0)), V4'⟩
theorem au_46 (hw : HW a0 Z)   (O0 : Old Z n0 h0) (G : Glob Z α β γ δ ε ζ η) (P0 : Exa Z h0 x0 s3) (P1 : f1_ Z h0 x0 (.int 0)) (P4 : f3_ Z h0 x0 (.ref x2)) (P5 : Exa Z h0 x1 s1) (P6 : f0_ Z h0 x1 (.int 0)) (P7 : f2_ Z h0 x1 (.ref x3)) (P8 : Arv Z h0 x2 kk0 .byte (16 : Int32) (LL3 p0 p1) (.int 0)) (P10 : Arv Z h0 x3 kk1 .byte (2 : Int32) [.int p2, .int p3] (.int 0)) (g_x2 : n0 ≤ x2) :
    Ctr l Z ⟨s0, "putStringAt", "(ILjava/lang/String;)V"⟩ B15 3 none (rM 2 0 0 33) #[.ref x0, .int 8, .ref x1] h0 (fun v h L => v = none ∧ Fr n0 L ∧ Keep h0 h [x2] ∧ Arv Z h x2 kk0 .byte (16 : Int32) (LL19 p0 p1 p2 p3) (.int 0)) := by
 refine Ctr.of (plainFor_of_name pn_c2) fun p e s m below meth c T0 hx hZ hby hml hown hnm hret hlk e0 es X0 => Go.cast (ef_15_RIR m x0 (8 : Int32) x1) ?_
 generalize hFF : EndN s _ _ _ = FF
 refine aN X0 hx 1 rfl hby d15_0 rfl rfl ?_
 refine aN X0 hx 2 rfl hby d15_1 rfl rfl ?_
 refine Go.callP X0 hx hZ hown (tw_91 hw) (tw_92 hw) (tw_94 hw) (tw_93 hw) (tw_95 hw) (by decide) (tw_95 hw) (tw_50 hw) (au_47 hw O0 G P1 P5 P6) e0 P0 (argsL := [.ref x1]) (rest := []) 5 rfl (hml ▸ rfl) (lenOf pd_13 rfl) rfl rfl (W := 0) (nE rfl) (by decide) (hb hby d15_2) ?_
 intro v1 T1 L1 q1 X1
 obtain ⟨rfl, N1, e1⟩ := q1
 refine aN X1 hx 6 rfl hby d15_5 rfl rfl ?_
 refine aN X1 hx 7 rfl hby d15_6 rfl rfl ?_
 refine gF X1 hx hZ hown (tw_54 hw) e1 P4 10 rfl (hb hby d15_7) ?_
 intro T2 e2 X2
 refine iN X2 hx 11 rfl hby d15_10 rfl ?_
 refine aN X2 hx 12 rfl hby d15_11 rfl rfl ?_
 refine gF X2 hx hZ hown (tw_56 hw) e2 P1 15 rfl (hb hby d15_12) ?_
 intro T3 e3 X3
 refine Go.callV X3 hx hZ hown (tw_97 hw) (tw_98 hw) (nF (mvT hZ (tw_100 hw))) (tw_100 hw) (tw_99 hw) (by decide) (tw_101 hw) (tw_2 hw) (au_48 hw O0 G P5 P6 P7 P8 P10 g_x2) e3 P5 (argsL := [.ref x2, .int 8, .int 0]) (rest := []) 18 rfl (hml ▸ rfl) (lenOf pd_14 rfl) rfl rfl (W := 0) (nE rfl) (by decide) (hb hby d15_15) ?_
 intro v4 T4 L4 q4 X4
 obtain ⟨h4, e4⟩ := hpz T4
 rw [e4] at q4
 obtain ⟨rfl, N4, K4, F4_0⟩ := q4
 subst hFF
 refine Go.ret0 X4 hx hlk hret (hb hby d15_18) (by decide) (by decide) ?_
 rw [e4]
 exact ⟨rfl, (Fr.app (Fr.app (Fr.nil n0) N1) N4), ((Keep.refl h0 [x2]).trans K4 (allS (Or.inl (mG 0 rfl)) all0)), F4_0⟩
theorem au_44 (hw : HW a0 Z)   (O0 : Old Z n0 h0) (G : Glob Z α β γ δ ε ζ η) (P0 : Exa Z h0 x0 s3) (P1 : f1_ Z h0 x0 (.int 0)) (P2 : f4_ Z h0 x0 (.int 8)) (P3 : f5_ Z h0 x0 (.int 0)) (P4 : f3_ Z h0 x0 (.ref x2)) (P5 : Exa Z h0 x1 s1) (P6 : f0_ Z h0 x1 (.int 0)) (P7 : f2_ Z h0 x1 (.ref x3)) (P8 : Arv Z h0 x2 kk0 .byte (16 : Int32) (LL3 p0 p1) (.int 0)) (P10 : Arv Z h0 x3 kk1 .byte (2 : Int32) [.int p2, .int p3] (.int 0)) (g_x2 : n0 ≤ x2) (g_x0 : n0 ≤ x0) (ne_x0_x2 : x0 ≠ x2) :
    Ctr l Z ⟨s0, "append", s11⟩ B11 3 (some (.object s0)) (rM 3 0 0 47) #[.ref x0, .ref x1] h0 (fun v h L => v = some (.ref x0) ∧ Fr n0 L ∧ Keep h0 h [x0, x2] ∧ f1_ Z h x0 (.int 0) ∧ f4_ Z h x0 (.int 10) ∧ f5_ Z h x0 (.int 0) ∧ f3_ Z h x0 (.ref x2) ∧ Arv Z h x2 kk0 .byte (16 : Int32) (LL19 p0 p1 p2 p3) (.int 0)) := by
 refine Ctr.of (plainFor_of_name pn_c2) fun p e s m below meth c T0 hx hZ hby hml hown hnm hret hlk e0 es X0 => Go.cast (ef_11_RR m x0 x1) ?_
 generalize hFF : EndN s _ _ _ = FF
 refine aN X0 hx 1 rfl hby d11_0 rfl rfl ?_
 refine Go.ifnonnullYes X0 hx 9 (hb hby d11_1) (by decide) (by decide) ?_
 refine aN X0 hx 10 rfl hby d11_9 rfl rfl ?_
 refine Go.callV X0 hx hZ hown (tw_69 hw) (tw_70 hw) (nF (mvT hZ (tw_72 hw))) (tw_72 hw) (tw_71 hw) (by decide) (tw_73 hw) (tw_2 hw) (au_31 hw O0 G P5 P6 P7 P10) e0 P5 (argsL := []) (rest := []) 13 rfl (hml ▸ rfl) (lenOf pd_12 rfl) rfl rfl (W := 0) (nE rfl) (by decide) (hb hby d11_10) ?_
 intro v1 T1 L1 q1 X1
 obtain ⟨rfl, N1, e1⟩ := q1
 show Go _ _ _ _ (T1.setTop (mkF m 13 #[vR x0, vR x1, uS] [.int 2]))
 refine Go.istoreN X1 hx 14 rfl (hb hby d11_13) (Ls' := #[vR x0, vR x1, vI 2]) rfl ?_
 refine aN X1 hx 15 rfl hby d11_14 rfl rfl ?_
 refine aN X1 hx 16 rfl hby d11_15 rfl rfl ?_
 refine gF X1 hx hZ hown (tw_79 hw) e1 P2 19 rfl (hb hby d11_16) ?_
 intro T2 e2 X2
 refine iN X2 hx 20 rfl hby d11_19 rfl ?_
 refine Go.iadd X2 hx 21 rfl (hb hby d11_20) ?_
 rw [show ((8 : Int32) + (2 : Int32)) = (10 : Int32) from by decide]
 refine Go.callP X2 hx hZ hown (tw_81 hw) (tw_82 hw) (tw_84 hw) (tw_83 hw) (tw_85 hw) (by decide) (tw_85 hw) (tw_50 hw) (au_45 hw O0.z P1 P4 P8) e2 P0 (argsL := [.int 10]) (rest := []) 24 rfl (hml ▸ rfl) (lenOf pd_9 rfl) rfl rfl (W := 0) (nE rfl) (by decide) (hb hby d11_21) ?_
 intro v3 T3 L3 q3 X3
 obtain ⟨rfl, N3, e3⟩ := q3
 refine aN X3 hx 25 rfl hby d11_24 rfl rfl ?_
 refine aN X3 hx 26 rfl hby d11_25 rfl rfl ?_
 refine gF X3 hx hZ hown (tw_79 hw) e3 P2 29 rfl (hb hby d11_26) ?_
 intro T4 e4 X4
 refine aN X4 hx 30 rfl hby d11_29 rfl rfl ?_
 refine Go.callP X4 hx hZ hown (tw_86 hw) (tw_87 hw) (tw_89 hw) (tw_88 hw) (tw_90 hw) (by decide) (tw_90 hw) (tw_50 hw) (au_46 hw O0 G P0 P1 P4 P5 P6 P7 P8 P10 g_x2) e4 P0 (argsL := [.int 8, .ref x1]) (rest := []) 33 rfl (hml ▸ rfl) (lenOf pd_15 rfl) rfl rfl (W := 0) (nE rfl) (by decide) (hb hby d11_30) ?_
 intro v5 T5 L5 q5 X5
 obtain ⟨h5, e5⟩ := hpz T5
 rw [e5] at q5
 obtain ⟨rfl, N5, K5, F5_0⟩ := q5
 refine aN X5 hx 34 rfl hby d11_33 rfl rfl ?_
 refine Go.dup X5 hx 35 rfl (hb hby d11_34) rfl ?_
 have fk6 := (P2.keep K5 (ninS ne_x0_x2 nin0))
 refine gF X5 hx hZ hown (tw_79 hw) e5 fk6 38 rfl (hb hby d11_35) ?_
 intro T7 e7 X7
 refine iN X7 hx 39 rfl hby d11_38 rfl ?_
 refine Go.iadd X7 hx 40 rfl (hb hby d11_39) ?_
 rw [show ((8 : Int32) + (2 : Int32)) = (10 : Int32) from by decide]
 refine Go.putF X7 hx hZ hown (host := "") (Or.inl (tw_79 hw)) Via.refl e7 fk6 (P0.keep K5) (Or.inl (tw_80 hw)) (tw_41 hw) (ty := .int) (by decide) rfl rfl 43 rfl (hb hby d11_40) ?_
 intro T9 h9 e9 W9 F9 X9
 have N9 := Fr.snoc X9 (Fr.app (Fr.app (Fr.app (Fr.nil n0) N1) N3) N5) g_x0
 refine aN X9 hx 44 rfl hby d11_43 rfl rfl ?_
 subst hFF
 refine Go.retR X9 hx hlk (t := (.object s0)) hret rfl rfl (hb hby d11_44) (by decide) (by decide) ?_
 rw [e9]
 exact ⟨rfl, N9, (((Keep.refl h0 [x0, x2]).trans K5 (allS (Or.inl (mG 1 rfl)) all0)).wr W9 (Or.inl (mG 0 rfl))), ((P1.keep K5 (ninS ne_x0_x2 nin0)).other W9 (Or.inr (slot_ne (Or.inl (tw_57 hw)) (Or.inl (tw_80 hw)) (by decide) (t := .byte) (t' := .int) (by decide) (by decide)))), F9, ((P3.keep K5 (ninS ne_x0_x2 nin0)).other W9 (Or.inr (slot_ne (Or.inl (tw_293 hw)) (Or.inl (tw_80 hw)) (by decide) (t := .boolean) (t' := .int) (by decide) (by decide)))), ((P4.keep K5 (ninS ne_x0_x2 nin0)).other W9 (Or.inr (slot_ne (Or.inl (tw_55 hw)) (Or.inl (tw_80 hw)) (by decide) (t := (.array .byte)) (t' := .int) (by decide) (by decide)))), (F5_0.other W9 (Ne.symm ne_x0_x2))⟩
theorem au_43 (hw : HW a0 Z)   (O0 : Old Z n0 h0) (G : Glob Z α β γ δ ε ζ η) (P0 : Exa Z h0 x0 s3) (P1 : f1_ Z h0 x0 (.int 0)) (P2 : f4_ Z h0 x0 (.int 8)) (P3 : f5_ Z h0 x0 (.int 0)) (P4 : f3_ Z h0 x0 (.ref x2)) (P5 : Exa Z h0 x1 s1) (P6 : f0_ Z h0 x1 (.int 0)) (P7 : f2_ Z h0 x1 (.ref x3)) (P8 : Arv Z h0 x2 kk0 .byte (16 : Int32) (LL3 p0 p1) (.int 0)) (P10 : Arv Z h0 x3 kk1 .byte (2 : Int32) [.int p2, .int p3] (.int 0)) (g_x2 : n0 ≤ x2) (g_x0 : n0 ≤ x0) (ne_x0_x2 : x0 ≠ x2) :
    Ctr l Z ⟨s3, "append", s10⟩ B10 2 (some (.object s3)) (rM 4 0 0 61) #[.ref x0, .ref x1] h0 (fun v h L => v = some (.ref x0) ∧ Fr n0 L ∧ Keep h0 h [x0, x2] ∧ f1_ Z h x0 (.int 0) ∧ f4_ Z h x0 (.int 10) ∧ f5_ Z h x0 (.int 0) ∧ f3_ Z h x0 (.ref x2) ∧ Arv Z h x2 kk0 .byte (16 : Int32) (LL19 p0 p1 p2 p3) (.int 0)) := by
 refine Ctr.of (plainFor_of_name pn_c3) fun p e s m below meth c T0 hx hZ hby hml hown hnm hret hlk e0 es X0 => Go.cast (ef_10_RR m x0 x1) ?_
 generalize hFF : EndN s _ _ _ = FF
 refine aN X0 hx 1 rfl hby d10_0 rfl rfl ?_
 refine aN X0 hx 2 rfl hby d10_1 rfl rfl ?_
 refine Go.callUp X0 hx hZ hown (tw_64 hw) (own_sameself (tw_84 hw) rfl (tw_65 hw) (by decide)) (tw_65 hw) (tw_66 hw) (by decide) (tw_68 hw) (tw_68 hw) (tw_50 hw) (au_44 hw O0 G P0 P1 P2 P3 P4 P5 P6 P7 P8 P10 g_x2 g_x0 ne_x0_x2) e0 P0 (argsL := [.ref x1]) (rest := []) 5 rfl (hml ▸ rfl) (lenOf pd_16 rfl) rfl rfl (W := 0) (nE rfl) (by decide) (hb hby d10_2) ?_
 intro v1 T1 L1 q1 X1
 obtain ⟨h1, e1⟩ := hpz T1
 rw [e1] at q1
 obtain ⟨rfl, N1, K1, F1_0, F1_1, F1_2, F1_3, F1_4⟩ := q1
 show Go _ _ _ _ (T1.setTop (mkF m 5 #[vR x0, vR x1] [.ref x0]))
 refine Go.pop X1 hx 6 rfl (hb hby d10_5) rfl ?_
 refine aN X1 hx 7 rfl hby d10_6 rfl rfl ?_
 subst hFF
 refine Go.retR X1 hx hlk (t := (.object s3)) hret rfl rfl (hb hby d10_7) (by decide) (by decide) ?_
 rw [e1]
 exact ⟨rfl, (Fr.app (Fr.nil n0) N1), ((Keep.refl h0 [x0, x2]).trans K1 (allS (Or.inl (mG 0 rfl)) (allS (Or.inl (mG 1 rfl)) all0))), F1_0, F1_1, F1_2, F1_3, F1_4⟩
theorem d7_28 : DD B7 28 (.invokevirtual 54, 3) := by decide +kernel
theorem d7_31 : DD B7 31 (.ldc 80, 2) := by decide +kernel
theorem au_51 (hw : HW a0 Z)   (O0 : Old Z n0 h0) (G : Glob Z α β γ δ ε ζ η) (P0 : Exa Z h0 x0 s1) (P1 : f0_ Z h0 x0 (.int 0)) (P2 : f2_ Z h0 x0 (.ref x1)) (P3 : Arv Z h0 x1 kk0 .byte (18 : Int32) ls0 (.int (0 : Int32))) :
    Ctr l Z ⟨s1, "length", "()I"⟩ B12 1 (some .int) (rM 1 0 0 13) #[.ref x0] h0 (fun v h L => v = some (.int 18) ∧ Fr n0 L ∧ h = h0) := by
 refine Ctr.of (plainFor_of_name pn_c1) fun p e s m below meth c T0 hx hZ hby hml hown hnm hret hlk e0 es X0 => Go.cast (ef_12_R m x0) ?_
 generalize hFF : EndN s _ _ _ = FF
 refine aN X0 hx 1 rfl hby d12_0 rfl rfl ?_
 refine gF X0 hx hZ hown (tw_28 hw) e0 P2 4 rfl (hb hby d12_1) ?_
 intro T1 e1 X1
 refine Go.arraylength X1 hx hZ e1 P3 5 rfl (hb hby d12_4) ?_
 refine aN X1 hx 6 rfl hby d12_5 rfl rfl ?_
 refine Go.callV X1 hx hZ hown (tw_74 hw) (tw_75 hw) (nF (mvT hZ (tw_77 hw))) (tw_77 hw) (tw_76 hw) (by decide) (tw_78 hw) (tw_2 hw) (au_24 hw O0 G P1) e1 P0 (argsL := []) (rest := [.int 18]) 9 rfl (hml ▸ rfl) (lenOf pd_11 rfl) rfl rfl (W := 1) (nE rfl) (by decide) (hb hby d12_6) ?_
 intro v2 T2 L2 q2 X2
 obtain ⟨rfl, N2, e2⟩ := q2
 show Go _ _ _ _ (T2.setTop (mkF m 9 #[vR x0] [.int 0, .int 18]))
 refine Go.ishr X2 hx 10 rfl (hb hby d12_9) ?_
 rw [show ((18 : Int32) >>> ((0 : Int32) &&& 31)) = (18 : Int32) from by decide]
 subst hFF
 refine Go.retI X2 hx hlk hret (hb hby d12_10) (by decide) (by decide) ?_
 rw [e2]
 exact ⟨rfl, (Fr.app (Fr.nil n0) N2), rfl⟩
theorem d14_17 : DD B14 17 (.aload_n 0, 1) := by decide +kernel
theorem d14_18 : DD B14 18 (.aload_n 0, 1) := by decide +kernel
theorem d14_19 : DD B14 19 (.getfield 15, 3) := by decide +kernel
theorem d14_22 : DD B14 22 (.aload_n 0, 1) := by decide +kernel
theorem d14_23 : DD B14 23 (.iload_n 1, 1) := by decide +kernel
theorem d18_0 : DD B18 0 (.aload_n 0, 1) := by decide +kernel
theorem d18_1 : DD B18 1 (.getfield 15, 3) := by decide +kernel
theorem d18_4 : DD B18 4 (.arraylength, 1) := by decide +kernel
theorem d18_5 : DD B18 5 (.istore_n 2, 1) := by decide +kernel
theorem d18_6 : DD B18 6 (.iload_n 1, 1) := by decide +kernel
theorem d18_7 : DD B18 7 (.aload_n 0, 1) := by decide +kernel
theorem d18_8 : DD B18 8 (.getfield 22, 3) := by decide +kernel
theorem d18_11 : DD B18 11 (.ishl, 1) := by decide +kernel
theorem d18_12 : DD B18 12 (.istore_n 3, 1) := by decide +kernel
theorem d18_13 : DD B18 13 (.iload_n 3, 1) := by decide +kernel
theorem d18_14 : DD B18 14 (.iload_n 2, 1) := by decide +kernel
theorem d18_15 : DD B18 15 (.isub, 1) := by decide +kernel
theorem d18_16 : DD B18 16 (.istore 4, 2) := by decide +kernel
theorem d18_18 : DD B18 18 (.iload_n 2, 1) := by decide +kernel
theorem d18_19 : DD B18 19 (.iload 4, 2) := by decide +kernel
theorem d18_21 : DD B18 21 (.iload_n 2, 1) := by decide +kernel
theorem d18_22 : DD B18 22 (.iconst 2, 1) := by decide +kernel
theorem d18_23 : DD B18 23 (.aload_n 0, 1) := by decide +kernel
theorem d18_24 : DD B18 24 (.getfield 22, 3) := by decide +kernel
theorem d18_27 : DD B18 27 (.ishl, 1) := by decide +kernel
theorem d18_28 : DD B18 28 (.iadd, 1) := by decide +kernel
theorem d19_0 : DD B19 0 (.iload_n 0, 1) := by decide +kernel
theorem d19_1 : DD B19 1 (.iload_n 1, 1) := by decide +kernel
theorem d19_2 : DD B19 2 (.iload_n 2, 1) := by decide +kernel
theorem d20_0 : DD B20 0 (.iload_n 0, 1) := by decide +kernel
theorem d20_1 : DD B20 1 (.iload_n 1, 1) := by decide +kernel
theorem d20_2 : DD B20 2 (.if_icmp .lt 7, 3) := by decide +kernel
theorem d20_9 : DD B20 9 (.iload_n 1, 1) := by decide +kernel
theorem d20_10 : DD B20 10 (.ireturn, 1) := by decide +kernel
theorem ef_20_II (m : MethodId) (x0 : Int32) (x1 : Int32) : entryFrame m #[(.int x0), (.int x1)] 2 = mkF m 0 #[.val (.int x0), .val (.int x1)] [] := by first | (simp [entryFrame, mkF, argsToLocals, Value.category]; done) | rfl
theorem au_55 (hw : HW a0 Z)  (Z0 : n0 ≤ h0.size) :
    Ctr l Z ⟨"java/lang/Math", "max", "(II)I"⟩ B20 2 (some .int) (rM 0 0 0 0) #[.int 12, .int 18] h0 (fun v h L => v = some (.int 18) ∧ Fr n0 L ∧ h = h0) := by
 refine Ctr.of (Jvm.Free.JP.mathPlain rfl (by decide +kernel)) ?_
 intro p e s m below meth c T0 hx hZ hby hml hown hnm hret hlk e0 es X0
 refine Go.cast (ef_20_II m (12 : Int32) (18 : Int32)) ?_
 generalize hFF : EndN s _ _ _ = FF
 refine iN X0 hx 1 rfl hby d20_0 rfl ?_
 refine iN X0 hx 2 rfl hby d20_1 rfl ?_
 refine Go.icmpYes X0 hx 9 (hb hby d20_2) (by decide) (by decide) (by decide) ?_
 refine iN X0 hx 10 rfl hby d20_9 rfl ?_
 subst hFF
 refine Go.retI X0 hx hlk hret (hb hby d20_10) (by decide) (by decide) ?_
 rw [e0]
 exact ⟨rfl, (Fr.nil n0), rfl⟩
theorem pd_18 : parseMethodDescriptor "(II)I" = some ⟨[.int, .int], some .int⟩ := by decide +kernel
theorem d19_3 : DD B19 3 (.invokestatic 194, 3) := by decide +kernel
theorem d19_6 : DD B19 6 (.iadd, 1) := by decide +kernel
theorem d19_7 : DD B19 7 (.istore_n 3, 1) := by decide +kernel
theorem d19_8 : DD B19 8 (.iconst 0, 1) := by decide +kernel
theorem d19_9 : DD B19 9 (.iload_n 3, 1) := by decide +kernel
theorem d19_10 : DD B19 10 (.if_icmp .ge 11, 3) := by decide +kernel
theorem d19_13 : DD B19 13 (.iload_n 3, 1) := by decide +kernel
theorem d19_14 : DD B19 14 (.ldc 200, 2) := by decide +kernel
theorem d19_16 : DD B19 16 (.if_icmp .gt 5, 3) := by decide +kernel
theorem d19_19 : DD B19 19 (.iload_n 3, 1) := by decide +kernel
theorem d19_20 : DD B19 20 (.ireturn, 1) := by decide +kernel
theorem ef_19_III (m : MethodId) (x0 : Int32) (x1 : Int32) (x2 : Int32) : entryFrame m #[(.int x0), (.int x1), (.int x2)] 4 = mkF m 0 #[.val (.int x0), .val (.int x1), .val (.int x2), .unset] [] := by first | (simp [entryFrame, mkF, argsToLocals, Value.category]; done) | rfl
theorem pn_c4 : plainName "jdk/internal/util/ArraysSupport" = true := by first | (simp [plainName, overriddenIn]; done) | decide +kernel
theorem au_54 (hw : HW a0 Z)  (Z0 : n0 ≤ h0.size) :
    Ctr l Z ⟨"jdk/internal/util/ArraysSupport", "newLength", "(III)I"⟩ B19 4 (some .int) (rM 1 0 0 14) #[.int 16, .int 12, .int 18] h0 (fun v h L => v = some (.int 34) ∧ Fr n0 L ∧ h = h0) := by
 refine Ctr.of (plainFor_of_name pn_c4) fun p e s m below meth c T0 hx hZ hby hml hown hnm hret hlk e0 es X0 => Go.cast (ef_19_III m (16 : Int32) (12 : Int32) (18 : Int32)) ?_
 generalize hFF : EndN s _ _ _ = FF
 refine iN X0 hx 1 rfl hby d19_0 rfl ?_
 refine iN X0 hx 2 rfl hby d19_1 rfl ?_
 refine iN X0 hx 3 rfl hby d19_2 rfl ?_
 refine Go.callS X0 hx hZ hown (tw_117 hw) (tw_118 hw) (tw_119 hw) (tw_120 hw) (by decide) (tw_120 hw) (tw_119 hw) (au_55 hw Z0) e0 (argsL := [.int 12, .int 18]) (rest := [.int 16]) 6 rfl (hml ▸ rfl) (lenOf pd_18 rfl) rfl rfl (W := 1) (nE rfl) (by decide) (hb hby d19_3) ?_
 intro v1 T1 L1 q1 X1
 obtain ⟨rfl, N1, e1⟩ := q1
 show Go _ _ _ _ (T1.setTop (mkF m 6 #[vI 16, vI 12, vI 18, uS] [.int 18, .int 16]))
 refine Go.iadd X1 hx 7 rfl (hb hby d19_6) ?_
 rw [show ((16 : Int32) + (18 : Int32)) = (34 : Int32) from by decide]
 refine Go.istoreN X1 hx 8 rfl (hb hby d19_7) (Ls' := #[vI 16, vI 12, vI 18, vI 34]) rfl ?_
 refine Go.iconst X1 hx 9 rfl (hb hby d19_8) (v := (0 : Int32)) rfl ?_
 refine iN X1 hx 10 rfl hby d19_9 rfl ?_
 refine Go.icmpNo X1 hx 13 rfl (hb hby d19_10) (by decide) ?_
 refine iN X1 hx 14 rfl hby d19_13 rfl ?_
 refine Go.ldcI X1 hx hZ hown (tw_121 hw) 16 rfl (hb hby d19_14) ?_
 refine Go.icmpNo X1 hx 19 rfl (hb hby d19_16) (by decide) ?_
 refine iN X1 hx 20 rfl hby d19_19 rfl ?_
 subst hFF
 refine Go.retI X1 hx hlk hret (hb hby d19_20) (by decide) (by decide) ?_
 rw [e1]
 exact ⟨rfl, (Fr.app (Fr.nil n0) N1), rfl⟩
theorem pd_19 : parseMethodDescriptor "(III)I" = some ⟨[.int, .int, .int], some .int⟩ := by decide +kernel
theorem d18_29 : DD B18 29 (.invokestatic 114, 3) := by decide +kernel
theorem d18_32 : DD B18 32 (.istore 5, 2) := by decide +kernel
theorem d18_34 : DD B18 34 (.iload 5, 2) := by decide +kernel
theorem d18_36 : DD B18 36 (.ldc 39, 2) := by decide +kernel
theorem d18_38 : DD B18 38 (.if_icmp .ne 13, 3) := by decide +kernel
theorem d18_51 : DD B18 51 (.iload 5, 2) := by decide +kernel
theorem d18_53 : DD B18 53 (.aload_n 0, 1) := by decide +kernel
theorem d18_54 : DD B18 54 (.getfield 22, 3) := by decide +kernel
theorem d18_57 : DD B18 57 (.ishr, 1) := by decide +kernel
theorem d18_58 : DD B18 58 (.ireturn, 1) := by decide +kernel
theorem ef_18_RI (m : MethodId) (x0 : Addr) (x1 : Int32) : entryFrame m #[(.ref x0), (.int x1)] 6 = mkF m 0 #[.val (.ref x0), .val (.int x1), .unset, .unset, .unset, .unset] [] := by first | (simp [entryFrame, mkF, argsToLocals, Value.category]; done) | rfl
theorem au_53 (hw : HW a0 Z)  (Z0 : n0 ≤ h0.size) (P1 : f1_ Z h0 x0 (.int 0)) (P4 : f3_ Z h0 x0 (.ref x1)) (P5 : Arv Z h0 x1 kk0 .byte (16 : Int32) ls0 (.int 0)) :
    Ctr l Z ⟨s0, "newCapacity", "(I)I"⟩ B18 6 (some .int) (rM 2 0 0 29) #[.ref x0, .int 28] h0 (fun v h L => v = some (.int 34) ∧ Fr n0 L ∧ h = h0) := by
 refine Ctr.of (plainFor_of_name pn_c2) fun p e s m below meth c T0 hx hZ hby hml hown hnm hret hlk e0 es X0 => Go.cast (ef_18_RI m x0 (28 : Int32)) ?_
 generalize hFF : EndN s _ _ _ = FF
 refine aN X0 hx 1 rfl hby d18_0 rfl rfl ?_
 refine gF X0 hx hZ hown (tw_54 hw) e0 P4 4 rfl (hb hby d18_1) ?_
 intro T1 e1 X1
 refine Go.arraylength X1 hx hZ e1 P5 5 rfl (hb hby d18_4) ?_
 refine Go.istoreN X1 hx 6 rfl (hb hby d18_5) (Ls' := #[vR x0, vI 28, vI 16, uS, uS, uS]) rfl ?_
 refine iN X1 hx 7 rfl hby d18_6 rfl ?_
 refine aN X1 hx 8 rfl hby d18_7 rfl rfl ?_
 refine gF X1 hx hZ hown (tw_56 hw) e1 P1 11 rfl (hb hby d18_8) ?_
 intro T2 e2 X2
 refine Go.ishl X2 hx 12 rfl (hb hby d18_11) ?_
 rw [show ((28 : Int32) <<< ((0 : Int32) &&& 31)) = (28 : Int32) from by decide]
 refine Go.istoreN X2 hx 13 rfl (hb hby d18_12) (Ls' := #[vR x0, vI 28, vI 16, vI 28, uS, uS]) rfl ?_
 refine iN X2 hx 14 rfl hby d18_13 rfl ?_
 refine iN X2 hx 15 rfl hby d18_14 rfl ?_
 refine Go.isub X2 hx 16 rfl (hb hby d18_15) ?_
 rw [show ((28 : Int32) - (16 : Int32)) = (12 : Int32) from by decide]
 refine Go.istore X2 hx 18 rfl (hb hby d18_16) (Ls' := #[vR x0, vI 28, vI 16, vI 28, vI 12, uS]) rfl ?_
 refine iN X2 hx 19 rfl hby d18_18 rfl ?_
 refine Go.iload X2 hx 21 rfl (hb hby d18_19) rfl ?_
 refine iN X2 hx 22 rfl hby d18_21 rfl ?_
 refine Go.iconst X2 hx 23 rfl (hb hby d18_22) (v := (2 : Int32)) rfl ?_
 refine aN X2 hx 24 rfl hby d18_23 rfl rfl ?_
 refine gF X2 hx hZ hown (tw_56 hw) e2 P1 27 rfl (hb hby d18_24) ?_
 intro T3 e3 X3
 refine Go.ishl X3 hx 28 rfl (hb hby d18_27) ?_
 rw [show ((2 : Int32) <<< ((0 : Int32) &&& 31)) = (2 : Int32) from by decide]
 refine Go.iadd X3 hx 29 rfl (hb hby d18_28) ?_
 rw [show ((16 : Int32) + (2 : Int32)) = (18 : Int32) from by decide]
 refine Go.callS X3 hx hZ hown (tw_113 hw) (tw_114 hw) (tw_115 hw) (tw_116 hw) (by decide) (tw_116 hw) (tw_115 hw) (au_54 hw Z0) e3 (argsL := [.int 16, .int 12, .int 18]) (rest := []) 32 rfl (hml ▸ rfl) (lenOf pd_19 rfl) rfl rfl (W := 0) (nE rfl) (by decide) (hb hby d18_29) ?_
 intro v4 T4 L4 q4 X4
 obtain ⟨rfl, N4, e4⟩ := q4
 show Go _ _ _ _ (T4.setTop (mkF m 32 #[vR x0, vI 28, vI 16, vI 28, vI 12, uS] [.int 34]))
 refine Go.istore X4 hx 34 rfl (hb hby d18_32) (Ls' := #[vR x0, vI 28, vI 16, vI 28, vI 12, vI 34]) rfl ?_
 refine Go.iload X4 hx 36 rfl (hb hby d18_34) rfl ?_
 refine Go.ldcI X4 hx hZ hown (tw_122 hw) 38 rfl (hb hby d18_36) ?_
 refine Go.icmpYes X4 hx 51 (hb hby d18_38) (by decide) (by decide) (by decide) ?_
 refine Go.iload X4 hx 53 rfl (hb hby d18_51) rfl ?_
 refine aN X4 hx 54 rfl hby d18_53 rfl rfl ?_
 refine gF X4 hx hZ hown (tw_56 hw) e4 P1 57 rfl (hb hby d18_54) ?_
 intro T5 e5 X5
 refine Go.ishr X5 hx 58 rfl (hb hby d18_57) ?_
 rw [show ((34 : Int32) >>> ((0 : Int32) &&& 31)) = (34 : Int32) from by decide]
 subst hFF
 refine Go.retI X5 hx hlk hret (hb hby d18_58) (by decide) (by decide) ?_
 rw [e5]
 exact ⟨rfl, (Fr.app (Fr.nil n0) N4), rfl⟩
theorem d14_24 : DD B14 24 (.invokevirtual 104, 3) := by decide +kernel
theorem d14_27 : DD B14 27 (.aload_n 0, 1) := by decide +kernel
theorem d14_28 : DD B14 28 (.getfield 22, 3) := by decide +kernel
theorem d14_31 : DD B14 31 (.ishl, 1) := by decide +kernel
theorem d21_0 : DD B21 0 (.iload_n 1, 1) := by decide +kernel
theorem d21_1 : DD B21 1 (.aload_n 0, 1) := by decide +kernel
theorem d21_2 : DD B21 2 (.arraylength, 1) := by decide +kernel
theorem d21_3 : DD B21 3 (.if_icmp .ne 11, 3) := by decide +kernel
theorem d21_14 : DD B21 14 (.iload_n 1, 1) := by decide +kernel
theorem d21_15 : DD B21 15 (.newarray .byte, 2) := by decide +kernel
theorem d21_17 : DD B21 17 (.astore_n 2, 1) := by decide +kernel
theorem d21_18 : DD B21 18 (.aload_n 0, 1) := by decide +kernel
theorem d21_19 : DD B21 19 (.iconst 0, 1) := by decide +kernel
theorem d21_20 : DD B21 20 (.aload_n 2, 1) := by decide +kernel
theorem d21_21 : DD B21 21 (.iconst 0, 1) := by decide +kernel
theorem d21_22 : DD B21 22 (.aload_n 0, 1) := by decide +kernel
theorem d21_23 : DD B21 23 (.arraylength, 1) := by decide +kernel
theorem d21_24 : DD B21 24 (.iload_n 1, 1) := by decide +kernel
theorem d22_0 : DD B22 0 (.iload_n 0, 1) := by decide +kernel
theorem d22_1 : DD B22 1 (.iload_n 1, 1) := by decide +kernel
theorem d22_2 : DD B22 2 (.if_icmp .gt 7, 3) := by decide +kernel
theorem d22_5 : DD B22 5 (.iload_n 0, 1) := by decide +kernel
theorem d22_6 : DD B22 6 (.goto 4, 3) := by decide +kernel
theorem d22_10 : DD B22 10 (.ireturn, 1) := by decide +kernel
theorem ef_22_II (m : MethodId) (x0 : Int32) (x1 : Int32) : entryFrame m #[(.int x0), (.int x1)] 2 = mkF m 0 #[.val (.int x0), .val (.int x1)] [] := by first | (simp [entryFrame, mkF, argsToLocals, Value.category]; done) | rfl
theorem au_57 (hw : HW a0 Z)  (Z0 : n0 ≤ h0.size) :
    Ctr l Z ⟨"java/lang/Math", "min", "(II)I"⟩ B22 2 (some .int) (rM 0 0 0 0) #[.int 16, .int 34] h0 (fun v h L => v = some (.int 16) ∧ Fr n0 L ∧ h = h0) := by
 refine Ctr.of (Jvm.Free.JP.mathPlain rfl (by decide +kernel)) ?_
 intro p e s m below meth c T0 hx hZ hby hml hown hnm hret hlk e0 es X0
 refine Go.cast (ef_22_II m (16 : Int32) (34 : Int32)) ?_
 generalize hFF : EndN s _ _ _ = FF
 refine iN X0 hx 1 rfl hby d22_0 rfl ?_
 refine iN X0 hx 2 rfl hby d22_1 rfl ?_
 refine Go.icmpNo X0 hx 5 rfl (hb hby d22_2) (by decide) ?_
 refine iN X0 hx 6 rfl hby d22_5 rfl ?_
 refine Go.goto X0 hx 10 (hb hby d22_6) (by decide) (by decide) ?_
 subst hFF
 refine Go.retI X0 hx hlk hret (hb hby d22_10) (by decide) (by decide) ?_
 rw [e0]
 exact ⟨rfl, (Fr.nil n0), rfl⟩
theorem d21_25 : DD B21 25 (.invokestatic 304, 3) := by decide +kernel
theorem d21_28 : DD B21 28 (.invokestatic 150, 3) := by decide +kernel
theorem d21_31 : DD B21 31 (.aload_n 2, 1) := by decide +kernel
theorem d21_32 : DD B21 32 (.areturn, 1) := by decide +kernel
theorem ef_21_RI (m : MethodId) (x0 : Addr) (x1 : Int32) : entryFrame m #[(.ref x0), (.int x1)] 3 = mkF m 0 #[.val (.ref x0), .val (.int x1), .unset] [] := by first | (simp [entryFrame, mkF, argsToLocals, Value.category]; done) | rfl
theorem pn_c5 : plainName "java/util/Arrays" = true := by first | (simp [plainName, overriddenIn]; done) | decide +kernel
theorem au_56 (hw : HW a0 Z)  (Z0 : n0 ≤ h0.size) (P0 : Arv Z h0 x0 kk0 .byte (16 : Int32) (LL20 p0 p1 p2 p3 p4 p5 p6 p7 p8 p9) (.int 0)) :
    Ctr l Z ⟨"java/util/Arrays", "copyOf", "([BI)[B"⟩ B21 3 (some (.array .byte)) (rM 1 1 34 18) #[.ref x0, .int 34] h0 (fun v h L => ∃ (y0 : Addr) (y1 : ClassId), v = some (.ref y0) ∧ Fr n0 L ∧ Keep h0 h [] ∧ h0.size ≤ y0 ∧ Arv Z h y0 y1 .byte (34 : Int32) (LL21 p0 p1 p2 p3 p4 p5 p6 p7 p8 p9) (.int 0) ∧ Exa Z h y0 "[B") := by
 refine Ctr.of (plainFor_of_name pn_c5) fun p e s m below meth c T0 hx hZ hby hml hown hnm hret hlk e0 es X0 => Go.cast (ef_21_RI m x0 (34 : Int32)) ?_
 generalize hFF : EndN s _ _ _ = FF
 refine iN X0 hx 1 rfl hby d21_0 rfl ?_
 refine aN X0 hx 2 rfl hby d21_1 rfl rfl ?_
 refine Go.arraylength X0 hx hZ e0 P0 3 rfl (hb hby d21_2) ?_
 refine Go.icmpYes X0 hx 14 (hb hby d21_3) (by decide) (by decide) (by decide) ?_
 refine iN X0 hx 15 rfl hby d21_14 rfl ?_
 refine Go.newarray X0 hx hZ (ty := .byte) rfl (tw_19 hw) e0 (by decide) (cap := 34) (by decide) (by decide) (by decide) (by decide) (ad := "[B") (by decide) 34 17 rfl (hb hby d21_15) ?_
 intro T1 h1 b1 k1 e1 E1 g1 V1 A1 X1
 have V1' : Arv Z h1 b1 k1 .byte (34 : Int32) [.int 0, .int 0, .int 0, .int 0, .int 0, .int 0, .int 0, .int 0, .int 0, .int 0, .int 0, .int 0, .int 0, .int 0, .int 0, .int 0, .int 0, .int 0, .int 0, .int 0, .int 0, .int 0, .int 0, .int 0, .int 0, .int 0, .int 0, .int 0, .int 0, .int 0, .int 0, .int 0, .int 0, .int 0] (.int 0) := V1
 refine Go.astoreN X1 hx 18 rfl (hb hby d21_17) (Ls' := #[vR x0, vI 34, vR b1]) rfl rfl ?_
 refine aN X1 hx 19 rfl hby d21_18 rfl rfl ?_
 refine Go.iconst X1 hx 20 rfl (hb hby d21_19) (v := (0 : Int32)) rfl ?_
 refine aN X1 hx 21 rfl hby d21_20 rfl rfl ?_
 refine Go.iconst X1 hx 22 rfl (hb hby d21_21) (v := (0 : Int32)) rfl ?_
 refine aN X1 hx 23 rfl hby d21_22 rfl rfl ?_
 have fk2 := (P0.ext E1)
 refine Go.arraylength X1 hx hZ e1 fk2 24 rfl (hb hby d21_23) ?_
 refine iN X1 hx 25 rfl hby d21_24 rfl ?_
 have Kp4 := ((Keep.refl h0 []).ext E1)
 refine Go.callS X1 hx hZ hown (tw_127 hw) (tw_128 hw) (tw_119 hw) (tw_129 hw) (by decide) (tw_129 hw) (tw_119 hw) (au_57 hw (Nat.le_trans Z0 Kp4.1)) e1 (argsL := [.int 16, .int 34]) (rest := [.int 0, .ref b1, .int 0, .ref x0]) 28 rfl (hml ▸ rfl) (lenOf pd_18 rfl) rfl rfl (W := 4) (nE rfl) (by decide) (hb hby d21_25) ?_
 intro v5 T5 L5 q5 X5
 obtain ⟨rfl, N5, e5⟩ := q5
 show Go _ _ _ _ (T5.setTop (mkF m 28 #[vR x0, vI 34, vR b1] [.int 16, .int 0, .ref b1, .int 0, .ref x0]))
 have sz7 := Nat.le_trans (Keep.refl h0 []).1 (Nat.le_of_eq g1.symm)
 refine Go.arraycopy X5 hx hZ hown (tw_130 hw) (tw_105 hw) (tw_103 hw) (tw_104 hw) e5 fk2 V1' rfl (sp := (0 : Int32)) (dp := (0 : Int32)) (nn := (16 : Int32)) (us := (LL20 p0 p1 p2 p3 p4 p5 p6 p7 p8 p9)) (by decide) (by decide) (by decide) (by decide) (by decide) rfl (nB rfl) (Fr.app (Fr.nil n0) N5) (Nat.le_trans Z0 sz7) (by decide) (W := 0) (hml ▸ rfl) (nE rfl) (by decide) (pc' := 31) rfl (hb hby d21_28) ?_
 intro T8 h8 L8 e8 N8 K8 V8 X8
 have V8' : Arv Z h8 b1 k1 .byte (34 : Int32) (LL21 p0 p1 p2 p3 p4 p5 p6 p7 p8 p9) (.int 0) := V8
 refine aN X8 hx 32 rfl hby d21_31 rfl rfl ?_
 subst hFF
 refine Go.retR X8 hx hlk (t := (.array .byte)) hret rfl rfl (hb hby d21_32) (by decide) (by decide) ?_
 rw [e8]
 exact ⟨b1, k1, rfl, N8, (Kp4.trans K8 (allS (Or.inr sz7) all0)), sz7, V8', (A1.keep K8)⟩
theorem pd_20 : parseMethodDescriptor "([BI)[B" = some ⟨[(.array .byte), .int], some (.array .byte)⟩ := by decide +kernel
theorem d14_32 : DD B14 32 (.invokestatic 108, 3) := by decide +kernel
theorem d14_35 : DD B14 35 (.putfield 15, 3) := by decide +kernel
theorem au_52 (hw : HW a0 Z)  (Z0 : n0 ≤ h0.size) (P0 : Exa Z h0 x0 s3) (P1 : f1_ Z h0 x0 (.int 0)) (P2 : f4_ Z h0 x0 (.int 10)) (P3 : f5_ Z h0 x0 (.int 0)) (P4 : f3_ Z h0 x0 (.ref x1)) (P5 : Arv Z h0 x1 kk0 .byte (16 : Int32) (LL20 p0 p1 p2 p3 p4 p5 p6 p7 p8 p9) (.int 0)) (g_x0 : n0 ≤ x0) :
    Ctr l Z ⟨s0, "ensureCapacityInternal", "(I)V"⟩ B14 3 none (rM 3 1 34 48) #[.ref x0, .int 28] h0 (fun v h L => ∃ (y0 : Addr) (y1 : ClassId), v = none ∧ Fr n0 L ∧ Keep h0 h [x0] ∧ h0.size ≤ y0 ∧ f1_ Z h x0 (.int 0) ∧ f4_ Z h x0 (.int 10) ∧ f5_ Z h x0 (.int 0) ∧ f3_ Z h x0 (.ref y0) ∧ Arv Z h y0 y1 .byte (34 : Int32) (LL21 p0 p1 p2 p3 p4 p5 p6 p7 p8 p9) (.int 0) ∧ Exa Z h y0 "[B") := by
 refine Ctr.of (plainFor_of_name pn_c2) fun p e s m below meth c T0 hx hZ hby hml hown hnm hret hlk e0 es X0 => Go.cast (ef_14_RI m x0 (28 : Int32)) ?_
 generalize hFF : EndN s _ _ _ = FF
 refine aN X0 hx 1 rfl hby d14_0 rfl rfl ?_
 refine gF X0 hx hZ hown (tw_54 hw) e0 P4 4 rfl (hb hby d14_1) ?_
 intro T1 e1 X1
 refine Go.arraylength X1 hx hZ e1 P5 5 rfl (hb hby d14_4) ?_
 refine aN X1 hx 6 rfl hby d14_5 rfl rfl ?_
 refine gF X1 hx hZ hown (tw_56 hw) e1 P1 9 rfl (hb hby d14_6) ?_
 intro T2 e2 X2
 refine Go.ishr X2 hx 10 rfl (hb hby d14_9) ?_
 rw [show ((16 : Int32) >>> ((0 : Int32) &&& 31)) = (16 : Int32) from by decide]
 refine Go.istoreN X2 hx 11 rfl (hb hby d14_10) (Ls' := #[vR x0, vI 28, vI 16]) rfl ?_
 refine iN X2 hx 12 rfl hby d14_11 rfl ?_
 refine iN X2 hx 13 rfl hby d14_12 rfl ?_
 refine Go.isub X2 hx 14 rfl (hb hby d14_13) ?_
 rw [show ((28 : Int32) - (16 : Int32)) = (12 : Int32) from by decide]
 refine Go.ifNo X2 hx 17 rfl (hb hby d14_14) (by decide) ?_
 refine aN X2 hx 18 rfl hby d14_17 rfl rfl ?_
 refine aN X2 hx 19 rfl hby d14_18 rfl rfl ?_
 refine gF X2 hx hZ hown (tw_54 hw) e2 P4 22 rfl (hb hby d14_19) ?_
 intro T3 e3 X3
 refine aN X3 hx 23 rfl hby d14_22 rfl rfl ?_
 refine iN X3 hx 24 rfl hby d14_23 rfl ?_
 refine Go.callP X3 hx hZ hown (tw_108 hw) (tw_109 hw) (tw_111 hw) (tw_110 hw) (tw_112 hw) (by decide) (tw_112 hw) (tw_50 hw) (au_53 hw Z0 P1 P4 P5) e3 P0 (argsL := [.int 28]) (rest := [.ref x1, .ref x0]) 27 rfl (hml ▸ rfl) (lenOf pd_1 rfl) rfl rfl (W := 2) (nE rfl) (by decide) (hb hby d14_24) ?_
 intro v4 T4 L4 q4 X4
 obtain ⟨rfl, N4, e4⟩ := q4
 show Go _ _ _ _ (T4.setTop (mkF m 27 #[vR x0, vI 28, vI 16] [.int 34, .ref x1, .ref x0]))
 refine aN X4 hx 28 rfl hby d14_27 rfl rfl ?_
 refine gF X4 hx hZ hown (tw_56 hw) e4 P1 31 rfl (hb hby d14_28) ?_
 intro T5 e5 X5
 refine Go.ishl X5 hx 32 rfl (hb hby d14_31) ?_
 rw [show ((34 : Int32) <<< ((0 : Int32) &&& 31)) = (34 : Int32) from by decide]
 refine Go.callS X5 hx hZ hown (tw_123 hw) (tw_124 hw) (tw_125 hw) (tw_126 hw) (by decide) (tw_126 hw) (tw_125 hw) (au_56 hw Z0 P5) e5 (argsL := [.ref x1, .int 34]) (rest := [.ref x0]) 35 rfl (hml ▸ rfl) (lenOf pd_20 rfl) rfl rfl (W := 1) (nE rfl) (by decide) (hb hby d14_32) ?_
 intro v6 T6 L6 q6 X6
 obtain ⟨h6, e6⟩ := hpz T6
 rw [e6] at q6
 obtain ⟨b6_0, k6_0, rfl, N6, K6, s6_0, F6_0, F6_1⟩ := q6
 show Go _ _ _ _ (T6.setTop (mkF m 35 #[vR x0, vI 28, vI 16] [.ref b6_0, .ref x0]))
 refine Go.putF X6 hx hZ hown (host := "") (Or.inl (tw_54 hw)) Via.refl e6 (P4.keep K6 nin0) (P0.keep K6) (Or.inl (tw_55 hw)) (tw_41 hw) (ty := (.array .byte)) (by decide) rfl rfl 38 rfl (hb hby d14_35) ?_
 intro T9 h9 e9 W9 F9 X9
 have N9 := Fr.snoc X9 (Fr.app (Fr.app (Fr.nil n0) N4) N6) g_x0
 subst hFF
 refine Go.ret0 X9 hx hlk hret (hb hby d14_38) (by decide) (by decide) ?_
 rw [e9]
 exact ⟨b6_0, k6_0, rfl, N9, (((Keep.refl h0 [x0]).trans K6 all0).wr W9 (Or.inl (mG 0 rfl))), (Nat.le_trans (Keep.refl h0 [x0]).1 s6_0), ((P1.keep K6 nin0).other W9 (Or.inr (slot_ne (Or.inl (tw_57 hw)) (Or.inl (tw_55 hw)) (by decide) (t := .byte) (t' := (.array .byte)) (by decide) (by decide)))), ((P2.keep K6 nin0).other W9 (Or.inr (slot_ne (Or.inl (tw_80 hw)) (Or.inl (tw_55 hw)) (by decide) (t := .int) (t' := (.array .byte)) (by decide) (by decide)))), ((P3.keep K6 nin0).other W9 (Or.inr (slot_ne (Or.inl (tw_293 hw)) (Or.inl (tw_55 hw)) (by decide) (t := .boolean) (t' := (.array .byte)) (by decide) (by decide)))), F9, (F6_0.other W9 (Ne.symm (Nat.ne_of_lt (Nat.lt_of_lt_of_le P0.lt s6_0)))), (F6_1.wr W9)⟩
theorem au_59 (hw : HW a0 Z)   (O0 : Old Z n0 h0) (G : Glob Z α β γ δ ε ζ η) (P1 : f1_ Z h0 x0 (.int 0)) (P5 : Exa Z h0 x1 s1) (P6 : f0_ Z h0 x1 (.int 0)) :
    Ctr l Z ⟨s0, "inflateIfNeededFor", "(Ljava/lang/String;)V"⟩ B16 2 none (rM 1 0 0 13) #[.ref x0, .ref x1] h0 (fun v h L => v = none ∧ Fr n0 L ∧ h = h0) := by
 refine Ctr.of (plainFor_of_name pn_c2) ?_
 intro p e s m below meth c T0 hx hZ hby hml hown hnm hret hlk e0 es X0
 have G' := G
 obtain ⟨G0, -, -, -, -, -, -, -, -, -, -, -, G12, -⟩ := G'
 refine Go.cast (ef_16_RR m x0 x1) ?_
 generalize hFF : EndN s _ _ _ = FF
 refine Go.getS X0 hx hZ hown (host := "") (Or.inl (tw_53 hw)) Via.refl e0 (G0.ext O0.2) 3 rfl (hb hby d16_0) ?_
 intro T2 e2 X2
 refine Go.ifNo X2 hx 6 rfl (hb hby d16_3) (feq G12).1 ?_
 refine aN X2 hx 7 rfl hby d16_6 rfl rfl ?_
 refine gF X2 hx hZ hown (tw_56 hw) e2 P1 10 rfl (hb hby d16_7) ?_
 intro T3 e3 X3
 refine aN X3 hx 11 rfl hby d16_10 rfl rfl ?_
 refine Go.callV X3 hx hZ hown (tw_96 hw) (tw_75 hw) (nF (mvT hZ (tw_77 hw))) (tw_77 hw) (tw_76 hw) (by decide) (tw_78 hw) (tw_2 hw) (au_24 hw O0 G P6) e3 P5 (argsL := []) (rest := [.int 0]) 14 rfl (hml ▸ rfl) (lenOf pd_11 rfl) rfl rfl (W := 1) (nE rfl) (by decide) (hb hby d16_11) ?_
 intro v4 T4 L4 q4 X4
 obtain ⟨rfl, N4, e4⟩ := q4
 show Go _ _ _ _ (T4.setTop (mkF m 14 #[vR x0, vR x1] [.int 0, .int 0]))
 refine Go.icmpYes X4 hx 21 (hb hby d16_14) (by decide) (by decide) (by decide) ?_
 subst hFF
 refine Go.ret0 X4 hx hlk hret (hb hby d16_21) (by decide) (by decide) ?_
 rw [e4]
 exact ⟨rfl, (Fr.app (Fr.nil n0) N4), rfl⟩
theorem au_60 (hw : HW a0 Z)   (O0 : Old Z n0 h0) (G : Glob Z α β γ δ ε ζ η) (P0 : Exa Z h0 x0 s1) (P1 : f0_ Z h0 x0 (.int 0)) (P2 : f2_ Z h0 x0 (.ref x2)) (P3 : Arv Z h0 x1 kk0 .byte (34 : Int32) (LL21 p0 p1 p2 p3 p4 p5 p6 p7 p8 p9) (.int 0)) (P5 : Arv Z h0 x2 kk1 .byte (18 : Int32) LL5 (.int (0 : Int32))) (g_x1 : n0 ≤ x1) :
    Ctr l Z ⟨s1, "getBytes", "([BIB)V"⟩ B17 4 none (rM 1 0 0 18) #[.ref x0, .ref x1, .int 10, .int 0] h0 (fun v h L => v = none ∧ Fr n0 L ∧ Keep h0 h [x1] ∧ Arv Z h x1 kk0 .byte (34 : Int32) (LL22 p0 p1 p2 p3 p4 p5 p6 p7 p8 p9) (.int 0)) := by
 refine Ctr.of (plainFor_of_name pn_c1) fun p e s m below meth c T0 hx hZ hby hml hown hnm hret hlk e0 es X0 => Go.cast (ef_17_RRII m x0 x1 (10 : Int32) (0 : Int32)) ?_
 generalize hFF : EndN s _ _ _ = FF
 refine aN X0 hx 1 rfl hby d17_0 rfl rfl ?_
 refine Go.callV X0 hx hZ hown (tw_74 hw) (tw_75 hw) (nF (mvT hZ (tw_77 hw))) (tw_77 hw) (tw_76 hw) (by decide) (tw_78 hw) (tw_2 hw) (au_24 hw O0 G P1) e0 P0 (argsL := []) (rest := []) 4 rfl (hml ▸ rfl) (lenOf pd_11 rfl) rfl rfl (W := 0) (nE rfl) (by decide) (hb hby d17_1) ?_
 intro v1 T1 L1 q1 X1
 obtain ⟨rfl, N1, e1⟩ := q1
 show Go _ _ _ _ (T1.setTop (mkF m 4 #[vR x0, vR x1, vI 10, vI 0] [.int 0]))
 refine iN X1 hx 5 rfl hby d17_4 rfl ?_
 refine Go.icmpNo X1 hx 8 rfl (hb hby d17_5) (by decide) ?_
 refine aN X1 hx 9 rfl hby d17_8 rfl rfl ?_
 refine gF X1 hx hZ hown (tw_28 hw) e1 P2 12 rfl (hb hby d17_9) ?_
 intro T2 e2 X2
 refine Go.iconst X2 hx 13 rfl (hb hby d17_12) (v := (0 : Int32)) rfl ?_
 refine aN X2 hx 14 rfl hby d17_13 rfl rfl ?_
 refine iN X2 hx 15 rfl hby d17_14 rfl ?_
 refine iN X2 hx 16 rfl hby d17_15 rfl ?_
 refine Go.ishl X2 hx 17 rfl (hb hby d17_16) ?_
 rw [show ((10 : Int32) <<< ((0 : Int32) &&& 31)) = (10 : Int32) from by decide]
 refine aN X2 hx 18 rfl hby d17_17 rfl rfl ?_
 refine gF X2 hx hZ hown (tw_28 hw) e2 P2 21 rfl (hb hby d17_18) ?_
 intro T3 e3 X3
 refine Go.arraylength X3 hx hZ e3 P5 22 rfl (hb hby d17_21) ?_
 refine Go.arraycopy X3 hx hZ hown (tw_102 hw) (tw_105 hw) (tw_103 hw) (tw_104 hw) e3 P5 P3 rfl (sp := (0 : Int32)) (dp := (10 : Int32)) (nn := (18 : Int32)) (us := LL5) (by decide) (by decide) (by decide) (by decide) (by decide) rfl (nB rfl) (Fr.app (Fr.nil n0) N1) g_x1 (by decide) (W := 0) (hml ▸ rfl) (nE rfl) (by decide) (pc' := 25) rfl (hb hby d17_22) ?_
 intro T4 h4 L4 e4 N4 K4 V4 X4
 have V4' : Arv Z h4 x1 kk0 .byte (34 : Int32) (LL22 p0 p1 p2 p3 p4 p5 p6 p7 p8 p9) (.int 0) := V4
 refine Go.goto X4 hx 43 (hb hby d17_25) (by decide) (by decide) ?_
 subst hFF
 refine Go.ret0 X4 hx hlk hret (hb hby d17_43) (by decide) (by decide) ?_
 rw [e4]
 exact ⟨rfl, N4, ((Keep.refl h0 [x1]).trans K4 (allS (Or.inl (mG 0 rfl)) all0)), V4'⟩
theorem au_58 (hw : HW a0 Z)   (O0 : Old Z n0 h0) (G : Glob Z α β γ δ ε ζ η) (P0 : Exa Z h0 x0 s3) (P1 : f1_ Z h0 x0 (.int 0)) (P4 : f3_ Z h0 x0 (.ref x2)) (P5 : Exa Z h0 x1 s1) (P6 : f0_ Z h0 x1 (.int 0)) (P7 : f2_ Z h0 x1 (.ref x3)) (P8 : Arv Z h0 x2 kk0 .byte (34 : Int32) (LL21 p0 p1 p2 p3 p4 p5 p6 p7 p8 p9) (.int 0)) (P10 : Arv Z h0 x3 kk1 .byte (18 : Int32) LL5 (.int (0 : Int32))) (g_x2 : n0 ≤ x2) :
    Ctr l Z ⟨s0, "putStringAt", "(ILjava/lang/String;)V"⟩ B15 3 none (rM 2 0 0 33) #[.ref x0, .int 10, .ref x1] h0 (fun v h L => v = none ∧ Fr n0 L ∧ Keep h0 h [x2] ∧ Arv Z h x2 kk0 .byte (34 : Int32) (LL22 p0 p1 p2 p3 p4 p5 p6 p7 p8 p9) (.int 0)) := by
 refine Ctr.of (plainFor_of_name pn_c2) fun p e s m below meth c T0 hx hZ hby hml hown hnm hret hlk e0 es X0 => Go.cast (ef_15_RIR m x0 (10 : Int32) x1) ?_
 generalize hFF : EndN s _ _ _ = FF
 refine aN X0 hx 1 rfl hby d15_0 rfl rfl ?_
 refine aN X0 hx 2 rfl hby d15_1 rfl rfl ?_
 refine Go.callP X0 hx hZ hown (tw_91 hw) (tw_92 hw) (tw_94 hw) (tw_93 hw) (tw_95 hw) (by decide) (tw_95 hw) (tw_50 hw) (au_59 hw O0 G P1 P5 P6) e0 P0 (argsL := [.ref x1]) (rest := []) 5 rfl (hml ▸ rfl) (lenOf pd_13 rfl) rfl rfl (W := 0) (nE rfl) (by decide) (hb hby d15_2) ?_
 intro v1 T1 L1 q1 X1
 obtain ⟨rfl, N1, e1⟩ := q1
 refine aN X1 hx 6 rfl hby d15_5 rfl rfl ?_
 refine aN X1 hx 7 rfl hby d15_6 rfl rfl ?_
 refine gF X1 hx hZ hown (tw_54 hw) e1 P4 10 rfl (hb hby d15_7) ?_
 intro T2 e2 X2
 refine iN X2 hx 11 rfl hby d15_10 rfl ?_
 refine aN X2 hx 12 rfl hby d15_11 rfl rfl ?_
 refine gF X2 hx hZ hown (tw_56 hw) e2 P1 15 rfl (hb hby d15_12) ?_
 intro T3 e3 X3
 refine Go.callV X3 hx hZ hown (tw_97 hw) (tw_98 hw) (nF (mvT hZ (tw_100 hw))) (tw_100 hw) (tw_99 hw) (by decide) (tw_101 hw) (tw_2 hw) (au_60 hw O0 G P5 P6 P7 P8 P10 g_x2) e3 P5 (argsL := [.ref x2, .int 10, .int 0]) (rest := []) 18 rfl (hml ▸ rfl) (lenOf pd_14 rfl) rfl rfl (W := 0) (nE rfl) (by decide) (hb hby d15_15) ?_
 intro v4 T4 L4 q4 X4
 obtain ⟨h4, e4⟩ := hpz T4
 rw [e4] at q4
 obtain ⟨rfl, N4, K4, F4_0⟩ := q4
 subst hFF
 refine Go.ret0 X4 hx hlk hret (hb hby d15_18) (by decide) (by decide) ?_
 rw [e4]
 exact ⟨rfl, (Fr.app (Fr.app (Fr.nil n0) N1) N4), ((Keep.refl h0 [x2]).trans K4 (allS (Or.inl (mG 0 rfl)) all0)), F4_0⟩
theorem au_50 (hw : HW a0 Z)   (O0 : Old Z n0 h0) (G : Glob Z α β γ δ ε ζ η) (P0 : Exa Z h0 x0 s3) (P1 : f1_ Z h0 x0 (.int 0)) (P2 : f4_ Z h0 x0 (.int 10)) (P3 : f5_ Z h0 x0 (.int 0)) (P4 : f3_ Z h0 x0 (.ref x2)) (P5 : Exa Z h0 x1 s1) (P6 : f0_ Z h0 x1 (.int 0)) (P7 : f2_ Z h0 x1 (.ref x3)) (P8 : Arv Z h0 x2 kk0 .byte (16 : Int32) (LL20 p0 p1 p2 p3 p4 p5 p6 p7 p8 p9) (.int 0)) (P10 : Arv Z h0 x3 kk1 .byte (18 : Int32) LL5 (.int (0 : Int32))) (g_x0 : n0 ≤ x0) (ne_x1_x0 : x1 ≠ x0) (ne_x3_x0 : x3 ≠ x0) :
    Ctr l Z ⟨s0, "append", s11⟩ B11 3 (some (.object s0)) (rM 4 1 34 62) #[.ref x0, .ref x1] h0 (fun v h L => ∃ (y0 : Addr) (y1 : ClassId), v = some (.ref x0) ∧ Fr n0 L ∧ Keep h0 h [x0] ∧ h0.size ≤ y0 ∧ f1_ Z h x0 (.int 0) ∧ f4_ Z h x0 (.int 28) ∧ f5_ Z h x0 (.int 0) ∧ f3_ Z h x0 (.ref y0) ∧ Arv Z h y0 y1 .byte (34 : Int32) (LL22 p0 p1 p2 p3 p4 p5 p6 p7 p8 p9) (.int 0) ∧ Exa Z h y0 "[B") := by
 refine Ctr.of (plainFor_of_name pn_c2) fun p e s m below meth c T0 hx hZ hby hml hown hnm hret hlk e0 es X0 => Go.cast (ef_11_RR m x0 x1) ?_
 generalize hFF : EndN s _ _ _ = FF
 refine aN X0 hx 1 rfl hby d11_0 rfl rfl ?_
 refine Go.ifnonnullYes X0 hx 9 (hb hby d11_1) (by decide) (by decide) ?_
 refine aN X0 hx 10 rfl hby d11_9 rfl rfl ?_
 refine Go.callV X0 hx hZ hown (tw_69 hw) (tw_70 hw) (nF (mvT hZ (tw_72 hw))) (tw_72 hw) (tw_71 hw) (by decide) (tw_73 hw) (tw_2 hw) (au_51 hw O0 G P5 P6 P7 P10) e0 P5 (argsL := []) (rest := []) 13 rfl (hml ▸ rfl) (lenOf pd_12 rfl) rfl rfl (W := 0) (nE rfl) (by decide) (hb hby d11_10) ?_
 intro v1 T1 L1 q1 X1
 obtain ⟨rfl, N1, e1⟩ := q1
 show Go _ _ _ _ (T1.setTop (mkF m 13 #[vR x0, vR x1, uS] [.int 18]))
 refine Go.istoreN X1 hx 14 rfl (hb hby d11_13) (Ls' := #[vR x0, vR x1, vI 18]) rfl ?_
 refine aN X1 hx 15 rfl hby d11_14 rfl rfl ?_
 refine aN X1 hx 16 rfl hby d11_15 rfl rfl ?_
 refine gF X1 hx hZ hown (tw_79 hw) e1 P2 19 rfl (hb hby d11_16) ?_
 intro T2 e2 X2
 refine iN X2 hx 20 rfl hby d11_19 rfl ?_
 refine Go.iadd X2 hx 21 rfl (hb hby d11_20) ?_
 rw [show ((10 : Int32) + (18 : Int32)) = (28 : Int32) from by decide]
 refine Go.callP X2 hx hZ hown (tw_81 hw) (tw_82 hw) (tw_84 hw) (tw_83 hw) (tw_85 hw) (by decide) (tw_85 hw) (tw_50 hw) (au_52 hw O0.z P0 P1 P2 P3 P4 P8 g_x0) e2 P0 (argsL := [.int 28]) (rest := []) 24 rfl (hml ▸ rfl) (lenOf pd_9 rfl) rfl rfl (W := 0) (nE rfl) (by decide) (hb hby d11_21) ?_
 intro v3 T3 L3 q3 X3
 obtain ⟨h3, e3⟩ := hpz T3
 rw [e3] at q3
 obtain ⟨b3_0, k3_0, rfl, N3, K3, s3_0, F3_0, F3_1, F3_2, F3_3, F3_4, F3_5⟩ := q3
 refine aN X3 hx 25 rfl hby d11_24 rfl rfl ?_
 refine aN X3 hx 26 rfl hby d11_25 rfl rfl ?_
 refine gF X3 hx hZ hown (tw_79 hw) e3 F3_1 29 rfl (hb hby d11_26) ?_
 intro T4 e4 X4
 refine aN X4 hx 30 rfl hby d11_29 rfl rfl ?_
 have fk6 := (P0.keep K3)
 have sz12 := Nat.le_trans (Keep.refl h0 [x0]).1 s3_0
 refine Go.callP X4 hx hZ hown (tw_86 hw) (tw_87 hw) (tw_89 hw) (tw_88 hw) (tw_90 hw) (by decide) (tw_90 hw) (tw_50 hw) (au_58 hw (O0.keep K3 (allS g_x0 all0)) G fk6 F3_0 F3_3 (P5.keep K3) (P6.keep K3 (ninS ne_x1_x0 nin0)) (P7.keep K3 (ninS ne_x1_x0 nin0)) F3_4 (P10.keep K3 (ninS ne_x3_x0 nin0)) (Nat.le_trans O0.z sz12)) e4 fk6 (argsL := [.int 10, .ref x1]) (rest := []) 33 rfl (hml ▸ rfl) (lenOf pd_15 rfl) rfl rfl (W := 0) (nE rfl) (by decide) (hb hby d11_30) ?_
 intro v13 T13 L13 q13 X13
 obtain ⟨h13, e13⟩ := hpz T13
 rw [e13] at q13
 obtain ⟨rfl, N13, K13, F13_0⟩ := q13
 refine aN X13 hx 34 rfl hby d11_33 rfl rfl ?_
 refine Go.dup X13 hx 35 rfl (hb hby d11_34) rfl ?_
 have ne14 := Nat.ne_of_lt (Nat.lt_of_lt_of_le P0.lt s3_0)
 have fk15 := (F3_1.keep K13 (ninS ne14 nin0))
 refine gF X13 hx hZ hown (tw_79 hw) e13 fk15 38 rfl (hb hby d11_35) ?_
 intro T16 e16 X16
 refine iN X16 hx 39 rfl hby d11_38 rfl ?_
 refine Go.iadd X16 hx 40 rfl (hb hby d11_39) ?_
 rw [show ((10 : Int32) + (18 : Int32)) = (28 : Int32) from by decide]
 refine Go.putF X16 hx hZ hown (host := "") (Or.inl (tw_79 hw)) Via.refl e16 fk15 (fk6.keep K13) (Or.inl (tw_80 hw)) (tw_41 hw) (ty := .int) (by decide) rfl rfl 43 rfl (hb hby d11_40) ?_
 intro T18 h18 e18 W18 F18 X18
 have N18 := Fr.snoc X18 (Fr.app (Fr.app (Fr.app (Fr.nil n0) N1) N3) N13) g_x0
 refine aN X18 hx 44 rfl hby d11_43 rfl rfl ?_
 subst hFF
 refine Go.retR X18 hx hlk (t := (.object s0)) hret rfl rfl (hb hby d11_44) (by decide) (by decide) ?_
 rw [e18]
 exact ⟨b3_0, k3_0, rfl, N18, ((((Keep.refl h0 [x0]).trans K3 (allS (Or.inl (mG 0 rfl)) all0)).trans K13 (allS (Or.inr sz12) all0)).wr W18 (Or.inl (mG 0 rfl))), sz12, ((F3_0.keep K13 (ninS ne14 nin0)).other W18 (Or.inr (slot_ne (Or.inl (tw_57 hw)) (Or.inl (tw_80 hw)) (by decide) (t := .byte) (t' := .int) (by decide) (by decide)))), F18, ((F3_2.keep K13 (ninS ne14 nin0)).other W18 (Or.inr (slot_ne (Or.inl (tw_293 hw)) (Or.inl (tw_80 hw)) (by decide) (t := .boolean) (t' := .int) (by decide) (by decide)))), ((F3_3.keep K13 (ninS ne14 nin0)).other W18 (Or.inr (slot_ne (Or.inl (tw_55 hw)) (Or.inl (tw_80 hw)) (by decide) (t := (.array .byte)) (t' := .int) (by decide) (by decide)))), (F13_0.other W18 (Ne.symm ne14)), ((F3_5.keep K13).wr W18)⟩
theorem au_49 (hw : HW a0 Z)   (O0 : Old Z n0 h0) (G : Glob Z α β γ δ ε ζ η) (P0 : Exa Z h0 x0 s3) (P1 : f1_ Z h0 x0 (.int 0)) (P2 : f4_ Z h0 x0 (.int 10)) (P3 : f5_ Z h0 x0 (.int 0)) (P4 : f3_ Z h0 x0 (.ref x2)) (P5 : Exa Z h0 x1 s1) (P6 : f0_ Z h0 x1 (.int 0)) (P7 : f2_ Z h0 x1 (.ref x3)) (P8 : Arv Z h0 x2 kk0 .byte (16 : Int32) (LL20 p0 p1 p2 p3 p4 p5 p6 p7 p8 p9) (.int 0)) (P10 : Arv Z h0 x3 kk1 .byte (18 : Int32) LL5 (.int (0 : Int32))) (g_x0 : n0 ≤ x0) (ne_x1_x0 : x1 ≠ x0) (ne_x3_x0 : x3 ≠ x0) :
    Ctr l Z ⟨s3, "append", s10⟩ B10 2 (some (.object s3)) (rM 5 1 34 76) #[.ref x0, .ref x1] h0 (fun v h L => ∃ (y0 : Addr) (y1 : ClassId), v = some (.ref x0) ∧ Fr n0 L ∧ Keep h0 h [x0] ∧ h0.size ≤ y0 ∧ f1_ Z h x0 (.int 0) ∧ f4_ Z h x0 (.int 28) ∧ f5_ Z h x0 (.int 0) ∧ f3_ Z h x0 (.ref y0) ∧ Arv Z h y0 y1 .byte (34 : Int32) (LL22 p0 p1 p2 p3 p4 p5 p6 p7 p8 p9) (.int 0) ∧ Exa Z h y0 "[B") := by
 refine Ctr.of (plainFor_of_name pn_c3) fun p e s m below meth c T0 hx hZ hby hml hown hnm hret hlk e0 es X0 => Go.cast (ef_10_RR m x0 x1) ?_
 generalize hFF : EndN s _ _ _ = FF
 refine aN X0 hx 1 rfl hby d10_0 rfl rfl ?_
 refine aN X0 hx 2 rfl hby d10_1 rfl rfl ?_
 refine Go.callUp X0 hx hZ hown (tw_64 hw) (own_sameself (tw_84 hw) rfl (tw_65 hw) (by decide)) (tw_65 hw) (tw_66 hw) (by decide) (tw_68 hw) (tw_68 hw) (tw_50 hw) (au_50 hw O0 G P0 P1 P2 P3 P4 P5 P6 P7 P8 P10 g_x0 ne_x1_x0 ne_x3_x0) e0 P0 (argsL := [.ref x1]) (rest := []) 5 rfl (hml ▸ rfl) (lenOf pd_16 rfl) rfl rfl (W := 0) (nE rfl) (by decide) (hb hby d10_2) ?_
 intro v1 T1 L1 q1 X1
 obtain ⟨h1, e1⟩ := hpz T1
 rw [e1] at q1
 obtain ⟨b1_0, k1_0, rfl, N1, K1, s1_0, F1_0, F1_1, F1_2, F1_3, F1_4, F1_5⟩ := q1
 show Go _ _ _ _ (T1.setTop (mkF m 5 #[vR x0, vR x1] [.ref x0]))
 refine Go.pop X1 hx 6 rfl (hb hby d10_5) rfl ?_
 refine aN X1 hx 7 rfl hby d10_6 rfl rfl ?_
 subst hFF
 refine Go.retR X1 hx hlk (t := (.object s3)) hret rfl rfl (hb hby d10_7) (by decide) (by decide) ?_
 rw [e1]
 exact ⟨b1_0, k1_0, rfl, (Fr.app (Fr.nil n0) N1), ((Keep.refl h0 [x0]).trans K1 (allS (Or.inl (mG 0 rfl)) all0)), (Nat.le_trans (Keep.refl h0 [x0]).1 s1_0), F1_0, F1_1, F1_2, F1_3, F1_4, F1_5⟩
theorem d7_33 : DD B7 33 (.invokevirtual 54, 3) := by decide +kernel
theorem d23_0 : DD B23 0 (.new 18, 3) := by decide +kernel
theorem d23_3 : DD B23 3 (.dup, 1) := by decide +kernel
theorem d23_4 : DD B23 4 (.aload_n 0, 1) := by decide +kernel
theorem d24_0 : DD B24 0 (.aload_n 0, 1) := by decide +kernel
theorem d24_1 : DD B24 1 (.aload_n 1, 1) := by decide +kernel
theorem d24_2 : DD B24 2 (.aconst_null, 1) := by decide +kernel
theorem d25_0 : DD B25 0 (.aload_n 0, 1) := by decide +kernel
theorem d25_1 : DD B25 1 (.invokespecial 1, 3) := by decide +kernel
theorem d25_4 : DD B25 4 (.aload_n 1, 1) := by decide +kernel
theorem d26_0 : DD B26 0 (.aload_n 0, 1) := by decide +kernel
theorem d26_1 : DD B26 1 (.getfield 15, 3) := by decide +kernel
theorem d26_4 : DD B26 4 (.areturn, 1) := by decide +kernel
theorem ef_26_R (m : MethodId) (x0 : Addr) : entryFrame m #[(.ref x0)] 1 = mkF m 0 #[.val (.ref x0)] [] := by first | (simp [entryFrame, mkF, argsToLocals, Value.category]; done) | rfl
theorem au_64 (hw : HW a0 Z)  (Z0 : n0 ≤ h0.size) (P4 : f3_ Z h0 x0 (.ref x1)) :
    Ctr l Z ⟨s0, "getValue", "()[B"⟩ B26 1 (some (.array .byte)) (rM 0 0 0 0) #[.ref x0] h0 (fun v h L => v = some (.ref x1) ∧ Fr n0 L ∧ h = h0) := by
 refine Ctr.of (plainFor_of_name pn_c2) fun p e s m below meth c T0 hx hZ hby hml hown hnm hret hlk e0 es X0 => Go.cast (ef_26_R m x0) ?_
 generalize hFF : EndN s _ _ _ = FF
 refine aN X0 hx 1 rfl hby d26_0 rfl rfl ?_
 refine gF X0 hx hZ hown (tw_54 hw) e0 P4 4 rfl (hb hby d26_1) ?_
 intro T1 e1 X1
 subst hFF
 refine Go.retR X1 hx hlk (t := (.array .byte)) hret rfl rfl (hb hby d26_4) (by decide) (by decide) ?_
 rw [e1]
 exact ⟨rfl, (Fr.nil n0), rfl⟩
theorem pd_21 : parseMethodDescriptor "()[B" = some ⟨[], some (.array .byte)⟩ := by decide +kernel
theorem d25_5 : DD B25 5 (.invokevirtual 552, 3) := by decide +kernel
theorem d25_8 : DD B25 8 (.astore_n 3, 1) := by decide +kernel
theorem d25_9 : DD B25 9 (.aload_n 1, 1) := by decide +kernel
theorem d27_0 : DD B27 0 (.aload_n 0, 1) := by decide +kernel
theorem d28_0 : DD B28 0 (.aload_n 0, 1) := by decide +kernel
theorem d28_1 : DD B28 1 (.getfield 79, 3) := by decide +kernel
theorem d28_4 : DD B28 4 (.ireturn, 1) := by decide +kernel
theorem ef_28_R (m : MethodId) (x0 : Addr) : entryFrame m #[(.ref x0)] 1 = mkF m 0 #[.val (.ref x0)] [] := by first | (simp [entryFrame, mkF, argsToLocals, Value.category]; done) | rfl
theorem au_66 (hw : HW a0 Z)  (Z0 : n0 ≤ h0.size) (P2 : f4_ Z h0 x0 (.int 28)) :
    Ctr l Z ⟨s0, "length", "()I"⟩ B28 1 (some .int) (rM 0 0 0 0) #[.ref x0] h0 (fun v h L => v = some (.int 28) ∧ Fr n0 L ∧ h = h0) := by
 refine Ctr.of (plainFor_of_name pn_c2) fun p e s m below meth c T0 hx hZ hby hml hown hnm hret hlk e0 es X0 => Go.cast (ef_28_R m x0) ?_
 generalize hFF : EndN s _ _ _ = FF
 refine aN X0 hx 1 rfl hby d28_0 rfl rfl ?_
 refine gF X0 hx hZ hown (tw_79 hw) e0 P2 4 rfl (hb hby d28_1) ?_
 intro T1 e1 X1
 subst hFF
 refine Go.retI X1 hx hlk hret (hb hby d28_4) (by decide) (by decide) ?_
 rw [e1]
 exact ⟨rfl, (Fr.nil n0), rfl⟩
theorem d27_1 : DD B27 1 (.invokespecial 343, 3) := by decide +kernel
theorem d27_4 : DD B27 4 (.ireturn, 1) := by decide +kernel
theorem ef_27_R (m : MethodId) (x0 : Addr) : entryFrame m #[(.ref x0)] 1 = mkF m 0 #[.val (.ref x0)] [] := by first | (simp [entryFrame, mkF, argsToLocals, Value.category]; done) | rfl
theorem au_65 (hw : HW a0 Z)  (Z0 : n0 ≤ h0.size) (P0 : Exa Z h0 x0 s3) (P2 : f4_ Z h0 x0 (.int 28)) :
    Ctr l Z ⟨s3, "length", "()I"⟩ B27 1 (some .int) (rM 1 0 0 12) #[.ref x0] h0 (fun v h L => v = some (.int 28) ∧ Fr n0 L ∧ h = h0) := by
 refine Ctr.of (plainFor_of_name pn_c3) fun p e s m below meth c T0 hx hZ hby hml hown hnm hret hlk e0 es X0 => Go.cast (ef_27_R m x0) ?_
 generalize hFF : EndN s _ _ _ = FF
 refine aN X0 hx 1 rfl hby d27_0 rfl rfl ?_
 refine Go.callUp X0 hx hZ hown (tw_154 hw) (own_sameself (tw_84 hw) rfl (tw_150 hw) (by decide)) (tw_150 hw) (tw_66 hw) (by decide) (tw_155 hw) (tw_155 hw) (tw_50 hw) (au_66 hw Z0 P2) e0 P0 (argsL := []) (rest := []) 4 rfl (hml ▸ rfl) (lenOf pd_12 rfl) rfl rfl (W := 0) (nE rfl) (by decide) (hb hby d27_1) ?_
 intro v1 T1 L1 q1 X1
 obtain ⟨rfl, N1, e1⟩ := q1
 show Go _ _ _ _ (T1.setTop (mkF m 4 #[vR x0] [.int 28]))
 subst hFF
 refine Go.retI X1 hx hlk hret (hb hby d27_4) (by decide) (by decide) ?_
 rw [e1]
 exact ⟨rfl, (Fr.app (Fr.nil n0) N1), rfl⟩
theorem d25_10 : DD B25 10 (.invokevirtual 549, 3) := by decide +kernel
theorem d25_13 : DD B25 13 (.istore 4, 2) := by decide +kernel
theorem d25_15 : DD B25 15 (.aload_n 1, 1) := by decide +kernel
theorem d29_0 : DD B29 0 (.getstatic 18, 3) := by decide +kernel
theorem d29_3 : DD B29 3 (.ifCond .eq 14, 3) := by decide +kernel
theorem d29_6 : DD B29 6 (.aload_n 0, 1) := by decide +kernel
theorem d29_7 : DD B29 7 (.getfield 22, 3) := by decide +kernel
theorem d29_10 : DD B29 10 (.ifCond .ne 7, 3) := by decide +kernel
theorem d29_13 : DD B29 13 (.iconst 1, 1) := by decide +kernel
theorem d29_14 : DD B29 14 (.goto 4, 3) := by decide +kernel
theorem d29_18 : DD B29 18 (.ireturn, 1) := by decide +kernel
theorem ef_29_R (m : MethodId) (x0 : Addr) : entryFrame m #[(.ref x0)] 1 = mkF m 0 #[.val (.ref x0)] [] := by first | (simp [entryFrame, mkF, argsToLocals, Value.category]; done) | rfl
theorem au_67 (hw : HW a0 Z)   (O0 : Old Z n0 h0) (G : Glob Z α β γ δ ε ζ η) (P1 : f1_ Z h0 x0 (.int 0)) :
    Ctr l Z ⟨s0, "isLatin1", "()Z"⟩ B29 1 (some .boolean) (rM 0 0 0 0) #[.ref x0] h0 (fun v h L => v = some (.int 1) ∧ Fr n0 L ∧ h = h0) := by
 refine Ctr.of (plainFor_of_name pn_c2) ?_
 intro p e s m below meth c T0 hx hZ hby hml hown hnm hret hlk e0 es X0
 have G' := G
 obtain ⟨G0, -, -, -, -, -, -, -, -, -, -, -, G12, -⟩ := G'
 refine Go.cast (ef_29_R m x0) ?_
 generalize hFF : EndN s _ _ _ = FF
 refine Go.getS X0 hx hZ hown (host := "") (Or.inl (tw_53 hw)) Via.refl e0 (G0.ext O0.2) 3 rfl (hb hby d29_0) ?_
 intro T2 e2 X2
 refine Go.ifNo X2 hx 6 rfl (hb hby d29_3) (feq G12).1 ?_
 refine aN X2 hx 7 rfl hby d29_6 rfl rfl ?_
 refine gF X2 hx hZ hown (tw_56 hw) e2 P1 10 rfl (hb hby d29_7) ?_
 intro T3 e3 X3
 refine Go.ifNo X3 hx 13 rfl (hb hby d29_10) (by decide) ?_
 refine Go.iconst X3 hx 14 rfl (hb hby d29_13) (v := (1 : Int32)) rfl ?_
 refine Go.goto X3 hx 18 (hb hby d29_14) (by decide) (by decide) ?_
 subst hFF
 refine Go.retN X3 hx hlk (t := .boolean) hret (by simp) (hb hby d29_18) (by decide) (by decide) ?_
 rw [e3]
 exact ⟨(congrArg (fun z => some (Value.int z)) (by decide : nar .boolean (1 : Int32) = (1 : Int32))), (Fr.nil n0), rfl⟩
theorem pd_22 : parseMethodDescriptor "()Z" = some ⟨[], some .boolean⟩ := by decide +kernel
theorem d25_16 : DD B25 16 (.invokevirtual 1047, 3) := by decide +kernel
theorem d25_19 : DD B25 19 (.ifCond .eq 22, 3) := by decide +kernel
theorem d25_22 : DD B25 22 (.aload_n 0, 1) := by decide +kernel
theorem d25_23 : DD B25 23 (.iconst 0, 1) := by decide +kernel
theorem d25_24 : DD B25 24 (.putfield 15, 3) := by decide +kernel
theorem d25_27 : DD B25 27 (.aload_n 0, 1) := by decide +kernel
theorem d25_28 : DD B25 28 (.aload_n 3, 1) := by decide +kernel
theorem d25_29 : DD B25 29 (.iconst 0, 1) := by decide +kernel
theorem d25_30 : DD B25 30 (.iload 4, 2) := by decide +kernel
theorem d30_0 : DD B30 0 (.iload_n 1, 1) := by decide +kernel
theorem d30_1 : DD B30 1 (.ifCond .ne 9, 3) := by decide +kernel
theorem d30_4 : DD B30 4 (.iload_n 2, 1) := by decide +kernel
theorem d30_5 : DD B30 5 (.aload_n 0, 1) := by decide +kernel
theorem d30_6 : DD B30 6 (.arraylength, 1) := by decide +kernel
theorem d30_7 : DD B30 7 (.if_icmp .eq 10, 3) := by decide +kernel
theorem d30_10 : DD B30 10 (.aload_n 0, 1) := by decide +kernel
theorem d30_11 : DD B30 11 (.iload_n 1, 1) := by decide +kernel
theorem d30_12 : DD B30 12 (.iload_n 2, 1) := by decide +kernel
theorem d31_0 : DD B31 0 (.iload_n 1, 1) := by decide +kernel
theorem d31_1 : DD B31 1 (.iload_n 2, 1) := by decide +kernel
theorem d32_0 : DD B32 0 (.iload_n 1, 1) := by decide +kernel
theorem d32_1 : DD B32 1 (.iload_n 0, 1) := by decide +kernel
theorem d32_2 : DD B32 2 (.if_icmp .ge 35, 3) := by decide +kernel
theorem d32_37 : DD B32 37 (.return_, 1) := by decide +kernel
theorem ef_32_II (m : MethodId) (x0 : Int32) (x1 : Int32) : entryFrame m #[(.int x0), (.int x1)] 2 = mkF m 0 #[.val (.int x0), .val (.int x1)] [] := by first | (simp [entryFrame, mkF, argsToLocals, Value.category]; done) | rfl
theorem au_70 (hw : HW a0 Z)  (Z0 : n0 ≤ h0.size) :
    Ctr l Z ⟨"java/util/Arrays", "checkLength", "(II)V"⟩ B32 2 none (rM 0 0 0 0) #[.int 0, .int 28] h0 (fun v h L => v = none ∧ Fr n0 L ∧ h = h0) := by
 refine Ctr.of (plainFor_of_name pn_c5) fun p e s m below meth c T0 hx hZ hby hml hown hnm hret hlk e0 es X0 => Go.cast (ef_32_II m (0 : Int32) (28 : Int32)) ?_
 generalize hFF : EndN s _ _ _ = FF
 refine iN X0 hx 1 rfl hby d32_0 rfl ?_
 refine iN X0 hx 2 rfl hby d32_1 rfl ?_
 refine Go.icmpYes X0 hx 37 (hb hby d32_2) (by decide) (by decide) (by decide) ?_
 subst hFF
 refine Go.ret0 X0 hx hlk hret (hb hby d32_37) (by decide) (by decide) ?_
 rw [e0]
 exact ⟨rfl, (Fr.nil n0), rfl⟩
theorem pd_23 : parseMethodDescriptor "(II)V" = some ⟨[.int, .int], none⟩ := by decide +kernel
theorem d31_2 : DD B31 2 (.invokestatic 343, 3) := by decide +kernel
theorem d31_5 : DD B31 5 (.iload_n 2, 1) := by decide +kernel
theorem d31_6 : DD B31 6 (.iload_n 1, 1) := by decide +kernel
theorem d31_7 : DD B31 7 (.isub, 1) := by decide +kernel
theorem d31_8 : DD B31 8 (.istore_n 3, 1) := by decide +kernel
theorem d31_9 : DD B31 9 (.iload_n 3, 1) := by decide +kernel
theorem d31_10 : DD B31 10 (.newarray .byte, 2) := by decide +kernel
theorem d31_12 : DD B31 12 (.astore 4, 2) := by decide +kernel
theorem d31_14 : DD B31 14 (.aload_n 0, 1) := by decide +kernel
theorem d31_15 : DD B31 15 (.iload_n 1, 1) := by decide +kernel
theorem d31_16 : DD B31 16 (.aload 4, 2) := by decide +kernel
theorem d31_18 : DD B31 18 (.iconst 0, 1) := by decide +kernel
theorem d31_19 : DD B31 19 (.aload_n 0, 1) := by decide +kernel
theorem d31_20 : DD B31 20 (.arraylength, 1) := by decide +kernel
theorem d31_21 : DD B31 21 (.iload_n 1, 1) := by decide +kernel
theorem d31_22 : DD B31 22 (.isub, 1) := by decide +kernel
theorem d31_23 : DD B31 23 (.iload_n 3, 1) := by decide +kernel
theorem d22_9 : DD B22 9 (.iload_n 1, 1) := by decide +kernel
theorem au_71 (hw : HW a0 Z)  (Z0 : n0 ≤ h0.size) :
    Ctr l Z ⟨"java/lang/Math", "min", "(II)I"⟩ B22 2 (some .int) (rM 0 0 0 0) #[.int 34, .int 28] h0 (fun v h L => v = some (.int 28) ∧ Fr n0 L ∧ h = h0) := by
 refine Ctr.of (Jvm.Free.JP.mathPlain rfl (by decide +kernel)) ?_
 intro p e s m below meth c T0 hx hZ hby hml hown hnm hret hlk e0 es X0
 refine Go.cast (ef_22_II m (34 : Int32) (28 : Int32)) ?_
 generalize hFF : EndN s _ _ _ = FF
 refine iN X0 hx 1 rfl hby d22_0 rfl ?_
 refine iN X0 hx 2 rfl hby d22_1 rfl ?_
 refine Go.icmpYes X0 hx 9 (hb hby d22_2) (by decide) (by decide) (by decide) ?_
 refine iN X0 hx 10 rfl hby d22_9 rfl ?_
 subst hFF
 refine Go.retI X0 hx hlk hret (hb hby d22_10) (by decide) (by decide) ?_
 rw [e0]
 exact ⟨rfl, (Fr.nil n0), rfl⟩
theorem d31_24 : DD B31 24 (.invokestatic 304, 3) := by decide +kernel
theorem d31_27 : DD B31 27 (.invokestatic 150, 3) := by decide +kernel
theorem d31_30 : DD B31 30 (.aload 4, 2) := by decide +kernel
theorem d31_32 : DD B31 32 (.areturn, 1) := by decide +kernel
theorem ef_31_RII (m : MethodId) (x0 : Addr) (x1 : Int32) (x2 : Int32) : entryFrame m #[(.ref x0), (.int x1), (.int x2)] 5 = mkF m 0 #[.val (.ref x0), .val (.int x1), .val (.int x2), .unset, .unset] [] := by first | (simp [entryFrame, mkF, argsToLocals, Value.category]; done) | rfl
theorem au_69 (hw : HW a0 Z)  (Z0 : n0 ≤ h0.size) (P0 : Arv Z h0 x0 kk0 .byte (34 : Int32) (LL23 p0 p1 p2 p3 p4 p5 p6 p7 p8 p9 p10 p11 p12 p13 p14 p15 p16 p17 p18 p19 p20 p21 p22 p23 p24 p25 p26 p27) (.int 0)) :
    Ctr l Z ⟨"java/util/Arrays", "copyOfRangeByte", "([BII)[B"⟩ B31 5 (some (.array .byte)) (rM 1 1 28 18) #[.ref x0, .int 0, .int 28] h0 (fun v h L => ∃ (y0 : Addr) (y1 : ClassId), v = some (.ref y0) ∧ Fr n0 L ∧ Keep h0 h [] ∧ h0.size ≤ y0 ∧ Arv Z h y0 y1 .byte (28 : Int32) (LL14 p0 p1 p2 p3 p4 p5 p6 p7 p8 p9 p10 p11 p12 p13 p14 p15 p16 p17 p18 p19 p20 p21 p22 p23 p24 p25 p26 p27) (.int 0) ∧ Exa Z h y0 "[B") := by
 refine Ctr.of (plainFor_of_name pn_c5) fun p e s m below meth c T0 hx hZ hby hml hown hnm hret hlk e0 es X0 => Go.cast (ef_31_RII m x0 (0 : Int32) (28 : Int32)) ?_
 generalize hFF : EndN s _ _ _ = FF
 refine iN X0 hx 1 rfl hby d31_0 rfl ?_
 refine iN X0 hx 2 rfl hby d31_1 rfl ?_
 refine Go.callS X0 hx hZ hown (tw_167 hw) (tw_168 hw) (tw_125 hw) (tw_169 hw) (by decide) (tw_169 hw) (tw_125 hw) (au_70 hw Z0) e0 (argsL := [.int 0, .int 28]) (rest := []) 5 rfl (hml ▸ rfl) (lenOf pd_23 rfl) rfl rfl (W := 0) (nE rfl) (by decide) (hb hby d31_2) ?_
 intro v1 T1 L1 q1 X1
 obtain ⟨rfl, N1, e1⟩ := q1
 refine iN X1 hx 6 rfl hby d31_5 rfl ?_
 refine iN X1 hx 7 rfl hby d31_6 rfl ?_
 refine Go.isub X1 hx 8 rfl (hb hby d31_7) ?_
 rw [show ((28 : Int32) - (0 : Int32)) = (28 : Int32) from by decide]
 refine Go.istoreN X1 hx 9 rfl (hb hby d31_8) (Ls' := #[vR x0, vI 0, vI 28, vI 28, uS]) rfl ?_
 refine iN X1 hx 10 rfl hby d31_9 rfl ?_
 refine Go.newarray X1 hx hZ (ty := .byte) rfl (tw_19 hw) e1 (by decide) (cap := 28) (by decide) (by decide) (by decide) (by decide) (ad := "[B") (by decide) 28 12 rfl (hb hby d31_10) ?_
 intro T2 h2 b2 k2 e2 E2 g2 V2 A2 X2
 have V2' : Arv Z h2 b2 k2 .byte (28 : Int32) LL39 (.int 0) := V2
 refine Go.astore X2 hx 14 rfl (hb hby d31_12) (Ls' := #[vR x0, vI 0, vI 28, vI 28, vR b2]) rfl rfl ?_
 refine aN X2 hx 15 rfl hby d31_14 rfl rfl ?_
 refine iN X2 hx 16 rfl hby d31_15 rfl ?_
 refine Go.aload X2 hx 18 rfl (hb hby d31_16) rfl rfl ?_
 refine Go.iconst X2 hx 19 rfl (hb hby d31_18) (v := (0 : Int32)) rfl ?_
 refine aN X2 hx 20 rfl hby d31_19 rfl rfl ?_
 have fk3 := (P0.ext E2)
 refine Go.arraylength X2 hx hZ e2 fk3 21 rfl (hb hby d31_20) ?_
 refine iN X2 hx 22 rfl hby d31_21 rfl ?_
 refine Go.isub X2 hx 23 rfl (hb hby d31_22) ?_
 rw [show ((34 : Int32) - (0 : Int32)) = (34 : Int32) from by decide]
 refine iN X2 hx 24 rfl hby d31_23 rfl ?_
 have Kp5 := ((Keep.refl h0 []).ext E2)
 refine Go.callS X2 hx hZ hown (tw_127 hw) (tw_128 hw) (tw_119 hw) (tw_129 hw) (by decide) (tw_129 hw) (tw_119 hw) (au_71 hw (Nat.le_trans Z0 Kp5.1)) e2 (argsL := [.int 34, .int 28]) (rest := [.int 0, .ref b2, .int 0, .ref x0]) 27 rfl (hml ▸ rfl) (lenOf pd_18 rfl) rfl rfl (W := 4) (nE rfl) (by decide) (hb hby d31_24) ?_
 intro v6 T6 L6 q6 X6
 obtain ⟨rfl, N6, e6⟩ := q6
 show Go _ _ _ _ (T6.setTop (mkF m 27 #[vR x0, vI 0, vI 28, vI 28, vR b2] [.int 28, .int 0, .ref b2, .int 0, .ref x0]))
 have sz8 := Nat.le_trans (Keep.refl h0 []).1 (Nat.le_of_eq g2.symm)
 refine Go.arraycopy X6 hx hZ hown (tw_130 hw) (tw_105 hw) (tw_103 hw) (tw_104 hw) e6 fk3 V2' rfl (sp := (0 : Int32)) (dp := (0 : Int32)) (nn := (28 : Int32)) (us := (LL14 p0 p1 p2 p3 p4 p5 p6 p7 p8 p9 p10 p11 p12 p13 p14 p15 p16 p17 p18 p19 p20 p21 p22 p23 p24 p25 p26 p27)) (by decide) (by decide) (by decide) (by decide) (by decide) rfl (nB rfl) (Fr.app (Fr.app (Fr.nil n0) N1) N6) (Nat.le_trans Z0 sz8) (by decide) (W := 0) (hml ▸ rfl) (nE rfl) (by decide) (pc' := 30) rfl (hb hby d31_27) ?_
 intro T9 h9 L9 e9 N9 K9 V9 X9
 have V9' : Arv Z h9 b2 k2 .byte (28 : Int32) (LL14 p0 p1 p2 p3 p4 p5 p6 p7 p8 p9 p10 p11 p12 p13 p14 p15 p16 p17 p18 p19 p20 p21 p22 p23 p24 p25 p26 p27) (.int 0) := V9
 refine Go.aload X9 hx 32 rfl (hb hby d31_30) rfl rfl ?_
 subst hFF
 refine Go.retR X9 hx hlk (t := (.array .byte)) hret rfl rfl (hb hby d31_32) (by decide) (by decide) ?_
 rw [e9]
 exact ⟨b2, k2, rfl, N9, (Kp5.trans K9 (allS (Or.inr sz8) all0)), sz8, V9', (A2.keep K9)⟩
theorem pd_24 : parseMethodDescriptor "([BII)[B" = some ⟨[(.array .byte), .int, .int], some (.array .byte)⟩ := by decide +kernel
theorem d30_13 : DD B30 13 (.invokestatic 339, 3) := by decide +kernel
theorem d30_16 : DD B30 16 (.areturn, 1) := by decide +kernel
theorem ef_30_RII (m : MethodId) (x0 : Addr) (x1 : Int32) (x2 : Int32) : entryFrame m #[(.ref x0), (.int x1), (.int x2)] 3 = mkF m 0 #[.val (.ref x0), .val (.int x1), .val (.int x2)] [] := by first | (simp [entryFrame, mkF, argsToLocals, Value.category]; done) | rfl
theorem au_68 (hw : HW a0 Z)  (Z0 : n0 ≤ h0.size) (P0 : Arv Z h0 x0 kk0 .byte (34 : Int32) (LL23 p0 p1 p2 p3 p4 p5 p6 p7 p8 p9 p10 p11 p12 p13 p14 p15 p16 p17 p18 p19 p20 p21 p22 p23 p24 p25 p26 p27) (.int 0)) :
    Ctr l Z ⟨"java/util/Arrays", "copyOfRange", "([BII)[B"⟩ B30 3 (some (.array .byte)) (rM 2 1 28 34) #[.ref x0, .int 0, .int 28] h0 (fun v h L => ∃ (y0 : Addr) (y1 : ClassId), v = some (.ref y0) ∧ Fr n0 L ∧ Keep h0 h [] ∧ h0.size ≤ y0 ∧ Arv Z h y0 y1 .byte (28 : Int32) (LL14 p0 p1 p2 p3 p4 p5 p6 p7 p8 p9 p10 p11 p12 p13 p14 p15 p16 p17 p18 p19 p20 p21 p22 p23 p24 p25 p26 p27) (.int 0) ∧ Exa Z h y0 "[B") := by
 refine Ctr.of (plainFor_of_name pn_c5) fun p e s m below meth c T0 hx hZ hby hml hown hnm hret hlk e0 es X0 => Go.cast (ef_30_RII m x0 (0 : Int32) (28 : Int32)) ?_
 generalize hFF : EndN s _ _ _ = FF
 refine iN X0 hx 1 rfl hby d30_0 rfl ?_
 refine Go.ifNo X0 hx 4 rfl (hb hby d30_1) (by decide) ?_
 refine iN X0 hx 5 rfl hby d30_4 rfl ?_
 refine aN X0 hx 6 rfl hby d30_5 rfl rfl ?_
 refine Go.arraylength X0 hx hZ e0 P0 7 rfl (hb hby d30_6) ?_
 refine Go.icmpNo X0 hx 10 rfl (hb hby d30_7) (by decide) ?_
 refine aN X0 hx 11 rfl hby d30_10 rfl rfl ?_
 refine iN X0 hx 12 rfl hby d30_11 rfl ?_
 refine iN X0 hx 13 rfl hby d30_12 rfl ?_
 refine Go.callS X0 hx hZ hown (tw_164 hw) (tw_165 hw) (tw_125 hw) (tw_166 hw) (by decide) (tw_166 hw) (tw_125 hw) (au_69 hw Z0 P0) e0 (argsL := [.ref x0, .int 0, .int 28]) (rest := []) 16 rfl (hml ▸ rfl) (lenOf pd_24 rfl) rfl rfl (W := 0) (nE rfl) (by decide) (hb hby d30_13) ?_
 intro v1 T1 L1 q1 X1
 obtain ⟨h1, e1⟩ := hpz T1
 rw [e1] at q1
 obtain ⟨b1_0, k1_0, rfl, N1, K1, s1_0, F1_0, F1_1⟩ := q1
 show Go _ _ _ _ (T1.setTop (mkF m 16 #[vR x0, vI 0, vI 28] [.ref b1_0]))
 subst hFF
 refine Go.retR X1 hx hlk (t := (.array .byte)) hret rfl rfl (hb hby d30_16) (by decide) (by decide) ?_
 rw [e1]
 exact ⟨b1_0, k1_0, rfl, (Fr.app (Fr.nil n0) N1), ((Keep.refl h0 []).trans K1 all0), (Nat.le_trans (Keep.refl h0 []).1 s1_0), F1_0, F1_1⟩
theorem d25_32 : DD B25 32 (.invokestatic 54, 3) := by decide +kernel
theorem d25_35 : DD B25 35 (.putfield 9, 3) := by decide +kernel
theorem d25_38 : DD B25 38 (.goto 59, 3) := by decide +kernel
theorem d25_97 : DD B25 97 (.return_, 1) := by decide +kernel
theorem ef_25_RRN (m : MethodId) (x0 : Addr) (x1 : Addr)  : entryFrame m #[(.ref x0), (.ref x1), .null] 5 = mkF m 0 #[.val (.ref x0), .val (.ref x1), .val .null, .unset, .unset] [] := by first | (simp [entryFrame, mkF, argsToLocals, Value.category]; done) | rfl
theorem au_63 (hw : HW a0 Z)   (O0 : Old Z n0 h0) (G : Glob Z α β γ δ ε ζ η) (P0 : Exa Z h0 x0 s1) (P1 : f0_ Z h0 x0 (.int 0)) (P2 : f2_ Z h0 x0 .null) (P3 : Exa Z h0 x1 s3) (P4 : f1_ Z h0 x1 (.int 0)) (P5 : f4_ Z h0 x1 (.int 28)) (P7 : f3_ Z h0 x1 (.ref x2)) (P8 : Arv Z h0 x2 kk0 .byte (34 : Int32) (LL23 p0 p1 p2 p3 p4 p5 p6 p7 p8 p9 p10 p11 p12 p13 p14 p15 p16 p17 p18 p19 p20 p21 p22 p23 p24 p25 p26 p27) (.int 0)) (g_x0 : n0 ≤ x0) (ne_x2_x0 : x2 ≠ x0) :
    Ctr l Z ⟨s1, "<init>", "(Ljava/lang/AbstractStringBuilder;Ljava/lang/Void;)V"⟩ B25 5 none (rM 3 1 28 49) #[.ref x0, .ref x1, .null] h0 (fun v h L => ∃ (y0 : Addr) (y1 : ClassId), v = none ∧ Fr n0 L ∧ Keep h0 h [x0] ∧ h0.size ≤ y0 ∧ f0_ Z h x0 (.int 0) ∧ f2_ Z h x0 (.ref y0) ∧ Arv Z h y0 y1 .byte (28 : Int32) (LL14 p0 p1 p2 p3 p4 p5 p6 p7 p8 p9 p10 p11 p12 p13 p14 p15 p16 p17 p18 p19 p20 p21 p22 p23 p24 p25 p26 p27) (.int 0) ∧ Exa Z h y0 "[B") := by
 refine Ctr.of (plainFor_of_name pn_c1) fun p e s m below meth c T0 hx hZ hby hml hown hnm hret hlk e0 es X0 => Go.cast (ef_25_RRN m x0 x1) ?_
 generalize hFF : EndN s _ _ _ = FF
 refine aN X0 hx 1 rfl hby d25_0 rfl rfl ?_
 refine Go.initO X0 hx hZ hown (tw_11 hw) (tw_12 hw) (tw_13 hw) e0 (by decide) (W := 0) (hml ▸ rfl) (nE rfl) (by decide) (pc' := 4) rfl (hb hby d25_1) ?_
 intro T1 e1 X1
 refine aN X1 hx 5 rfl hby d25_4 rfl rfl ?_
 refine Go.callV X1 hx hZ hown (tw_143 hw) (tw_144 hw) (nF (mvT hZ (tw_146 hw))) (tw_146 hw) (tw_145 hw) (by decide) (tw_147 hw) (tw_50 hw) (au_64 hw O0.z P7) e1 P3 (argsL := []) (rest := []) 8 rfl (hml ▸ rfl) (lenOf pd_21 rfl) rfl rfl (W := 0) (nE rfl) (by decide) (hb hby d25_5) ?_
 intro v2 T2 L2 q2 X2
 obtain ⟨rfl, N2, e2⟩ := q2
 show Go _ _ _ _ (T2.setTop (mkF m 8 #[vR x0, vR x1, .val .null, uS, uS] [.ref x2]))
 refine Go.astoreN X2 hx 9 rfl (hb hby d25_8) (Ls' := #[vR x0, vR x1, .val .null, vR x2, uS]) rfl rfl ?_
 refine aN X2 hx 10 rfl hby d25_9 rfl rfl ?_
 refine Go.callV X2 hx hZ hown (tw_148 hw) (tw_149 hw) (own_nf (args := #[]) (mvT hZ (tw_84 hw)) rfl) (tw_151 hw) (tw_152 hw) (by decide) (tw_153 hw) (tw_42 hw) (au_65 hw O0.z P3 P5) e2 P3 (argsL := []) (rest := []) 13 rfl (hml ▸ rfl) (lenOf pd_12 rfl) rfl rfl (W := 0) (nE rfl) (by decide) (hb hby d25_10) ?_
 intro v3 T3 L3 q3 X3
 obtain ⟨rfl, N3, e3⟩ := q3
 show Go _ _ _ _ (T3.setTop (mkF m 13 #[vR x0, vR x1, .val .null, vR x2, uS] [.int 28]))
 refine Go.istore X3 hx 15 rfl (hb hby d25_13) (Ls' := #[vR x0, vR x1, .val .null, vR x2, vI 28]) rfl ?_
 refine aN X3 hx 16 rfl hby d25_15 rfl rfl ?_
 refine Go.callV X3 hx hZ hown (tw_156 hw) (tw_157 hw) (nF (mvT hZ (tw_159 hw))) (tw_159 hw) (tw_158 hw) (by decide) (tw_160 hw) (tw_50 hw) (au_67 hw O0 G P4) e3 P3 (argsL := []) (rest := []) 19 rfl (hml ▸ rfl) (lenOf pd_22 rfl) rfl rfl (W := 0) (nE rfl) (by decide) (hb hby d25_16) ?_
 intro v4 T4 L4 q4 X4
 obtain ⟨rfl, N4, e4⟩ := q4
 show Go _ _ _ _ (T4.setTop (mkF m 19 #[vR x0, vR x1, .val .null, vR x2, vI 28] [.int 1]))
 refine Go.ifNo X4 hx 22 rfl (hb hby d25_19) (by decide) ?_
 refine aN X4 hx 23 rfl hby d25_22 rfl rfl ?_
 refine Go.iconst X4 hx 24 rfl (hb hby d25_23) (v := (0 : Int32)) rfl ?_
 refine Go.putFN X4 hx hZ hown (tw_26 hw) Via.refl e4 P1 P0 (Or.inr ⟨(tw_27 hw), rfl, hnm⟩) (tw_1 hw) (ty := .byte) (v' := (.int 0)) (by decide) (by decide) (by decide) 27 rfl (hb hby d25_24) ?_
 intro T5 h5 e5 W5 F5 X5
 have N5 := Fr.snoc X5 (Fr.app (Fr.app (Fr.app (Fr.nil n0) N2) N3) N4) g_x0
 refine aN X5 hx 28 rfl hby d25_27 rfl rfl ?_
 refine aN X5 hx 29 rfl hby d25_28 rfl rfl ?_
 refine Go.iconst X5 hx 30 rfl (hb hby d25_29) (v := (0 : Int32)) rfl ?_
 refine Go.iload X5 hx 32 rfl (hb hby d25_30) rfl ?_
 have Kp7 := ((Keep.refl h0 [x0]).wr W5 (Or.inl (mG 0 rfl)))
 refine Go.callS X5 hx hZ hown (tw_161 hw) (tw_162 hw) (tw_125 hw) (tw_163 hw) (by decide) (tw_163 hw) (tw_125 hw) (au_68 hw (Nat.le_trans O0.z Kp7.1) (P8.other W5 ne_x2_x0)) e5 (argsL := [.ref x2, .int 0, .int 28]) (rest := [.ref x0]) 35 rfl (hml ▸ rfl) (lenOf pd_24 rfl) rfl rfl (W := 1) (nE rfl) (by decide) (hb hby d25_32) ?_
 intro v9 T9 L9 q9 X9
 obtain ⟨h9, e9⟩ := hpz T9
 rw [e9] at q9
 obtain ⟨b9_0, k9_0, rfl, N9, K9, s9_0, F9_0, F9_1⟩ := q9
 show Go _ _ _ _ (T9.setTop (mkF m 35 #[vR x0, vR x1, .val .null, vR x2, vI 28] [.ref b9_0, .ref x0]))
 refine Go.putF X9 hx hZ hown (host := "") (Or.inl (tw_28 hw)) Via.refl e9 ((P2.other W5 (Or.inr (slot_ne (Or.inr (tw_29 hw)) (Or.inr (tw_27 hw)) (by decide) (t := (.array .byte)) (t' := .byte) (by decide) (by decide)))).keep K9 nin0) ((P0.wr W5).keep K9) (Or.inr ⟨(tw_29 hw), rfl, hnm⟩) (tw_1 hw) (ty := (.array .byte)) (by decide) rfl rfl 38 rfl (hb hby d25_35) ?_
 intro T12 h12 e12 W12 F12 X12
 have N12 := Fr.snoc X12 (Fr.app N5 N9) g_x0
 refine Go.goto X12 hx 97 (hb hby d25_38) (by decide) (by decide) ?_
 subst hFF
 refine Go.ret0 X12 hx hlk hret (hb hby d25_97) (by decide) (by decide) ?_
 rw [e12]
 exact ⟨b9_0, k9_0, rfl, N12, ((Kp7.trans K9 all0).wr W12 (Or.inl (mG 0 rfl))), (Nat.le_trans Kp7.1 s9_0), ((F5.keep K9 nin0).other W12 (Or.inr (slot_ne (Or.inr (tw_27 hw)) (Or.inr (tw_29 hw)) (by decide) (t := .byte) (t' := (.array .byte)) (by decide) (by decide)))), F12, (F9_0.other W12 (Ne.symm (Nat.ne_of_lt (Nat.lt_of_lt_of_le (P0.wr W5).lt s9_0)))), (F9_1.wr W12)⟩
theorem pd_25 : parseMethodDescriptor "(Ljava/lang/AbstractStringBuilder;Ljava/lang/Void;)V" = some ⟨[(.object "java/lang/AbstractStringBuilder"), (.object "java/lang/Void")], none⟩ := by decide +kernel
theorem d24_3 : DD B24 3 (.invokespecial 489, 3) := by decide +kernel
theorem d24_6 : DD B24 6 (.return_, 1) := by decide +kernel
theorem ef_24_RR (m : MethodId) (x0 : Addr) (x1 : Addr) : entryFrame m #[(.ref x0), (.ref x1)] 2 = mkF m 0 #[.val (.ref x0), .val (.ref x1)] [] := by first | (simp [entryFrame, mkF, argsToLocals, Value.category]; done) | rfl
theorem au_62 (hw : HW a0 Z)   (O0 : Old Z n0 h0) (G : Glob Z α β γ δ ε ζ η) (P0 : Exa Z h0 x0 s1) (P1 : f0_ Z h0 x0 (.int 0)) (P2 : f2_ Z h0 x0 .null) (P3 : Exa Z h0 x1 s3) (P4 : f1_ Z h0 x1 (.int 0)) (P5 : f4_ Z h0 x1 (.int 28)) (P7 : f3_ Z h0 x1 (.ref x2)) (P8 : Arv Z h0 x2 kk0 .byte (34 : Int32) (LL23 p0 p1 p2 p3 p4 p5 p6 p7 p8 p9 p10 p11 p12 p13 p14 p15 p16 p17 p18 p19 p20 p21 p22 p23 p24 p25 p26 p27) (.int 0)) (g_x0 : n0 ≤ x0) (ne_x2_x0 : x2 ≠ x0) :
    Ctr l Z ⟨s1, "<init>", "(Ljava/lang/StringBuilder;)V"⟩ B24 2 none (rM 4 1 28 65) #[.ref x0, .ref x1] h0 (fun v h L => ∃ (y0 : Addr) (y1 : ClassId), v = none ∧ Fr n0 L ∧ Keep h0 h [x0] ∧ h0.size ≤ y0 ∧ f0_ Z h x0 (.int 0) ∧ f2_ Z h x0 (.ref y0) ∧ Arv Z h y0 y1 .byte (28 : Int32) (LL14 p0 p1 p2 p3 p4 p5 p6 p7 p8 p9 p10 p11 p12 p13 p14 p15 p16 p17 p18 p19 p20 p21 p22 p23 p24 p25 p26 p27) (.int 0) ∧ Exa Z h y0 "[B") := by
 refine Ctr.of (plainFor_of_name pn_c1) fun p e s m below meth c T0 hx hZ hby hml hown hnm hret hlk e0 es X0 => Go.cast (ef_24_RR m x0 x1) ?_
 generalize hFF : EndN s _ _ _ = FF
 refine aN X0 hx 1 rfl hby d24_0 rfl rfl ?_
 refine aN X0 hx 2 rfl hby d24_1 rfl rfl ?_
 refine Go.anull X0 hx 3 rfl (hb hby d24_2) ?_
 refine Go.callN X0 hx hZ hown rfl (tw_140 hw) (tw_141 hw) (tw_142 hw) (by decide) (tw_142 hw) (tw_2 hw) (au_63 hw O0 G P0 P1 P2 P3 P4 P5 P7 P8 g_x0 ne_x2_x0) e0 (a := x0) (argsL := [.ref x1, .null]) (rest := []) 6 rfl (hml ▸ rfl) (lenOf pd_25 rfl) rfl rfl (W := 0) (nE rfl) (by decide) (hb hby d24_3) ?_
 intro v1 T1 L1 q1 X1
 obtain ⟨h1, e1⟩ := hpz T1
 rw [e1] at q1
 obtain ⟨b1_0, k1_0, rfl, N1, K1, s1_0, F1_0, F1_1, F1_2, F1_3⟩ := q1
 subst hFF
 refine Go.ret0 X1 hx hlk hret (hb hby d24_6) (by decide) (by decide) ?_
 rw [e1]
 exact ⟨b1_0, k1_0, rfl, (Fr.app (Fr.nil n0) N1), ((Keep.refl h0 [x0]).trans K1 (allS (Or.inl (mG 0 rfl)) all0)), (Nat.le_trans (Keep.refl h0 [x0]).1 s1_0), F1_0, F1_1, F1_2, F1_3⟩
theorem pd_26 : parseMethodDescriptor "(Ljava/lang/StringBuilder;)V" = some ⟨[(.object "java/lang/StringBuilder")], none⟩ := by decide +kernel
theorem d23_5 : DD B23 5 (.invokespecial 137, 3) := by decide +kernel
theorem d23_8 : DD B23 8 (.areturn, 1) := by decide +kernel
theorem ef_23_R (m : MethodId) (x0 : Addr) : entryFrame m #[(.ref x0)] 1 = mkF m 0 #[.val (.ref x0)] [] := by first | (simp [entryFrame, mkF, argsToLocals, Value.category]; done) | rfl
theorem au_61 (hw : HW a0 Z)   (O0 : Old Z n0 h0) (G : Glob Z α β γ δ ε ζ η) (P0 : Exa Z h0 x0 s3) (P1 : f1_ Z h0 x0 (.int 0)) (P2 : f4_ Z h0 x0 (.int 28)) (P4 : f3_ Z h0 x0 (.ref x1)) (P5 : Arv Z h0 x1 kk0 .byte (34 : Int32) (LL23 p0 p1 p2 p3 p4 p5 p6 p7 p8 p9 p10 p11 p12 p13 p14 p15 p16 p17 p18 p19 p20 p21 p22 p23 p24 p25 p26 p27) (.int 0)) :
    Ctr l Z ⟨s3, "toString", "()Ljava/lang/String;"⟩ B23 1 (some (.object s1)) (rM 5 2 32 79) #[.ref x0] h0 (fun v h L => ∃ (y0 y1 : Addr) (y2 : ClassId), v = some (.ref y0) ∧ Fr n0 L ∧ Keep h0 h [] ∧ h0.size ≤ y0 ∧ h0.size ≤ y1 ∧ y1 ≠ y0 ∧ Exa Z h y0 s1 ∧ f0_ Z h y0 (.int 0) ∧ f2_ Z h y0 (.ref y1) ∧ Arv Z h y1 y2 .byte (28 : Int32) (LL14 p0 p1 p2 p3 p4 p5 p6 p7 p8 p9 p10 p11 p12 p13 p14 p15 p16 p17 p18 p19 p20 p21 p22 p23 p24 p25 p26 p27) (.int 0) ∧ Exa Z h y1 "[B") := by
 refine Ctr.of (plainFor_of_name pn_c3) fun p e s m below meth c T0 hx hZ hby hml hown hnm hret hlk e0 es X0 => Go.cast (ef_23_R m x0) ?_
 generalize hFF : EndN s _ _ _ = FF
 refine Go.new X0 hx hZ hown (tw_136 hw) (tw_1 hw) (tw_2 hw) e0 (by decide) (by decide) 3 rfl (hb hby d23_0) ?_
 intro T1 h1 b1 e1 E1 g1 A1 D1 X1
 have b1_coder : f0_ Z h1 b1 (.int 0) := D1 (Or.inr (tw_27 hw)) (ty := .byte) (by decide)
 have b1_value : f2_ Z h1 b1 .null := D1 (Or.inr (tw_29 hw)) (ty := (.array .byte)) (by decide)
 refine Go.dup X1 hx 4 rfl (hb hby d23_3) rfl ?_
 refine aN X1 hx 5 rfl hby d23_4 rfl rfl ?_
 have sz9 := Nat.le_trans (Keep.refl h0 []).1 (Nat.le_of_eq g1.symm)
 refine Go.callN X1 hx hZ hown rfl (tw_137 hw) (tw_138 hw) (tw_139 hw) (by decide) (tw_139 hw) (tw_2 hw) (au_62 hw (O0.ext E1) G A1 b1_coder b1_value (P0.ext E1) (P1.ext E1) (P2.ext E1) (P4.ext E1) (P5.ext E1) (Nat.le_trans O0.z sz9) (Nat.ne_of_lt (Nat.lt_of_lt_of_le P5.lt (Nat.le_of_eq g1.symm)))) e1 (a := b1) (argsL := [.ref x0]) (rest := [.ref b1]) 8 rfl (hml ▸ rfl) (lenOf pd_26 rfl) rfl rfl (W := 1) (nE rfl) (by decide) (hb hby d23_5) ?_
 intro v11 T11 L11 q11 X11
 obtain ⟨h11, e11⟩ := hpz T11
 rw [e11] at q11
 obtain ⟨b11_0, k11_0, rfl, N11, K11, s11_0, F11_0, F11_1, F11_2, F11_3⟩ := q11
 subst hFF
 refine Go.retR X11 hx hlk (t := (.object s1)) hret rfl rfl (hb hby d23_8) (by decide) (by decide) ?_
 rw [e11]
 have Kp13 := ((Keep.refl h0 []).ext E1)
 exact ⟨b1, b11_0, k11_0, rfl, (Fr.app (Fr.nil n0) N11), (Kp13.trans K11 (allS (Or.inr sz9) all0)), sz9, (Nat.le_trans Kp13.1 s11_0), (Ne.symm (Nat.ne_of_lt (Nat.lt_of_lt_of_le A1.lt s11_0))), (A1.keep K11), F11_0, F11_1, F11_2, F11_3⟩
theorem pd_27 : parseMethodDescriptor "()Ljava/lang/String;" = some ⟨[], some (.object "java/lang/String")⟩ := by decide +kernel
theorem d7_36 : DD B7 36 (.invokevirtual 67, 3) := by decide +kernel
theorem d33_0 : DD B33 0 (.aload_n 0, 1) := by decide +kernel
theorem d33_1 : DD B33 1 (.aload_n 2, 1) := by decide +kernel
theorem d34_0 : DD B34 0 (.aload_n 0, 1) := by decide +kernel
theorem d34_1 : DD B34 1 (.aload_n 1, 1) := by decide +kernel
theorem d35_0 : DD B35 0 (.aload_n 0, 1) := by decide +kernel
theorem d35_1 : DD B35 1 (.invokespecial 1, 3) := by decide +kernel
theorem d35_4 : DD B35 4 (.aload_n 0, 1) := by decide +kernel
theorem d35_5 : DD B35 5 (.aload_n 0, 1) := by decide +kernel
theorem d35_6 : DD B35 6 (.putfield 7, 3) := by decide +kernel
theorem d35_9 : DD B35 9 (.aload_n 0, 1) := by decide +kernel
theorem d35_10 : DD B35 10 (.getstatic 13, 3) := by decide +kernel
theorem d35_13 : DD B35 13 (.putfield 17, 3) := by decide +kernel
theorem d35_16 : DD B35 16 (.aload_n 0, 1) := by decide +kernel
theorem d35_17 : DD B35 17 (.getstatic 20, 3) := by decide +kernel
theorem d35_20 : DD B35 20 (.putfield 24, 3) := by decide +kernel
theorem d35_23 : DD B35 23 (.aload_n 0, 1) := by decide +kernel
theorem d35_24 : DD B35 24 (.invokevirtual 27, 3) := by decide +kernel
theorem d35_27 : DD B35 27 (.pop, 1) := by decide +kernel
theorem d35_28 : DD B35 28 (.aload_n 0, 1) := by decide +kernel
theorem d35_29 : DD B35 29 (.aload_n 1, 1) := by decide +kernel
theorem d35_30 : DD B35 30 (.putfield 31, 3) := by decide +kernel
theorem d35_33 : DD B35 33 (.return_, 1) := by decide +kernel
theorem ef_35_RR (m : MethodId) (x0 : Addr) (x1 : Addr) : entryFrame m #[(.ref x0), (.ref x1)] 2 = mkF m 0 #[.val (.ref x0), .val (.ref x1)] [] := by first | (simp [entryFrame, mkF, argsToLocals, Value.category]; done) | rfl
theorem pn_c6 : plainName "java/lang/Throwable" = true := by first | (simp [plainName, overriddenIn]; done) | decide +kernel
theorem au_75 (hw : HW a0 Z) (x1 : Addr)  (O0 : Old Z n0 h0) (G : Glob Z α β γ δ ε ζ η) (P0 : Exa Z h0 x0 s2) (P1 : f6_ Z h0 x0 .null) (P2 : Fld Z h0 x0 s4 "backtrace" "Ljava/lang/Object;" .null) (P3 : f8_ Z h0 x0 .null) (P5 : f7_ Z h0 x0 .null) (P6 : Fld Z h0 x0 s4 "stackTrace" "[Ljava/lang/StackTraceElement;" .null) (P7 : f9_ Z h0 x0 .null) (P8 : Unt h0 x0) (g_x0 : n0 ≤ x0) :
    CtrW l Z EL0 ⟨s4, "<init>", "(Ljava/lang/String;)V"⟩ B35 2 none (rM 3 1 2752 42) #[.ref x0, .ref x1] h0 [x0] (fun v vm h L => v = none ∧ Fr n0 L ∧ Keep h0 h [x0] ∧ f6_ Z h x0 .null ∧ f8_ Z h x0 (.ref x0) ∧ f7_ Z h x0 (.ref x1) ∧ f9_ Z h x0 (.ref γ)) := by
 refine CtrW.of (plainFor_of_name pn_c6) ?_
 intro p e s m below meth c T0 hx hZ hby hml hown hnm hret hlk e0 es hS0 C0 hsf hKN X0
 have G' := G
 obtain ⟨-, -, G2, G3, -, -, -, -, -, -, -, -, -, -⟩ := G'
 refine Go.cast (ef_35_RR m x0 x1) ?_
 generalize hFF : EndW Z EL0 s _ _ _ = FF
 refine aN X0 hx 1 rfl hby d35_0 rfl rfl ?_
 refine Go.initO X0 hx hZ hown (tw_184 hw) (tw_12 hw) (tw_13 hw) e0 (by decide) (W := 0) (hml ▸ rfl) (nE rfl) (by decide) (pc' := 4) rfl (hb hby d35_1) ?_
 intro T1 e1 X1
 refine aN X1 hx 5 rfl hby d35_4 rfl rfl ?_
 refine aN X1 hx 6 rfl hby d35_5 rfl rfl ?_
 refine Go.putF X1 hx hZ hown (host := "") (Or.inl (tw_185 hw)) Via.refl e1 P3 P0 (Or.inl (tw_186 hw)) (tw_35 hw) (ty := (.object s4)) (by decide) rfl rfl 9 rfl (hb hby d35_6) ?_
 intro T2 h2 e2 W2 F2 X2
 have N2 := Fr.snoc X2 (Fr.nil n0) g_x0
 refine aN X2 hx 10 rfl hby d35_9 rfl rfl ?_
 have O4 := (O0.wr W2 g_x0)
 refine Go.getS X2 hx hZ hown (host := "") (Or.inl (tw_187 hw)) Via.refl e2 (G2.ext O4.2) 13 rfl (hb hby d35_10) ?_
 intro T5 e5 X5
 have fk7 := (P0.wr W2)
 refine Go.putF X5 hx hZ hown (host := "") (Or.inl (tw_188 hw)) Via.refl e5 (P6.other W2 (Or.inr (slot_ne (Or.inl (tw_189 hw)) (Or.inl (tw_186 hw)) (by decide) (t := (.array (.object "java/lang/StackTraceElement"))) (t' := (.object s4)) (by decide) (by decide)))) fk7 (Or.inl (tw_189 hw)) (tw_35 hw) (ty := (.array (.object "java/lang/StackTraceElement"))) (by decide) rfl rfl 16 rfl (hb hby d35_13) ?_
 intro T8 h8 e8 W8 F8 X8
 have N8 := Fr.snoc X8 N2 g_x0
 refine aN X8 hx 17 rfl hby d35_16 rfl rfl ?_
 have O10 := (O4.wr W8 g_x0)
 refine Go.getS X8 hx hZ hown (host := "") (Or.inl (tw_190 hw)) Via.refl e8 (G3.ext O10.2) 20 rfl (hb hby d35_17) ?_
 intro T11 e11 X11
 have fk13 := (fk7.wr W8)
 refine Go.putF X11 hx hZ hown (host := "") (Or.inl (tw_191 hw)) Via.refl e11 ((P7.other W2 (Or.inr (slot_ne (Or.inl (tw_192 hw)) (Or.inl (tw_186 hw)) (by decide) (t := (.object "java/util/List")) (t' := (.object s4)) (by decide) (by decide)))).other W8 (Or.inr (slot_ne (Or.inl (tw_192 hw)) (Or.inl (tw_189 hw)) (by decide) (t := (.object "java/util/List")) (t' := (.array (.object "java/lang/StackTraceElement"))) (by decide) (by decide)))) fk13 (Or.inl (tw_192 hw)) (tw_35 hw) (ty := (.object "java/util/List")) (by decide) rfl rfl 23 rfl (hb hby d35_20) ?_
 intro T14 h14 e14 W14 F14 X14
 have N14 := Fr.snoc X14 N8 g_x0
 refine aN X14 hx 24 rfl hby d35_23 rfl rfl ?_
 have fk16 := (fk13.wr W14)
 have fk19 := (((P2.other W2 (Or.inr (slot_ne (Or.inl (tw_217 hw)) (Or.inl (tw_186 hw)) (by decide) (t := (.object "java/lang/Object")) (t' := (.object s4)) (by decide) (by decide)))).other W8 (Or.inr (slot_ne (Or.inl (tw_217 hw)) (Or.inl (tw_189 hw)) (by decide) (t := (.object "java/lang/Object")) (t' := (.array (.object "java/lang/StackTraceElement"))) (by decide) (by decide)))).other W14 (Or.inr (slot_ne (Or.inl (tw_217 hw)) (Or.inl (tw_192 hw)) (by decide) (t := (.object "java/lang/Object")) (t' := (.object "java/util/List")) (by decide) (by decide))))
 refine Go.fill X14 hx hZ hKN.1 (hKN.at hS0).2.1 (hKN.at hS0).2.2 hw (tw_35 hw) hown (by show ThS Z s.heap; rw [es]; exact ThS.at O0) e14 fk16 (Unt.wr W14 (Unt.wr W8 (Unt.wr W2 P8))) (F8.other W14 (Or.inr (slot_ne (Or.inl (tw_189 hw)) (Or.inl (tw_192 hw)) (by decide) (t := (.array (.object "java/lang/StackTraceElement"))) (t' := (.object "java/util/List")) (by decide) (by decide)))) (G2.ext (O10.wr W14 g_x0).2) fk19 27 rfl (hml ▸ rfl) (hb hby d35_24) (W := 0) (nE rfl) (by decide) (by decide) (by decide) (by decide) ?_
 intro T15 ha15 hb15 hc15 h15 H15 i15 e15 E15 Wa15 Wb15 Wc15 X15
 have N15 := own_fr3 X15 N14 g_x0
 show Go _ _ _ _ (T15.setTop (mkF m 27 #[vR x0, vR x1] [.ref x0]))
 refine Go.pop X15 hx 28 rfl (hb hby d35_27) rfl ?_
 refine aN X15 hx 29 rfl hby d35_28 rfl rfl ?_
 refine aN X15 hx 30 rfl hby d35_29 rfl rfl ?_
 have fk22 := (((((((P5.other W2 (Or.inr (slot_ne (Or.inl (tw_216 hw)) (Or.inl (tw_186 hw)) (by decide) (t := (.object s1)) (t' := (.object s4)) (by decide) (by decide)))).other W8 (Or.inr (slot_ne (Or.inl (tw_216 hw)) (Or.inl (tw_189 hw)) (by decide) (t := (.object s1)) (t' := (.array (.object "java/lang/StackTraceElement"))) (by decide) (by decide)))).other W14 (Or.inr (slot_ne (Or.inl (tw_216 hw)) (Or.inl (tw_192 hw)) (by decide) (t := (.object s1)) (t' := (.object "java/util/List")) (by decide) (by decide)))).ext E15).other Wa15 (Or.inr (slot_ne (Or.inl (tw_216 hw)) (Or.inl (tw_217 hw)) (by decide) (t := (.object s1)) (t' := (.object "java/lang/Object")) (by decide) (by decide)))).other Wb15 (Or.inr (slot_ne (Or.inl (tw_216 hw)) (Or.inl (tw_218 hw)) (by decide) (t := (.object s1)) (t' := .int) (by decide) (by decide)))).other Wc15 (Or.inr (slot_ne (Or.inl (tw_216 hw)) (Or.inl (tw_189 hw)) (by decide) (t := (.object s1)) (t' := (.array (.object "java/lang/StackTraceElement"))) (by decide) (by decide))))
 refine Go.putF X15 hx hZ hown (host := "") (Or.inl (tw_220 hw)) Via.refl e15 fk22 ((((fk16.ext E15).wr Wa15).wr Wb15).wr Wc15) (Or.inl (tw_216 hw)) (tw_35 hw) (ty := (.object s1)) (by decide) rfl rfl 33 rfl (hb hby d35_30) ?_
 intro T24 h24 e24 W24 F24 X24
 have N24 := Fr.snoc X24 N15 g_x0
 subst hFF
 have C25 := (C0.trans (CHr.wr W2 (hsf _ (mG 0 rfl)) C0.1))
 have fk26 := (Safe.wr W2 (hsf _ (mG 0 rfl)) C0.1 (hsf _ (mG 0 rfl)))
 have C27 := (C25.trans (CHr.wr W8 fk26 C25.1))
 have fk28 := (Safe.wr W8 fk26 C25.1 fk26)
 have C29 := (C27.trans (CHr.wr W14 fk28 C27.1))
 have C30 := (C29.trans (CHr.ext E15 C29.1))
 have fk32 := (Safe.ext E15 C29.1 (Safe.wr W14 fk28 C27.1 fk28))
 have C33 := (C30.trans (CHr.wr Wa15 fk32 C30.1))
 have fk34 := (Safe.wr Wa15 fk32 C30.1 fk32)
 have C35 := (C33.trans (CHr.wr Wb15 fk34 C33.1))
 have fk36 := (Safe.wr Wb15 fk34 C33.1 fk34)
 have C37 := (C35.trans (CHr.wr Wc15 fk36 C35.1))
 refine Go.ret0W X24 hx hlk hZ (own_EW hw) e24 hS0 (Nat.le_trans (Nat.le_trans (Nat.le_trans (Nat.le_trans (Nat.le_trans (Nat.le_trans (Nat.le_trans (Nat.le_trans (Nat.le_refl _) (Keep.of_wr W2).1) (Keep.of_wr W8).1) (Keep.of_wr W14).1) E15.1) (Keep.of_wr Wa15).1) (Keep.of_wr Wb15).1) (Keep.of_wr Wc15).1) (Keep.of_wr W24).1) (C37.trans (CHr.wr W24 (Safe.wr Wc15 fk36 C35.1 fk36) C37.1)) hret (hb hby d35_33) (by decide) (by decide) (fun hat => ?_)
 have fk41 := ((((((((P1.other W2 (Or.inr (slot_ne (Or.inr (tw_222 hw)) (Or.inl (tw_186 hw)) (by decide) (t := (.object s1)) (t' := (.object s4)) (by decide) (by decide)))).other W8 (Or.inr (slot_ne (Or.inr (tw_222 hw)) (Or.inl (tw_189 hw)) (by decide) (t := (.object s1)) (t' := (.array (.object "java/lang/StackTraceElement"))) (by decide) (by decide)))).other W14 (Or.inr (slot_ne (Or.inr (tw_222 hw)) (Or.inl (tw_192 hw)) (by decide) (t := (.object s1)) (t' := (.object "java/util/List")) (by decide) (by decide)))).ext E15).other Wa15 (Or.inr (slot_ne (Or.inr (tw_222 hw)) (Or.inl (tw_217 hw)) (by decide) (t := (.object s1)) (t' := (.object "java/lang/Object")) (by decide) (by decide)))).other Wb15 (Or.inr (slot_ne (Or.inr (tw_222 hw)) (Or.inl (tw_218 hw)) (by decide) (t := (.object s1)) (t' := .int) (by decide) (by decide)))).other Wc15 (Or.inr (slot_ne (Or.inr (tw_222 hw)) (Or.inl (tw_189 hw)) (by decide) (t := (.object s1)) (t' := (.array (.object "java/lang/StackTraceElement"))) (by decide) (by decide)))).other W24 (Or.inr (slot_ne (Or.inr (tw_222 hw)) (Or.inl (tw_216 hw)) (by decide) (t := (.object s1)) (t' := (.object s1)) (by decide) (by decide))))
 have fk42 := (((((((F2.other W8 (Or.inr (slot_ne (Or.inl (tw_186 hw)) (Or.inl (tw_189 hw)) (by decide) (t := (.object s4)) (t' := (.array (.object "java/lang/StackTraceElement"))) (by decide) (by decide)))).other W14 (Or.inr (slot_ne (Or.inl (tw_186 hw)) (Or.inl (tw_192 hw)) (by decide) (t := (.object s4)) (t' := (.object "java/util/List")) (by decide) (by decide)))).ext E15).other Wa15 (Or.inr (slot_ne (Or.inl (tw_186 hw)) (Or.inl (tw_217 hw)) (by decide) (t := (.object s4)) (t' := (.object "java/lang/Object")) (by decide) (by decide)))).other Wb15 (Or.inr (slot_ne (Or.inl (tw_186 hw)) (Or.inl (tw_218 hw)) (by decide) (t := (.object s4)) (t' := .int) (by decide) (by decide)))).other Wc15 (Or.inr (slot_ne (Or.inl (tw_186 hw)) (Or.inl (tw_189 hw)) (by decide) (t := (.object s4)) (t' := (.array (.object "java/lang/StackTraceElement"))) (by decide) (by decide)))).other W24 (Or.inr (slot_ne (Or.inl (tw_186 hw)) (Or.inl (tw_216 hw)) (by decide) (t := (.object s4)) (t' := (.object s1)) (by decide) (by decide))))
 have fk43 := (((((F14.ext E15).other Wa15 (Or.inr (slot_ne (Or.inl (tw_192 hw)) (Or.inl (tw_217 hw)) (by decide) (t := (.object "java/util/List")) (t' := (.object "java/lang/Object")) (by decide) (by decide)))).other Wb15 (Or.inr (slot_ne (Or.inl (tw_192 hw)) (Or.inl (tw_218 hw)) (by decide) (t := (.object "java/util/List")) (t' := .int) (by decide) (by decide)))).other Wc15 (Or.inr (slot_ne (Or.inl (tw_192 hw)) (Or.inl (tw_189 hw)) (by decide) (t := (.object "java/util/List")) (t' := (.array (.object "java/lang/StackTraceElement"))) (by decide) (by decide)))).other W24 (Or.inr (slot_ne (Or.inl (tw_192 hw)) (Or.inl (tw_216 hw)) (by decide) (t := (.object "java/util/List")) (t' := (.object s1)) (by decide) (by decide))))
 have Kp51 := (((((((((Keep.refl h0 [x0]).wr W2 (Or.inl (mG 0 rfl))).wr W8 (Or.inl (mG 0 rfl))).wr W14 (Or.inl (mG 0 rfl))).ext E15).wr Wa15 (Or.inl (mG 0 rfl))).wr Wb15 (Or.inl (mG 0 rfl))).wr Wc15 (Or.inl (mG 0 rfl))).wr W24 (Or.inl (mG 0 rfl)))
 exact ⟨rfl, N24, Kp51, fk41, fk42, F24, fk43⟩
theorem d34_2 : DD B34 2 (.invokespecial 7, 3) := by decide +kernel
theorem d34_5 : DD B34 5 (.return_, 1) := by decide +kernel
theorem ef_34_RR (m : MethodId) (x0 : Addr) (x1 : Addr) : entryFrame m #[(.ref x0), (.ref x1)] 2 = mkF m 0 #[.val (.ref x0), .val (.ref x1)] [] := by first | (simp [entryFrame, mkF, argsToLocals, Value.category]; done) | rfl
theorem pn_c7 : plainName "java/lang/Exception" = true := by first | (simp [plainName, overriddenIn]; done) | decide +kernel
theorem au_76 (hw : HW a0 Z) (x1 : Addr)  (O0 : Old Z n0 h0) (G : Glob Z α β γ δ ε ζ η) (P0 : Exa Z h0 x0 s2) (P1 : f6_ Z h0 x0 .null) (P2 : Fld Z h0 x0 s4 "backtrace" "Ljava/lang/Object;" .null) (P3 : f8_ Z h0 x0 .null) (P5 : f7_ Z h0 x0 .null) (P6 : Fld Z h0 x0 s4 "stackTrace" "[Ljava/lang/StackTraceElement;" .null) (P7 : f9_ Z h0 x0 .null) (P8 : Unt h0 x0) (g_x0 : n0 ≤ x0) :
    CtrW l Z EL0 ⟨"java/lang/Exception", "<init>", "(Ljava/lang/String;)V"⟩ B34 2 none (rM 4 1 2752 55) #[.ref x0, .ref x1] h0 [x0] (fun v vm h L => v = none ∧ Fr n0 L ∧ Keep h0 h [x0] ∧ f6_ Z h x0 .null ∧ f8_ Z h x0 (.ref x0) ∧ f7_ Z h x0 (.ref x1) ∧ f9_ Z h x0 (.ref γ)) := by
 refine CtrW.of (plainFor_of_name pn_c7) ?_
 intro p e s m below meth c T0 hx hZ hby hml hown hnm hret hlk e0 es hS0 C0 hsf hKN X0
 refine Go.cast (ef_34_RR m x0 x1) ?_
 generalize hFF : EndW Z EL0 s _ _ _ = FF
 refine aN X0 hx 1 rfl hby d34_0 rfl rfl ?_
 refine aN X0 hx 2 rfl hby d34_1 rfl rfl ?_
 refine Go.callNW X0 hx hZ hown rfl (tw_178 hw) (tw_179 hw) (tw_183 hw) (by decide) (tw_183 hw) (tw_182 hw) (au_75 hw x1 O0 G P0 P1 P2 P3 P5 P6 P7 P8 g_x0) hKN (own_EW hw) C0.1 (allS ⟨P0.lt, (hsf _ (mG 0 rfl))⟩ all0) hS0 (Nat.le_refl _) e0 (a := x0) (argsL := [.ref x1]) (rest := []) 5 rfl (hml ▸ rfl) (lenOf pd_13 rfl) rfl rfl (W := 0) (nE rfl) (by decide) (hb hby d34_2) ?_
 intro v1 T1 L1 h1 e1 q1 C1 S1 Z1 O1 X1
 obtain ⟨rfl, N1, K1, F1_0, F1_1, F1_2, F1_3⟩ := q1
 subst hFF
 refine Go.ret0W X1 hx hlk Z1 (own_EW hw) e1 S1 (Nat.le_refl _) (C0.trans C1) hret (hb hby d34_5) (by decide) (by decide) (fun hat => ?_)
 exact ⟨rfl, (Fr.app (Fr.nil n0) N1), ((Keep.refl h0 [x0]).trans K1 (allS (Or.inl (mG 0 rfl)) all0)), F1_0, F1_1, F1_2, F1_3⟩
theorem d33_2 : DD B33 2 (.invokespecial 1, 3) := by decide +kernel
theorem d33_5 : DD B33 5 (.aload_n 0, 1) := by decide +kernel
theorem d33_6 : DD B33 6 (.aload_n 1, 1) := by decide +kernel
theorem d33_7 : DD B33 7 (.putfield 7, 3) := by decide +kernel
theorem d33_10 : DD B33 10 (.return_, 1) := by decide +kernel
theorem ef_33_RRR (m : MethodId) (x0 : Addr) (x1 : Addr) (x2 : Addr) : entryFrame m #[(.ref x0), (.ref x1), (.ref x2)] 3 = mkF m 0 #[.val (.ref x0), .val (.ref x1), .val (.ref x2)] [] := by first | (simp [entryFrame, mkF, argsToLocals, Value.category]; done) | rfl
theorem pn_c8 : plainName "com/example/rollcall/rollcall/core/RefusedException" = true := by first | (simp [plainName, overriddenIn]; done) | decide +kernel
theorem au_77 (hw : HW a0 Z) (x1 x2 : Addr)  (O0 : Old Z n0 h0) (G : Glob Z α β γ δ ε ζ η) (P0 : Exa Z h0 x0 s2) (P1 : f6_ Z h0 x0 .null) (P2 : Fld Z h0 x0 s4 "backtrace" "Ljava/lang/Object;" .null) (P3 : f8_ Z h0 x0 .null) (P5 : f7_ Z h0 x0 .null) (P6 : Fld Z h0 x0 s4 "stackTrace" "[Ljava/lang/StackTraceElement;" .null) (P7 : f9_ Z h0 x0 .null) (P8 : Unt h0 x0) (g_x0 : n0 ≤ x0) :
    CtrW l Z EL0 ⟨s2, "<init>", "(Ljava/lang/String;Ljava/lang/String;)V"⟩ B33 3 none (rM 5 1 2752 68) #[.ref x0, .ref x1, .ref x2] h0 [x0] (fun v vm h L => v = none ∧ Fr n0 L ∧ Keep h0 h [x0] ∧ f6_ Z h x0 (.ref x1) ∧ f8_ Z h x0 (.ref x0) ∧ f7_ Z h x0 (.ref x2) ∧ f9_ Z h x0 (.ref γ)) := by
 refine CtrW.of (plainFor_of_name pn_c8) ?_
 intro p e s m below meth c T0 hx hZ hby hml hown hnm hret hlk e0 es hS0 C0 hsf hKN X0
 refine Go.cast (ef_33_RRR m x0 x1 x2) ?_
 generalize hFF : EndW Z EL0 s _ _ _ = FF
 refine aN X0 hx 1 rfl hby d33_0 rfl rfl ?_
 refine aN X0 hx 2 rfl hby d33_1 rfl rfl ?_
 refine Go.callNW X0 hx hZ hown rfl (tw_173 hw) (tw_174 hw) (tw_177 hw) (by decide) (tw_177 hw) (tw_176 hw) (au_76 hw x2 O0 G P0 P1 P2 P3 P5 P6 P7 P8 g_x0) hKN (own_EW hw) C0.1 (allS ⟨P0.lt, (hsf _ (mG 0 rfl))⟩ all0) hS0 (Nat.le_refl _) e0 (a := x0) (argsL := [.ref x2]) (rest := []) 5 rfl (hml ▸ rfl) (lenOf pd_13 rfl) rfl rfl (W := 0) (nE rfl) (by decide) (hb hby d33_2) ?_
 intro v1 T1 L1 h1 e1 q1 C1 S1 Z1 O1 X1
 obtain ⟨rfl, N1, K1, F1_0, F1_1, F1_2, F1_3⟩ := q1
 refine aN X1 hx 6 rfl hby d33_5 rfl rfl ?_
 refine aN X1 hx 7 rfl hby d33_6 rfl rfl ?_
 refine Go.putF X1 hx Z1 O1 (host := "") (Or.inl (tw_221 hw)) Via.refl e1 F1_0 (P0.keep K1) (Or.inr ⟨(tw_222 hw), rfl, hnm⟩) (tw_35 hw) (ty := (.object s1)) (by decide) rfl rfl 10 rfl (hb hby d33_7) ?_
 intro T3 h3 e3 W3 F3 X3
 have N3 := Fr.snoc X3 (Fr.app (Fr.nil n0) N1) g_x0
 subst hFF
 have C4 := (C0.trans C1)
 refine Go.ret0W X3 hx hlk Z1 (own_EW hw) e3 S1 (Nat.le_trans (Nat.le_refl _) (Keep.of_wr W3).1) (C4.trans (CHr.wr W3 (C1.safe P0.lt (hsf _ (mG 0 rfl))) C4.1)) hret (hb hby d33_10) (by decide) (by decide) (fun hat => ?_)
 exact ⟨rfl, N3, (((Keep.refl h0 [x0]).trans K1 (allS (Or.inl (mG 0 rfl)) all0)).wr W3 (Or.inl (mG 0 rfl))), F3, (F1_1.other W3 (Or.inr (slot_ne (Or.inl (tw_186 hw)) (Or.inr (tw_222 hw)) (by decide) (t := (.object s4)) (t' := (.object s1)) (by decide) (by decide)))), (F1_2.other W3 (Or.inr (slot_ne (Or.inl (tw_216 hw)) (Or.inr (tw_222 hw)) (by decide) (t := (.object s1)) (t' := (.object s1)) (by decide) (by decide)))), (F1_3.other W3 (Or.inr (slot_ne (Or.inl (tw_192 hw)) (Or.inr (tw_222 hw)) (by decide) (t := (.object "java/util/List")) (t' := (.object s1)) (by decide) (by decide))))⟩
theorem pd_28 : parseMethodDescriptor "(Ljava/lang/String;Ljava/lang/String;)V" = some ⟨[(.object "java/lang/String"), (.object "java/lang/String")], none⟩ := by decide +kernel
theorem d7_39 : DD B7 39 (.invokespecial 71, 3) := by decide +kernel
theorem d7_42 : DD B7 42 (.areturn, 1) := by decide +kernel
theorem ef_7_RR (m : MethodId) (x0 : Addr) (x1 : Addr) : entryFrame m #[(.ref x0), (.ref x1)] 2 = mkF m 0 #[.val (.ref x0), .val (.ref x1)] [] := by first | (simp [entryFrame, mkF, argsToLocals, Value.category]; done) | rfl
theorem pn_c9 : plainName "com/example/rollcall/rollcall/core/Names" = true := by first | (simp [plainName, overriddenIn]; done) | decide +kernel
theorem au_18 (hw : HW a0 Z)   (O0 : Old Z n0 h0) (G : Glob Z α β γ δ ε ζ η) (P0 : Exa Z h0 x0 s1) (P1 : f0_ Z h0 x0 (.int 0)) (P2 : f2_ Z h0 x0 (.ref x2)) (P3 : Exa Z h0 x1 s1) (P4 : f0_ Z h0 x1 (.int 0)) (P5 : f2_ Z h0 x1 (.ref x3)) (P6 : Arv Z h0 x2 kk0 .byte (2 : Int32) [.int p0, .int p1] (.int 0)) (P8 : Arv Z h0 x3 kk1 .byte (2 : Int32) [.int p2, .int p3] (.int 0)) :
    CtrW l Z EL0 ⟨s12, "taken", s13⟩ B7 2 (some (.object s2)) (rM 6 15 2997 94) #[.ref x0, .ref x1] h0 [] (fun v vm h L => ∃ (y0 y1 y2 y3 y4 : Addr) (y5 y6 : ClassId), v = some (.ref y0) ∧ Fr n0 L ∧ Keep h0 h [] ∧ h0.size ≤ y0 ∧ h0.size ≤ y2 ∧ h0.size ≤ y4 ∧ y2 ≠ y0 ∧ y4 ≠ y0 ∧ y4 ≠ y2 ∧ Safe Z EL0 vm h y0 ∧ Safe Z EL0 vm h y2 ∧ Safe Z EL0 vm h y4 ∧ Exa Z h y0 s2 ∧ f6_ Z h y0 (.ref y1) ∧ f8_ Z h y0 (.ref y0) ∧ f7_ Z h y0 (.ref y2) ∧ f9_ Z h y0 (.ref γ) ∧ Exa Z h y1 s1 ∧ f0_ Z h y1 (.int 0) ∧ f2_ Z h y1 (.ref y3) ∧ Exa Z h y2 s1 ∧ f0_ Z h y2 (.int 0) ∧ f2_ Z h y2 (.ref y4) ∧ Arv Z h y3 y5 .byte (10 : Int32) LL17 (.int (0 : Int32)) ∧ Arv Z h y4 y6 .byte (28 : Int32) (LL7 p0 p1 p2 p3) (.int 0) ∧ Exa Z h y4 "[B") := by
 refine CtrW.of (plainFor_of_name pn_c9) ?_
 intro p e s m below meth c T0 hx hZ hby hml hown hnm hret hlk e0 es hS0 C0 hsf hKN X0
 have G' := G
 obtain ⟨-, -, -, -, G4, -, -, -, -, -, -, -, -, -⟩ := G'
 refine Go.cast (ef_7_RR m x0 x1) ?_
 generalize hFF : EndW Z EL0 s _ _ _ = FF
 refine Go.newU X0 hx hZ hown (tw_34 hw) (tw_35 hw) (tw_36 hw) e0 (by decide) (by decide) 3 rfl (hb hby d7_0) ?_
 intro T1 h1 b1 e1 E1 g1 A1 D1 N1 X1
 have b1_cause : f8_ Z h1 b1 .null := D1 (Or.inl (tw_186 hw)) (ty := (.object s4)) (by decide)
 have b1_stackTrace : Fld Z h1 b1 s4 "stackTrace" "[Ljava/lang/StackTraceElement;" .null := D1 (Or.inl (tw_189 hw)) (ty := (.array (.object "java/lang/StackTraceElement"))) (by decide)
 have b1_suppressedExceptions : f9_ Z h1 b1 .null := D1 (Or.inl (tw_192 hw)) (ty := (.object "java/util/List")) (by decide)
 have b1_detailMessage : f7_ Z h1 b1 .null := D1 (Or.inl (tw_216 hw)) (ty := (.object s1)) (by decide)
 have b1_backtrace : Fld Z h1 b1 s4 "backtrace" "Ljava/lang/Object;" .null := D1 (Or.inl (tw_217 hw)) (ty := (.object "java/lang/Object")) (by decide)
 have b1_depth : Fld Z h1 b1 s4 "depth" "I" (.int 0) := D1 (Or.inl (tw_218 hw)) (ty := .int) (by decide)
 have b1_code : f6_ Z h1 b1 .null := D1 (Or.inr (tw_222 hw)) (ty := (.object s1)) (by decide)
 refine Go.dup X1 hx 4 rfl (hb hby d7_3) rfl ?_
 have C2 := (C0.trans (CHr.ext E1 C0.1))
 refine Go.ldcCH X1 hx hZ hown (tw_37 hw) (own_SA hw) e1 hS0 (Nat.le_trans (Nat.le_refl _) E1.1) (own_EW hw) (mG 0 rfl) C2.1 (vs := [(.int (110 : Int32)), (.int (97 : Int32)), (.int (109 : Int32)), (.int (101 : Int32)), (.int (95 : Int32)), (.int (116 : Int32)), (.int (97 : Int32)), (.int (107 : Int32)), (.int (101 : Int32)), (.int (110 : Int32))]) (z := (10 : Int32)) (by decide) (by decide) rfl (n := 40) (by decide) (by decide) (by decide) (by decide) 6 rfl (hb hby d7_4) ?_
 intro a4 T4 h4 j4 b4 k4 e4 E4 S4 i4 Z4 O4 A4 F4 G4 V4 C4 D4 X4
 refine Go.new X4 hx Z4 O4 (tw_40 hw) (tw_41 hw) (tw_42 hw) e4 (by decide) (by decide) 9 rfl (hb hby d7_6) ?_
 intro T5 h5 b5 e5 E5 g5 A5 D5 X5
 have b5_value : f3_ Z h5 b5 .null := D5 (Or.inl (tw_55 hw)) (ty := (.array .byte)) (by decide)
 have b5_coder : f1_ Z h5 b5 (.int 0) := D5 (Or.inl (tw_57 hw)) (ty := .byte) (by decide)
 have b5_count : f4_ Z h5 b5 (.int 0) := D5 (Or.inl (tw_80 hw)) (ty := .int) (by decide)
 have b5_maybeLatin1 : f5_ Z h5 b5 (.int 0) := D5 (Or.inl (tw_293 hw)) (ty := .boolean) (by decide)
 refine Go.dup X5 hx 10 rfl (hb hby d7_9) rfl ?_
 have O8 := (((O0.ext E1).ext E4).ext E5)
 have Kp12 := (((Keep.refl h0 []).ext E1).ext E4)
 have sz10 := Nat.le_trans Kp12.1 (Nat.le_of_eq g5.symm)
 have ge9 := Nat.le_trans O0.z sz10
 refine Go.callN X5 hx Z4 O4 rfl (tw_43 hw) (tw_44 hw) (tw_45 hw) (by decide) (tw_45 hw) (tw_42 hw) (au_19 hw O8 G A5 b5_coder b5_count b5_maybeLatin1 b5_value ge9) e5 (a := b5) (argsL := []) (rest := [.ref b5, .ref a4, .ref b1, .ref b1]) 13 rfl (hml ▸ rfl) (lenOf pd_10 rfl) rfl rfl (W := 4) (nE rfl) (by decide) (hb hby d7_10) ?_
 intro v13 T13 L13 q13 X13
 obtain ⟨h13, e13⟩ := hpz T13
 rw [e13] at q13
 obtain ⟨b13_0, k13_0, rfl, N13, K13, s13_0, F13_0, F13_1, F13_2, F13_3, F13_4, F13_5⟩ := q13
 have C14 := (C2.trans C4)
 have C15 := (C14.trans (CHr.ext E5 C14.1))
 have fk16 := (Safe.ext E5 C14.1 (Safe.new (Nat.le_of_eq g5.symm) : Safe Z EL0 T4.vm h4 b5))
 have C17 := (C15.trans (CHr.keep K13 (sfS fk16 sf0) C15.1))
 refine Go.ldcCH X13 hx Z4 O4 (tw_58 hw) (own_SA hw) e13 S4 (Nat.le_trans (Nat.le_trans i4 E5.1) K13.1) (own_EW hw) (mG 1 rfl) C17.1 (vs := [(.int (116 : Int32)), (.int (104 : Int32)), (.int (101 : Int32)), (.int (32 : Int32))]) (z := (4 : Int32)) (by decide) (by decide) rfl (n := 16) (by decide) (by decide) (by decide) (by decide) 15 rfl (hb hby d7_13) ?_
 intro a19 T19 h19 j19 b19 k19 e19 E19 S19 i19 Z19 O19 A19 F19 G19 V19 C19 D19 X19
 have O21 := ((O8.keep K13 (allS ge9 all0)).ext E19)
 have fk22 := ((A5.keep K13).ext E19)
 have Kp30 := (Kp12.ext E5)
 have sz29 := Nat.le_trans Kp30.1 s13_0
 have ge28 := Nat.le_trans O0.z sz29
 have ne31 := Nat.ne_of_lt (Nat.lt_of_lt_of_le A5.lt s13_0)
 refine Go.callV X19 hx Z19 O19 (tw_59 hw) (tw_60 hw) (nF (mvT Z19 (tw_62 hw))) (tw_62 hw) (tw_61 hw) (by decide) (tw_63 hw) (tw_42 hw) (au_21 hw O21 G fk22 (F13_0.ext E19) (F13_1.ext E19) (F13_2.ext E19) (F13_3.ext E19) A19 F19 G19 (F13_4.ext E19) V19 ge28 ge9 ne31) e19 fk22 (argsL := [.ref a19]) (rest := [.ref a4, .ref b1, .ref b1]) 18 rfl (hml ▸ rfl) (lenOf pd_17 rfl) rfl rfl (W := 3) (nE rfl) (by decide) (hb hby d7_15) ?_
 intro v32 T32 L32 q32 X32
 obtain ⟨h32, e32⟩ := hpz T32
 rw [e32] at q32
 obtain ⟨rfl, N32, K32, F32_0, F32_1, F32_2, F32_3, F32_4⟩ := q32
 show Go _ _ _ _ (T32.setTop (mkF m 18 #[vR x0, vR x1] [.ref b5, .ref a4, .ref b1, .ref b1]))
 refine aN X32 hx 19 rfl hby d7_18 rfl rfl ?_
 have O33 := (O21.keep K32 (allS ge9 (allS ge28 all0)))
 have fk34 := (fk22.keep K32)
 have fk37 := ((P0.ext E1).ext E4)
 have ne36 := Nat.ne_of_lt (Nat.lt_of_lt_of_le fk37.lt (Nat.le_of_eq g5.symm))
 have ne38 := Nat.ne_of_lt (Nat.lt_of_lt_of_le (fk37.ext E5).lt s13_0)
 have fk43 := ((P6.ext E1).ext E4)
 have ne42 := Nat.ne_of_lt (Nat.lt_of_lt_of_le fk43.lt (Nat.le_of_eq g5.symm))
 refine Go.callV X32 hx Z19 O19 (tw_59 hw) (tw_60 hw) (nF (mvT Z19 (tw_62 hw))) (tw_62 hw) (tw_61 hw) (by decide) (tw_63 hw) (tw_42 hw) (au_29 hw O33 G fk34 F32_0 F32_1 F32_2 F32_3 ((((((P0.ext E1).ext E4).ext E5).keep K13).ext E19).keep K32) ((((((P1.ext E1).ext E4).ext E5).keep K13 (ninS ne36 nin0)).ext E19).keep K32 (ninS ne36 (ninS ne38 nin0))) ((((((P2.ext E1).ext E4).ext E5).keep K13 (ninS ne36 nin0)).ext E19).keep K32 (ninS ne36 (ninS ne38 nin0))) F32_4 ((((((P6.ext E1).ext E4).ext E5).keep K13 (ninS ne42 nin0)).ext E19).keep K32 (ninS ne42 (ninS (Nat.ne_of_lt (Nat.lt_of_lt_of_le (fk43.ext E5).lt s13_0)) nin0))) ge28 ge9 ne31) e32 fk34 (argsL := [.ref x0]) (rest := [.ref a4, .ref b1, .ref b1]) 22 rfl (hml ▸ rfl) (lenOf pd_17 rfl) rfl rfl (W := 3) (nE rfl) (by decide) (hb hby d7_19) ?_
 intro v47 T47 L47 q47 X47
 obtain ⟨h47, e47⟩ := hpz T47
 rw [e47] at q47
 obtain ⟨rfl, N47, K47, F47_0, F47_1, F47_2, F47_3, F47_4⟩ := q47
 show Go _ _ _ _ (T47.setTop (mkF m 22 #[vR x0, vR x1] [.ref b5, .ref a4, .ref b1, .ref b1]))
 have C48 := (C17.trans C19)
 have fk50 := (C19.safe F13_5.lt (Safe.keep K13 (sfS fk16 sf0) C15.1 (Safe.new s13_0 : Safe Z EL0 T4.vm h5 b13_0)))
 have fk53 := (C19.safe (A5.keep K13).lt (Safe.keep K13 (sfS fk16 sf0) C15.1 fk16))
 have C54 := (C48.trans (CHr.keep K32 (sfS fk53 (sfS fk50 sf0)) C48.1))
 have fk55 := (Safe.keep K32 (sfS fk53 (sfS fk50 sf0)) C48.1 fk50)
 have fk56 := (Safe.keep K32 (sfS fk53 (sfS fk50 sf0)) C48.1 fk53)
 have C57 := (C54.trans (CHr.keep K47 (sfS fk56 (sfS fk55 sf0)) C54.1))
 refine Go.ldcCH X47 hx Z19 O19 (tw_106 hw) (own_SA hw) e47 S19 (Nat.le_trans (Nat.le_trans i19 K32.1) K47.1) (own_EW hw) (mG 2 rfl) C57.1 (vs := [(.int (32 : Int32)), (.int (39 : Int32))]) (z := (2 : Int32)) (by decide) (by decide) rfl (n := 8) (by decide) (by decide) (by decide) (by decide) 24 rfl (hb hby d7_22) ?_
 intro a59 T59 h59 j59 b59 k59 e59 E59 S59 i59 Z59 O59 A59 F59 G59 V59 C59 D59 X59
 have O61 := ((O33.keep K47 (allS ge9 (allS ge28 all0))).ext E59)
 have fk62 := ((fk34.keep K47).ext E59)
 refine Go.callV X59 hx Z59 O59 (tw_59 hw) (tw_60 hw) (nF (mvT Z59 (tw_62 hw))) (tw_62 hw) (tw_61 hw) (by decide) (tw_63 hw) (tw_42 hw) (au_36 hw O61 G fk62 (F47_0.ext E59) (F47_1.ext E59) (F47_2.ext E59) (F47_3.ext E59) A59 F59 G59 (F47_4.ext E59) V59 ge28 ge9 ne31) e59 fk62 (argsL := [.ref a59]) (rest := [.ref a4, .ref b1, .ref b1]) 27 rfl (hml ▸ rfl) (lenOf pd_17 rfl) rfl rfl (W := 3) (nE rfl) (by decide) (hb hby d7_24) ?_
 intro v68 T68 L68 q68 X68
 obtain ⟨h68, e68⟩ := hpz T68
 rw [e68] at q68
 obtain ⟨rfl, N68, K68, F68_0, F68_1, F68_2, F68_3, F68_4⟩ := q68
 show Go _ _ _ _ (T68.setTop (mkF m 27 #[vR x0, vR x1] [.ref b5, .ref a4, .ref b1, .ref b1]))
 refine aN X68 hx 28 rfl hby d7_27 rfl rfl ?_
 have O69 := (O61.keep K68 (allS ge9 (allS ge28 all0)))
 have fk70 := (fk62.keep K68)
 have fk73 := ((P3.ext E1).ext E4)
 have ne72 := Nat.ne_of_lt (Nat.lt_of_lt_of_le fk73.lt (Nat.le_of_eq g5.symm))
 have ne74 := Nat.ne_of_lt (Nat.lt_of_lt_of_le (fk73.ext E5).lt s13_0)
 have fk79 := ((P8.ext E1).ext E4)
 have ne78 := Nat.ne_of_lt (Nat.lt_of_lt_of_le fk79.lt (Nat.le_of_eq g5.symm))
 have ne80 := Nat.ne_of_lt (Nat.lt_of_lt_of_le (fk79.ext E5).lt s13_0)
 refine Go.callV X68 hx Z59 O59 (tw_59 hw) (tw_60 hw) (nF (mvT Z59 (tw_62 hw))) (tw_62 hw) (tw_61 hw) (by decide) (tw_63 hw) (tw_42 hw) (au_43 hw O69 G fk70 F68_0 F68_1 F68_2 F68_3 (((((((((P3.ext E1).ext E4).ext E5).keep K13).ext E19).keep K32).keep K47).ext E59).keep K68) (((((((((P4.ext E1).ext E4).ext E5).keep K13 (ninS ne72 nin0)).ext E19).keep K32 (ninS ne72 (ninS ne74 nin0))).keep K47 (ninS ne72 (ninS ne74 nin0))).ext E59).keep K68 (ninS ne72 (ninS ne74 nin0))) (((((((((P5.ext E1).ext E4).ext E5).keep K13 (ninS ne72 nin0)).ext E19).keep K32 (ninS ne72 (ninS ne74 nin0))).keep K47 (ninS ne72 (ninS ne74 nin0))).ext E59).keep K68 (ninS ne72 (ninS ne74 nin0))) F68_4 (((((((((P8.ext E1).ext E4).ext E5).keep K13 (ninS ne78 nin0)).ext E19).keep K32 (ninS ne78 (ninS ne80 nin0))).keep K47 (ninS ne78 (ninS ne80 nin0))).ext E59).keep K68 (ninS ne78 (ninS ne80 nin0))) ge28 ge9 ne31) e68 fk70 (argsL := [.ref x1]) (rest := [.ref a4, .ref b1, .ref b1]) 31 rfl (hml ▸ rfl) (lenOf pd_17 rfl) rfl rfl (W := 3) (nE rfl) (by decide) (hb hby d7_28) ?_
 intro v83 T83 L83 q83 X83
 obtain ⟨h83, e83⟩ := hpz T83
 rw [e83] at q83
 obtain ⟨rfl, N83, K83, F83_0, F83_1, F83_2, F83_3, F83_4⟩ := q83
 show Go _ _ _ _ (T83.setTop (mkF m 31 #[vR x0, vR x1] [.ref b5, .ref a4, .ref b1, .ref b1]))
 have C84 := (C57.trans C59)
 have fk87 := (C59.safe (((F13_5.ext E19).keep K32).keep K47).lt (Safe.keep K47 (sfS fk56 (sfS fk55 sf0)) C54.1 fk55))
 have fk90 := (C59.safe (fk34.keep K47).lt (Safe.keep K47 (sfS fk56 (sfS fk55 sf0)) C54.1 fk56))
 have C91 := (C84.trans (CHr.keep K68 (sfS fk90 (sfS fk87 sf0)) C84.1))
 have fk92 := (Safe.keep K68 (sfS fk90 (sfS fk87 sf0)) C84.1 fk87)
 have fk93 := (Safe.keep K68 (sfS fk90 (sfS fk87 sf0)) C84.1 fk90)
 have C94 := (C91.trans (CHr.keep K83 (sfS fk93 (sfS fk92 sf0)) C91.1))
 refine Go.ldcCH X83 hx Z59 O59 (tw_107 hw) (own_SA hw) e83 S59 (Nat.le_trans (Nat.le_trans i59 K68.1) K83.1) (own_EW hw) (mG 3 rfl) C94.1 (vs := [(.int (39 : Int32)), (.int (32 : Int32)), (.int (105 : Int32)), (.int (115 : Int32)), (.int (32 : Int32)), (.int (97 : Int32)), (.int (108 : Int32)), (.int (114 : Int32)), (.int (101 : Int32)), (.int (97 : Int32)), (.int (100 : Int32)), (.int (121 : Int32)), (.int (32 : Int32)), (.int (116 : Int32)), (.int (97 : Int32)), (.int (107 : Int32)), (.int (101 : Int32)), (.int (110 : Int32))]) (z := (18 : Int32)) (by decide) (by decide) rfl (n := 72) (by decide) (by decide) (by decide) (by decide) 33 rfl (hb hby d7_31) ?_
 intro a96 T96 h96 j96 b96 k96 e96 E96 S96 i96 Z96 O96 A96 F96 G96 V96 C96 D96 X96
 have O98 := ((O69.keep K83 (allS ge9 (allS ge28 all0))).ext E96)
 have fk99 := ((fk70.keep K83).ext E96)
 have fk107 := (C96.safe (fk70.keep K83).lt (Safe.keep K83 (sfS fk93 (sfS fk92 sf0)) C91.1 fk93))
 refine Go.callV X96 hx Z96 O96 (tw_59 hw) (tw_60 hw) (nF (mvT Z96 (tw_62 hw))) (tw_62 hw) (tw_61 hw) (by decide) (tw_63 hw) (tw_42 hw) (au_49 hw O98 G fk99 (F83_0.ext E96) (F83_1.ext E96) (F83_2.ext E96) (F83_3.ext E96) A96 F96 G96 (F83_4.ext E96) V96 ge9 (Ne.symm (D96 b5 fk107).1) (Ne.symm (D96 b5 fk107).2)) e96 fk99 (argsL := [.ref a96]) (rest := [.ref a4, .ref b1, .ref b1]) 36 rfl (hml ▸ rfl) (lenOf pd_17 rfl) rfl rfl (W := 3) (nE rfl) (by decide) (hb hby d7_33) ?_
 intro v108 T108 L108 q108 X108
 obtain ⟨h108, e108⟩ := hpz T108
 rw [e108] at q108
 obtain ⟨b108_0, k108_0, rfl, N108, K108, s108_0, F108_0, F108_1, F108_2, F108_3, F108_4, F108_5⟩ := q108
 show Go _ _ _ _ (T108.setTop (mkF m 36 #[vR x0, vR x1] [.ref b5, .ref a4, .ref b1, .ref b1]))
 have O109 := (O98.keep K108 (allS ge9 all0))
 have fk110 := (fk99.keep K108)
 refine Go.callV X108 hx Z96 O96 (tw_131 hw) (tw_132 hw) (nF (mvT Z96 (tw_134 hw))) (tw_134 hw) (tw_133 hw) (by decide) (tw_135 hw) (tw_42 hw) (au_61 hw O109 G fk110 F108_0 F108_1 F108_3 F108_4) e108 fk110 (argsL := []) (rest := [.ref a4, .ref b1, .ref b1]) 39 rfl (hml ▸ rfl) (lenOf pd_27 rfl) rfl rfl (W := 3) (nE rfl) (by decide) (hb hby d7_36) ?_
 intro v111 T111 L111 q111 X111
 obtain ⟨h111, e111⟩ := hpz T111
 rw [e111] at q111
 obtain ⟨b111_0, b111_1, k111_0, rfl, N111, K111, s111_0, s111_1, n111_0, F111_0, F111_1, F111_2, F111_3, F111_4⟩ := q111
 show Go _ _ _ _ (T111.setTop (mkF m 39 #[vR x0, vR x1] [.ref b111_0, .ref a4, .ref b1, .ref b1]))
 have fk113 := ((((((((((((A1.ext E4).ext E5).keep K13).ext E19).keep K32).keep K47).ext E59).keep K68).keep K83).ext E96).keep K108).keep K111)
 have fk115 := (A1.ext E4)
 have ne114 := Nat.ne_of_lt (Nat.lt_of_lt_of_le fk115.lt (Nat.le_of_eq g5.symm))
 have fk117 := (fk115.ext E5)
 have ne116 := Nat.ne_of_lt (Nat.lt_of_lt_of_le fk117.lt s13_0)
 have sz126 := Nat.le_trans (Keep.refl h0 []).1 (Nat.le_of_eq g1.symm)
 have C127 := (C94.trans C96)
 have C128 := (C127.trans (CHr.keep K108 (sfS fk107 sf0) C127.1))
 have C129 := (C128.trans (CHr.keep K111 sf0 C128.1))
 have fk131 := (C4.safe A1.lt (Safe.ext E1 C0.1 (Safe.new (Nat.le_of_eq g1.symm) : Safe Z EL0 s.vm h0 b1)))
 have fk134 := (fk117.keep K13)
 have fk138 := (((fk134.ext E19).keep K32).keep K47)
 have fk141 := (Safe.keep K83 (sfS fk93 (sfS fk92 sf0)) C91.1 (Safe.keep K68 (sfS fk90 (sfS fk87 sf0)) C84.1 (C59.safe fk138.lt (Safe.keep K47 (sfS fk56 (sfS fk55 sf0)) C54.1 (Safe.keep K32 (sfS fk53 (sfS fk50 sf0)) C48.1 (C19.safe fk134.lt (Safe.keep K13 (sfS fk16 sf0) C15.1 (Safe.ext E5 C14.1 fk131))))))))
 have fk142 := (((fk138.ext E59).keep K68).keep K83)
 have fk145 := (Safe.keep K111 sf0 C128.1 (Safe.keep K108 (sfS fk107 sf0) C127.1 (C96.safe fk142.lt fk141)))
 refine Go.callNW X111 hx Z96 O96 rfl (tw_170 hw) (tw_171 hw) (tw_172 hw) (by decide) (tw_172 hw) (tw_36 hw) (au_77 hw a4 b111_0 (O109.keep K111 all0) G fk113 ((((((((((((b1_code.ext E4).ext E5).keep K13 (ninS ne114 nin0)).ext E19).keep K32 (ninS ne114 (ninS ne116 nin0))).keep K47 (ninS ne114 (ninS ne116 nin0))).ext E59).keep K68 (ninS ne114 (ninS ne116 nin0))).keep K83 (ninS ne114 (ninS ne116 nin0))).ext E96).keep K108 (ninS ne114 nin0)).keep K111 nin0) ((((((((((((b1_backtrace.ext E4).ext E5).keep K13 (ninS ne114 nin0)).ext E19).keep K32 (ninS ne114 (ninS ne116 nin0))).keep K47 (ninS ne114 (ninS ne116 nin0))).ext E59).keep K68 (ninS ne114 (ninS ne116 nin0))).keep K83 (ninS ne114 (ninS ne116 nin0))).ext E96).keep K108 (ninS ne114 nin0)).keep K111 nin0) ((((((((((((b1_cause.ext E4).ext E5).keep K13 (ninS ne114 nin0)).ext E19).keep K32 (ninS ne114 (ninS ne116 nin0))).keep K47 (ninS ne114 (ninS ne116 nin0))).ext E59).keep K68 (ninS ne114 (ninS ne116 nin0))).keep K83 (ninS ne114 (ninS ne116 nin0))).ext E96).keep K108 (ninS ne114 nin0)).keep K111 nin0) ((((((((((((b1_detailMessage.ext E4).ext E5).keep K13 (ninS ne114 nin0)).ext E19).keep K32 (ninS ne114 (ninS ne116 nin0))).keep K47 (ninS ne114 (ninS ne116 nin0))).ext E59).keep K68 (ninS ne114 (ninS ne116 nin0))).keep K83 (ninS ne114 (ninS ne116 nin0))).ext E96).keep K108 (ninS ne114 nin0)).keep K111 nin0) ((((((((((((b1_stackTrace.ext E4).ext E5).keep K13 (ninS ne114 nin0)).ext E19).keep K32 (ninS ne114 (ninS ne116 nin0))).keep K47 (ninS ne114 (ninS ne116 nin0))).ext E59).keep K68 (ninS ne114 (ninS ne116 nin0))).keep K83 (ninS ne114 (ninS ne116 nin0))).ext E96).keep K108 (ninS ne114 nin0)).keep K111 nin0) ((((((((((((b1_suppressedExceptions.ext E4).ext E5).keep K13 (ninS ne114 nin0)).ext E19).keep K32 (ninS ne114 (ninS ne116 nin0))).keep K47 (ninS ne114 (ninS ne116 nin0))).ext E59).keep K68 (ninS ne114 (ninS ne116 nin0))).keep K83 (ninS ne114 (ninS ne116 nin0))).ext E96).keep K108 (ninS ne114 nin0)).keep K111 nin0) (Unt.keep K111 nin0 (Unt.keep K108 (ninS ne114 nin0) (Unt.ext E96 (Unt.keep K83 (ninS ne114 (ninS ne116 nin0)) (Unt.keep K68 (ninS ne114 (ninS ne116 nin0)) (Unt.ext E59 (Unt.keep K47 (ninS ne114 (ninS ne116 nin0)) (Unt.keep K32 (ninS ne114 (ninS ne116 nin0)) (Unt.ext E19 (Unt.keep K13 (ninS ne114 nin0) (Unt.ext E5 (Unt.ext E4 N1)))))))))))) (Nat.le_trans O0.z sz126)) hKN (own_EW hw) C129.1 (allS ⟨fk113.lt, fk145⟩ all0) S96 (Nat.le_trans (Nat.le_trans i96 K108.1) K111.1) e111 (a := b1) (argsL := [.ref a4, .ref b111_0]) (rest := [.ref b1]) 42 rfl (hml ▸ rfl) (lenOf pd_28 rfl) rfl rfl (W := 1) (nE rfl) (by decide) (hb hby d7_39) ?_
 intro v147 T147 L147 h147 e147 q147 C147 S147 Z147 O147 X147
 obtain ⟨rfl, N147, K147, F147_0, F147_1, F147_2, F147_3⟩ := q147
 subst hFF
 refine Go.retRW X147 hx hlk Z147 (own_EW hw) e147 S147 (Nat.le_refl _) (C129.trans C147) (t := (.object s2)) hret rfl rfl (hb hby d7_42) (by decide) (by decide) (fun hat => ?_)
 have fk149 := (fk113.keep K147)
 have ne151 := Nat.ne_of_lt (Nat.lt_of_lt_of_le (A4.ext E5).lt s13_0)
 have fk153 := ((((((((((((F4.ext E5).keep K13 (ninS (Ne.symm (D4 b5 (Safe.new (Nat.le_of_eq g5.symm) : Safe Z EL0 T4.vm h4 b5)).1) nin0)).ext E19).keep K32 (ninS (Ne.symm (D4 b5 (Safe.new (Nat.le_of_eq g5.symm) : Safe Z EL0 T4.vm h4 b5)).1) (ninS ne151 nin0))).keep K47 (ninS (Ne.symm (D4 b5 (Safe.new (Nat.le_of_eq g5.symm) : Safe Z EL0 T4.vm h4 b5)).1) (ninS ne151 nin0))).ext E59).keep K68 (ninS (Ne.symm (D4 b5 (Safe.new (Nat.le_of_eq g5.symm) : Safe Z EL0 T4.vm h4 b5)).1) (ninS ne151 nin0))).keep K83 (ninS (Ne.symm (D4 b5 (Safe.new (Nat.le_of_eq g5.symm) : Safe Z EL0 T4.vm h4 b5)).1) (ninS ne151 nin0))).ext E96).keep K108 (ninS (Ne.symm (D4 b5 (Safe.new (Nat.le_of_eq g5.symm) : Safe Z EL0 T4.vm h4 b5)).1) nin0)).keep K111 nin0).keep K147 (ninS (Ne.symm (D4 b1 fk131).1) nin0))
 have fk154 := ((((((((((((G4.ext E5).keep K13 (ninS (Ne.symm (D4 b5 (Safe.new (Nat.le_of_eq g5.symm) : Safe Z EL0 T4.vm h4 b5)).1) nin0)).ext E19).keep K32 (ninS (Ne.symm (D4 b5 (Safe.new (Nat.le_of_eq g5.symm) : Safe Z EL0 T4.vm h4 b5)).1) (ninS ne151 nin0))).keep K47 (ninS (Ne.symm (D4 b5 (Safe.new (Nat.le_of_eq g5.symm) : Safe Z EL0 T4.vm h4 b5)).1) (ninS ne151 nin0))).ext E59).keep K68 (ninS (Ne.symm (D4 b5 (Safe.new (Nat.le_of_eq g5.symm) : Safe Z EL0 T4.vm h4 b5)).1) (ninS ne151 nin0))).keep K83 (ninS (Ne.symm (D4 b5 (Safe.new (Nat.le_of_eq g5.symm) : Safe Z EL0 T4.vm h4 b5)).1) (ninS ne151 nin0))).ext E96).keep K108 (ninS (Ne.symm (D4 b5 (Safe.new (Nat.le_of_eq g5.symm) : Safe Z EL0 T4.vm h4 b5)).1) nin0)).keep K111 nin0).keep K147 (ninS (Ne.symm (D4 b1 fk131).1) nin0))
 have fk155 := (F111_0.keep K147)
 have fk157 := ((fk142.ext E96).keep K108)
 have ne156 := Nat.ne_of_lt (Nat.lt_of_lt_of_le fk157.lt s111_0)
 have ne160 := Nat.ne_of_lt (Nat.lt_of_lt_of_le (V4.ext E5).lt s13_0)
 have fk162 := ((((((((((((V4.ext E5).keep K13 (ninS (Ne.symm (D4 b5 (Safe.new (Nat.le_of_eq g5.symm) : Safe Z EL0 T4.vm h4 b5)).2) nin0)).ext E19).keep K32 (ninS (Ne.symm (D4 b5 (Safe.new (Nat.le_of_eq g5.symm) : Safe Z EL0 T4.vm h4 b5)).2) (ninS ne160 nin0))).keep K47 (ninS (Ne.symm (D4 b5 (Safe.new (Nat.le_of_eq g5.symm) : Safe Z EL0 T4.vm h4 b5)).2) (ninS ne160 nin0))).ext E59).keep K68 (ninS (Ne.symm (D4 b5 (Safe.new (Nat.le_of_eq g5.symm) : Safe Z EL0 T4.vm h4 b5)).2) (ninS ne160 nin0))).keep K83 (ninS (Ne.symm (D4 b5 (Safe.new (Nat.le_of_eq g5.symm) : Safe Z EL0 T4.vm h4 b5)).2) (ninS ne160 nin0))).ext E96).keep K108 (ninS (Ne.symm (D4 b5 (Safe.new (Nat.le_of_eq g5.symm) : Safe Z EL0 T4.vm h4 b5)).2) nin0)).keep K111 nin0).keep K147 (ninS (Ne.symm (D4 b1 fk131).2) nin0))
 have ne163 := Nat.ne_of_lt (Nat.lt_of_lt_of_le fk157.lt s111_1)
 have fk164 := (F111_3.keep K147 (ninS (Ne.symm ne163) nin0))
 have Kp173 := ((((((((Kp30.trans K13 (allS (Or.inr sz10) all0)).ext E19).trans K32 (allS (Or.inr sz10) (allS (Or.inr sz29) all0))).trans K47 (allS (Or.inr sz10) (allS (Or.inr sz29) all0))).ext E59).trans K68 (allS (Or.inr sz10) (allS (Or.inr sz29) all0))).trans K83 (allS (Or.inr sz10) (allS (Or.inr sz29) all0))).ext E96)
 have Kp174 := (Kp173.trans K108 (allS (Or.inr sz10) all0))
 exact ⟨b1, a4, b111_0, b4, b111_1, k4, k111_0, rfl, (Fr.app (Fr.app (Fr.app (Fr.app (Fr.app (Fr.app (Fr.app (Fr.app (Fr.nil n0) N13) N32) N47) N68) N83) N108) N111) N147), ((Kp174.trans K111 all0).trans K147 (allS (Or.inr sz126) all0)), sz126, (Nat.le_trans Kp174.1 s111_0), (Nat.le_trans Kp174.1 s111_1), (Ne.symm ne156), (Ne.symm ne163), n111_0, (hat.safe fk149.lt (C147.safe fk113.lt fk145)), (hat.safe fk155.lt (C147.safe F111_0.lt (Safe.keep K111 sf0 C128.1 (Safe.new s111_0 : Safe Z EL0 T96.vm h108 b111_0)))), (hat.safe fk164.lt (C147.safe F111_3.lt (Safe.keep K111 sf0 C128.1 (Safe.new s111_1 : Safe Z EL0 T96.vm h108 b111_1)))), fk149, F147_0, F147_1, F147_2, F147_3, ((((((((((((A4.ext E5).keep K13).ext E19).keep K32).keep K47).ext E59).keep K68).keep K83).ext E96).keep K108).keep K111).keep K147), fk153, fk154, fk155, (F111_1.keep K147 (ninS (Ne.symm ne156) nin0)), (F111_2.keep K147 (ninS (Ne.symm ne156) nin0)), fk162, fk164, (F111_4.keep K147)⟩
theorem pd_29 : parseMethodDescriptor "(Ljava/lang/String;Ljava/lang/String;)Lcom/example/rollcall/rollcall/core/RefusedException;" = some ⟨[(.object "java/lang/String"), (.object "java/lang/String")], some (.object "com/example/rollcall/rollcall/core/RefusedException")⟩ := by decide +kernel
theorem d38_0 : DD B38 0 (.aload_n 0, 1) := by decide +kernel
theorem d38_1 : DD B38 1 (.getfield 7, 3) := by decide +kernel
theorem d38_4 : DD B38 4 (.areturn, 1) := by decide +kernel
theorem ef_38_R (m : MethodId) (x0 : Addr) : entryFrame m #[(.ref x0)] 1 = mkF m 0 #[.val (.ref x0)] [] := by first | (simp [entryFrame, mkF, argsToLocals, Value.category]; done) | rfl
theorem au_78 (hw : HW a0 Z)  (Z0 : n0 ≤ h0.size) (P1 : f6_ Z h0 x0 (.ref x1)) :
    Ctr l Z ⟨s2, "code", "()Ljava/lang/String;"⟩ B38 1 (some (.object s1)) (rM 0 0 0 0) #[.ref x0] h0 (fun v h L => v = some (.ref x1) ∧ Fr n0 L ∧ h = h0) := by
 refine Ctr.of (plainFor_of_name pn_c8) fun p e s m below meth c T0 hx hZ hby hml hown hnm hret hlk e0 es X0 => Go.cast (ef_38_R m x0) ?_
 generalize hFF : EndN s _ _ _ = FF
 refine aN X0 hx 1 rfl hby d38_0 rfl rfl ?_
 refine gF X0 hx hZ hown (tw_221 hw) e0 P1 4 rfl (hb hby d38_1) ?_
 intro T1 e1 X1
 subst hFF
 refine Go.retR X1 hx hlk (t := (.object s1)) hret rfl rfl (hb hby d38_4) (by decide) (by decide) ?_
 rw [e1]
 exact ⟨rfl, (Fr.nil n0), rfl⟩
theorem d39_0 : DD B39 0 (.aload_n 0, 1) := by decide +kernel
theorem d39_1 : DD B39 1 (.aload_n 1, 1) := by decide +kernel
theorem d39_2 : DD B39 2 (.if_acmp .ne 5, 3) := by decide +kernel
theorem d39_5 : DD B39 5 (.iconst 1, 1) := by decide +kernel
theorem d39_6 : DD B39 6 (.ireturn, 1) := by decide +kernel
theorem ef_39_RR (m : MethodId) (x0 : Addr) (x1 : Addr) : entryFrame m #[(.ref x0), (.ref x1)] 3 = mkF m 0 #[.val (.ref x0), .val (.ref x1), .unset] [] := by first | (simp [entryFrame, mkF, argsToLocals, Value.category]; done) | rfl
theorem au_79 (hw : HW a0 Z) (x0 : Addr) (Z0 : n0 ≤ h0.size) :
    Ctr l Z ⟨s1, "equals", "(Ljava/lang/Object;)Z"⟩ B39 3 (some .boolean) (rM 0 0 0 0) #[.ref x0, .ref x0] h0 (fun v h L => v = some (.int 1) ∧ Fr n0 L ∧ h = h0) := by
 refine Ctr.of (plainFor_of_name pn_c1) fun p e s m below meth c T0 hx hZ hby hml hown hnm hret hlk e0 es X0 => Go.cast (ef_39_RR m x0 x0) ?_
 generalize hFF : EndN s _ _ _ = FF
 refine aN X0 hx 1 rfl hby d39_0 rfl rfl ?_
 refine aN X0 hx 2 rfl hby d39_1 rfl rfl ?_
 refine Go.acmp X0 hx (pc' := 5) (same := true) (hb hby d39_2) rfl rfl (decide_eq_true rfl) (by decide) (by decide) ?_
 refine Go.iconst X0 hx 6 rfl (hb hby d39_5) (v := (1 : Int32)) rfl ?_
 subst hFF
 refine Go.retN X0 hx hlk (t := .boolean) hret (by simp) (hb hby d39_6) (by decide) (by decide) ?_
 rw [e0]
 exact ⟨(congrArg (fun z => some (Value.int z)) (by decide : nar .boolean (1 : Int32) = (1 : Int32))), (Fr.nil n0), rfl⟩
theorem pd_30 : parseMethodDescriptor "(Ljava/lang/Object;)Z" = some ⟨[(.object "java/lang/Object")], some .boolean⟩ := by decide +kernel
theorem d40_0 : DD B40 0 (.aload_n 0, 1) := by decide +kernel
theorem d40_1 : DD B40 1 (.getfield 31, 3) := by decide +kernel
theorem d40_4 : DD B40 4 (.areturn, 1) := by decide +kernel
theorem ef_40_R (m : MethodId) (x0 : Addr) : entryFrame m #[(.ref x0)] 1 = mkF m 0 #[.val (.ref x0)] [] := by first | (simp [entryFrame, mkF, argsToLocals, Value.category]; done) | rfl
theorem au_80 (hw : HW a0 Z)  (Z0 : n0 ≤ h0.size) (P3 : f7_ Z h0 x0 (.ref x2)) :
    Ctr l Z ⟨s4, "getMessage", "()Ljava/lang/String;"⟩ B40 1 (some (.object s1)) (rM 0 0 0 0) #[.ref x0] h0 (fun v h L => v = some (.ref x2) ∧ Fr n0 L ∧ h = h0) := by
 refine Ctr.of (plainFor_of_name pn_c6) fun p e s m below meth c T0 hx hZ hby hml hown hnm hret hlk e0 es X0 => Go.cast (ef_40_R m x0) ?_
 generalize hFF : EndN s _ _ _ = FF
 refine aN X0 hx 1 rfl hby d40_0 rfl rfl ?_
 refine gF X0 hx hZ hown (tw_220 hw) e0 P3 4 rfl (hb hby d40_1) ?_
 intro T1 e1 X1
 subst hFF
 refine Go.retR X1 hx hlk (t := (.object s1)) hret rfl rfl (hb hby d40_4) (by decide) (by decide) ?_
 rw [e1]
 exact ⟨rfl, (Fr.nil n0), rfl⟩
theorem d39_7 : DD B39 7 (.aload_n 1, 1) := by decide +kernel
theorem d39_8 : DD B39 8 (.instanceof 10, 3) := by decide +kernel
theorem d39_11 : DD B39 11 (.ifCond .eq 43, 3) := by decide +kernel
theorem d39_14 : DD B39 14 (.aload_n 1, 1) := by decide +kernel
theorem d39_15 : DD B39 15 (.checkcast 10, 3) := by decide +kernel
theorem d39_18 : DD B39 18 (.astore_n 2, 1) := by decide +kernel
theorem d39_19 : DD B39 19 (.getstatic 38, 3) := by decide +kernel
theorem d39_22 : DD B39 22 (.ifCond .eq 14, 3) := by decide +kernel
theorem d39_25 : DD B39 25 (.aload_n 0, 1) := by decide +kernel
theorem d39_26 : DD B39 26 (.getfield 15, 3) := by decide +kernel
theorem d39_29 : DD B39 29 (.aload_n 2, 1) := by decide +kernel
theorem d39_30 : DD B39 30 (.getfield 15, 3) := by decide +kernel
theorem d39_33 : DD B39 33 (.if_icmp .ne 21, 3) := by decide +kernel
theorem d39_36 : DD B39 36 (.aload_n 0, 1) := by decide +kernel
theorem d39_37 : DD B39 37 (.getfield 9, 3) := by decide +kernel
theorem d39_40 : DD B39 40 (.aload_n 2, 1) := by decide +kernel
theorem d39_41 : DD B39 41 (.getfield 9, 3) := by decide +kernel
theorem ef_41_RR (m : MethodId) (x0 : Addr) (x1 : Addr) : entryFrame m #[(.ref x0), (.ref x1)] 3 = mkF m 0 #[.val (.ref x0), .val (.ref x1), .unset] [] := by first | (simp [entryFrame, mkF, argsToLocals, Value.category]; done) | rfl
theorem pn_c10 : plainName "java/lang/StringLatin1" = true := by first | (simp [plainName, overriddenIn]; done) | decide +kernel
theorem d41_0 : DD B41 0 (.aload_n 0, 1) := by decide +kernel
theorem d41_1 : DD B41 1 (.arraylength, 1) := by decide +kernel
theorem d41_2 : DD B41 2 (.aload_n 1, 1) := by decide +kernel
theorem d41_3 : DD B41 3 (.arraylength, 1) := by decide +kernel
theorem d41_4 : DD B41 4 (.if_icmp .ne 30, 3) := by decide +kernel
theorem d41_7 : DD B41 7 (.iconst 0, 1) := by decide +kernel
theorem d41_8 : DD B41 8 (.istore_n 2, 1) := by decide +kernel
theorem d41_9 : DD B41 9 (.iload_n 2, 1) := by decide +kernel
theorem d41_10 : DD B41 10 (.aload_n 0, 1) := by decide +kernel
theorem d41_11 : DD B41 11 (.arraylength, 1) := by decide +kernel
theorem d41_12 : DD B41 12 (.if_icmp .ge 20, 3) := by decide +kernel
theorem d41_32 : DD B41 32 (.iconst 1, 1) := by decide +kernel
theorem d41_33 : DD B41 33 (.ireturn, 1) := by decide +kernel
theorem d41_15 : DD B41 15 (.aload_n 0, 1) := by decide +kernel
theorem d41_16 : DD B41 16 (.iload_n 2, 1) := by decide +kernel
theorem d41_17 : DD B41 17 (.baload, 1) := by decide +kernel
theorem d41_18 : DD B41 18 (.aload_n 1, 1) := by decide +kernel
theorem d41_19 : DD B41 19 (.iload_n 2, 1) := by decide +kernel
theorem d41_20 : DD B41 20 (.baload, 1) := by decide +kernel
theorem d41_21 : DD B41 21 (.if_icmp .eq 5, 3) := by decide +kernel
theorem d41_26 : DD B41 26 (.iinc 2 1, 3) := by decide +kernel
theorem d41_29 : DD B41 29 (.goto (-20), 3) := by decide +kernel
theorem d41_24 : DD B41 24 (.iconst 0, 1) := by decide +kernel
theorem d41_25 : DD B41 25 (.ireturn, 1) := by decide +kernel
theorem d41_34 : DD B41 34 (.iconst 0, 1) := by decide +kernel
theorem d41_35 : DD B41 35 (.ireturn, 1) := by decide +kernel
theorem gl_eq (l : Launch) (Z : State) (a0 : Array Value) (hw : HW a0 Z) (x0 x1 : Addr) (k0 k1 : ClassId) (za zb : Int32) (us vs : List Int32) (h0 : Heap) (P0 : Arv Z h0 x0 k0 .byte za (us.map Value.int) (.int 0)) (P1 : Arv Z h0 x1 k1 .byte zb (vs.map Value.int) (.int 0)) (ha : za.toInt = us.length) (hv : zb.toInt = vs.length) :
    Ctr l Z (⟨"java/lang/StringLatin1", "equals", "([B[B)Z"⟩ : MethodName) B41 3 (some .boolean) ({ frames := 0, cells := 0, slots := 0, locals := 0 } : Room) #[(.ref x0), (.ref x1)] h0 (fun v h L => v = some (.int (if us = vs then 1 else 0)) ∧ L = [] ∧ h = h0) := by
  refine Ctr.of (plainFor_of_name pn_c10) ?_
  intro p e s m below meth c T0 hx hZ hby hml hown hnm hret hlk e0 es X0
  refine Go.cast (ef_41_RR m x0 x1) ?_
  generalize hFF : EndN s _ _ _ = FF
  have hN := own_ltN ha
  refine Go.aloadN X0 hx (pc' := 1) rfl (hb hby d41_0) rfl rfl ?_
  refine Go.arraylength X0 hx hZ e0 P0 (pc' := 2) rfl (hb hby d41_1) ?_
  refine Go.aloadN X0 hx (pc' := 3) rfl (hb hby d41_2) rfl rfl ?_
  refine Go.arraylength X0 hx hZ e0 P1 (pc' := 4) rfl (hb hby d41_3) ?_
  by_cases hz : za = zb
  · have hl : us.length = vs.length := by subst hz; omega
    refine Go.icmpNo X0 hx (pc' := 7) rfl (hb hby d41_4) (teq hz).2 ?_
    refine Go.iconst X0 hx (pc' := 8) rfl (hb hby d41_7) (v := (0 : Int32)) rfl ?_
    refine Go.istoreN X0 hx (pc' := 9) rfl (hb hby d41_8) (Ls' := #[.val (.ref x0), .val (.ref x1), .val (.int 0)]) rfl ?_
    have loop : ∀ (k i : Nat), i + k = us.length → us.take i = vs.take i → Go p e below FF (T0.setTop (mkF m 9 #[.val (.ref x0), .val (.ref x1), .val (.int (Int32.ofNat i))] [])) := by
      intro k
      induction k with
      | zero =>
        intro i hi ht
        have e1 : us = vs := by rw [List.take_of_length_le (by omega), List.take_of_length_le (by omega)] at ht; exact ht
        refine Go.iloadN X0 hx (pc' := 10) rfl (hb hby d41_9) rfl ?_
        refine Go.aloadN X0 hx (pc' := 11) rfl (hb hby d41_10) rfl rfl ?_
        refine Go.arraylength X0 hx hZ e0 P0 (pc' := 12) rfl (hb hby d41_11) ?_
        refine Go.icmpYes X0 hx (pc' := 32) (hb hby d41_12) (flt (own_ofNge (by omega) (by omega))).2.1 (by decide) (by decide) ?_
        refine Go.iconst X0 hx (pc' := 33) rfl (hb hby d41_32) (v := (1 : Int32)) rfl ?_
        subst hFF
        refine Go.retN X0 hx hlk (t := .boolean) hret (by simp) (hb hby d41_33) (by decide) (by decide) ?_
        rw [e0, if_pos e1]
        exact ⟨rfl, rfl, rfl⟩
      | succ k ih =>
        intro i hi ht
        have hj : ¬ Int32.ofNat i < 0 ∧ Int32.ofNat i < za := ⟨own_ofN0 (by omega), own_ofNlt (by omega) (by omega)⟩
        have hc := own_ofNc (i := i) (by omega)
        refine Go.iloadN X0 hx (pc' := 10) rfl (hb hby d41_9) rfl ?_
        refine Go.aloadN X0 hx (pc' := 11) rfl (hb hby d41_10) rfl rfl ?_
        refine Go.arraylength X0 hx hZ e0 P0 (pc' := 12) rfl (hb hby d41_11) ?_
        refine Go.icmpNo X0 hx (pc' := 15) rfl (hb hby d41_12) (tlt hj.2).2.1 ?_
        refine Go.aloadN X0 hx (pc' := 16) rfl (hb hby d41_15) rfl rfl ?_
        refine Go.iloadN X0 hx (pc' := 17) rfl (hb hby d41_16) rfl ?_
        refine Go.baload X0 hx hZ e0 P0 (v := (.int (us.getD i 0))) hj (by rw [hc]; exact own_getDI' _ _ _) (pc' := 18) rfl (hb hby d41_17) ?_
        refine Go.aloadN X0 hx (pc' := 19) rfl (hb hby d41_18) rfl rfl ?_
        refine Go.iloadN X0 hx (pc' := 20) rfl (hb hby d41_19) rfl ?_
        refine Go.baload X0 hx hZ e0 P1 (v := (.int (vs.getD i 0))) ⟨hj.1, by rw [← hz]; exact hj.2⟩ (by rw [hc]; exact own_getDI' _ _ _) (pc' := 21) rfl (hb hby d41_20) ?_
        by_cases hq : us.getD i 0 = vs.getD i 0
        · refine Go.icmpYes X0 hx (pc' := 26) (hb hby d41_21) (teq hq).1 (by decide) (by decide) ?_
          refine Go.iinc X0 hx (pc' := 29) rfl (hb hby d41_26) rfl (y := Int32.ofNat (i + 1)) (own_ofNs i) (Ls' := #[.val (.ref x0), .val (.ref x1), .val (.int (Int32.ofNat (i + 1)))]) rfl ?_
          refine Go.goto X0 hx (pc' := 9) (hb hby d41_29) (by decide) (by decide) ?_
          exact ih (i + 1) (by omega) (own_takeS (by omega) (by omega) ht hq)
        · refine Go.icmpNo X0 hx (pc' := 24) rfl (hb hby d41_21) (feq hq).1 ?_
          refine Go.iconst X0 hx (pc' := 25) rfl (hb hby d41_24) (v := (0 : Int32)) rfl ?_
          subst hFF
          refine Go.retN X0 hx hlk (t := .boolean) hret (by simp) (hb hby d41_25) (by decide) (by decide) ?_
          rw [e0, if_neg (fun z => hq (by rw [z]))]
          exact ⟨rfl, rfl, rfl⟩
    exact loop us.length 0 (by omega) (by simp)
  · refine Go.icmpYes X0 hx (pc' := 34) (hb hby d41_4) (feq hz).2 (by decide) (by decide) ?_
    refine Go.iconst X0 hx (pc' := 35) rfl (hb hby d41_34) (v := (0 : Int32)) rfl ?_
    subst hFF
    refine Go.retN X0 hx hlk (t := .boolean) hret (by simp) (hb hby d41_35) (by decide) (by decide) ?_
    rw [e0, if_neg (fun z => hz (by apply Int32.toInt_inj.mp; rw [ha, hv, z]))]
    exact ⟨rfl, rfl, rfl⟩
theorem pd_31 : parseMethodDescriptor "([B[B)Z" = some ⟨[(.array .byte), (.array .byte)], some .boolean⟩ := by decide +kernel
theorem d39_44 : DD B39 44 (.invokestatic 541, 3) := by decide +kernel
theorem d39_47 : DD B39 47 (.ifCond .eq 7, 3) := by decide +kernel
theorem d39_50 : DD B39 50 (.iconst 1, 1) := by decide +kernel
theorem d39_51 : DD B39 51 (.goto 4, 3) := by decide +kernel
theorem d39_55 : DD B39 55 (.ireturn, 1) := by decide +kernel
theorem au_81 (hw : HW a0 Z)   (O0 : Old Z n0 h0) (G : Glob Z α β γ δ ε ζ η) (P1 : f0_ Z h0 x0 (.int 0)) (P2 : f2_ Z h0 x0 (.ref x2)) (P3 : Exa Z h0 x1 s1) (P4 : f0_ Z h0 x1 (.int 0)) (P5 : f2_ Z h0 x1 (.ref x3)) (P6 : Arv Z h0 x2 kk0 .byte (28 : Int32) (LL7 p0 p1 p2 p3) (.int 0)) (P8 : Arv Z h0 x3 kk1 .byte (28 : Int32) (LL7 p0 p1 p2 p3) (.int 0)) (ne_x0_x1 : x0 ≠ x1) :
    Ctr l Z ⟨s1, "equals", "(Ljava/lang/Object;)Z"⟩ B39 3 (some .boolean) (rM 1 0 0 14) #[.ref x0, .ref x1] h0 (fun v h L => v = some (.int 1) ∧ Fr n0 L ∧ h = h0) := by
 refine Ctr.of (plainFor_of_name pn_c1) ?_
 intro p e s m below meth c T0 hx hZ hby hml hown hnm hret hlk e0 es X0
 have G' := G
 obtain ⟨G0, -, -, -, -, -, -, -, -, -, -, -, G12, -⟩ := G'
 refine Go.cast (ef_39_RR m x0 x1) ?_
 generalize hFF : EndN s _ _ _ = FF
 refine aN X0 hx 1 rfl hby d39_0 rfl rfl ?_
 refine aN X0 hx 2 rfl hby d39_1 rfl rfl ?_
 refine Go.acmp X0 hx (pc' := 7) (same := false) (hb hby d39_2) rfl rfl (decide_eq_false (fun q => ne_x0_x1 (Value.ref.inj q))) (by decide) (by decide) ?_
 refine aN X0 hx 8 rfl hby d39_7 rfl rfl ?_
 refine Go.instY X0 hx hZ hown (tw_240 hw) e0 (Ins.self P3) 11 rfl (hb hby d39_8) ?_
 intro T1 e1 X1
 refine Go.ifNo X1 hx 14 rfl (hb hby d39_11) (by decide) ?_
 refine aN X1 hx 15 rfl hby d39_14 rfl rfl ?_
 refine Go.castY X1 hx hZ hown (tw_240 hw) e1 (Ins.self P3) 18 rfl (hb hby d39_15) ?_
 intro T2 e2 X2
 refine Go.astoreN X2 hx 19 rfl (hb hby d39_18) (Ls' := #[vR x0, vR x1, vR x1]) rfl rfl ?_
 refine Go.getS X2 hx hZ hown (host := "") (Or.inl (tw_14 hw)) Via.refl e2 (G0.ext O0.2) 22 rfl (hb hby d39_19) ?_
 intro T4 e4 X4
 refine Go.ifNo X4 hx 25 rfl (hb hby d39_22) (feq G12).1 ?_
 refine aN X4 hx 26 rfl hby d39_25 rfl rfl ?_
 refine gF X4 hx hZ hown (tw_26 hw) e4 P1 29 rfl (hb hby d39_26) ?_
 intro T5 e5 X5
 refine aN X5 hx 30 rfl hby d39_29 rfl rfl ?_
 refine gF X5 hx hZ hown (tw_26 hw) e5 P4 33 rfl (hb hby d39_30) ?_
 intro T6 e6 X6
 refine Go.icmpNo X6 hx 36 rfl (hb hby d39_33) (by decide) ?_
 refine aN X6 hx 37 rfl hby d39_36 rfl rfl ?_
 refine gF X6 hx hZ hown (tw_28 hw) e6 P2 40 rfl (hb hby d39_37) ?_
 intro T7 e7 X7
 refine aN X7 hx 41 rfl hby d39_40 rfl rfl ?_
 refine gF X7 hx hZ hown (tw_28 hw) e7 P5 44 rfl (hb hby d39_41) ?_
 intro T8 e8 X8
 refine Go.callS X8 hx hZ hown (tw_241 hw) (tw_242 hw) (tw_243 hw) (tw_244 hw) (by decide) (tw_244 hw) (tw_243 hw) (gl_eq l Z a0 hw x2 x3 kk0 kk1 (28 : Int32) (28 : Int32) (LL0 p0 p1 p2 p3) (LL0 p0 p1 p2 p3) h0 P6 P8 rfl rfl) e8 (argsL := [.ref x2, .ref x3]) (rest := []) 47 rfl (hml ▸ rfl) (lenOf pd_31 rfl) rfl rfl (W := 0) (nE rfl) (by decide) (hb hby d39_44) ?_
 intro v9 T9 L9 q9 X9
 obtain ⟨rfl, rfl, e9⟩ := q9
 rw [if_pos (show ((LL0 p0 p1 p2 p3) : List Int32) = (LL0 p0 p1 p2 p3) from rfl)]
 show Go _ _ _ _ (T9.setTop (mkF m 47 #[vR x0, vR x1, vR x1] [.int 1]))
 refine Go.ifNo X9 hx 50 rfl (hb hby d39_47) (by decide) ?_
 refine Go.iconst X9 hx 51 rfl (hb hby d39_50) (v := (1 : Int32)) rfl ?_
 refine Go.goto X9 hx 55 (hb hby d39_51) (by decide) (by decide) ?_
 subst hFF
 refine Go.retN X9 hx hlk (t := .boolean) hret (by simp) (hb hby d39_55) (by decide) (by decide) ?_
 rw [e9]
 exact ⟨(congrArg (fun z => some (Value.int z)) (by decide : nar .boolean (1 : Int32) = (1 : Int32))), (Fr.app (Fr.nil n0) (Fr.nil n0)), rfl⟩
theorem au_82 (hw : HW a0 Z)   (O0 : Old Z n0 h0) (G : Glob Z α β γ δ ε ζ η) (P1 : f0_ Z h0 x0 (.int 0)) (P2 : f2_ Z h0 x0 (.ref x2)) (P3 : Exa Z h0 x1 s1) (P4 : f0_ Z h0 x1 (.int 0)) (P5 : f2_ Z h0 x1 (.ref x3)) (P6 : Arv Z h0 x2 kk0 .byte (10 : Int32) LL17 (.int (0 : Int32))) (P7 : Arv Z h0 x3 kk1 .byte (10 : Int32) LL17 (.int (0 : Int32))) (ne_x0_x1 : x0 ≠ x1) :
    Ctr l Z ⟨s1, "equals", "(Ljava/lang/Object;)Z"⟩ B39 3 (some .boolean) (rM 1 0 0 14) #[.ref x0, .ref x1] h0 (fun v h L => v = some (.int 1) ∧ Fr n0 L ∧ h = h0) := by
 refine Ctr.of (plainFor_of_name pn_c1) ?_
 intro p e s m below meth c T0 hx hZ hby hml hown hnm hret hlk e0 es X0
 have G' := G
 obtain ⟨G0, -, -, -, -, -, -, -, -, -, -, -, G12, -⟩ := G'
 refine Go.cast (ef_39_RR m x0 x1) ?_
 generalize hFF : EndN s _ _ _ = FF
 refine aN X0 hx 1 rfl hby d39_0 rfl rfl ?_
 refine aN X0 hx 2 rfl hby d39_1 rfl rfl ?_
 refine Go.acmp X0 hx (pc' := 7) (same := false) (hb hby d39_2) rfl rfl (decide_eq_false (fun q => ne_x0_x1 (Value.ref.inj q))) (by decide) (by decide) ?_
 refine aN X0 hx 8 rfl hby d39_7 rfl rfl ?_
 refine Go.instY X0 hx hZ hown (tw_240 hw) e0 (Ins.self P3) 11 rfl (hb hby d39_8) ?_
 intro T1 e1 X1
 refine Go.ifNo X1 hx 14 rfl (hb hby d39_11) (by decide) ?_
 refine aN X1 hx 15 rfl hby d39_14 rfl rfl ?_
 refine Go.castY X1 hx hZ hown (tw_240 hw) e1 (Ins.self P3) 18 rfl (hb hby d39_15) ?_
 intro T2 e2 X2
 refine Go.astoreN X2 hx 19 rfl (hb hby d39_18) (Ls' := #[vR x0, vR x1, vR x1]) rfl rfl ?_
 refine Go.getS X2 hx hZ hown (host := "") (Or.inl (tw_14 hw)) Via.refl e2 (G0.ext O0.2) 22 rfl (hb hby d39_19) ?_
 intro T4 e4 X4
 refine Go.ifNo X4 hx 25 rfl (hb hby d39_22) (feq G12).1 ?_
 refine aN X4 hx 26 rfl hby d39_25 rfl rfl ?_
 refine gF X4 hx hZ hown (tw_26 hw) e4 P1 29 rfl (hb hby d39_26) ?_
 intro T5 e5 X5
 refine aN X5 hx 30 rfl hby d39_29 rfl rfl ?_
 refine gF X5 hx hZ hown (tw_26 hw) e5 P4 33 rfl (hb hby d39_30) ?_
 intro T6 e6 X6
 refine Go.icmpNo X6 hx 36 rfl (hb hby d39_33) (by decide) ?_
 refine aN X6 hx 37 rfl hby d39_36 rfl rfl ?_
 refine gF X6 hx hZ hown (tw_28 hw) e6 P2 40 rfl (hb hby d39_37) ?_
 intro T7 e7 X7
 refine aN X7 hx 41 rfl hby d39_40 rfl rfl ?_
 refine gF X7 hx hZ hown (tw_28 hw) e7 P5 44 rfl (hb hby d39_41) ?_
 intro T8 e8 X8
 refine Go.callS X8 hx hZ hown (tw_241 hw) (tw_242 hw) (tw_243 hw) (tw_244 hw) (by decide) (tw_244 hw) (tw_243 hw) (gl_eq l Z a0 hw x2 x3 kk0 kk1 (10 : Int32) (10 : Int32) LL34 LL34 h0 P6 P7 rfl rfl) e8 (argsL := [.ref x2, .ref x3]) (rest := []) 47 rfl (hml ▸ rfl) (lenOf pd_31 rfl) rfl rfl (W := 0) (nE rfl) (by decide) (hb hby d39_44) ?_
 intro v9 T9 L9 q9 X9
 obtain ⟨rfl, rfl, e9⟩ := q9
 rw [if_pos (show (LL34 : List Int32) = LL34 from rfl)]
 show Go _ _ _ _ (T9.setTop (mkF m 47 #[vR x0, vR x1, vR x1] [.int 1]))
 refine Go.ifNo X9 hx 50 rfl (hb hby d39_47) (by decide) ?_
 refine Go.iconst X9 hx 51 rfl (hb hby d39_50) (v := (1 : Int32)) rfl ?_
 refine Go.goto X9 hx 55 (hb hby d39_51) (by decide) (by decide) ?_
 subst hFF
 refine Go.retN X9 hx hlk (t := .boolean) hret (by simp) (hb hby d39_55) (by decide) (by decide) ?_
 rw [e9]
 exact ⟨(congrArg (fun z => some (Value.int z)) (by decide : nar .boolean (1 : Int32) = (1 : Int32))), (Fr.app (Fr.nil n0) (Fr.nil n0)), rfl⟩
theorem au_88 (hw : HW a0 Z)   (O0 : Old Z n0 h0) (G : Glob Z α β γ δ ε ζ η) (P1 : f0_ Z h0 x0 (.int 1)) :
    Ctr l Z ⟨s1, s6, "()B"⟩ B13 1 (some .byte) (rM 0 0 0 0) #[.ref x0] h0 (fun v h L => v = some (.int 1) ∧ Fr n0 L ∧ h = h0) := by
 refine Ctr.of (plainFor_of_name pn_c1) ?_
 intro p e s m below meth c T0 hx hZ hby hml hown hnm hret hlk e0 es X0
 have G' := G
 obtain ⟨G0, -, -, -, -, -, -, -, -, -, -, -, G12, -⟩ := G'
 refine Go.cast (ef_13_R m x0) ?_
 generalize hFF : EndN s _ _ _ = FF
 refine Go.getS X0 hx hZ hown (host := "") (Or.inl (tw_14 hw)) Via.refl e0 (G0.ext O0.2) 3 rfl (hb hby d13_0) ?_
 intro T2 e2 X2
 refine Go.ifNo X2 hx 6 rfl (hb hby d13_3) (feq G12).1 ?_
 refine aN X2 hx 7 rfl hby d13_6 rfl rfl ?_
 refine gF X2 hx hZ hown (tw_26 hw) e2 P1 10 rfl (hb hby d13_7) ?_
 intro T3 e3 X3
 refine Go.goto X3 hx 14 (hb hby d13_10) (by decide) (by decide) ?_
 subst hFF
 refine Go.retN X3 hx hlk (t := .byte) hret (by simp) (hb hby d13_14) (by decide) (by decide) ?_
 rw [e3]
 exact ⟨(congrArg (fun z => some (Value.int z)) (by decide : nar .byte (1 : Int32) = (1 : Int32))), (Fr.nil n0), rfl⟩
theorem au_87 (hw : HW a0 Z)   (O0 : Old Z n0 h0) (G : Glob Z α β γ δ ε ζ η) (P0 : Exa Z h0 x0 s1) (P1 : f0_ Z h0 x0 (.int 1)) (P2 : f2_ Z h0 x0 (.ref x1)) (P3 : Arv Z h0 x1 kk0 .byte (4 : Int32) ls0 (.int 0)) :
    Ctr l Z ⟨s1, "length", "()I"⟩ B12 1 (some .int) (rM 1 0 0 13) #[.ref x0] h0 (fun v h L => v = some (.int 2) ∧ Fr n0 L ∧ h = h0) := by
 refine Ctr.of (plainFor_of_name pn_c1) fun p e s m below meth c T0 hx hZ hby hml hown hnm hret hlk e0 es X0 => Go.cast (ef_12_R m x0) ?_
 generalize hFF : EndN s _ _ _ = FF
 refine aN X0 hx 1 rfl hby d12_0 rfl rfl ?_
 refine gF X0 hx hZ hown (tw_28 hw) e0 P2 4 rfl (hb hby d12_1) ?_
 intro T1 e1 X1
 refine Go.arraylength X1 hx hZ e1 P3 5 rfl (hb hby d12_4) ?_
 refine aN X1 hx 6 rfl hby d12_5 rfl rfl ?_
 refine Go.callV X1 hx hZ hown (tw_74 hw) (tw_75 hw) (nF (mvT hZ (tw_77 hw))) (tw_77 hw) (tw_76 hw) (by decide) (tw_78 hw) (tw_2 hw) (au_88 hw O0 G P1) e1 P0 (argsL := []) (rest := [.int 4]) 9 rfl (hml ▸ rfl) (lenOf pd_11 rfl) rfl rfl (W := 1) (nE rfl) (by decide) (hb hby d12_6) ?_
 intro v2 T2 L2 q2 X2
 obtain ⟨rfl, N2, e2⟩ := q2
 show Go _ _ _ _ (T2.setTop (mkF m 9 #[vR x0] [.int 1, .int 4]))
 refine Go.ishr X2 hx 10 rfl (hb hby d12_9) ?_
 rw [show ((4 : Int32) >>> ((1 : Int32) &&& 31)) = (2 : Int32) from by decide]
 subst hFF
 refine Go.retI X2 hx hlk hret (hb hby d12_10) (by decide) (by decide) ?_
 rw [e2]
 exact ⟨rfl, (Fr.app (Fr.nil n0) N2), rfl⟩
theorem d16_17 : DD B16 17 (.aload_n 0, 1) := by decide +kernel
theorem d47_0 : DD B47 0 (.aload_n 0, 1) := by decide +kernel
theorem au_92 (hw : HW a0 Z)   (O0 : Old Z n0 h0) (G : Glob Z α β γ δ ε ζ η) (P1 : f1_ Z h0 x0 (.int 0)) :
    Ctr l Z ⟨s0, "isLatin1", "()Z"⟩ B29 1 (some .boolean) (rM 0 0 0 0) #[.ref x0] h0 (fun v h L => v = some (.int 1) ∧ Fr n0 L ∧ h = h0) := by
 refine Ctr.of (plainFor_of_name pn_c2) ?_
 intro p e s m below meth c T0 hx hZ hby hml hown hnm hret hlk e0 es X0
 have G' := G
 obtain ⟨G0, -, -, -, -, -, -, -, -, -, -, -, G12, -⟩ := G'
 refine Go.cast (ef_29_R m x0) ?_
 generalize hFF : EndN s _ _ _ = FF
 refine Go.getS X0 hx hZ hown (host := "") (Or.inl (tw_53 hw)) Via.refl e0 (G0.ext O0.2) 3 rfl (hb hby d29_0) ?_
 intro T2 e2 X2
 refine Go.ifNo X2 hx 6 rfl (hb hby d29_3) (feq G12).1 ?_
 refine aN X2 hx 7 rfl hby d29_6 rfl rfl ?_
 refine gF X2 hx hZ hown (tw_56 hw) e2 P1 10 rfl (hb hby d29_7) ?_
 intro T3 e3 X3
 refine Go.ifNo X3 hx 13 rfl (hb hby d29_10) (by decide) ?_
 refine Go.iconst X3 hx 14 rfl (hb hby d29_13) (v := (1 : Int32)) rfl ?_
 refine Go.goto X3 hx 18 (hb hby d29_14) (by decide) (by decide) ?_
 subst hFF
 refine Go.retN X3 hx hlk (t := .boolean) hret (by simp) (hb hby d29_18) (by decide) (by decide) ?_
 rw [e3]
 exact ⟨(congrArg (fun z => some (Value.int z)) (by decide : nar .boolean (1 : Int32) = (1 : Int32))), (Fr.nil n0), rfl⟩
theorem d47_1 : DD B47 1 (.invokevirtual 83, 3) := by decide +kernel
theorem d47_4 : DD B47 4 (.ifCond .ne 4, 3) := by decide +kernel
theorem d47_8 : DD B47 8 (.aload_n 0, 1) := by decide +kernel
theorem d47_9 : DD B47 9 (.getfield 15, 3) := by decide +kernel
theorem d47_12 : DD B47 12 (.arraylength, 1) := by decide +kernel
theorem au_94 (hw : HW a0 Z)  (Z0 : n0 ≤ h0.size) :
    Ctr l Z ⟨s5, "newBytesLength", "(I)I"⟩ B44 1 (some .int) (rM 0 0 0 0) #[.int 16] h0 (fun v h L => v = some (.int 32) ∧ Fr n0 L ∧ h = h0) := by
 refine Ctr.of (plainFor_of_name pn_c0) fun p e s m below meth c T0 hx hZ hby hml hown hnm hret hlk e0 es X0 => Go.cast (ef_44_I m (16 : Int32)) ?_
 generalize hFF : EndN s _ _ _ = FF
 refine iN X0 hx 1 rfl hby d44_0 rfl ?_
 refine Go.ifYes X0 hx 12 (hb hby d44_1) (by decide) (by decide) (by decide) ?_
 refine iN X0 hx 13 rfl hby d44_12 rfl ?_
 refine Go.ldcI X0 hx hZ hown (tw_254 hw) 15 rfl (hb hby d44_13) ?_
 refine Go.icmpYes X0 hx 55 (hb hby d44_15) (by decide) (by decide) (by decide) ?_
 refine iN X0 hx 56 rfl hby d44_55 rfl ?_
 refine Go.iconst X0 hx 57 rfl (hb hby d44_56) (v := (1 : Int32)) rfl ?_
 refine Go.ishl X0 hx 58 rfl (hb hby d44_57) ?_
 rw [show ((16 : Int32) <<< ((1 : Int32) &&& 31)) = (32 : Int32) from by decide]
 subst hFF
 refine Go.retI X0 hx hlk hret (hb hby d44_58) (by decide) (by decide) ?_
 rw [e0]
 exact ⟨rfl, (Fr.nil n0), rfl⟩
theorem au_93 (hw : HW a0 Z)  (Z0 : n0 ≤ h0.size) :
    Ctr l Z ⟨s5, "newBytesFor", "(I)[B"⟩ B43 1 (some (.array .byte)) (rM 1 1 32 12) #[.int 16] h0 (fun v h L => ∃ (y0 : Addr) (y1 : ClassId), v = some (.ref y0) ∧ Fr n0 L ∧ Keep h0 h [] ∧ h0.size ≤ y0 ∧ Arv Z h y0 y1 .byte (32 : Int32) LL18 (.int 0) ∧ Exa Z h y0 "[B") := by
 refine Ctr.of (plainFor_of_name pn_c0) fun p e s m below meth c T0 hx hZ hby hml hown hnm hret hlk e0 es X0 => Go.cast (ef_43_I m (16 : Int32)) ?_
 generalize hFF : EndN s _ _ _ = FF
 refine iN X0 hx 1 rfl hby d43_0 rfl ?_
 refine Go.callS X0 hx hZ hown (tw_251 hw) (tw_252 hw) (tw_17 hw) (tw_253 hw) (by decide) (tw_253 hw) (tw_17 hw) (au_94 hw Z0) e0 (argsL := [.int 16]) (rest := []) 4 rfl (hml ▸ rfl) (lenOf pd_1 rfl) rfl rfl (W := 0) (nE rfl) (by decide) (hb hby d43_1) ?_
 intro v1 T1 L1 q1 X1
 obtain ⟨rfl, N1, e1⟩ := q1
 show Go _ _ _ _ (T1.setTop (mkF m 4 #[vI 16] [.int 32]))
 refine Go.newarray X1 hx hZ (ty := .byte) rfl (tw_19 hw) e1 (by decide) (cap := 32) (by decide) (by decide) (by decide) (by decide) (ad := "[B") (by decide) 32 6 rfl (hb hby d43_4) ?_
 intro T2 h2 b2 k2 e2 E2 g2 V2 A2 X2
 have V2' : Arv Z h2 b2 k2 .byte (32 : Int32) LL18 (.int 0) := V2
 subst hFF
 refine Go.retR X2 hx hlk (t := (.array .byte)) hret rfl rfl (hb hby d43_6) (by decide) (by decide) ?_
 rw [e2]
 exact ⟨b2, k2, rfl, (Fr.app (Fr.nil n0) N1), ((Keep.refl h0 []).ext E2), (Nat.le_trans (Keep.refl h0 []).1 (Nat.le_of_eq g2.symm)), V2', A2⟩
theorem d47_13 : DD B47 13 (.invokestatic 26, 3) := by decide +kernel
theorem d47_16 : DD B47 16 (.astore_n 1, 1) := by decide +kernel
theorem d47_17 : DD B47 17 (.aload_n 0, 1) := by decide +kernel
theorem d47_18 : DD B47 18 (.getfield 15, 3) := by decide +kernel
theorem d47_21 : DD B47 21 (.iconst 0, 1) := by decide +kernel
theorem d47_22 : DD B47 22 (.aload_n 1, 1) := by decide +kernel
theorem d47_23 : DD B47 23 (.iconst 0, 1) := by decide +kernel
theorem d47_24 : DD B47 24 (.aload_n 0, 1) := by decide +kernel
theorem d47_25 : DD B47 25 (.getfield 79, 3) := by decide +kernel
theorem d48_0 : DD B48 0 (.aload_n 0, 1) := by decide +kernel
theorem d48_1 : DD B48 1 (.iload_n 1, 1) := by decide +kernel
theorem d48_2 : DD B48 2 (.aload_n 2, 1) := by decide +kernel
theorem d48_3 : DD B48 3 (.iload_n 3, 1) := by decide +kernel
theorem d48_4 : DD B48 4 (.iload 4, 2) := by decide +kernel
theorem d49_0 : DD B49 0 (.iload_n 3, 1) := by decide +kernel
theorem d49_1 : DD B49 1 (.iload 4, 2) := by decide +kernel
theorem d49_3 : DD B49 3 (.aload_n 2, 1) := by decide +kernel
theorem d50_0 : DD B50 0 (.iload_n 0, 1) := by decide +kernel
theorem d50_1 : DD B50 1 (.iload_n 1, 1) := by decide +kernel
theorem d50_2 : DD B50 2 (.aload_n 2, 1) := by decide +kernel
theorem d51_0 : DD B51 0 (.aload_n 0, 1) := by decide +kernel
theorem d51_1 : DD B51 1 (.arraylength, 1) := by decide +kernel
theorem d51_2 : DD B51 2 (.iconst 1, 1) := by decide +kernel
theorem d51_3 : DD B51 3 (.ishr, 1) := by decide +kernel
theorem d51_4 : DD B51 4 (.ireturn, 1) := by decide +kernel
theorem ef_51_R (m : MethodId) (x0 : Addr) : entryFrame m #[(.ref x0)] 1 = mkF m 0 #[.val (.ref x0)] [] := by first | (simp [entryFrame, mkF, argsToLocals, Value.category]; done) | rfl
theorem au_98 (hw : HW a0 Z)  (Z0 : n0 ≤ h0.size) (P0 : Arv Z h0 x0 kk0 .byte (32 : Int32) ls0 (.int 0)) :
    Ctr l Z ⟨s5, "length", "([B)I"⟩ B51 1 (some .int) (rM 0 0 0 0) #[.ref x0] h0 (fun v h L => v = some (.int 16) ∧ Fr n0 L ∧ h = h0) := by
 refine Ctr.of (plainFor_of_name pn_c0) fun p e s m below meth c T0 hx hZ hby hml hown hnm hret hlk e0 es X0 => Go.cast (ef_51_R m x0) ?_
 generalize hFF : EndN s _ _ _ = FF
 refine aN X0 hx 1 rfl hby d51_0 rfl rfl ?_
 refine Go.arraylength X0 hx hZ e0 P0 2 rfl (hb hby d51_1) ?_
 refine Go.iconst X0 hx 3 rfl (hb hby d51_2) (v := (1 : Int32)) rfl ?_
 refine Go.ishr X0 hx 4 rfl (hb hby d51_3) ?_
 rw [show ((32 : Int32) >>> ((1 : Int32) &&& 31)) = (16 : Int32) from by decide]
 subst hFF
 refine Go.retI X0 hx hlk hret (hb hby d51_4) (by decide) (by decide) ?_
 rw [e0]
 exact ⟨rfl, (Fr.nil n0), rfl⟩
theorem pd_32 : parseMethodDescriptor "([B)I" = some ⟨[(.array .byte)], some .int⟩ := by decide +kernel
theorem d50_3 : DD B50 3 (.invokestatic 48, 3) := by decide +kernel
theorem d52_0 : DD B52 0 (.iload_n 0, 1) := by decide +kernel
theorem d52_1 : DD B52 1 (.iload_n 1, 1) := by decide +kernel
theorem d52_2 : DD B52 2 (.iload_n 2, 1) := by decide +kernel
theorem d52_3 : DD B52 3 (.getstatic 1053, 3) := by decide +kernel
theorem d53_0 : DD B53 0 (.iload_n 2, 1) := by decide +kernel
theorem d53_1 : DD B53 1 (.iload_n 0, 1) := by decide +kernel
theorem d53_2 : DD B53 2 (.ior, 1) := by decide +kernel
theorem d53_3 : DD B53 3 (.iload_n 1, 1) := by decide +kernel
theorem d53_4 : DD B53 4 (.ior, 1) := by decide +kernel
theorem d53_5 : DD B53 5 (.ifCond .lt 10, 3) := by decide +kernel
theorem d53_8 : DD B53 8 (.iload_n 1, 1) := by decide +kernel
theorem d53_9 : DD B53 9 (.iload_n 2, 1) := by decide +kernel
theorem d53_10 : DD B53 10 (.iload_n 0, 1) := by decide +kernel
theorem d53_11 : DD B53 11 (.isub, 1) := by decide +kernel
theorem d53_12 : DD B53 12 (.if_icmp .le 11, 3) := by decide +kernel
theorem d53_23 : DD B53 23 (.iload_n 0, 1) := by decide +kernel
theorem d53_24 : DD B53 24 (.ireturn, 1) := by decide +kernel
theorem ef_53_IIIV (m : MethodId) (x0 : Int32) (x1 : Int32) (x2 : Int32) (x3 : Value) (hx3 : x3.isRef = true) : entryFrame m #[(.int x0), (.int x1), (.int x2), x3] 4 = mkF m 0 #[.val (.int x0), .val (.int x1), .val (.int x2), .val x3] [] := by rcases ref_cases hx3 with rfl | ⟨y3, rfl⟩ <;> first | (simp [entryFrame, mkF, argsToLocals, Value.category]; done) | rfl
theorem pn_c11 : plainName "jdk/internal/util/Preconditions" = true := by first | (simp [plainName, overriddenIn]; done) | decide +kernel
theorem au_100 (hw : HW a0 Z)  (Z0 : n0 ≤ h0.size) (G : Glob Z α β γ δ ε ζ η) :
    Ctr l Z ⟨"jdk/internal/util/Preconditions", "checkFromIndexSize", "(IIILjava/util/function/BiFunction;)I"⟩ B53 4 (some .int) (rM 0 0 0 0) #[.int 0, .int 8, .int 16, ε] h0 (fun v h L => v = some (.int 0) ∧ Fr n0 L ∧ h = h0) := by
 refine Ctr.of (plainFor_of_name pn_c11) ?_
 intro p e s m below meth c T0 hx hZ hby hml hown hnm hret hlk e0 es X0
 have G' := G
 obtain ⟨-, -, -, -, -, -, -, -, -, -, -, -, -, G13⟩ := G'
 refine Go.cast (ef_53_IIIV m (0 : Int32) (8 : Int32) (16 : Int32) ε G13) ?_
 generalize hFF : EndN s _ _ _ = FF
 refine iN X0 hx 1 rfl hby d53_0 rfl ?_
 refine iN X0 hx 2 rfl hby d53_1 rfl ?_
 refine Go.ior X0 hx 3 rfl (hb hby d53_2) ?_
 rw [show ((16 : Int32) ||| (0 : Int32)) = (16 : Int32) from by decide]
 refine iN X0 hx 4 rfl hby d53_3 rfl ?_
 refine Go.ior X0 hx 5 rfl (hb hby d53_4) ?_
 rw [show ((16 : Int32) ||| (8 : Int32)) = (24 : Int32) from by decide]
 refine Go.ifNo X0 hx 8 rfl (hb hby d53_5) (by decide) ?_
 refine iN X0 hx 9 rfl hby d53_8 rfl ?_
 refine iN X0 hx 10 rfl hby d53_9 rfl ?_
 refine iN X0 hx 11 rfl hby d53_10 rfl ?_
 refine Go.isub X0 hx 12 rfl (hb hby d53_11) ?_
 rw [show ((16 : Int32) - (0 : Int32)) = (16 : Int32) from by decide]
 refine Go.icmpYes X0 hx 23 (hb hby d53_12) (by decide) (by decide) (by decide) ?_
 refine iN X0 hx 24 rfl hby d53_23 rfl ?_
 subst hFF
 refine Go.retI X0 hx hlk hret (hb hby d53_24) (by decide) (by decide) ?_
 rw [e0]
 exact ⟨rfl, (Fr.nil n0), rfl⟩
theorem pd_33 : parseMethodDescriptor "(IIILjava/util/function/BiFunction;)I" = some ⟨[.int, .int, .int, (.object "java/util/function/BiFunction")], some .int⟩ := by decide +kernel
theorem d52_6 : DD B52 6 (.invokestatic 1065, 3) := by decide +kernel
theorem d52_9 : DD B52 9 (.ireturn, 1) := by decide +kernel
theorem ef_52_III (m : MethodId) (x0 : Int32) (x1 : Int32) (x2 : Int32) : entryFrame m #[(.int x0), (.int x1), (.int x2)] 3 = mkF m 0 #[.val (.int x0), .val (.int x1), .val (.int x2)] [] := by first | (simp [entryFrame, mkF, argsToLocals, Value.category]; done) | rfl
theorem au_99 (hw : HW a0 Z)   (O0 : Old Z n0 h0) (G : Glob Z α β γ δ ε ζ η) :
    Ctr l Z ⟨s1, "checkBoundsOffCount", "(III)I"⟩ B52 3 (some .int) (rM 1 0 0 15) #[.int 0, .int 8, .int 16] h0 (fun v h L => v = some (.int 0) ∧ Fr n0 L ∧ h = h0) := by
 refine Ctr.of (plainFor_of_name pn_c1) ?_
 intro p e s m below meth c T0 hx hZ hby hml hown hnm hret hlk e0 es X0
 have G' := G
 obtain ⟨-, -, -, -, -, -, -, -, -, G9, -, -, -, -⟩ := G'
 refine Go.cast (ef_52_III m (0 : Int32) (8 : Int32) (16 : Int32)) ?_
 generalize hFF : EndN s _ _ _ = FF
 refine iN X0 hx 1 rfl hby d52_0 rfl ?_
 refine iN X0 hx 2 rfl hby d52_1 rfl ?_
 refine iN X0 hx 3 rfl hby d52_2 rfl ?_
 refine Go.getS X0 hx hZ hown (host := "") (Or.inl (tw_286 hw)) Via.refl e0 (G9.ext O0.2) 6 rfl (hb hby d52_3) ?_
 intro T2 e2 X2
 refine Go.callS X2 hx hZ hown (tw_288 hw) (tw_289 hw) (tw_287 hw) (tw_290 hw) (by decide) (tw_290 hw) (tw_287 hw) (au_100 hw O0.z G) e2 (argsL := [.int 0, .int 8, .int 16, ε]) (rest := []) 9 rfl (hml ▸ rfl) (lenOf pd_33 rfl) rfl rfl (W := 0) (nE rfl) (by decide) (hb hby d52_6) ?_
 intro v3 T3 L3 q3 X3
 obtain ⟨rfl, N3, e3⟩ := q3
 show Go _ _ _ _ (T3.setTop (mkF m 9 #[vI 0, vI 8, vI 16] [.int 0]))
 subst hFF
 refine Go.retI X3 hx hlk hret (hb hby d52_9) (by decide) (by decide) ?_
 rw [e3]
 exact ⟨rfl, (Fr.app (Fr.nil n0) N3), rfl⟩
theorem d50_6 : DD B50 6 (.invokestatic 419, 3) := by decide +kernel
theorem d50_9 : DD B50 9 (.pop, 1) := by decide +kernel
theorem d50_10 : DD B50 10 (.return_, 1) := by decide +kernel
theorem ef_50_IIR (m : MethodId) (x0 : Int32) (x1 : Int32) (x2 : Addr) : entryFrame m #[(.int x0), (.int x1), (.ref x2)] 3 = mkF m 0 #[.val (.int x0), .val (.int x1), .val (.ref x2)] [] := by first | (simp [entryFrame, mkF, argsToLocals, Value.category]; done) | rfl
theorem au_97 (hw : HW a0 Z)   (O0 : Old Z n0 h0) (G : Glob Z α β γ δ ε ζ η) (P0 : Arv Z h0 x0 kk0 .byte (32 : Int32) ls0 (.int 0)) :
    Ctr l Z ⟨s5, "checkBoundsOffCount", "(II[B)V"⟩ B50 3 none (rM 2 0 0 29) #[.int 0, .int 8, .ref x0] h0 (fun v h L => v = none ∧ Fr n0 L ∧ h = h0) := by
 refine Ctr.of (plainFor_of_name pn_c0) fun p e s m below meth c T0 hx hZ hby hml hown hnm hret hlk e0 es X0 => Go.cast (ef_50_IIR m (0 : Int32) (8 : Int32) x0) ?_
 generalize hFF : EndN s _ _ _ = FF
 refine iN X0 hx 1 rfl hby d50_0 rfl ?_
 refine iN X0 hx 2 rfl hby d50_1 rfl ?_
 refine aN X0 hx 3 rfl hby d50_2 rfl rfl ?_
 refine Go.callS X0 hx hZ hown (tw_280 hw) (tw_281 hw) (tw_17 hw) (tw_282 hw) (by decide) (tw_282 hw) (tw_17 hw) (au_98 hw O0.z P0) e0 (argsL := [.ref x0]) (rest := [.int 8, .int 0]) 6 rfl (hml ▸ rfl) (lenOf pd_32 rfl) rfl rfl (W := 2) (nE rfl) (by decide) (hb hby d50_3) ?_
 intro v1 T1 L1 q1 X1
 obtain ⟨rfl, N1, e1⟩ := q1
 show Go _ _ _ _ (T1.setTop (mkF m 6 #[vI 0, vI 8, vR x0] [.int 16, .int 8, .int 0]))
 refine Go.callS X1 hx hZ hown (tw_283 hw) (tw_284 hw) (tw_2 hw) (tw_285 hw) (by decide) (tw_285 hw) (tw_2 hw) (au_99 hw O0 G) e1 (argsL := [.int 0, .int 8, .int 16]) (rest := []) 9 rfl (hml ▸ rfl) (lenOf pd_19 rfl) rfl rfl (W := 0) (nE rfl) (by decide) (hb hby d50_6) ?_
 intro v2 T2 L2 q2 X2
 obtain ⟨rfl, N2, e2⟩ := q2
 show Go _ _ _ _ (T2.setTop (mkF m 9 #[vI 0, vI 8, vR x0] [.int 0]))
 refine Go.pop X2 hx 10 rfl (hb hby d50_9) rfl ?_
 subst hFF
 refine Go.ret0 X2 hx hlk hret (hb hby d50_10) (by decide) (by decide) ?_
 rw [e2]
 exact ⟨rfl, (Fr.app (Fr.app (Fr.nil n0) N1) N2), rfl⟩
theorem pd_34 : parseMethodDescriptor "(II[B)V" = some ⟨[.int, .int, (.array .byte)], none⟩ := by decide +kernel
theorem d49_4 : DD B49 4 (.invokestatic 173, 3) := by decide +kernel
theorem d49_7 : DD B49 7 (.iconst 0, 1) := by decide +kernel
theorem d49_8 : DD B49 8 (.istore 5, 2) := by decide +kernel
theorem d49_10 : DD B49 10 (.iload 5, 2) := by decide +kernel
theorem d49_12 : DD B49 12 (.iload 4, 2) := by decide +kernel
theorem d49_14 : DD B49 14 (.if_icmp .ge 27, 3) := by decide +kernel
theorem d49_17 : DD B49 17 (.aload_n 2, 1) := by decide +kernel
theorem d49_18 : DD B49 18 (.iload_n 3, 1) := by decide +kernel
theorem d49_19 : DD B49 19 (.iinc 3 1, 3) := by decide +kernel
theorem d49_22 : DD B49 22 (.aload_n 0, 1) := by decide +kernel
theorem d49_23 : DD B49 23 (.iload_n 1, 1) := by decide +kernel
theorem d49_24 : DD B49 24 (.iinc 1 1, 3) := by decide +kernel
theorem d49_27 : DD B49 27 (.baload, 1) := by decide +kernel
theorem d49_28 : DD B49 28 (.sipush 255, 3) := by decide +kernel
theorem d49_31 : DD B49 31 (.iand, 1) := by decide +kernel
theorem d49_32 : DD B49 32 (.invokestatic 111, 3) := by decide +kernel
theorem d49_35 : DD B49 35 (.iinc 5 1, 3) := by decide +kernel
theorem d49_38 : DD B49 38 (.goto (-28), 3) := by decide +kernel
set_option maxRecDepth 65536 in
set_option maxHeartbeats 4000000 in
theorem lp_inf {p : Program} {l : Launch} {e : Env} {R : Room} {s : State} {m : MethodId} {args : Array Value} {below : List Frame} {meth : Method} {c : Code} {T : State} {locs : List Loc} {cells slots : Nat} {Z : State} {a0 : Array Value} {h : Heap} {F0 : State → Outcome → Prop} (hw : HW a0 Z) (X : Stand p l e R s m args below meth c T locs cells slots) (hx : p.tables.exec = Jvm.exec) (hZ : Z.Warmed39 s.vm) (hby : c.code = B49) (hml : c.maxLocals = 6) (hown : s.vm.findClass "java/lang/StringUTF16" = some m.cls) (eT : T.heap = h) {n0 : Nat} (O : Old Z n0 h) (N : Fr n0 locs) (S1 : Sta Z Z.heap "java/lang/StringUTF16" "$assertionsDisabled" "Z" (.int 1)) (S2 : Sta Z Z.heap "java/lang/StringUTF16" "HI_BYTE_SHIFT" "I" (.int 0)) (S3 : Sta Z Z.heap "java/lang/StringUTF16" "LO_BYTE_SHIFT" "I" (.int 8)) (hf : 0 + 1 ≤ R.frames) (hl : 0 + (3 + 11) + 0 ≤ R.locals) (hc : cells ≤ R.cells) (hs : slots ≤ R.slots) {x0 x2 : Addr} {k0 k2 : ClassId} {z za zz : Int32} {cs : List Int32} {off : Nat} {od : Int32} {rest pre m0 post : List Value} (P0 : Arv Z h x0 k0 .byte za (cs.map own_vb ++ rest) (.int 0)) (P2 : Arv Z h x2 k2 .byte zz (pre ++ (m0 ++ post)) (.int 0)) (ha : z.toInt = cs.length) (hza : za.toInt = (cs.map own_vb ++ rest).length) (hzz : zz.toInt = (pre ++ (m0 ++ post)).length) (hp : pre.length = 2 * off) (hm : m0.length = 2 * cs.length) (ho : od = Int32.ofNat off) (hr : ∀ c ∈ cs, 0 ≤ c.toInt ∧ c.toInt ≤ 255) (ge : n0 ≤ x2) (ne : x0 ≠ x2)
    (k : ∀ T' h' L', T'.heap = h' → Stand p l e R s m args below meth c T' L' cells slots → Fr n0 L' → Keep h h' [x2] → Arv Z h' x2 k2 .byte zz (pre ++ (own_u16 cs ++ post)) (.int 0) → Go p e below F0 (T'.setTop (mkF m 41 #[.val (.ref x0), .val (.int z), .val (.ref x2), .val (.int (Int32.ofNat (off + cs.length))), .val (.int z), .val (.int z)] []))) : Go p e below F0 (T.setTop (mkF m 10 #[.val (.ref x0), .val (.int 0), .val (.ref x2), .val (.int od), .val (.int z), .val (.int 0)] [])) := by
  subst ho
  have hN := own_ltN hzz
  have hM := own_ltN hza
  have hl1 : (cs.map own_vb ++ rest).length = cs.length + rest.length := by simp
  have hl2 : (pre ++ (m0 ++ post)).length = 2 * off + 2 * cs.length + post.length := by simp only [List.length_append, hp, hm]; omega
  have loop : ∀ (r i : Nat) (T1 : State) (h1 : Heap) (L1 : List Loc) (mid : List Value), i + r = cs.length → mid.length = 2 * r → T1.heap = h1 → Stand p l e R s m args below meth c T1 L1 cells slots → Fr n0 L1 → Keep h h1 [x2] → Old Z n0 h1 → Arv Z h1 x0 k0 .byte za (cs.map own_vb ++ rest) (.int 0) → Arv Z h1 x2 k2 .byte zz ((pre ++ own_u16 (cs.take i)) ++ (mid ++ post)) (.int 0) → Go p e below F0 (T1.setTop (mkF m 10 #[.val (.ref x0), .val (.int (Int32.ofNat i)), .val (.ref x2), .val (.int (Int32.ofNat (off + i))), .val (.int z), .val (.int (Int32.ofNat i))] [])) := by
    intro r
    induction r with
    | zero =>
      intro i T1 h1 L1 mid hi hmid eY Y N1 K1 O1 Q0 Q2
      obtain rfl : mid = [] := List.eq_nil_of_length_eq_zero (by omega)
      rw [List.take_of_length_le (by omega), List.nil_append, List.append_assoc] at Q2
      obtain rfl : i = cs.length := by omega
      have ez : Int32.ofNat cs.length = z := Int32.toInt_inj.mp (by rw [own_ofN (by omega), ha])
      refine Go.iload Y hx (pc' := 12) rfl (hb hby d49_10) rfl ?_
      refine Go.iload Y hx (pc' := 14) rfl (hb hby d49_12) rfl ?_
      refine Go.icmpYes Y hx (pc' := 41) (hb hby d49_14) (flt (own_ofNge (by omega) (by omega))).2.1 (by decide) (by decide) ?_
      rw [ez]
      exact k T1 h1 L1 eY Y N1 K1 Q2
    | succ r ih =>
      intro i T1 h1 L1 mid hi hmid eY Y N1 K1 O1 Q0 Q2
      obtain ⟨u, v, mid', rfl⟩ : ∃ u v mid', mid = u :: v :: mid' := by
        rcases mid with _ | ⟨u, _ | ⟨v, mid'⟩⟩
        · exact absurd hmid (by simp only [List.length_nil]; omega)
        · exact absurd hmid (by simp only [List.length_cons, List.length_nil]; omega)
        · exact ⟨u, v, mid', rfl⟩
      have hm' : mid'.length = 2 * r := by simp only [List.length_cons] at hmid; omega
      have hA : (pre ++ own_u16 (cs.take i)).length = 2 * (off + i) := by rw [List.length_append, hp, own_u16_tlen cs (i := i) (by omega)]; omega
      have hj : ¬ Int32.ofNat i < 0 ∧ Int32.ofNat i < z := ⟨own_ofN0 (by omega), own_ofNlt (by omega) (by omega)⟩
      have hja : ¬ Int32.ofNat i < 0 ∧ Int32.ofNat i < za := ⟨own_ofN0 (by omega), own_ofNlt (by omega) (by omega)⟩
      have hlen : ((pre ++ own_u16 (cs.take i)) ++ (u :: v :: mid' ++ post)).length = (pre ++ (m0 ++ post)).length := by rw [List.length_append, hA, hl2]; simp only [List.cons_append, List.length_cons, List.length_append]; omega
      refine Go.iload Y hx (pc' := 12) rfl (hb hby d49_10) rfl ?_
      refine Go.iload Y hx (pc' := 14) rfl (hb hby d49_12) rfl ?_
      refine Go.icmpNo Y hx (pc' := 17) rfl (hb hby d49_14) (tlt hj.2).2.1 ?_
      refine Go.aloadN Y hx (pc' := 18) rfl (hb hby d49_17) rfl rfl ?_
      refine Go.iloadN Y hx (pc' := 19) rfl (hb hby d49_18) rfl ?_
      refine Go.iinc Y hx (pc' := 22) rfl (hb hby d49_19) rfl (y := Int32.ofNat (off + i + 1)) (own_ofNs (off + i)) (Ls' := #[.val (.ref x0), .val (.int (Int32.ofNat i)), .val (.ref x2), .val (.int (Int32.ofNat (off + i + 1))), .val (.int z), .val (.int (Int32.ofNat i))]) rfl ?_
      refine Go.aloadN Y hx (pc' := 23) rfl (hb hby d49_22) rfl rfl ?_
      refine Go.iloadN Y hx (pc' := 24) rfl (hb hby d49_23) rfl ?_
      refine Go.iinc Y hx (pc' := 27) rfl (hb hby d49_24) rfl (y := Int32.ofNat (i + 1)) (own_ofNs i) (Ls' := #[.val (.ref x0), .val (.int (Int32.ofNat (i + 1))), .val (.ref x2), .val (.int (Int32.ofNat (off + i + 1))), .val (.int z), .val (.int (Int32.ofNat i))]) rfl ?_
      refine Go.baload Y hx hZ eY Q0 (v := (.int (cs.getD i 0).toInt8.toInt32)) hja (by rw [own_ofNc (by omega)]; exact own_getDv cs rest (by omega)) (pc' := 28) rfl (hb hby d49_27) ?_
      refine Go.sipush Y hx (pc' := 31) rfl (hb hby d49_28) (v := (255 : Int32)) (by decide) ?_
      refine Go.iand Y hx (pc' := 32) rfl (hb hby d49_31) ?_
      rw [own_byte_back rfl (hr _ (own_getD_mem (by omega))) (by decide) (by decide)]
      refine Go.callS Y hx hZ hown (tw_255 hw) (tw_256 hw) (tw_17 hw) (tw_257 hw) (by decide) (tw_257 hw) (tw_17 hw) (gl_pc l Z a0 hw x2 k2 zz ((pre ++ own_u16 (cs.take i)) ++ (u :: v :: mid' ++ post)) (off + i) (cs.getD i 0) h1 n0 O1 S1 S2 S3 Q2 (by rw [hlen]; exact hzz) (by rw [hlen, hl2]; omega) ge) eY (argsL := [(.ref x2), (.int (Int32.ofNat (off + i))), (.int (cs.getD i 0))]) (rest := []) (pc' := 35) rfl (by rw [hml]; rfl) (lenOf pd_3 rfl) rfl rfl (W := 0) (Nat.le_of_eq rfl) ⟨hf, hl, hc, hs⟩ (hb hby d49_32) ?_
      intro w2 T2 L2 q2 X2
      obtain ⟨rfl, N2, K2, V2⟩ := q2
      rw [List.cons_append, List.cons_append, own_set2 _ _ _ _ _ _ hA.symm, List.append_assoc pre, ← own_u16_snoc cs i (by omega)] at V2
      have Y2 : Stand p l e R s m args below meth c T2 (L1 ++ L2) cells slots := X2
      show Go p e below F0 (T2.setTop (mkF m 35 #[.val (.ref x0), .val (.int (Int32.ofNat (i + 1))), .val (.ref x2), .val (.int (Int32.ofNat (off + i + 1))), .val (.int z), .val (.int (Int32.ofNat i))] []))
      refine Go.iinc Y2 hx (pc' := 38) rfl (hb hby d49_35) rfl (y := Int32.ofNat (i + 1)) (own_ofNs i) (Ls' := #[.val (.ref x0), .val (.int (Int32.ofNat (i + 1))), .val (.ref x2), .val (.int (Int32.ofNat (off + i + 1))), .val (.int z), .val (.int (Int32.ofNat (i + 1)))]) rfl ?_
      refine Go.goto Y2 hx (pc' := 10) (hb hby d49_38) (by decide) (by decide) ?_
      exact ih (i + 1) T2 T2.heap (L1 ++ L2) mid' (by omega) hm' rfl Y2 (Fr.app N1 N2) (K1.trans K2 (allS (Or.inl (List.mem_of_getElem? (i := 0) rfl)) all0)) (O1.keep K2 (allS ge all0)) (Q0.keep K2 (ninS ne nin0)) V2
  refine loop cs.length 0 T h locs m0 (by omega) hm eT X N (Keep.refl h [x2]) O P0 ?_
  rw [List.take_zero]; show Arv Z h x2 k2 .byte zz ((pre ++ []) ++ (m0 ++ post)) (.int 0); rw [List.append_nil]; exact P2
theorem d49_41 : DD B49 41 (.return_, 1) := by decide +kernel
theorem ef_49_RIRII (m : MethodId) (x0 : Addr) (x1 : Int32) (x2 : Addr) (x3 : Int32) (x4 : Int32) : entryFrame m #[(.ref x0), (.int x1), (.ref x2), (.int x3), (.int x4)] 6 = mkF m 0 #[.val (.ref x0), .val (.int x1), .val (.ref x2), .val (.int x3), .val (.int x4), .unset] [] := by first | (simp [entryFrame, mkF, argsToLocals, Value.category]; done) | rfl
theorem au_96 (hw : HW a0 Z)   (O0 : Old Z n0 h0) (G : Glob Z α β γ δ ε ζ η) (P0 : Arv Z h0 x0 kk0 .byte (16 : Int32) (LL3 p0 p1) (.int 0)) (P2 : Arv Z h0 x1 kk1 .byte (32 : Int32) LL18 (.int 0)) (R_p2 : 0 ≤ p2.toInt ∧ p2.toInt ≤ 255) (R_p3 : 0 ≤ p3.toInt ∧ p3.toInt ≤ 255) (B_p0 : (p2.toInt8.toInt32) = p0) (B_p1 : (p3.toInt8.toInt32) = p1) (g_x1 : n0 ≤ x1) (ne_x0_x1 : x0 ≠ x1) :
    Ctr l Z ⟨s5, "inflate", "([BI[BII)V"⟩ B49 6 none (rM 3 0 0 43) #[.ref x0, .int 0, .ref x1, .int 0, .int 8] h0 (fun v h L => v = none ∧ Fr n0 L ∧ Keep h0 h [x1] ∧ Arv Z h x1 kk1 .byte (32 : Int32) (LL10 p0 p1) (.int 0)) := by
 refine Ctr.of (plainFor_of_name pn_c0) ?_
 intro p e s m below meth c T0 hx hZ hby hml hown hnm hret hlk e0 es X0
 have G' := G
 obtain ⟨-, -, -, -, -, -, G6, G7, G8, -, -, -, -, -⟩ := G'
 refine Go.cast (ef_49_RIRII m x0 (0 : Int32) x1 (0 : Int32) (8 : Int32)) ?_
 generalize hFF : EndN s _ _ _ = FF
 refine iN X0 hx 1 rfl hby d49_0 rfl ?_
 refine Go.iload X0 hx 3 rfl (hb hby d49_1) rfl ?_
 refine aN X0 hx 4 rfl hby d49_3 rfl rfl ?_
 refine Go.callS X0 hx hZ hown (tw_277 hw) (tw_278 hw) (tw_17 hw) (tw_279 hw) (by decide) (tw_279 hw) (tw_17 hw) (au_97 hw O0 G P2) e0 (argsL := [.int 0, .int 8, .ref x1]) (rest := []) 7 rfl (hml ▸ rfl) (lenOf pd_34 rfl) rfl rfl (W := 0) (nE rfl) (by decide) (hb hby d49_4) ?_
 intro v1 T1 L1 q1 X1
 obtain ⟨rfl, N1, e1⟩ := q1
 refine Go.iconst X1 hx 8 rfl (hb hby d49_7) (v := (0 : Int32)) rfl ?_
 refine Go.istore X1 hx 10 rfl (hb hby d49_8) (Ls' := #[vR x0, vI 0, vR x1, vI 0, vI 8, vI 0]) rfl ?_
 have A2 : Arv Z h0 x0 kk0 .byte (16 : Int32) (((LL24 p2 p3) : List Int32).map own_vb ++ LL35) (.int 0) := by rw [show ((LL24 p2 p3) : List Int32).map own_vb ++ (LL35 : List Value) = (LL3 p0 p1) from (own_mca (by decide) (own_mca (by decide) (own_mca (by decide) (own_mca (by decide) (own_mca B_p0 (own_mca B_p1 (own_mca (by decide) (own_mca (by decide) rfl))))))))]; exact P0
 refine lp_inf hw X1 hx hZ hby hml hown e1 O0 (Fr.app (Fr.nil n0) N1) G6 G7 G8 (by decide) (by decide) (by decide) (by decide) (cs := (LL24 p2 p3)) (off := 0) (rest := LL35) (pre := []) (m0 := LL4) (post := LL4) A2 P2 rfl rfl rfl rfl rfl rfl (own_xc (own_rlit (n := 116) (by decide)) (by decide) (by decide) (own_xc (own_rlit (n := 104) (by decide)) (by decide) (by decide) (own_xc (own_rlit (n := 101) (by decide)) (by decide) (by decide) (own_xc (own_rlit (n := 32) (by decide)) (by decide) (by decide) (own_xc R_p2 (by decide) (by decide) (own_xc R_p3 (by decide) (by decide) (own_xc (own_rlit (n := 32) (by decide)) (by decide) (by decide) (own_xc (own_rlit (n := 39) (by decide)) (by decide) (by decide) own_x0)))))))) g_x1 ne_x0_x1 ?_
 intro T2 h2 L2 e2 X2 N2 K2 V2
 have E2 : ([] : List Value) ++ (own_u16 (LL24 p2 p3) ++ LL4) = (LL10 p0 p1) := congrArg (fun t => ([] : List Value) ++ t) ((own_uc (by decide) (by decide) (own_uc (by decide) (by decide) (own_uc (by decide) (by decide) (own_uc (by decide) (by decide) (own_uc B_p0 (own_hi0 R_p2 (by decide) (by decide)) (own_uc B_p1 (own_hi0 R_p3 (by decide) (by decide)) (own_uc (by decide) (by decide) (own_uc (by decide) (by decide) rfl)))))))) : own_u16 (LL24 p2 p3) ++ LL4 = (LL10 p0 p1))
 have U2 : Arv Z h2 x1 kk1 .byte (32 : Int32) (LL10 p0 p1) (.int 0) := by rw [← E2]; exact V2
 show Go _ _ _ _ (T2.setTop (mkF m 41 #[vR x0, vI 8, vR x1, vI 8, vI 8, vI 8] []))
 subst hFF
 refine Go.ret0 X2 hx hlk hret (hb hby d49_41) (by decide) (by decide) ?_
 rw [e2]
 exact ⟨rfl, N2, ((Keep.refl h0 [x1]).trans K2 (allS (Or.inl (mG 0 rfl)) all0)), U2⟩
theorem pd_35 : parseMethodDescriptor "([BI[BII)V" = some ⟨[(.array .byte), .int, (.array .byte), .int, .int], none⟩ := by decide +kernel
theorem d48_6 : DD B48 6 (.invokestatic 240, 3) := by decide +kernel
theorem d48_9 : DD B48 9 (.return_, 1) := by decide +kernel
theorem ef_48_RIRII (m : MethodId) (x0 : Addr) (x1 : Int32) (x2 : Addr) (x3 : Int32) (x4 : Int32) : entryFrame m #[(.ref x0), (.int x1), (.ref x2), (.int x3), (.int x4)] 5 = mkF m 0 #[.val (.ref x0), .val (.int x1), .val (.ref x2), .val (.int x3), .val (.int x4)] [] := by first | (simp [entryFrame, mkF, argsToLocals, Value.category]; done) | rfl
theorem au_95 (hw : HW a0 Z)   (O0 : Old Z n0 h0) (G : Glob Z α β γ δ ε ζ η) (P0 : Arv Z h0 x0 kk0 .byte (16 : Int32) (LL3 p0 p1) (.int 0)) (P2 : Arv Z h0 x1 kk1 .byte (32 : Int32) LL18 (.int 0)) (R_p2 : 0 ≤ p2.toInt ∧ p2.toInt ≤ 255) (R_p3 : 0 ≤ p3.toInt ∧ p3.toInt ≤ 255) (B_p0 : (p2.toInt8.toInt32) = p0) (B_p1 : (p3.toInt8.toInt32) = p1) (g_x1 : n0 ≤ x1) (ne_x0_x1 : x0 ≠ x1) :
    Ctr l Z ⟨"java/lang/StringLatin1", "inflate", "([BI[BII)V"⟩ B48 5 none (rM 4 0 0 60) #[.ref x0, .int 0, .ref x1, .int 0, .int 8] h0 (fun v h L => v = none ∧ Fr n0 L ∧ Keep h0 h [x1] ∧ Arv Z h x1 kk1 .byte (32 : Int32) (LL10 p0 p1) (.int 0)) := by
 refine Ctr.of (plainFor_of_name pn_c10) fun p e s m below meth c T0 hx hZ hby hml hown hnm hret hlk e0 es X0 => Go.cast (ef_48_RIRII m x0 (0 : Int32) x1 (0 : Int32) (8 : Int32)) ?_
 generalize hFF : EndN s _ _ _ = FF
 refine aN X0 hx 1 rfl hby d48_0 rfl rfl ?_
 refine iN X0 hx 2 rfl hby d48_1 rfl ?_
 refine aN X0 hx 3 rfl hby d48_2 rfl rfl ?_
 refine iN X0 hx 4 rfl hby d48_3 rfl ?_
 refine Go.iload X0 hx 6 rfl (hb hby d48_4) rfl ?_
 refine Go.callS X0 hx hZ hown (tw_274 hw) (tw_275 hw) (tw_17 hw) (tw_276 hw) (by decide) (tw_276 hw) (tw_17 hw) (au_96 hw O0 G P0 P2 R_p2 R_p3 B_p0 B_p1 g_x1 ne_x0_x1) e0 (argsL := [.ref x0, .int 0, .ref x1, .int 0, .int 8]) (rest := []) 9 rfl (hml ▸ rfl) (lenOf pd_35 rfl) rfl rfl (W := 0) (nE rfl) (by decide) (hb hby d48_6) ?_
 intro v1 T1 L1 q1 X1
 obtain ⟨h1, e1⟩ := hpz T1
 rw [e1] at q1
 obtain ⟨rfl, N1, K1, F1_0⟩ := q1
 subst hFF
 refine Go.ret0 X1 hx hlk hret (hb hby d48_9) (by decide) (by decide) ?_
 rw [e1]
 exact ⟨rfl, (Fr.app (Fr.nil n0) N1), ((Keep.refl h0 [x1]).trans K1 (allS (Or.inl (mG 0 rfl)) all0)), F1_0⟩
theorem d47_28 : DD B47 28 (.invokestatic 125, 3) := by decide +kernel
theorem d47_31 : DD B47 31 (.aload_n 0, 1) := by decide +kernel
theorem d47_32 : DD B47 32 (.aload_n 1, 1) := by decide +kernel
theorem d47_33 : DD B47 33 (.putfield 15, 3) := by decide +kernel
theorem d47_36 : DD B47 36 (.aload_n 0, 1) := by decide +kernel
theorem d47_37 : DD B47 37 (.iconst 1, 1) := by decide +kernel
theorem d47_38 : DD B47 38 (.putfield 22, 3) := by decide +kernel
theorem d47_41 : DD B47 41 (.return_, 1) := by decide +kernel
theorem ef_47_R (m : MethodId) (x0 : Addr) : entryFrame m #[(.ref x0)] 2 = mkF m 0 #[.val (.ref x0), .unset] [] := by first | (simp [entryFrame, mkF, argsToLocals, Value.category]; done) | rfl
theorem au_91 (hw : HW a0 Z)   (O0 : Old Z n0 h0) (G : Glob Z α β γ δ ε ζ η) (P0 : Exa Z h0 x0 s3) (P1 : f1_ Z h0 x0 (.int 0)) (P2 : f4_ Z h0 x0 (.int 8)) (P3 : f5_ Z h0 x0 (.int 0)) (P4 : f3_ Z h0 x0 (.ref x1)) (P5 : Arv Z h0 x1 kk0 .byte (16 : Int32) (LL3 p0 p1) (.int 0)) (R_p2 : 0 ≤ p2.toInt ∧ p2.toInt ≤ 255) (R_p3 : 0 ≤ p3.toInt ∧ p3.toInt ≤ 255) (B_p0 : (p2.toInt8.toInt32) = p0) (B_p1 : (p3.toInt8.toInt32) = p1) (g_x0 : n0 ≤ x0) :
    Ctr l Z ⟨s0, "inflate", "()V"⟩ B47 2 none (rM 5 1 32 76) #[.ref x0] h0 (fun v h L => ∃ (y0 : Addr) (y1 : ClassId), v = none ∧ Fr n0 L ∧ Keep h0 h [x0] ∧ h0.size ≤ y0 ∧ f1_ Z h x0 (.int 1) ∧ f4_ Z h x0 (.int 8) ∧ f5_ Z h x0 (.int 0) ∧ f3_ Z h x0 (.ref y0) ∧ Arv Z h y0 y1 .byte (32 : Int32) (LL10 p0 p1) (.int 0) ∧ Exa Z h y0 "[B") := by
 refine Ctr.of (plainFor_of_name pn_c2) fun p e s m below meth c T0 hx hZ hby hml hown hnm hret hlk e0 es X0 => Go.cast (ef_47_R m x0) ?_
 generalize hFF : EndN s _ _ _ = FF
 refine aN X0 hx 1 rfl hby d47_0 rfl rfl ?_
 refine Go.callV X0 hx hZ hown (tw_269 hw) (tw_157 hw) (nF (mvT hZ (tw_159 hw))) (tw_159 hw) (tw_158 hw) (by decide) (tw_160 hw) (tw_50 hw) (au_92 hw O0 G P1) e0 P0 (argsL := []) (rest := []) 4 rfl (hml ▸ rfl) (lenOf pd_22 rfl) rfl rfl (W := 0) (nE rfl) (by decide) (hb hby d47_1) ?_
 intro v1 T1 L1 q1 X1
 obtain ⟨rfl, N1, e1⟩ := q1
 show Go _ _ _ _ (T1.setTop (mkF m 4 #[vR x0, uS] [.int 1]))
 refine Go.ifYes X1 hx 8 (hb hby d47_4) (by decide) (by decide) (by decide) ?_
 refine aN X1 hx 9 rfl hby d47_8 rfl rfl ?_
 refine gF X1 hx hZ hown (tw_54 hw) e1 P4 12 rfl (hb hby d47_9) ?_
 intro T2 e2 X2
 refine Go.arraylength X2 hx hZ e2 P5 13 rfl (hb hby d47_12) ?_
 refine Go.callS X2 hx hZ hown (tw_270 hw) (tw_249 hw) (tw_17 hw) (tw_250 hw) (by decide) (tw_250 hw) (tw_17 hw) (au_93 hw O0.z) e2 (argsL := [.int 16]) (rest := []) 16 rfl (hml ▸ rfl) (lenOf pd_2 rfl) rfl rfl (W := 0) (nE rfl) (by decide) (hb hby d47_13) ?_
 intro v3 T3 L3 q3 X3
 obtain ⟨h3, e3⟩ := hpz T3
 rw [e3] at q3
 obtain ⟨b3_0, k3_0, rfl, N3, K3, s3_0, F3_0, F3_1⟩ := q3
 show Go _ _ _ _ (T3.setTop (mkF m 16 #[vR x0, uS] [.ref b3_0]))
 refine Go.astoreN X3 hx 17 rfl (hb hby d47_16) (Ls' := #[vR x0, vR b3_0]) rfl rfl ?_
 refine aN X3 hx 18 rfl hby d47_17 rfl rfl ?_
 have fk4 := (P4.keep K3 nin0)
 refine gF X3 hx hZ hown (tw_54 hw) e3 fk4 21 rfl (hb hby d47_18) ?_
 intro T5 e5 X5
 refine Go.iconst X5 hx 22 rfl (hb hby d47_21) (v := (0 : Int32)) rfl ?_
 refine aN X5 hx 23 rfl hby d47_22 rfl rfl ?_
 refine Go.iconst X5 hx 24 rfl (hb hby d47_23) (v := (0 : Int32)) rfl ?_
 refine aN X5 hx 25 rfl hby d47_24 rfl rfl ?_
 have fk6 := (P2.keep K3 nin0)
 refine gF X5 hx hZ hown (tw_79 hw) e5 fk6 28 rfl (hb hby d47_25) ?_
 intro T7 e7 X7
 have sz11 := Nat.le_trans (Keep.refl h0 [x0]).1 s3_0
 refine Go.callS X7 hx hZ hown (tw_271 hw) (tw_272 hw) (tw_243 hw) (tw_273 hw) (by decide) (tw_273 hw) (tw_243 hw) (au_95 hw (O0.keep K3 all0) G (P5.keep K3 nin0) F3_0 R_p2 R_p3 B_p0 B_p1 (Nat.le_trans O0.z sz11) (Nat.ne_of_lt (Nat.lt_of_lt_of_le P5.lt s3_0))) e7 (argsL := [.ref x1, .int 0, .ref b3_0, .int 0, .int 8]) (rest := []) 31 rfl (hml ▸ rfl) (lenOf pd_35 rfl) rfl rfl (W := 0) (nE rfl) (by decide) (hb hby d47_28) ?_
 intro v13 T13 L13 q13 X13
 obtain ⟨h13, e13⟩ := hpz T13
 rw [e13] at q13
 obtain ⟨rfl, N13, K13, F13_0⟩ := q13
 refine aN X13 hx 32 rfl hby d47_31 rfl rfl ?_
 refine aN X13 hx 33 rfl hby d47_32 rfl rfl ?_
 have ne14 := Nat.ne_of_lt (Nat.lt_of_lt_of_le P0.lt s3_0)
 have fk16 := ((P0.keep K3).keep K13)
 refine Go.putF X13 hx hZ hown (host := "") (Or.inl (tw_54 hw)) Via.refl e13 (fk4.keep K13 (ninS ne14 nin0)) fk16 (Or.inl (tw_55 hw)) (tw_41 hw) (ty := (.array .byte)) (by decide) rfl rfl 36 rfl (hb hby d47_33) ?_
 intro T17 h17 e17 W17 F17 X17
 have N17 := Fr.snoc X17 (Fr.app (Fr.app (Fr.app (Fr.nil n0) N1) N3) N13) g_x0
 refine aN X17 hx 37 rfl hby d47_36 rfl rfl ?_
 refine Go.iconst X17 hx 38 rfl (hb hby d47_37) (v := (1 : Int32)) rfl ?_
 refine Go.putFN X17 hx hZ hown (tw_56 hw) Via.refl e17 (((P1.keep K3 nin0).keep K13 (ninS ne14 nin0)).other W17 (Or.inr (slot_ne (Or.inl (tw_57 hw)) (Or.inl (tw_55 hw)) (by decide) (t := .byte) (t' := (.array .byte)) (by decide) (by decide)))) (fk16.wr W17) (Or.inl (tw_57 hw)) (tw_41 hw) (ty := .byte) (v' := (.int 1)) (by decide) (by decide) (by decide) 41 rfl (hb hby d47_38) ?_
 intro T20 h20 e20 W20 F20 X20
 have N20 := Fr.snoc X20 N17 g_x0
 subst hFF
 refine Go.ret0 X20 hx hlk hret (hb hby d47_41) (by decide) (by decide) ?_
 rw [e20]
 exact ⟨b3_0, k3_0, rfl, N20, (((((Keep.refl h0 [x0]).trans K3 all0).trans K13 (allS (Or.inr sz11) all0)).wr W17 (Or.inl (mG 0 rfl))).wr W20 (Or.inl (mG 0 rfl))), sz11, F20, (((fk6.keep K13 (ninS ne14 nin0)).other W17 (Or.inr (slot_ne (Or.inl (tw_80 hw)) (Or.inl (tw_55 hw)) (by decide) (t := .int) (t' := (.array .byte)) (by decide) (by decide)))).other W20 (Or.inr (slot_ne (Or.inl (tw_80 hw)) (Or.inl (tw_57 hw)) (by decide) (t := .int) (t' := .byte) (by decide) (by decide)))), ((((P3.keep K3 nin0).keep K13 (ninS ne14 nin0)).other W17 (Or.inr (slot_ne (Or.inl (tw_293 hw)) (Or.inl (tw_55 hw)) (by decide) (t := .boolean) (t' := (.array .byte)) (by decide) (by decide)))).other W20 (Or.inr (slot_ne (Or.inl (tw_293 hw)) (Or.inl (tw_57 hw)) (by decide) (t := .boolean) (t' := .byte) (by decide) (by decide)))), (F17.other W20 (Or.inr (slot_ne (Or.inl (tw_55 hw)) (Or.inl (tw_57 hw)) (by decide) (t := (.array .byte)) (t' := .byte) (by decide) (by decide)))), ((F13_0.other W17 (Ne.symm ne14)).other W20 (Ne.symm ne14)), (((F3_1.keep K13).wr W17).wr W20)⟩
theorem d16_18 : DD B16 18 (.invokevirtual 195, 3) := by decide +kernel
theorem au_90 (hw : HW a0 Z)   (O0 : Old Z n0 h0) (G : Glob Z α β γ δ ε ζ η) (P0 : Exa Z h0 x0 s3) (P1 : f1_ Z h0 x0 (.int 0)) (P2 : f4_ Z h0 x0 (.int 8)) (P3 : f5_ Z h0 x0 (.int 0)) (P4 : f3_ Z h0 x0 (.ref x2)) (P5 : Exa Z h0 x1 s1) (P6 : f0_ Z h0 x1 (.int 1)) (P8 : Arv Z h0 x2 kk0 .byte (16 : Int32) (LL3 p0 p1) (.int 0)) (R_p6 : 0 ≤ p6.toInt ∧ p6.toInt ≤ 255) (R_p7 : 0 ≤ p7.toInt ∧ p7.toInt ≤ 255) (B_p0 : (p6.toInt8.toInt32) = p0) (B_p1 : (p7.toInt8.toInt32) = p1) (g_x0 : n0 ≤ x0) :
    Ctr l Z ⟨s0, "inflateIfNeededFor", "(Ljava/lang/String;)V"⟩ B16 2 none (rM 6 1 32 89) #[.ref x0, .ref x1] h0 (fun v h L => ∃ (y0 : Addr) (y1 : ClassId), v = none ∧ Fr n0 L ∧ Keep h0 h [x0] ∧ h0.size ≤ y0 ∧ f1_ Z h x0 (.int 1) ∧ f4_ Z h x0 (.int 8) ∧ f5_ Z h x0 (.int 0) ∧ f3_ Z h x0 (.ref y0) ∧ Arv Z h y0 y1 .byte (32 : Int32) (LL10 p0 p1) (.int 0) ∧ Exa Z h y0 "[B") := by
 refine Ctr.of (plainFor_of_name pn_c2) ?_
 intro p e s m below meth c T0 hx hZ hby hml hown hnm hret hlk e0 es X0
 have G' := G
 obtain ⟨G0, -, -, -, -, -, -, -, -, -, -, -, G12, -⟩ := G'
 refine Go.cast (ef_16_RR m x0 x1) ?_
 generalize hFF : EndN s _ _ _ = FF
 refine Go.getS X0 hx hZ hown (host := "") (Or.inl (tw_53 hw)) Via.refl e0 (G0.ext O0.2) 3 rfl (hb hby d16_0) ?_
 intro T2 e2 X2
 refine Go.ifNo X2 hx 6 rfl (hb hby d16_3) (feq G12).1 ?_
 refine aN X2 hx 7 rfl hby d16_6 rfl rfl ?_
 refine gF X2 hx hZ hown (tw_56 hw) e2 P1 10 rfl (hb hby d16_7) ?_
 intro T3 e3 X3
 refine aN X3 hx 11 rfl hby d16_10 rfl rfl ?_
 refine Go.callV X3 hx hZ hown (tw_96 hw) (tw_75 hw) (nF (mvT hZ (tw_77 hw))) (tw_77 hw) (tw_76 hw) (by decide) (tw_78 hw) (tw_2 hw) (au_88 hw O0 G P6) e3 P5 (argsL := []) (rest := [.int 0]) 14 rfl (hml ▸ rfl) (lenOf pd_11 rfl) rfl rfl (W := 1) (nE rfl) (by decide) (hb hby d16_11) ?_
 intro v4 T4 L4 q4 X4
 obtain ⟨rfl, N4, e4⟩ := q4
 show Go _ _ _ _ (T4.setTop (mkF m 14 #[vR x0, vR x1] [.int 1, .int 0]))
 refine Go.icmpNo X4 hx 17 rfl (hb hby d16_14) (by decide) ?_
 refine aN X4 hx 18 rfl hby d16_17 rfl rfl ?_
 refine Go.callP X4 hx hZ hown (tw_264 hw) (tw_265 hw) (tw_267 hw) (tw_266 hw) (tw_268 hw) (by decide) (tw_268 hw) (tw_50 hw) (au_91 hw O0 G P0 P1 P2 P3 P4 P8 R_p6 R_p7 B_p0 B_p1 g_x0) e4 P0 (argsL := []) (rest := []) 21 rfl (hml ▸ rfl) (lenOf pd_10 rfl) rfl rfl (W := 0) (nE rfl) (by decide) (hb hby d16_18) ?_
 intro v5 T5 L5 q5 X5
 obtain ⟨h5, e5⟩ := hpz T5
 rw [e5] at q5
 obtain ⟨b5_0, k5_0, rfl, N5, K5, s5_0, F5_0, F5_1, F5_2, F5_3, F5_4, F5_5⟩ := q5
 subst hFF
 refine Go.ret0 X5 hx hlk hret (hb hby d16_21) (by decide) (by decide) ?_
 rw [e5]
 exact ⟨b5_0, k5_0, rfl, (Fr.app (Fr.app (Fr.nil n0) N4) N5), ((Keep.refl h0 [x0]).trans K5 (allS (Or.inl (mG 0 rfl)) all0)), (Nat.le_trans (Keep.refl h0 [x0]).1 s5_0), F5_0, F5_1, F5_2, F5_3, F5_4, F5_5⟩
theorem au_101 (hw : HW a0 Z)   (O0 : Old Z n0 h0) (G : Glob Z α β γ δ ε ζ η) (P0 : Exa Z h0 x0 s1) (P1 : f0_ Z h0 x0 (.int 1)) (P2 : f2_ Z h0 x0 (.ref x2)) (P3 : Arv Z h0 x1 kk0 .byte (32 : Int32) (LL10 p0 p1) (.int 0)) (P5 : Arv Z h0 x2 kk1 .byte (4 : Int32) [.int p2, .int p3, .int p4, .int p5] (.int 0)) (g_x1 : n0 ≤ x1) :
    Ctr l Z ⟨s1, "getBytes", "([BIB)V"⟩ B17 4 none (rM 1 0 0 18) #[.ref x0, .ref x1, .int 8, .int 1] h0 (fun v h L => v = none ∧ Fr n0 L ∧ Keep h0 h [x1] ∧ Arv Z h x1 kk0 .byte (32 : Int32) (LL25 p0 p1 p2 p3 p4 p5) (.int 0)) := by
 refine Ctr.of (plainFor_of_name pn_c1) fun p e s m below meth c T0 hx hZ hby hml hown hnm hret hlk e0 es X0 => Go.cast (ef_17_RRII m x0 x1 (8 : Int32) (1 : Int32)) ?_
 generalize hFF : EndN s _ _ _ = FF
 refine aN X0 hx 1 rfl hby d17_0 rfl rfl ?_
 refine Go.callV X0 hx hZ hown (tw_74 hw) (tw_75 hw) (nF (mvT hZ (tw_77 hw))) (tw_77 hw) (tw_76 hw) (by decide) (tw_78 hw) (tw_2 hw) (au_88 hw O0 G P1) e0 P0 (argsL := []) (rest := []) 4 rfl (hml ▸ rfl) (lenOf pd_11 rfl) rfl rfl (W := 0) (nE rfl) (by decide) (hb hby d17_1) ?_
 intro v1 T1 L1 q1 X1
 obtain ⟨rfl, N1, e1⟩ := q1
 show Go _ _ _ _ (T1.setTop (mkF m 4 #[vR x0, vR x1, vI 8, vI 1] [.int 1]))
 refine iN X1 hx 5 rfl hby d17_4 rfl ?_
 refine Go.icmpNo X1 hx 8 rfl (hb hby d17_5) (by decide) ?_
 refine aN X1 hx 9 rfl hby d17_8 rfl rfl ?_
 refine gF X1 hx hZ hown (tw_28 hw) e1 P2 12 rfl (hb hby d17_9) ?_
 intro T2 e2 X2
 refine Go.iconst X2 hx 13 rfl (hb hby d17_12) (v := (0 : Int32)) rfl ?_
 refine aN X2 hx 14 rfl hby d17_13 rfl rfl ?_
 refine iN X2 hx 15 rfl hby d17_14 rfl ?_
 refine iN X2 hx 16 rfl hby d17_15 rfl ?_
 refine Go.ishl X2 hx 17 rfl (hb hby d17_16) ?_
 rw [show ((8 : Int32) <<< ((1 : Int32) &&& 31)) = (16 : Int32) from by decide]
 refine aN X2 hx 18 rfl hby d17_17 rfl rfl ?_
 refine gF X2 hx hZ hown (tw_28 hw) e2 P2 21 rfl (hb hby d17_18) ?_
 intro T3 e3 X3
 refine Go.arraylength X3 hx hZ e3 P5 22 rfl (hb hby d17_21) ?_
 refine Go.arraycopy X3 hx hZ hown (tw_102 hw) (tw_105 hw) (tw_103 hw) (tw_104 hw) e3 P5 P3 rfl (sp := (0 : Int32)) (dp := (16 : Int32)) (nn := (4 : Int32)) (us := [.int p2, .int p3, .int p4, .int p5]) (by decide) (by decide) (by decide) (by decide) (by decide) rfl (nB rfl) (Fr.app (Fr.nil n0) N1) g_x1 (by decide) (W := 0) (hml ▸ rfl) (nE rfl) (by decide) (pc' := 25) rfl (hb hby d17_22) ?_
 intro T4 h4 L4 e4 N4 K4 V4 X4
 have V4' : Arv Z h4 x1 kk0 .byte (32 : Int32) (LL25 p0 p1 p2 p3 p4 p5) (.int 0) := V4
 refine Go.goto X4 hx 43 (hb hby d17_25) (by decide) (by decide) ?_
 subst hFF
 refine Go.ret0 X4 hx hlk hret (hb hby d17_43) (by decide) (by decide) ?_
 rw [e4]
 exact ⟨rfl, N4, ((Keep.refl h0 [x1]).trans K4 (allS (Or.inl (mG 0 rfl)) all0)), V4'⟩
theorem au_89 (hw : HW a0 Z)   (O0 : Old Z n0 h0) (G : Glob Z α β γ δ ε ζ η) (P0 : Exa Z h0 x0 s3) (P1 : f1_ Z h0 x0 (.int 0)) (P2 : f4_ Z h0 x0 (.int 8)) (P3 : f5_ Z h0 x0 (.int 0)) (P4 : f3_ Z h0 x0 (.ref x2)) (P5 : Exa Z h0 x1 s1) (P6 : f0_ Z h0 x1 (.int 1)) (P7 : f2_ Z h0 x1 (.ref x3)) (P8 : Arv Z h0 x2 kk0 .byte (16 : Int32) (LL3 p0 p1) (.int 0)) (P10 : Arv Z h0 x3 kk1 .byte (4 : Int32) [.int p2, .int p3, .int p4, .int p5] (.int 0)) (R_p6 : 0 ≤ p6.toInt ∧ p6.toInt ≤ 255) (R_p7 : 0 ≤ p7.toInt ∧ p7.toInt ≤ 255) (B_p0 : (p6.toInt8.toInt32) = p0) (B_p1 : (p7.toInt8.toInt32) = p1) (g_x0 : n0 ≤ x0) (ne_x1_x0 : x1 ≠ x0) (ne_x3_x0 : x3 ≠ x0) :
    Ctr l Z ⟨s0, "putStringAt", "(ILjava/lang/String;)V"⟩ B15 3 none (rM 7 1 32 102) #[.ref x0, .int 8, .ref x1] h0 (fun v h L => ∃ (y0 : Addr) (y1 : ClassId), v = none ∧ Fr n0 L ∧ Keep h0 h [x0] ∧ h0.size ≤ y0 ∧ f1_ Z h x0 (.int 1) ∧ f4_ Z h x0 (.int 8) ∧ f5_ Z h x0 (.int 0) ∧ f3_ Z h x0 (.ref y0) ∧ Arv Z h y0 y1 .byte (32 : Int32) (LL25 p0 p1 p2 p3 p4 p5) (.int 0) ∧ Exa Z h y0 "[B") := by
 refine Ctr.of (plainFor_of_name pn_c2) fun p e s m below meth c T0 hx hZ hby hml hown hnm hret hlk e0 es X0 => Go.cast (ef_15_RIR m x0 (8 : Int32) x1) ?_
 generalize hFF : EndN s _ _ _ = FF
 refine aN X0 hx 1 rfl hby d15_0 rfl rfl ?_
 refine aN X0 hx 2 rfl hby d15_1 rfl rfl ?_
 refine Go.callP X0 hx hZ hown (tw_91 hw) (tw_92 hw) (tw_94 hw) (tw_93 hw) (tw_95 hw) (by decide) (tw_95 hw) (tw_50 hw) (au_90 hw O0 G P0 P1 P2 P3 P4 P5 P6 P8 R_p6 R_p7 B_p0 B_p1 g_x0) e0 P0 (argsL := [.ref x1]) (rest := []) 5 rfl (hml ▸ rfl) (lenOf pd_13 rfl) rfl rfl (W := 0) (nE rfl) (by decide) (hb hby d15_2) ?_
 intro v1 T1 L1 q1 X1
 obtain ⟨h1, e1⟩ := hpz T1
 rw [e1] at q1
 obtain ⟨b1_0, k1_0, rfl, N1, K1, s1_0, F1_0, F1_1, F1_2, F1_3, F1_4, F1_5⟩ := q1
 refine aN X1 hx 6 rfl hby d15_5 rfl rfl ?_
 refine aN X1 hx 7 rfl hby d15_6 rfl rfl ?_
 refine gF X1 hx hZ hown (tw_54 hw) e1 F1_3 10 rfl (hb hby d15_7) ?_
 intro T2 e2 X2
 refine iN X2 hx 11 rfl hby d15_10 rfl ?_
 refine aN X2 hx 12 rfl hby d15_11 rfl rfl ?_
 refine gF X2 hx hZ hown (tw_56 hw) e2 F1_0 15 rfl (hb hby d15_12) ?_
 intro T3 e3 X3
 have fk5 := (P5.keep K1)
 have sz10 := Nat.le_trans (Keep.refl h0 [x0]).1 s1_0
 refine Go.callV X3 hx hZ hown (tw_97 hw) (tw_98 hw) (nF (mvT hZ (tw_100 hw))) (tw_100 hw) (tw_99 hw) (by decide) (tw_101 hw) (tw_2 hw) (au_101 hw (O0.keep K1 (allS g_x0 all0)) G fk5 (P6.keep K1 (ninS ne_x1_x0 nin0)) (P7.keep K1 (ninS ne_x1_x0 nin0)) F1_4 (P10.keep K1 (ninS ne_x3_x0 nin0)) (Nat.le_trans O0.z sz10)) e3 fk5 (argsL := [.ref b1_0, .int 8, .int 1]) (rest := []) 18 rfl (hml ▸ rfl) (lenOf pd_14 rfl) rfl rfl (W := 0) (nE rfl) (by decide) (hb hby d15_15) ?_
 intro v11 T11 L11 q11 X11
 obtain ⟨h11, e11⟩ := hpz T11
 rw [e11] at q11
 obtain ⟨rfl, N11, K11, F11_0⟩ := q11
 subst hFF
 refine Go.ret0 X11 hx hlk hret (hb hby d15_18) (by decide) (by decide) ?_
 rw [e11]
 have ne12 := Nat.ne_of_lt (Nat.lt_of_lt_of_le P0.lt s1_0)
 exact ⟨b1_0, k1_0, rfl, (Fr.app (Fr.app (Fr.nil n0) N1) N11), (((Keep.refl h0 [x0]).trans K1 (allS (Or.inl (mG 0 rfl)) all0)).trans K11 (allS (Or.inr sz10) all0)), sz10, (F1_0.keep K11 (ninS ne12 nin0)), (F1_1.keep K11 (ninS ne12 nin0)), (F1_2.keep K11 (ninS ne12 nin0)), (F1_3.keep K11 (ninS ne12 nin0)), F11_0, (F1_5.keep K11)⟩
theorem au_86 (hw : HW a0 Z)   (O0 : Old Z n0 h0) (G : Glob Z α β γ δ ε ζ η) (P0 : Exa Z h0 x0 s3) (P1 : f1_ Z h0 x0 (.int 0)) (P2 : f4_ Z h0 x0 (.int 8)) (P3 : f5_ Z h0 x0 (.int 0)) (P4 : f3_ Z h0 x0 (.ref x2)) (P5 : Exa Z h0 x1 s1) (P6 : f0_ Z h0 x1 (.int 1)) (P7 : f2_ Z h0 x1 (.ref x3)) (P8 : Arv Z h0 x2 kk0 .byte (16 : Int32) (LL3 p0 p1) (.int 0)) (P10 : Arv Z h0 x3 kk1 .byte (4 : Int32) [.int p2, .int p3, .int p4, .int p5] (.int 0)) (R_p6 : 0 ≤ p6.toInt ∧ p6.toInt ≤ 255) (R_p7 : 0 ≤ p7.toInt ∧ p7.toInt ≤ 255) (B_p0 : (p6.toInt8.toInt32) = p0) (B_p1 : (p7.toInt8.toInt32) = p1) (g_x0 : n0 ≤ x0) (ne_x1_x0 : x1 ≠ x0) (ne_x3_x0 : x3 ≠ x0) :
    Ctr l Z ⟨s0, "append", s11⟩ B11 3 (some (.object s0)) (rM 8 1 32 116) #[.ref x0, .ref x1] h0 (fun v h L => ∃ (y0 : Addr) (y1 : ClassId), v = some (.ref x0) ∧ Fr n0 L ∧ Keep h0 h [x0] ∧ h0.size ≤ y0 ∧ f1_ Z h x0 (.int 1) ∧ f4_ Z h x0 (.int 10) ∧ f5_ Z h x0 (.int 0) ∧ f3_ Z h x0 (.ref y0) ∧ Arv Z h y0 y1 .byte (32 : Int32) (LL25 p0 p1 p2 p3 p4 p5) (.int 0) ∧ Exa Z h y0 "[B") := by
 refine Ctr.of (plainFor_of_name pn_c2) fun p e s m below meth c T0 hx hZ hby hml hown hnm hret hlk e0 es X0 => Go.cast (ef_11_RR m x0 x1) ?_
 generalize hFF : EndN s _ _ _ = FF
 refine aN X0 hx 1 rfl hby d11_0 rfl rfl ?_
 refine Go.ifnonnullYes X0 hx 9 (hb hby d11_1) (by decide) (by decide) ?_
 refine aN X0 hx 10 rfl hby d11_9 rfl rfl ?_
 refine Go.callV X0 hx hZ hown (tw_69 hw) (tw_70 hw) (nF (mvT hZ (tw_72 hw))) (tw_72 hw) (tw_71 hw) (by decide) (tw_73 hw) (tw_2 hw) (au_87 hw O0 G P5 P6 P7 P10) e0 P5 (argsL := []) (rest := []) 13 rfl (hml ▸ rfl) (lenOf pd_12 rfl) rfl rfl (W := 0) (nE rfl) (by decide) (hb hby d11_10) ?_
 intro v1 T1 L1 q1 X1
 obtain ⟨rfl, N1, e1⟩ := q1
 show Go _ _ _ _ (T1.setTop (mkF m 13 #[vR x0, vR x1, uS] [.int 2]))
 refine Go.istoreN X1 hx 14 rfl (hb hby d11_13) (Ls' := #[vR x0, vR x1, vI 2]) rfl ?_
 refine aN X1 hx 15 rfl hby d11_14 rfl rfl ?_
 refine aN X1 hx 16 rfl hby d11_15 rfl rfl ?_
 refine gF X1 hx hZ hown (tw_79 hw) e1 P2 19 rfl (hb hby d11_16) ?_
 intro T2 e2 X2
 refine iN X2 hx 20 rfl hby d11_19 rfl ?_
 refine Go.iadd X2 hx 21 rfl (hb hby d11_20) ?_
 rw [show ((8 : Int32) + (2 : Int32)) = (10 : Int32) from by decide]
 refine Go.callP X2 hx hZ hown (tw_81 hw) (tw_82 hw) (tw_84 hw) (tw_83 hw) (tw_85 hw) (by decide) (tw_85 hw) (tw_50 hw) (au_45 hw O0.z P1 P4 P8) e2 P0 (argsL := [.int 10]) (rest := []) 24 rfl (hml ▸ rfl) (lenOf pd_9 rfl) rfl rfl (W := 0) (nE rfl) (by decide) (hb hby d11_21) ?_
 intro v3 T3 L3 q3 X3
 obtain ⟨rfl, N3, e3⟩ := q3
 refine aN X3 hx 25 rfl hby d11_24 rfl rfl ?_
 refine aN X3 hx 26 rfl hby d11_25 rfl rfl ?_
 refine gF X3 hx hZ hown (tw_79 hw) e3 P2 29 rfl (hb hby d11_26) ?_
 intro T4 e4 X4
 refine aN X4 hx 30 rfl hby d11_29 rfl rfl ?_
 refine Go.callP X4 hx hZ hown (tw_86 hw) (tw_87 hw) (tw_89 hw) (tw_88 hw) (tw_90 hw) (by decide) (tw_90 hw) (tw_50 hw) (au_89 hw O0 G P0 P1 P2 P3 P4 P5 P6 P7 P8 P10 R_p6 R_p7 B_p0 B_p1 g_x0 ne_x1_x0 ne_x3_x0) e4 P0 (argsL := [.int 8, .ref x1]) (rest := []) 33 rfl (hml ▸ rfl) (lenOf pd_15 rfl) rfl rfl (W := 0) (nE rfl) (by decide) (hb hby d11_30) ?_
 intro v5 T5 L5 q5 X5
 obtain ⟨h5, e5⟩ := hpz T5
 rw [e5] at q5
 obtain ⟨b5_0, k5_0, rfl, N5, K5, s5_0, F5_0, F5_1, F5_2, F5_3, F5_4, F5_5⟩ := q5
 refine aN X5 hx 34 rfl hby d11_33 rfl rfl ?_
 refine Go.dup X5 hx 35 rfl (hb hby d11_34) rfl ?_
 refine gF X5 hx hZ hown (tw_79 hw) e5 F5_1 38 rfl (hb hby d11_35) ?_
 intro T6 e6 X6
 refine iN X6 hx 39 rfl hby d11_38 rfl ?_
 refine Go.iadd X6 hx 40 rfl (hb hby d11_39) ?_
 rw [show ((8 : Int32) + (2 : Int32)) = (10 : Int32) from by decide]
 refine Go.putF X6 hx hZ hown (host := "") (Or.inl (tw_79 hw)) Via.refl e6 F5_1 (P0.keep K5) (Or.inl (tw_80 hw)) (tw_41 hw) (ty := .int) (by decide) rfl rfl 43 rfl (hb hby d11_40) ?_
 intro T8 h8 e8 W8 F8 X8
 have N8 := Fr.snoc X8 (Fr.app (Fr.app (Fr.app (Fr.nil n0) N1) N3) N5) g_x0
 refine aN X8 hx 44 rfl hby d11_43 rfl rfl ?_
 subst hFF
 refine Go.retR X8 hx hlk (t := (.object s0)) hret rfl rfl (hb hby d11_44) (by decide) (by decide) ?_
 rw [e8]
 exact ⟨b5_0, k5_0, rfl, N8, (((Keep.refl h0 [x0]).trans K5 (allS (Or.inl (mG 0 rfl)) all0)).wr W8 (Or.inl (mG 0 rfl))), (Nat.le_trans (Keep.refl h0 [x0]).1 s5_0), (F5_0.other W8 (Or.inr (slot_ne (Or.inl (tw_57 hw)) (Or.inl (tw_80 hw)) (by decide) (t := .byte) (t' := .int) (by decide) (by decide)))), F8, (F5_2.other W8 (Or.inr (slot_ne (Or.inl (tw_293 hw)) (Or.inl (tw_80 hw)) (by decide) (t := .boolean) (t' := .int) (by decide) (by decide)))), (F5_3.other W8 (Or.inr (slot_ne (Or.inl (tw_55 hw)) (Or.inl (tw_80 hw)) (by decide) (t := (.array .byte)) (t' := .int) (by decide) (by decide)))), (F5_4.other W8 (Ne.symm (Nat.ne_of_lt (Nat.lt_of_lt_of_le P0.lt s5_0)))), (F5_5.wr W8)⟩
theorem au_85 (hw : HW a0 Z)   (O0 : Old Z n0 h0) (G : Glob Z α β γ δ ε ζ η) (P0 : Exa Z h0 x0 s3) (P1 : f1_ Z h0 x0 (.int 0)) (P2 : f4_ Z h0 x0 (.int 8)) (P3 : f5_ Z h0 x0 (.int 0)) (P4 : f3_ Z h0 x0 (.ref x2)) (P5 : Exa Z h0 x1 s1) (P6 : f0_ Z h0 x1 (.int 1)) (P7 : f2_ Z h0 x1 (.ref x3)) (P8 : Arv Z h0 x2 kk0 .byte (16 : Int32) (LL3 p0 p1) (.int 0)) (P10 : Arv Z h0 x3 kk1 .byte (4 : Int32) [.int p2, .int p3, .int p4, .int p5] (.int 0)) (R_p6 : 0 ≤ p6.toInt ∧ p6.toInt ≤ 255) (R_p7 : 0 ≤ p7.toInt ∧ p7.toInt ≤ 255) (B_p0 : (p6.toInt8.toInt32) = p0) (B_p1 : (p7.toInt8.toInt32) = p1) (g_x0 : n0 ≤ x0) (ne_x1_x0 : x1 ≠ x0) (ne_x3_x0 : x3 ≠ x0) :
    Ctr l Z ⟨s3, "append", s10⟩ B10 2 (some (.object s3)) (rM 9 1 32 130) #[.ref x0, .ref x1] h0 (fun v h L => ∃ (y0 : Addr) (y1 : ClassId), v = some (.ref x0) ∧ Fr n0 L ∧ Keep h0 h [x0] ∧ h0.size ≤ y0 ∧ f1_ Z h x0 (.int 1) ∧ f4_ Z h x0 (.int 10) ∧ f5_ Z h x0 (.int 0) ∧ f3_ Z h x0 (.ref y0) ∧ Arv Z h y0 y1 .byte (32 : Int32) (LL25 p0 p1 p2 p3 p4 p5) (.int 0) ∧ Exa Z h y0 "[B") := by
 refine Ctr.of (plainFor_of_name pn_c3) fun p e s m below meth c T0 hx hZ hby hml hown hnm hret hlk e0 es X0 => Go.cast (ef_10_RR m x0 x1) ?_
 generalize hFF : EndN s _ _ _ = FF
 refine aN X0 hx 1 rfl hby d10_0 rfl rfl ?_
 refine aN X0 hx 2 rfl hby d10_1 rfl rfl ?_
 refine Go.callUp X0 hx hZ hown (tw_64 hw) (own_sameself (tw_84 hw) rfl (tw_65 hw) (by decide)) (tw_65 hw) (tw_66 hw) (by decide) (tw_68 hw) (tw_68 hw) (tw_50 hw) (au_86 hw O0 G P0 P1 P2 P3 P4 P5 P6 P7 P8 P10 R_p6 R_p7 B_p0 B_p1 g_x0 ne_x1_x0 ne_x3_x0) e0 P0 (argsL := [.ref x1]) (rest := []) 5 rfl (hml ▸ rfl) (lenOf pd_16 rfl) rfl rfl (W := 0) (nE rfl) (by decide) (hb hby d10_2) ?_
 intro v1 T1 L1 q1 X1
 obtain ⟨h1, e1⟩ := hpz T1
 rw [e1] at q1
 obtain ⟨b1_0, k1_0, rfl, N1, K1, s1_0, F1_0, F1_1, F1_2, F1_3, F1_4, F1_5⟩ := q1
 show Go _ _ _ _ (T1.setTop (mkF m 5 #[vR x0, vR x1] [.ref x0]))
 refine Go.pop X1 hx 6 rfl (hb hby d10_5) rfl ?_
 refine aN X1 hx 7 rfl hby d10_6 rfl rfl ?_
 subst hFF
 refine Go.retR X1 hx hlk (t := (.object s3)) hret rfl rfl (hb hby d10_7) (by decide) (by decide) ?_
 rw [e1]
 exact ⟨b1_0, k1_0, rfl, (Fr.app (Fr.nil n0) N1), ((Keep.refl h0 [x0]).trans K1 (allS (Or.inl (mG 0 rfl)) all0)), (Nat.le_trans (Keep.refl h0 [x0]).1 s1_0), F1_0, F1_1, F1_2, F1_3, F1_4, F1_5⟩
theorem au_107 (hw : HW a0 Z)  (Z0 : n0 ≤ h0.size) :
    Ctr l Z ⟨"java/lang/Math", "max", "(II)I"⟩ B20 2 (some .int) (rM 0 0 0 0) #[.int 24, .int 36] h0 (fun v h L => v = some (.int 36) ∧ Fr n0 L ∧ h = h0) := by
 refine Ctr.of (Jvm.Free.JP.mathPlain rfl (by decide +kernel)) ?_
 intro p e s m below meth c T0 hx hZ hby hml hown hnm hret hlk e0 es X0
 refine Go.cast (ef_20_II m (24 : Int32) (36 : Int32)) ?_
 generalize hFF : EndN s _ _ _ = FF
 refine iN X0 hx 1 rfl hby d20_0 rfl ?_
 refine iN X0 hx 2 rfl hby d20_1 rfl ?_
 refine Go.icmpYes X0 hx 9 (hb hby d20_2) (by decide) (by decide) (by decide) ?_
 refine iN X0 hx 10 rfl hby d20_9 rfl ?_
 subst hFF
 refine Go.retI X0 hx hlk hret (hb hby d20_10) (by decide) (by decide) ?_
 rw [e0]
 exact ⟨rfl, (Fr.nil n0), rfl⟩
theorem au_106 (hw : HW a0 Z)  (Z0 : n0 ≤ h0.size) :
    Ctr l Z ⟨"jdk/internal/util/ArraysSupport", "newLength", "(III)I"⟩ B19 4 (some .int) (rM 1 0 0 14) #[.int 32, .int 24, .int 36] h0 (fun v h L => v = some (.int 68) ∧ Fr n0 L ∧ h = h0) := by
 refine Ctr.of (plainFor_of_name pn_c4) fun p e s m below meth c T0 hx hZ hby hml hown hnm hret hlk e0 es X0 => Go.cast (ef_19_III m (32 : Int32) (24 : Int32) (36 : Int32)) ?_
 generalize hFF : EndN s _ _ _ = FF
 refine iN X0 hx 1 rfl hby d19_0 rfl ?_
 refine iN X0 hx 2 rfl hby d19_1 rfl ?_
 refine iN X0 hx 3 rfl hby d19_2 rfl ?_
 refine Go.callS X0 hx hZ hown (tw_117 hw) (tw_118 hw) (tw_119 hw) (tw_120 hw) (by decide) (tw_120 hw) (tw_119 hw) (au_107 hw Z0) e0 (argsL := [.int 24, .int 36]) (rest := [.int 32]) 6 rfl (hml ▸ rfl) (lenOf pd_18 rfl) rfl rfl (W := 1) (nE rfl) (by decide) (hb hby d19_3) ?_
 intro v1 T1 L1 q1 X1
 obtain ⟨rfl, N1, e1⟩ := q1
 show Go _ _ _ _ (T1.setTop (mkF m 6 #[vI 32, vI 24, vI 36, uS] [.int 36, .int 32]))
 refine Go.iadd X1 hx 7 rfl (hb hby d19_6) ?_
 rw [show ((32 : Int32) + (36 : Int32)) = (68 : Int32) from by decide]
 refine Go.istoreN X1 hx 8 rfl (hb hby d19_7) (Ls' := #[vI 32, vI 24, vI 36, vI 68]) rfl ?_
 refine Go.iconst X1 hx 9 rfl (hb hby d19_8) (v := (0 : Int32)) rfl ?_
 refine iN X1 hx 10 rfl hby d19_9 rfl ?_
 refine Go.icmpNo X1 hx 13 rfl (hb hby d19_10) (by decide) ?_
 refine iN X1 hx 14 rfl hby d19_13 rfl ?_
 refine Go.ldcI X1 hx hZ hown (tw_121 hw) 16 rfl (hb hby d19_14) ?_
 refine Go.icmpNo X1 hx 19 rfl (hb hby d19_16) (by decide) ?_
 refine iN X1 hx 20 rfl hby d19_19 rfl ?_
 subst hFF
 refine Go.retI X1 hx hlk hret (hb hby d19_20) (by decide) (by decide) ?_
 rw [e1]
 exact ⟨rfl, (Fr.app (Fr.nil n0) N1), rfl⟩
theorem au_105 (hw : HW a0 Z)  (Z0 : n0 ≤ h0.size) (P1 : f1_ Z h0 x0 (.int 1)) (P4 : f3_ Z h0 x0 (.ref x1)) (P5 : Arv Z h0 x1 kk0 .byte (32 : Int32) ls0 (.int 0)) :
    Ctr l Z ⟨s0, "newCapacity", "(I)I"⟩ B18 6 (some .int) (rM 2 0 0 29) #[.ref x0, .int 28] h0 (fun v h L => v = some (.int 34) ∧ Fr n0 L ∧ h = h0) := by
 refine Ctr.of (plainFor_of_name pn_c2) fun p e s m below meth c T0 hx hZ hby hml hown hnm hret hlk e0 es X0 => Go.cast (ef_18_RI m x0 (28 : Int32)) ?_
 generalize hFF : EndN s _ _ _ = FF
 refine aN X0 hx 1 rfl hby d18_0 rfl rfl ?_
 refine gF X0 hx hZ hown (tw_54 hw) e0 P4 4 rfl (hb hby d18_1) ?_
 intro T1 e1 X1
 refine Go.arraylength X1 hx hZ e1 P5 5 rfl (hb hby d18_4) ?_
 refine Go.istoreN X1 hx 6 rfl (hb hby d18_5) (Ls' := #[vR x0, vI 28, vI 32, uS, uS, uS]) rfl ?_
 refine iN X1 hx 7 rfl hby d18_6 rfl ?_
 refine aN X1 hx 8 rfl hby d18_7 rfl rfl ?_
 refine gF X1 hx hZ hown (tw_56 hw) e1 P1 11 rfl (hb hby d18_8) ?_
 intro T2 e2 X2
 refine Go.ishl X2 hx 12 rfl (hb hby d18_11) ?_
 rw [show ((28 : Int32) <<< ((1 : Int32) &&& 31)) = (56 : Int32) from by decide]
 refine Go.istoreN X2 hx 13 rfl (hb hby d18_12) (Ls' := #[vR x0, vI 28, vI 32, vI 56, uS, uS]) rfl ?_
 refine iN X2 hx 14 rfl hby d18_13 rfl ?_
 refine iN X2 hx 15 rfl hby d18_14 rfl ?_
 refine Go.isub X2 hx 16 rfl (hb hby d18_15) ?_
 rw [show ((56 : Int32) - (32 : Int32)) = (24 : Int32) from by decide]
 refine Go.istore X2 hx 18 rfl (hb hby d18_16) (Ls' := #[vR x0, vI 28, vI 32, vI 56, vI 24, uS]) rfl ?_
 refine iN X2 hx 19 rfl hby d18_18 rfl ?_
 refine Go.iload X2 hx 21 rfl (hb hby d18_19) rfl ?_
 refine iN X2 hx 22 rfl hby d18_21 rfl ?_
 refine Go.iconst X2 hx 23 rfl (hb hby d18_22) (v := (2 : Int32)) rfl ?_
 refine aN X2 hx 24 rfl hby d18_23 rfl rfl ?_
 refine gF X2 hx hZ hown (tw_56 hw) e2 P1 27 rfl (hb hby d18_24) ?_
 intro T3 e3 X3
 refine Go.ishl X3 hx 28 rfl (hb hby d18_27) ?_
 rw [show ((2 : Int32) <<< ((1 : Int32) &&& 31)) = (4 : Int32) from by decide]
 refine Go.iadd X3 hx 29 rfl (hb hby d18_28) ?_
 rw [show ((32 : Int32) + (4 : Int32)) = (36 : Int32) from by decide]
 refine Go.callS X3 hx hZ hown (tw_113 hw) (tw_114 hw) (tw_115 hw) (tw_116 hw) (by decide) (tw_116 hw) (tw_115 hw) (au_106 hw Z0) e3 (argsL := [.int 32, .int 24, .int 36]) (rest := []) 32 rfl (hml ▸ rfl) (lenOf pd_19 rfl) rfl rfl (W := 0) (nE rfl) (by decide) (hb hby d18_29) ?_
 intro v4 T4 L4 q4 X4
 obtain ⟨rfl, N4, e4⟩ := q4
 show Go _ _ _ _ (T4.setTop (mkF m 32 #[vR x0, vI 28, vI 32, vI 56, vI 24, uS] [.int 68]))
 refine Go.istore X4 hx 34 rfl (hb hby d18_32) (Ls' := #[vR x0, vI 28, vI 32, vI 56, vI 24, vI 68]) rfl ?_
 refine Go.iload X4 hx 36 rfl (hb hby d18_34) rfl ?_
 refine Go.ldcI X4 hx hZ hown (tw_122 hw) 38 rfl (hb hby d18_36) ?_
 refine Go.icmpYes X4 hx 51 (hb hby d18_38) (by decide) (by decide) (by decide) ?_
 refine Go.iload X4 hx 53 rfl (hb hby d18_51) rfl ?_
 refine aN X4 hx 54 rfl hby d18_53 rfl rfl ?_
 refine gF X4 hx hZ hown (tw_56 hw) e4 P1 57 rfl (hb hby d18_54) ?_
 intro T5 e5 X5
 refine Go.ishr X5 hx 58 rfl (hb hby d18_57) ?_
 rw [show ((68 : Int32) >>> ((1 : Int32) &&& 31)) = (34 : Int32) from by decide]
 subst hFF
 refine Go.retI X5 hx hlk hret (hb hby d18_58) (by decide) (by decide) ?_
 rw [e5]
 exact ⟨rfl, (Fr.app (Fr.nil n0) N4), rfl⟩
theorem au_109 (hw : HW a0 Z)  (Z0 : n0 ≤ h0.size) :
    Ctr l Z ⟨"java/lang/Math", "min", "(II)I"⟩ B22 2 (some .int) (rM 0 0 0 0) #[.int 32, .int 68] h0 (fun v h L => v = some (.int 32) ∧ Fr n0 L ∧ h = h0) := by
 refine Ctr.of (Jvm.Free.JP.mathPlain rfl (by decide +kernel)) ?_
 intro p e s m below meth c T0 hx hZ hby hml hown hnm hret hlk e0 es X0
 refine Go.cast (ef_22_II m (32 : Int32) (68 : Int32)) ?_
 generalize hFF : EndN s _ _ _ = FF
 refine iN X0 hx 1 rfl hby d22_0 rfl ?_
 refine iN X0 hx 2 rfl hby d22_1 rfl ?_
 refine Go.icmpNo X0 hx 5 rfl (hb hby d22_2) (by decide) ?_
 refine iN X0 hx 6 rfl hby d22_5 rfl ?_
 refine Go.goto X0 hx 10 (hb hby d22_6) (by decide) (by decide) ?_
 subst hFF
 refine Go.retI X0 hx hlk hret (hb hby d22_10) (by decide) (by decide) ?_
 rw [e0]
 exact ⟨rfl, (Fr.nil n0), rfl⟩
theorem au_108 (hw : HW a0 Z)  (Z0 : n0 ≤ h0.size) (P0 : Arv Z h0 x0 kk0 .byte (32 : Int32) (LL26 p0 p1 p2 p3 p4 p5 p6 p7 p8 p9 p10 p11 p12 p13 p14 p15 p16 p17 p18 p19) (.int 0)) :
    Ctr l Z ⟨"java/util/Arrays", "copyOf", "([BI)[B"⟩ B21 3 (some (.array .byte)) (rM 1 1 68 18) #[.ref x0, .int 68] h0 (fun v h L => ∃ (y0 : Addr) (y1 : ClassId), v = some (.ref y0) ∧ Fr n0 L ∧ Keep h0 h [] ∧ h0.size ≤ y0 ∧ Arv Z h y0 y1 .byte (68 : Int32) (LL15 p0 p1 p2 p3 p4 p5 p6 p7 p8 p9 p10 p11 p12 p13 p14 p15 p16 p17 p18 p19) (.int 0) ∧ Exa Z h y0 "[B") := by
 refine Ctr.of (plainFor_of_name pn_c5) fun p e s m below meth c T0 hx hZ hby hml hown hnm hret hlk e0 es X0 => Go.cast (ef_21_RI m x0 (68 : Int32)) ?_
 generalize hFF : EndN s _ _ _ = FF
 refine iN X0 hx 1 rfl hby d21_0 rfl ?_
 refine aN X0 hx 2 rfl hby d21_1 rfl rfl ?_
 refine Go.arraylength X0 hx hZ e0 P0 3 rfl (hb hby d21_2) ?_
 refine Go.icmpYes X0 hx 14 (hb hby d21_3) (by decide) (by decide) (by decide) ?_
 refine iN X0 hx 15 rfl hby d21_14 rfl ?_
 refine Go.newarray X0 hx hZ (ty := .byte) rfl (tw_19 hw) e0 (by decide) (cap := 68) (by decide) (by decide) (by decide) (by decide) (ad := "[B") (by decide) 68 17 rfl (hb hby d21_15) ?_
 intro T1 h1 b1 k1 e1 E1 g1 V1 A1 X1
 have V1' : Arv Z h1 b1 k1 .byte (68 : Int32) [.int 0, .int 0, .int 0, .int 0, .int 0, .int 0, .int 0, .int 0, .int 0, .int 0, .int 0, .int 0, .int 0, .int 0, .int 0, .int 0, .int 0, .int 0, .int 0, .int 0, .int 0, .int 0, .int 0, .int 0, .int 0, .int 0, .int 0, .int 0, .int 0, .int 0, .int 0, .int 0, .int 0, .int 0, .int 0, .int 0, .int 0, .int 0, .int 0, .int 0, .int 0, .int 0, .int 0, .int 0, .int 0, .int 0, .int 0, .int 0, .int 0, .int 0, .int 0, .int 0, .int 0, .int 0, .int 0, .int 0, .int 0, .int 0, .int 0, .int 0, .int 0, .int 0, .int 0, .int 0, .int 0, .int 0, .int 0, .int 0] (.int 0) := V1
 refine Go.astoreN X1 hx 18 rfl (hb hby d21_17) (Ls' := #[vR x0, vI 68, vR b1]) rfl rfl ?_
 refine aN X1 hx 19 rfl hby d21_18 rfl rfl ?_
 refine Go.iconst X1 hx 20 rfl (hb hby d21_19) (v := (0 : Int32)) rfl ?_
 refine aN X1 hx 21 rfl hby d21_20 rfl rfl ?_
 refine Go.iconst X1 hx 22 rfl (hb hby d21_21) (v := (0 : Int32)) rfl ?_
 refine aN X1 hx 23 rfl hby d21_22 rfl rfl ?_
 have fk2 := (P0.ext E1)
 refine Go.arraylength X1 hx hZ e1 fk2 24 rfl (hb hby d21_23) ?_
 refine iN X1 hx 25 rfl hby d21_24 rfl ?_
 have Kp4 := ((Keep.refl h0 []).ext E1)
 refine Go.callS X1 hx hZ hown (tw_127 hw) (tw_128 hw) (tw_119 hw) (tw_129 hw) (by decide) (tw_129 hw) (tw_119 hw) (au_109 hw (Nat.le_trans Z0 Kp4.1)) e1 (argsL := [.int 32, .int 68]) (rest := [.int 0, .ref b1, .int 0, .ref x0]) 28 rfl (hml ▸ rfl) (lenOf pd_18 rfl) rfl rfl (W := 4) (nE rfl) (by decide) (hb hby d21_25) ?_
 intro v5 T5 L5 q5 X5
 obtain ⟨rfl, N5, e5⟩ := q5
 show Go _ _ _ _ (T5.setTop (mkF m 28 #[vR x0, vI 68, vR b1] [.int 32, .int 0, .ref b1, .int 0, .ref x0]))
 have sz7 := Nat.le_trans (Keep.refl h0 []).1 (Nat.le_of_eq g1.symm)
 refine Go.arraycopy X5 hx hZ hown (tw_130 hw) (tw_105 hw) (tw_103 hw) (tw_104 hw) e5 fk2 V1' rfl (sp := (0 : Int32)) (dp := (0 : Int32)) (nn := (32 : Int32)) (us := (LL26 p0 p1 p2 p3 p4 p5 p6 p7 p8 p9 p10 p11 p12 p13 p14 p15 p16 p17 p18 p19)) (by decide) (by decide) (by decide) (by decide) (by decide) rfl (nB rfl) (Fr.app (Fr.nil n0) N5) (Nat.le_trans Z0 sz7) (by decide) (W := 0) (hml ▸ rfl) (nE rfl) (by decide) (pc' := 31) rfl (hb hby d21_28) ?_
 intro T8 h8 L8 e8 N8 K8 V8 X8
 have V8' : Arv Z h8 b1 k1 .byte (68 : Int32) (LL15 p0 p1 p2 p3 p4 p5 p6 p7 p8 p9 p10 p11 p12 p13 p14 p15 p16 p17 p18 p19) (.int 0) := V8
 refine aN X8 hx 32 rfl hby d21_31 rfl rfl ?_
 subst hFF
 refine Go.retR X8 hx hlk (t := (.array .byte)) hret rfl rfl (hb hby d21_32) (by decide) (by decide) ?_
 rw [e8]
 exact ⟨b1, k1, rfl, N8, (Kp4.trans K8 (allS (Or.inr sz7) all0)), sz7, V8', (A1.keep K8)⟩
theorem au_104 (hw : HW a0 Z)  (Z0 : n0 ≤ h0.size) (P0 : Exa Z h0 x0 s3) (P1 : f1_ Z h0 x0 (.int 1)) (P2 : f4_ Z h0 x0 (.int 10)) (P3 : f5_ Z h0 x0 (.int 0)) (P4 : f3_ Z h0 x0 (.ref x1)) (P5 : Arv Z h0 x1 kk0 .byte (32 : Int32) (LL26 p0 p1 p2 p3 p4 p5 p6 p7 p8 p9 p10 p11 p12 p13 p14 p15 p16 p17 p18 p19) (.int 0)) (g_x0 : n0 ≤ x0) :
    Ctr l Z ⟨s0, "ensureCapacityInternal", "(I)V"⟩ B14 3 none (rM 3 1 68 48) #[.ref x0, .int 28] h0 (fun v h L => ∃ (y0 : Addr) (y1 : ClassId), v = none ∧ Fr n0 L ∧ Keep h0 h [x0] ∧ h0.size ≤ y0 ∧ f1_ Z h x0 (.int 1) ∧ f4_ Z h x0 (.int 10) ∧ f5_ Z h x0 (.int 0) ∧ f3_ Z h x0 (.ref y0) ∧ Arv Z h y0 y1 .byte (68 : Int32) (LL15 p0 p1 p2 p3 p4 p5 p6 p7 p8 p9 p10 p11 p12 p13 p14 p15 p16 p17 p18 p19) (.int 0) ∧ Exa Z h y0 "[B") := by
 refine Ctr.of (plainFor_of_name pn_c2) fun p e s m below meth c T0 hx hZ hby hml hown hnm hret hlk e0 es X0 => Go.cast (ef_14_RI m x0 (28 : Int32)) ?_
 generalize hFF : EndN s _ _ _ = FF
 refine aN X0 hx 1 rfl hby d14_0 rfl rfl ?_
 refine gF X0 hx hZ hown (tw_54 hw) e0 P4 4 rfl (hb hby d14_1) ?_
 intro T1 e1 X1
 refine Go.arraylength X1 hx hZ e1 P5 5 rfl (hb hby d14_4) ?_
 refine aN X1 hx 6 rfl hby d14_5 rfl rfl ?_
 refine gF X1 hx hZ hown (tw_56 hw) e1 P1 9 rfl (hb hby d14_6) ?_
 intro T2 e2 X2
 refine Go.ishr X2 hx 10 rfl (hb hby d14_9) ?_
 rw [show ((32 : Int32) >>> ((1 : Int32) &&& 31)) = (16 : Int32) from by decide]
 refine Go.istoreN X2 hx 11 rfl (hb hby d14_10) (Ls' := #[vR x0, vI 28, vI 16]) rfl ?_
 refine iN X2 hx 12 rfl hby d14_11 rfl ?_
 refine iN X2 hx 13 rfl hby d14_12 rfl ?_
 refine Go.isub X2 hx 14 rfl (hb hby d14_13) ?_
 rw [show ((28 : Int32) - (16 : Int32)) = (12 : Int32) from by decide]
 refine Go.ifNo X2 hx 17 rfl (hb hby d14_14) (by decide) ?_
 refine aN X2 hx 18 rfl hby d14_17 rfl rfl ?_
 refine aN X2 hx 19 rfl hby d14_18 rfl rfl ?_
 refine gF X2 hx hZ hown (tw_54 hw) e2 P4 22 rfl (hb hby d14_19) ?_
 intro T3 e3 X3
 refine aN X3 hx 23 rfl hby d14_22 rfl rfl ?_
 refine iN X3 hx 24 rfl hby d14_23 rfl ?_
 refine Go.callP X3 hx hZ hown (tw_108 hw) (tw_109 hw) (tw_111 hw) (tw_110 hw) (tw_112 hw) (by decide) (tw_112 hw) (tw_50 hw) (au_105 hw Z0 P1 P4 P5) e3 P0 (argsL := [.int 28]) (rest := [.ref x1, .ref x0]) 27 rfl (hml ▸ rfl) (lenOf pd_1 rfl) rfl rfl (W := 2) (nE rfl) (by decide) (hb hby d14_24) ?_
 intro v4 T4 L4 q4 X4
 obtain ⟨rfl, N4, e4⟩ := q4
 show Go _ _ _ _ (T4.setTop (mkF m 27 #[vR x0, vI 28, vI 16] [.int 34, .ref x1, .ref x0]))
 refine aN X4 hx 28 rfl hby d14_27 rfl rfl ?_
 refine gF X4 hx hZ hown (tw_56 hw) e4 P1 31 rfl (hb hby d14_28) ?_
 intro T5 e5 X5
 refine Go.ishl X5 hx 32 rfl (hb hby d14_31) ?_
 rw [show ((34 : Int32) <<< ((1 : Int32) &&& 31)) = (68 : Int32) from by decide]
 refine Go.callS X5 hx hZ hown (tw_123 hw) (tw_124 hw) (tw_125 hw) (tw_126 hw) (by decide) (tw_126 hw) (tw_125 hw) (au_108 hw Z0 P5) e5 (argsL := [.ref x1, .int 68]) (rest := [.ref x0]) 35 rfl (hml ▸ rfl) (lenOf pd_20 rfl) rfl rfl (W := 1) (nE rfl) (by decide) (hb hby d14_32) ?_
 intro v6 T6 L6 q6 X6
 obtain ⟨h6, e6⟩ := hpz T6
 rw [e6] at q6
 obtain ⟨b6_0, k6_0, rfl, N6, K6, s6_0, F6_0, F6_1⟩ := q6
 show Go _ _ _ _ (T6.setTop (mkF m 35 #[vR x0, vI 28, vI 16] [.ref b6_0, .ref x0]))
 refine Go.putF X6 hx hZ hown (host := "") (Or.inl (tw_54 hw)) Via.refl e6 (P4.keep K6 nin0) (P0.keep K6) (Or.inl (tw_55 hw)) (tw_41 hw) (ty := (.array .byte)) (by decide) rfl rfl 38 rfl (hb hby d14_35) ?_
 intro T9 h9 e9 W9 F9 X9
 have N9 := Fr.snoc X9 (Fr.app (Fr.app (Fr.nil n0) N4) N6) g_x0
 subst hFF
 refine Go.ret0 X9 hx hlk hret (hb hby d14_38) (by decide) (by decide) ?_
 rw [e9]
 exact ⟨b6_0, k6_0, rfl, N9, (((Keep.refl h0 [x0]).trans K6 all0).wr W9 (Or.inl (mG 0 rfl))), (Nat.le_trans (Keep.refl h0 [x0]).1 s6_0), ((P1.keep K6 nin0).other W9 (Or.inr (slot_ne (Or.inl (tw_57 hw)) (Or.inl (tw_55 hw)) (by decide) (t := .byte) (t' := (.array .byte)) (by decide) (by decide)))), ((P2.keep K6 nin0).other W9 (Or.inr (slot_ne (Or.inl (tw_80 hw)) (Or.inl (tw_55 hw)) (by decide) (t := .int) (t' := (.array .byte)) (by decide) (by decide)))), ((P3.keep K6 nin0).other W9 (Or.inr (slot_ne (Or.inl (tw_293 hw)) (Or.inl (tw_55 hw)) (by decide) (t := .boolean) (t' := (.array .byte)) (by decide) (by decide)))), F9, (F6_0.other W9 (Ne.symm (Nat.ne_of_lt (Nat.lt_of_lt_of_le P0.lt s6_0)))), (F6_1.wr W9)⟩
theorem d29_17 : DD B29 17 (.iconst 0, 1) := by decide +kernel
theorem au_113 (hw : HW a0 Z)   (O0 : Old Z n0 h0) (G : Glob Z α β γ δ ε ζ η) (P1 : f1_ Z h0 x0 (.int 1)) :
    Ctr l Z ⟨s0, "isLatin1", "()Z"⟩ B29 1 (some .boolean) (rM 0 0 0 0) #[.ref x0] h0 (fun v h L => v = some (.int 0) ∧ Fr n0 L ∧ h = h0) := by
 refine Ctr.of (plainFor_of_name pn_c2) ?_
 intro p e s m below meth c T0 hx hZ hby hml hown hnm hret hlk e0 es X0
 have G' := G
 obtain ⟨G0, -, -, -, -, -, -, -, -, -, -, -, G12, -⟩ := G'
 refine Go.cast (ef_29_R m x0) ?_
 generalize hFF : EndN s _ _ _ = FF
 refine Go.getS X0 hx hZ hown (host := "") (Or.inl (tw_53 hw)) Via.refl e0 (G0.ext O0.2) 3 rfl (hb hby d29_0) ?_
 intro T2 e2 X2
 refine Go.ifNo X2 hx 6 rfl (hb hby d29_3) (feq G12).1 ?_
 refine aN X2 hx 7 rfl hby d29_6 rfl rfl ?_
 refine gF X2 hx hZ hown (tw_56 hw) e2 P1 10 rfl (hb hby d29_7) ?_
 intro T3 e3 X3
 refine Go.ifYes X3 hx 17 (hb hby d29_10) (by decide) (by decide) (by decide) ?_
 refine Go.iconst X3 hx 18 rfl (hb hby d29_17) (v := (0 : Int32)) rfl ?_
 subst hFF
 refine Go.retN X3 hx hlk (t := .boolean) hret (by simp) (hb hby d29_18) (by decide) (by decide) ?_
 rw [e3]
 exact ⟨(congrArg (fun z => some (Value.int z)) (by decide : nar .boolean (0 : Int32) = (0 : Int32))), (Fr.nil n0), rfl⟩
theorem d47_7 : DD B47 7 (.return_, 1) := by decide +kernel
theorem au_112 (hw : HW a0 Z)   (O0 : Old Z n0 h0) (G : Glob Z α β γ δ ε ζ η) (P0 : Exa Z h0 x0 s3) (P1 : f1_ Z h0 x0 (.int 1)) :
    Ctr l Z ⟨s0, "inflate", "()V"⟩ B47 2 none (rM 1 0 0 12) #[.ref x0] h0 (fun v h L => v = none ∧ Fr n0 L ∧ h = h0) := by
 refine Ctr.of (plainFor_of_name pn_c2) fun p e s m below meth c T0 hx hZ hby hml hown hnm hret hlk e0 es X0 => Go.cast (ef_47_R m x0) ?_
 generalize hFF : EndN s _ _ _ = FF
 refine aN X0 hx 1 rfl hby d47_0 rfl rfl ?_
 refine Go.callV X0 hx hZ hown (tw_269 hw) (tw_157 hw) (nF (mvT hZ (tw_159 hw))) (tw_159 hw) (tw_158 hw) (by decide) (tw_160 hw) (tw_50 hw) (au_113 hw O0 G P1) e0 P0 (argsL := []) (rest := []) 4 rfl (hml ▸ rfl) (lenOf pd_22 rfl) rfl rfl (W := 0) (nE rfl) (by decide) (hb hby d47_1) ?_
 intro v1 T1 L1 q1 X1
 obtain ⟨rfl, N1, e1⟩ := q1
 show Go _ _ _ _ (T1.setTop (mkF m 4 #[vR x0, uS] [.int 0]))
 refine Go.ifNo X1 hx 7 rfl (hb hby d47_4) (by decide) ?_
 subst hFF
 refine Go.ret0 X1 hx hlk hret (hb hby d47_7) (by decide) (by decide) ?_
 rw [e1]
 exact ⟨rfl, (Fr.app (Fr.nil n0) N1), rfl⟩
theorem au_111 (hw : HW a0 Z)   (O0 : Old Z n0 h0) (G : Glob Z α β γ δ ε ζ η) (P0 : Exa Z h0 x0 s3) (P1 : f1_ Z h0 x0 (.int 1)) (P5 : Exa Z h0 x1 s1) (P6 : f0_ Z h0 x1 (.int 0)) :
    Ctr l Z ⟨s0, "inflateIfNeededFor", "(Ljava/lang/String;)V"⟩ B16 2 none (rM 2 0 0 25) #[.ref x0, .ref x1] h0 (fun v h L => v = none ∧ Fr n0 L ∧ h = h0) := by
 refine Ctr.of (plainFor_of_name pn_c2) ?_
 intro p e s m below meth c T0 hx hZ hby hml hown hnm hret hlk e0 es X0
 have G' := G
 obtain ⟨G0, -, -, -, -, -, -, -, -, -, -, -, G12, -⟩ := G'
 refine Go.cast (ef_16_RR m x0 x1) ?_
 generalize hFF : EndN s _ _ _ = FF
 refine Go.getS X0 hx hZ hown (host := "") (Or.inl (tw_53 hw)) Via.refl e0 (G0.ext O0.2) 3 rfl (hb hby d16_0) ?_
 intro T2 e2 X2
 refine Go.ifNo X2 hx 6 rfl (hb hby d16_3) (feq G12).1 ?_
 refine aN X2 hx 7 rfl hby d16_6 rfl rfl ?_
 refine gF X2 hx hZ hown (tw_56 hw) e2 P1 10 rfl (hb hby d16_7) ?_
 intro T3 e3 X3
 refine aN X3 hx 11 rfl hby d16_10 rfl rfl ?_
 refine Go.callV X3 hx hZ hown (tw_96 hw) (tw_75 hw) (nF (mvT hZ (tw_77 hw))) (tw_77 hw) (tw_76 hw) (by decide) (tw_78 hw) (tw_2 hw) (au_24 hw O0 G P6) e3 P5 (argsL := []) (rest := [.int 1]) 14 rfl (hml ▸ rfl) (lenOf pd_11 rfl) rfl rfl (W := 1) (nE rfl) (by decide) (hb hby d16_11) ?_
 intro v4 T4 L4 q4 X4
 obtain ⟨rfl, N4, e4⟩ := q4
 show Go _ _ _ _ (T4.setTop (mkF m 14 #[vR x0, vR x1] [.int 0, .int 1]))
 refine Go.icmpNo X4 hx 17 rfl (hb hby d16_14) (by decide) ?_
 refine aN X4 hx 18 rfl hby d16_17 rfl rfl ?_
 refine Go.callP X4 hx hZ hown (tw_264 hw) (tw_265 hw) (tw_267 hw) (tw_266 hw) (tw_268 hw) (by decide) (tw_268 hw) (tw_50 hw) (au_112 hw O0 G P0 P1) e4 P0 (argsL := []) (rest := []) 21 rfl (hml ▸ rfl) (lenOf pd_10 rfl) rfl rfl (W := 0) (nE rfl) (by decide) (hb hby d16_18) ?_
 intro v5 T5 L5 q5 X5
 obtain ⟨rfl, N5, e5⟩ := q5
 subst hFF
 refine Go.ret0 X5 hx hlk hret (hb hby d16_21) (by decide) (by decide) ?_
 rw [e5]
 exact ⟨rfl, (Fr.app (Fr.app (Fr.nil n0) N4) N5), rfl⟩
theorem d17_28 : DD B17 28 (.aload_n 0, 1) := by decide +kernel
theorem d17_29 : DD B17 29 (.getfield 9, 3) := by decide +kernel
theorem d17_32 : DD B17 32 (.iconst 0, 1) := by decide +kernel
theorem d17_33 : DD B17 33 (.aload_n 1, 1) := by decide +kernel
theorem d17_34 : DD B17 34 (.iload_n 2, 1) := by decide +kernel
theorem d17_35 : DD B17 35 (.aload_n 0, 1) := by decide +kernel
theorem d17_36 : DD B17 36 (.getfield 9, 3) := by decide +kernel
theorem d17_39 : DD B17 39 (.arraylength, 1) := by decide +kernel
theorem au_118 (hw : HW a0 Z)  (Z0 : n0 ≤ h0.size) (P0 : Arv Z h0 x0 kk0 .byte (68 : Int32) ls0 (.int 0)) :
    Ctr l Z ⟨s5, "length", "([B)I"⟩ B51 1 (some .int) (rM 0 0 0 0) #[.ref x0] h0 (fun v h L => v = some (.int 34) ∧ Fr n0 L ∧ h = h0) := by
 refine Ctr.of (plainFor_of_name pn_c0) fun p e s m below meth c T0 hx hZ hby hml hown hnm hret hlk e0 es X0 => Go.cast (ef_51_R m x0) ?_
 generalize hFF : EndN s _ _ _ = FF
 refine aN X0 hx 1 rfl hby d51_0 rfl rfl ?_
 refine Go.arraylength X0 hx hZ e0 P0 2 rfl (hb hby d51_1) ?_
 refine Go.iconst X0 hx 3 rfl (hb hby d51_2) (v := (1 : Int32)) rfl ?_
 refine Go.ishr X0 hx 4 rfl (hb hby d51_3) ?_
 rw [show ((68 : Int32) >>> ((1 : Int32) &&& 31)) = (34 : Int32) from by decide]
 subst hFF
 refine Go.retI X0 hx hlk hret (hb hby d51_4) (by decide) (by decide) ?_
 rw [e0]
 exact ⟨rfl, (Fr.nil n0), rfl⟩
theorem au_120 (hw : HW a0 Z)  (Z0 : n0 ≤ h0.size) (G : Glob Z α β γ δ ε ζ η) :
    Ctr l Z ⟨"jdk/internal/util/Preconditions", "checkFromIndexSize", "(IIILjava/util/function/BiFunction;)I"⟩ B53 4 (some .int) (rM 0 0 0 0) #[.int 10, .int 18, .int 34, ε] h0 (fun v h L => v = some (.int 10) ∧ Fr n0 L ∧ h = h0) := by
 refine Ctr.of (plainFor_of_name pn_c11) ?_
 intro p e s m below meth c T0 hx hZ hby hml hown hnm hret hlk e0 es X0
 have G' := G
 obtain ⟨-, -, -, -, -, -, -, -, -, -, -, -, -, G13⟩ := G'
 refine Go.cast (ef_53_IIIV m (10 : Int32) (18 : Int32) (34 : Int32) ε G13) ?_
 generalize hFF : EndN s _ _ _ = FF
 refine iN X0 hx 1 rfl hby d53_0 rfl ?_
 refine iN X0 hx 2 rfl hby d53_1 rfl ?_
 refine Go.ior X0 hx 3 rfl (hb hby d53_2) ?_
 rw [show ((34 : Int32) ||| (10 : Int32)) = (42 : Int32) from by decide]
 refine iN X0 hx 4 rfl hby d53_3 rfl ?_
 refine Go.ior X0 hx 5 rfl (hb hby d53_4) ?_
 rw [show ((42 : Int32) ||| (18 : Int32)) = (58 : Int32) from by decide]
 refine Go.ifNo X0 hx 8 rfl (hb hby d53_5) (by decide) ?_
 refine iN X0 hx 9 rfl hby d53_8 rfl ?_
 refine iN X0 hx 10 rfl hby d53_9 rfl ?_
 refine iN X0 hx 11 rfl hby d53_10 rfl ?_
 refine Go.isub X0 hx 12 rfl (hb hby d53_11) ?_
 rw [show ((34 : Int32) - (10 : Int32)) = (24 : Int32) from by decide]
 refine Go.icmpYes X0 hx 23 (hb hby d53_12) (by decide) (by decide) (by decide) ?_
 refine iN X0 hx 24 rfl hby d53_23 rfl ?_
 subst hFF
 refine Go.retI X0 hx hlk hret (hb hby d53_24) (by decide) (by decide) ?_
 rw [e0]
 exact ⟨rfl, (Fr.nil n0), rfl⟩
theorem au_119 (hw : HW a0 Z)   (O0 : Old Z n0 h0) (G : Glob Z α β γ δ ε ζ η) :
    Ctr l Z ⟨s1, "checkBoundsOffCount", "(III)I"⟩ B52 3 (some .int) (rM 1 0 0 15) #[.int 10, .int 18, .int 34] h0 (fun v h L => v = some (.int 10) ∧ Fr n0 L ∧ h = h0) := by
 refine Ctr.of (plainFor_of_name pn_c1) ?_
 intro p e s m below meth c T0 hx hZ hby hml hown hnm hret hlk e0 es X0
 have G' := G
 obtain ⟨-, -, -, -, -, -, -, -, -, G9, -, -, -, -⟩ := G'
 refine Go.cast (ef_52_III m (10 : Int32) (18 : Int32) (34 : Int32)) ?_
 generalize hFF : EndN s _ _ _ = FF
 refine iN X0 hx 1 rfl hby d52_0 rfl ?_
 refine iN X0 hx 2 rfl hby d52_1 rfl ?_
 refine iN X0 hx 3 rfl hby d52_2 rfl ?_
 refine Go.getS X0 hx hZ hown (host := "") (Or.inl (tw_286 hw)) Via.refl e0 (G9.ext O0.2) 6 rfl (hb hby d52_3) ?_
 intro T2 e2 X2
 refine Go.callS X2 hx hZ hown (tw_288 hw) (tw_289 hw) (tw_287 hw) (tw_290 hw) (by decide) (tw_290 hw) (tw_287 hw) (au_120 hw O0.z G) e2 (argsL := [.int 10, .int 18, .int 34, ε]) (rest := []) 9 rfl (hml ▸ rfl) (lenOf pd_33 rfl) rfl rfl (W := 0) (nE rfl) (by decide) (hb hby d52_6) ?_
 intro v3 T3 L3 q3 X3
 obtain ⟨rfl, N3, e3⟩ := q3
 show Go _ _ _ _ (T3.setTop (mkF m 9 #[vI 10, vI 18, vI 34] [.int 10]))
 subst hFF
 refine Go.retI X3 hx hlk hret (hb hby d52_9) (by decide) (by decide) ?_
 rw [e3]
 exact ⟨rfl, (Fr.app (Fr.nil n0) N3), rfl⟩
theorem au_117 (hw : HW a0 Z)   (O0 : Old Z n0 h0) (G : Glob Z α β γ δ ε ζ η) (P0 : Arv Z h0 x0 kk0 .byte (68 : Int32) ls0 (.int 0)) :
    Ctr l Z ⟨s5, "checkBoundsOffCount", "(II[B)V"⟩ B50 3 none (rM 2 0 0 29) #[.int 10, .int 18, .ref x0] h0 (fun v h L => v = none ∧ Fr n0 L ∧ h = h0) := by
 refine Ctr.of (plainFor_of_name pn_c0) fun p e s m below meth c T0 hx hZ hby hml hown hnm hret hlk e0 es X0 => Go.cast (ef_50_IIR m (10 : Int32) (18 : Int32) x0) ?_
 generalize hFF : EndN s _ _ _ = FF
 refine iN X0 hx 1 rfl hby d50_0 rfl ?_
 refine iN X0 hx 2 rfl hby d50_1 rfl ?_
 refine aN X0 hx 3 rfl hby d50_2 rfl rfl ?_
 refine Go.callS X0 hx hZ hown (tw_280 hw) (tw_281 hw) (tw_17 hw) (tw_282 hw) (by decide) (tw_282 hw) (tw_17 hw) (au_118 hw O0.z P0) e0 (argsL := [.ref x0]) (rest := [.int 18, .int 10]) 6 rfl (hml ▸ rfl) (lenOf pd_32 rfl) rfl rfl (W := 2) (nE rfl) (by decide) (hb hby d50_3) ?_
 intro v1 T1 L1 q1 X1
 obtain ⟨rfl, N1, e1⟩ := q1
 show Go _ _ _ _ (T1.setTop (mkF m 6 #[vI 10, vI 18, vR x0] [.int 34, .int 18, .int 10]))
 refine Go.callS X1 hx hZ hown (tw_283 hw) (tw_284 hw) (tw_2 hw) (tw_285 hw) (by decide) (tw_285 hw) (tw_2 hw) (au_119 hw O0 G) e1 (argsL := [.int 10, .int 18, .int 34]) (rest := []) 9 rfl (hml ▸ rfl) (lenOf pd_19 rfl) rfl rfl (W := 0) (nE rfl) (by decide) (hb hby d50_6) ?_
 intro v2 T2 L2 q2 X2
 obtain ⟨rfl, N2, e2⟩ := q2
 show Go _ _ _ _ (T2.setTop (mkF m 9 #[vI 10, vI 18, vR x0] [.int 10]))
 refine Go.pop X2 hx 10 rfl (hb hby d50_9) rfl ?_
 subst hFF
 refine Go.ret0 X2 hx hlk hret (hb hby d50_10) (by decide) (by decide) ?_
 rw [e2]
 exact ⟨rfl, (Fr.app (Fr.app (Fr.nil n0) N1) N2), rfl⟩
theorem au_116 (hw : HW a0 Z)   (O0 : Old Z n0 h0) (G : Glob Z α β γ δ ε ζ η) (P0 : Arv Z h0 x0 kk0 .byte (18 : Int32) LL5 (.int (0 : Int32))) (P1 : Arv Z h0 x1 kk1 .byte (68 : Int32) (LL15 p0 p1 p2 p3 p4 p5 p6 p7 p8 p9 p10 p11 p12 p13 p14 p15 p16 p17 p18 p19) (.int 0)) (g_x1 : n0 ≤ x1) (ne_x0_x1 : x0 ≠ x1) :
    Ctr l Z ⟨s5, "inflate", "([BI[BII)V"⟩ B49 6 none (rM 3 0 0 43) #[.ref x0, .int 0, .ref x1, .int 10, .int 18] h0 (fun v h L => v = none ∧ Fr n0 L ∧ Keep h0 h [x1] ∧ Arv Z h x1 kk1 .byte (68 : Int32) (LL11 p0 p1 p2 p3 p4 p5 p6 p7 p8 p9 p10 p11 p12 p13 p14 p15 p16 p17 p18 p19) (.int 0)) := by
 refine Ctr.of (plainFor_of_name pn_c0) ?_
 intro p e s m below meth c T0 hx hZ hby hml hown hnm hret hlk e0 es X0
 have G' := G
 obtain ⟨-, -, -, -, -, -, G6, G7, G8, -, -, -, -, -⟩ := G'
 refine Go.cast (ef_49_RIRII m x0 (0 : Int32) x1 (10 : Int32) (18 : Int32)) ?_
 generalize hFF : EndN s _ _ _ = FF
 refine iN X0 hx 1 rfl hby d49_0 rfl ?_
 refine Go.iload X0 hx 3 rfl (hb hby d49_1) rfl ?_
 refine aN X0 hx 4 rfl hby d49_3 rfl rfl ?_
 refine Go.callS X0 hx hZ hown (tw_277 hw) (tw_278 hw) (tw_17 hw) (tw_279 hw) (by decide) (tw_279 hw) (tw_17 hw) (au_117 hw O0 G P1) e0 (argsL := [.int 10, .int 18, .ref x1]) (rest := []) 7 rfl (hml ▸ rfl) (lenOf pd_34 rfl) rfl rfl (W := 0) (nE rfl) (by decide) (hb hby d49_4) ?_
 intro v1 T1 L1 q1 X1
 obtain ⟨rfl, N1, e1⟩ := q1
 refine Go.iconst X1 hx 8 rfl (hb hby d49_7) (v := (0 : Int32)) rfl ?_
 refine Go.istore X1 hx 10 rfl (hb hby d49_8) (Ls' := #[vR x0, vI 0, vR x1, vI 10, vI 18, vI 0]) rfl ?_
 have A2 : Arv Z h0 x0 kk0 .byte (18 : Int32) ((LL27 : List Int32).map own_vb ++ []) (.int 0) := by rw [show (LL27 : List Int32).map own_vb ++ ([] : List Value) = LL5 from (own_mca (by decide) (own_mca (by decide) (own_mca (by decide) (own_mca (by decide) (own_mca (by decide) (own_mca (by decide) (own_mca (by decide) (own_mca (by decide) (own_mca (by decide) (own_mca (by decide) (own_mca (by decide) (own_mca (by decide) (own_mca (by decide) (own_mca (by decide) (own_mca (by decide) (own_mca (by decide) (own_mca (by decide) (own_mca (by decide) rfl))))))))))))))))))]; exact P0
 refine lp_inf hw X1 hx hZ hby hml hown e1 O0 (Fr.app (Fr.nil n0) N1) G6 G7 G8 (by decide) (by decide) (by decide) (by decide) (cs := LL27) (off := 10) (rest := []) (pre := (LL40 p0 p1 p2 p3 p4 p5 p6 p7 p8 p9 p10 p11 p12 p13 p14 p15 p16 p17 p18 p19)) (m0 := [.int 0, .int 0, .int 0, .int 0, .int 0, .int 0, .int 0, .int 0, .int 0, .int 0, .int 0, .int 0, .int 0, .int 0, .int 0, .int 0, .int 0, .int 0, .int 0, .int 0, .int 0, .int 0, .int 0, .int 0, .int 0, .int 0, .int 0, .int 0, .int 0, .int 0, .int 0, .int 0, .int 0, .int 0, .int 0, .int 0]) (post := LL9) A2 P1 rfl rfl rfl rfl rfl rfl (own_xc (own_rlit (n := 39) (by decide)) (by decide) (by decide) (own_xc (own_rlit (n := 32) (by decide)) (by decide) (by decide) (own_xc (own_rlit (n := 105) (by decide)) (by decide) (by decide) (own_xc (own_rlit (n := 115) (by decide)) (by decide) (by decide) (own_xc (own_rlit (n := 32) (by decide)) (by decide) (by decide) (own_xc (own_rlit (n := 97) (by decide)) (by decide) (by decide) (own_xc (own_rlit (n := 108) (by decide)) (by decide) (by decide) (own_xc (own_rlit (n := 114) (by decide)) (by decide) (by decide) (own_xc (own_rlit (n := 101) (by decide)) (by decide) (by decide) (own_xc (own_rlit (n := 97) (by decide)) (by decide) (by decide) (own_xc (own_rlit (n := 100) (by decide)) (by decide) (by decide) (own_xc (own_rlit (n := 121) (by decide)) (by decide) (by decide) (own_xc (own_rlit (n := 32) (by decide)) (by decide) (by decide) (own_xc (own_rlit (n := 116) (by decide)) (by decide) (by decide) (own_xc (own_rlit (n := 97) (by decide)) (by decide) (by decide) (own_xc (own_rlit (n := 107) (by decide)) (by decide) (by decide) (own_xc (own_rlit (n := 101) (by decide)) (by decide) (by decide) (own_xc (own_rlit (n := 110) (by decide)) (by decide) (by decide) own_x0)))))))))))))))))) g_x1 ne_x0_x1 ?_
 intro T2 h2 L2 e2 X2 N2 K2 V2
 have E2 : ((LL40 p0 p1 p2 p3 p4 p5 p6 p7 p8 p9 p10 p11 p12 p13 p14 p15 p16 p17 p18 p19) : List Value) ++ (own_u16 LL27 ++ LL9) = (LL11 p0 p1 p2 p3 p4 p5 p6 p7 p8 p9 p10 p11 p12 p13 p14 p15 p16 p17 p18 p19) := congrArg (fun t => ((LL40 p0 p1 p2 p3 p4 p5 p6 p7 p8 p9 p10 p11 p12 p13 p14 p15 p16 p17 p18 p19) : List Value) ++ t) ((own_uc (by decide) (by decide) (own_uc (by decide) (by decide) (own_uc (by decide) (by decide) (own_uc (by decide) (by decide) (own_uc (by decide) (by decide) (own_uc (by decide) (by decide) (own_uc (by decide) (by decide) (own_uc (by decide) (by decide) (own_uc (by decide) (by decide) (own_uc (by decide) (by decide) (own_uc (by decide) (by decide) (own_uc (by decide) (by decide) (own_uc (by decide) (by decide) (own_uc (by decide) (by decide) (own_uc (by decide) (by decide) (own_uc (by decide) (by decide) (own_uc (by decide) (by decide) (own_uc (by decide) (by decide) rfl)))))))))))))))))) : own_u16 LL27 ++ LL9 = [.int 39, .int 0, .int 32, .int 0, .int 105, .int 0, .int 115, .int 0, .int 32, .int 0, .int 97, .int 0, .int 108, .int 0, .int 114, .int 0, .int 101, .int 0, .int 97, .int 0, .int 100, .int 0, .int 121, .int 0, .int 32, .int 0, .int 116, .int 0, .int 97, .int 0, .int 107, .int 0, .int 101, .int 0, .int 110, .int 0, .int 0, .int 0, .int 0, .int 0, .int 0, .int 0, .int 0, .int 0, .int 0, .int 0, .int 0, .int 0])
 have U2 : Arv Z h2 x1 kk1 .byte (68 : Int32) (LL11 p0 p1 p2 p3 p4 p5 p6 p7 p8 p9 p10 p11 p12 p13 p14 p15 p16 p17 p18 p19) (.int 0) := by rw [← E2]; exact V2
 show Go _ _ _ _ (T2.setTop (mkF m 41 #[vR x0, vI 18, vR x1, vI 28, vI 18, vI 18] []))
 subst hFF
 refine Go.ret0 X2 hx hlk hret (hb hby d49_41) (by decide) (by decide) ?_
 rw [e2]
 exact ⟨rfl, N2, ((Keep.refl h0 [x1]).trans K2 (allS (Or.inl (mG 0 rfl)) all0)), U2⟩
theorem au_115 (hw : HW a0 Z)   (O0 : Old Z n0 h0) (G : Glob Z α β γ δ ε ζ η) (P0 : Arv Z h0 x0 kk0 .byte (18 : Int32) LL5 (.int (0 : Int32))) (P1 : Arv Z h0 x1 kk1 .byte (68 : Int32) (LL15 p0 p1 p2 p3 p4 p5 p6 p7 p8 p9 p10 p11 p12 p13 p14 p15 p16 p17 p18 p19) (.int 0)) (g_x1 : n0 ≤ x1) (ne_x0_x1 : x0 ≠ x1) :
    Ctr l Z ⟨"java/lang/StringLatin1", "inflate", "([BI[BII)V"⟩ B48 5 none (rM 4 0 0 60) #[.ref x0, .int 0, .ref x1, .int 10, .int 18] h0 (fun v h L => v = none ∧ Fr n0 L ∧ Keep h0 h [x1] ∧ Arv Z h x1 kk1 .byte (68 : Int32) (LL11 p0 p1 p2 p3 p4 p5 p6 p7 p8 p9 p10 p11 p12 p13 p14 p15 p16 p17 p18 p19) (.int 0)) := by
 refine Ctr.of (plainFor_of_name pn_c10) fun p e s m below meth c T0 hx hZ hby hml hown hnm hret hlk e0 es X0 => Go.cast (ef_48_RIRII m x0 (0 : Int32) x1 (10 : Int32) (18 : Int32)) ?_
 generalize hFF : EndN s _ _ _ = FF
 refine aN X0 hx 1 rfl hby d48_0 rfl rfl ?_
 refine iN X0 hx 2 rfl hby d48_1 rfl ?_
 refine aN X0 hx 3 rfl hby d48_2 rfl rfl ?_
 refine iN X0 hx 4 rfl hby d48_3 rfl ?_
 refine Go.iload X0 hx 6 rfl (hb hby d48_4) rfl ?_
 refine Go.callS X0 hx hZ hown (tw_274 hw) (tw_275 hw) (tw_17 hw) (tw_276 hw) (by decide) (tw_276 hw) (tw_17 hw) (au_116 hw O0 G P0 P1 g_x1 ne_x0_x1) e0 (argsL := [.ref x0, .int 0, .ref x1, .int 10, .int 18]) (rest := []) 9 rfl (hml ▸ rfl) (lenOf pd_35 rfl) rfl rfl (W := 0) (nE rfl) (by decide) (hb hby d48_6) ?_
 intro v1 T1 L1 q1 X1
 obtain ⟨h1, e1⟩ := hpz T1
 rw [e1] at q1
 obtain ⟨rfl, N1, K1, F1_0⟩ := q1
 subst hFF
 refine Go.ret0 X1 hx hlk hret (hb hby d48_9) (by decide) (by decide) ?_
 rw [e1]
 exact ⟨rfl, (Fr.app (Fr.nil n0) N1), ((Keep.refl h0 [x1]).trans K1 (allS (Or.inl (mG 0 rfl)) all0)), F1_0⟩
theorem d17_40 : DD B17 40 (.invokestatic 106, 3) := by decide +kernel
theorem au_114 (hw : HW a0 Z)   (O0 : Old Z n0 h0) (G : Glob Z α β γ δ ε ζ η) (P0 : Exa Z h0 x0 s1) (P1 : f0_ Z h0 x0 (.int 0)) (P2 : f2_ Z h0 x0 (.ref x2)) (P3 : Arv Z h0 x1 kk0 .byte (68 : Int32) (LL15 p0 p1 p2 p3 p4 p5 p6 p7 p8 p9 p10 p11 p12 p13 p14 p15 p16 p17 p18 p19) (.int 0)) (P5 : Arv Z h0 x2 kk1 .byte (18 : Int32) LL5 (.int (0 : Int32))) (g_x1 : n0 ≤ x1) (ne_x2_x1 : x2 ≠ x1) :
    Ctr l Z ⟨s1, "getBytes", "([BIB)V"⟩ B17 4 none (rM 5 0 0 76) #[.ref x0, .ref x1, .int 10, .int 1] h0 (fun v h L => v = none ∧ Fr n0 L ∧ Keep h0 h [x1] ∧ Arv Z h x1 kk0 .byte (68 : Int32) (LL11 p0 p1 p2 p3 p4 p5 p6 p7 p8 p9 p10 p11 p12 p13 p14 p15 p16 p17 p18 p19) (.int 0)) := by
 refine Ctr.of (plainFor_of_name pn_c1) fun p e s m below meth c T0 hx hZ hby hml hown hnm hret hlk e0 es X0 => Go.cast (ef_17_RRII m x0 x1 (10 : Int32) (1 : Int32)) ?_
 generalize hFF : EndN s _ _ _ = FF
 refine aN X0 hx 1 rfl hby d17_0 rfl rfl ?_
 refine Go.callV X0 hx hZ hown (tw_74 hw) (tw_75 hw) (nF (mvT hZ (tw_77 hw))) (tw_77 hw) (tw_76 hw) (by decide) (tw_78 hw) (tw_2 hw) (au_24 hw O0 G P1) e0 P0 (argsL := []) (rest := []) 4 rfl (hml ▸ rfl) (lenOf pd_11 rfl) rfl rfl (W := 0) (nE rfl) (by decide) (hb hby d17_1) ?_
 intro v1 T1 L1 q1 X1
 obtain ⟨rfl, N1, e1⟩ := q1
 show Go _ _ _ _ (T1.setTop (mkF m 4 #[vR x0, vR x1, vI 10, vI 1] [.int 0]))
 refine iN X1 hx 5 rfl hby d17_4 rfl ?_
 refine Go.icmpYes X1 hx 28 (hb hby d17_5) (by decide) (by decide) (by decide) ?_
 refine aN X1 hx 29 rfl hby d17_28 rfl rfl ?_
 refine gF X1 hx hZ hown (tw_28 hw) e1 P2 32 rfl (hb hby d17_29) ?_
 intro T2 e2 X2
 refine Go.iconst X2 hx 33 rfl (hb hby d17_32) (v := (0 : Int32)) rfl ?_
 refine aN X2 hx 34 rfl hby d17_33 rfl rfl ?_
 refine iN X2 hx 35 rfl hby d17_34 rfl ?_
 refine aN X2 hx 36 rfl hby d17_35 rfl rfl ?_
 refine gF X2 hx hZ hown (tw_28 hw) e2 P2 39 rfl (hb hby d17_36) ?_
 intro T3 e3 X3
 refine Go.arraylength X3 hx hZ e3 P5 40 rfl (hb hby d17_39) ?_
 refine Go.callS X3 hx hZ hown (tw_291 hw) (tw_272 hw) (tw_243 hw) (tw_273 hw) (by decide) (tw_273 hw) (tw_243 hw) (au_115 hw O0 G P5 P3 g_x1 ne_x2_x1) e3 (argsL := [.ref x2, .int 0, .ref x1, .int 10, .int 18]) (rest := []) 43 rfl (hml ▸ rfl) (lenOf pd_35 rfl) rfl rfl (W := 0) (nE rfl) (by decide) (hb hby d17_40) ?_
 intro v4 T4 L4 q4 X4
 obtain ⟨h4, e4⟩ := hpz T4
 rw [e4] at q4
 obtain ⟨rfl, N4, K4, F4_0⟩ := q4
 subst hFF
 refine Go.ret0 X4 hx hlk hret (hb hby d17_43) (by decide) (by decide) ?_
 rw [e4]
 exact ⟨rfl, (Fr.app (Fr.app (Fr.nil n0) N1) N4), ((Keep.refl h0 [x1]).trans K4 (allS (Or.inl (mG 0 rfl)) all0)), F4_0⟩
theorem au_110 (hw : HW a0 Z)   (O0 : Old Z n0 h0) (G : Glob Z α β γ δ ε ζ η) (P0 : Exa Z h0 x0 s3) (P1 : f1_ Z h0 x0 (.int 1)) (P4 : f3_ Z h0 x0 (.ref x2)) (P5 : Exa Z h0 x1 s1) (P6 : f0_ Z h0 x1 (.int 0)) (P7 : f2_ Z h0 x1 (.ref x3)) (P8 : Arv Z h0 x2 kk0 .byte (68 : Int32) (LL15 p0 p1 p2 p3 p4 p5 p6 p7 p8 p9 p10 p11 p12 p13 p14 p15 p16 p17 p18 p19) (.int 0)) (P10 : Arv Z h0 x3 kk1 .byte (18 : Int32) LL5 (.int (0 : Int32))) (g_x2 : n0 ≤ x2) (ne_x3_x2 : x3 ≠ x2) :
    Ctr l Z ⟨s0, "putStringAt", "(ILjava/lang/String;)V"⟩ B15 3 none (rM 6 0 0 91) #[.ref x0, .int 10, .ref x1] h0 (fun v h L => v = none ∧ Fr n0 L ∧ Keep h0 h [x2] ∧ Arv Z h x2 kk0 .byte (68 : Int32) (LL11 p0 p1 p2 p3 p4 p5 p6 p7 p8 p9 p10 p11 p12 p13 p14 p15 p16 p17 p18 p19) (.int 0)) := by
 refine Ctr.of (plainFor_of_name pn_c2) fun p e s m below meth c T0 hx hZ hby hml hown hnm hret hlk e0 es X0 => Go.cast (ef_15_RIR m x0 (10 : Int32) x1) ?_
 generalize hFF : EndN s _ _ _ = FF
 refine aN X0 hx 1 rfl hby d15_0 rfl rfl ?_
 refine aN X0 hx 2 rfl hby d15_1 rfl rfl ?_
 refine Go.callP X0 hx hZ hown (tw_91 hw) (tw_92 hw) (tw_94 hw) (tw_93 hw) (tw_95 hw) (by decide) (tw_95 hw) (tw_50 hw) (au_111 hw O0 G P0 P1 P5 P6) e0 P0 (argsL := [.ref x1]) (rest := []) 5 rfl (hml ▸ rfl) (lenOf pd_13 rfl) rfl rfl (W := 0) (nE rfl) (by decide) (hb hby d15_2) ?_
 intro v1 T1 L1 q1 X1
 obtain ⟨rfl, N1, e1⟩ := q1
 refine aN X1 hx 6 rfl hby d15_5 rfl rfl ?_
 refine aN X1 hx 7 rfl hby d15_6 rfl rfl ?_
 refine gF X1 hx hZ hown (tw_54 hw) e1 P4 10 rfl (hb hby d15_7) ?_
 intro T2 e2 X2
 refine iN X2 hx 11 rfl hby d15_10 rfl ?_
 refine aN X2 hx 12 rfl hby d15_11 rfl rfl ?_
 refine gF X2 hx hZ hown (tw_56 hw) e2 P1 15 rfl (hb hby d15_12) ?_
 intro T3 e3 X3
 refine Go.callV X3 hx hZ hown (tw_97 hw) (tw_98 hw) (nF (mvT hZ (tw_100 hw))) (tw_100 hw) (tw_99 hw) (by decide) (tw_101 hw) (tw_2 hw) (au_114 hw O0 G P5 P6 P7 P8 P10 g_x2 ne_x3_x2) e3 P5 (argsL := [.ref x2, .int 10, .int 1]) (rest := []) 18 rfl (hml ▸ rfl) (lenOf pd_14 rfl) rfl rfl (W := 0) (nE rfl) (by decide) (hb hby d15_15) ?_
 intro v4 T4 L4 q4 X4
 obtain ⟨h4, e4⟩ := hpz T4
 rw [e4] at q4
 obtain ⟨rfl, N4, K4, F4_0⟩ := q4
 subst hFF
 refine Go.ret0 X4 hx hlk hret (hb hby d15_18) (by decide) (by decide) ?_
 rw [e4]
 exact ⟨rfl, (Fr.app (Fr.app (Fr.nil n0) N1) N4), ((Keep.refl h0 [x2]).trans K4 (allS (Or.inl (mG 0 rfl)) all0)), F4_0⟩
theorem au_103 (hw : HW a0 Z)   (O0 : Old Z n0 h0) (G : Glob Z α β γ δ ε ζ η) (P0 : Exa Z h0 x0 s3) (P1 : f1_ Z h0 x0 (.int 1)) (P2 : f4_ Z h0 x0 (.int 10)) (P3 : f5_ Z h0 x0 (.int 0)) (P4 : f3_ Z h0 x0 (.ref x2)) (P5 : Exa Z h0 x1 s1) (P6 : f0_ Z h0 x1 (.int 0)) (P7 : f2_ Z h0 x1 (.ref x3)) (P8 : Arv Z h0 x2 kk0 .byte (32 : Int32) (LL26 p0 p1 p2 p3 p4 p5 p6 p7 p8 p9 p10 p11 p12 p13 p14 p15 p16 p17 p18 p19) (.int 0)) (P10 : Arv Z h0 x3 kk1 .byte (18 : Int32) LL5 (.int (0 : Int32))) (g_x0 : n0 ≤ x0) (ne_x1_x0 : x1 ≠ x0) (ne_x3_x0 : x3 ≠ x0) :
    Ctr l Z ⟨s0, "append", s11⟩ B11 3 (some (.object s0)) (rM 7 1 68 105) #[.ref x0, .ref x1] h0 (fun v h L => ∃ (y0 : Addr) (y1 : ClassId), v = some (.ref x0) ∧ Fr n0 L ∧ Keep h0 h [x0] ∧ h0.size ≤ y0 ∧ f1_ Z h x0 (.int 1) ∧ f4_ Z h x0 (.int 28) ∧ f5_ Z h x0 (.int 0) ∧ f3_ Z h x0 (.ref y0) ∧ Arv Z h y0 y1 .byte (68 : Int32) (LL11 p0 p1 p2 p3 p4 p5 p6 p7 p8 p9 p10 p11 p12 p13 p14 p15 p16 p17 p18 p19) (.int 0) ∧ Exa Z h y0 "[B") := by
 refine Ctr.of (plainFor_of_name pn_c2) fun p e s m below meth c T0 hx hZ hby hml hown hnm hret hlk e0 es X0 => Go.cast (ef_11_RR m x0 x1) ?_
 generalize hFF : EndN s _ _ _ = FF
 refine aN X0 hx 1 rfl hby d11_0 rfl rfl ?_
 refine Go.ifnonnullYes X0 hx 9 (hb hby d11_1) (by decide) (by decide) ?_
 refine aN X0 hx 10 rfl hby d11_9 rfl rfl ?_
 refine Go.callV X0 hx hZ hown (tw_69 hw) (tw_70 hw) (nF (mvT hZ (tw_72 hw))) (tw_72 hw) (tw_71 hw) (by decide) (tw_73 hw) (tw_2 hw) (au_51 hw O0 G P5 P6 P7 P10) e0 P5 (argsL := []) (rest := []) 13 rfl (hml ▸ rfl) (lenOf pd_12 rfl) rfl rfl (W := 0) (nE rfl) (by decide) (hb hby d11_10) ?_
 intro v1 T1 L1 q1 X1
 obtain ⟨rfl, N1, e1⟩ := q1
 show Go _ _ _ _ (T1.setTop (mkF m 13 #[vR x0, vR x1, uS] [.int 18]))
 refine Go.istoreN X1 hx 14 rfl (hb hby d11_13) (Ls' := #[vR x0, vR x1, vI 18]) rfl ?_
 refine aN X1 hx 15 rfl hby d11_14 rfl rfl ?_
 refine aN X1 hx 16 rfl hby d11_15 rfl rfl ?_
 refine gF X1 hx hZ hown (tw_79 hw) e1 P2 19 rfl (hb hby d11_16) ?_
 intro T2 e2 X2
 refine iN X2 hx 20 rfl hby d11_19 rfl ?_
 refine Go.iadd X2 hx 21 rfl (hb hby d11_20) ?_
 rw [show ((10 : Int32) + (18 : Int32)) = (28 : Int32) from by decide]
 refine Go.callP X2 hx hZ hown (tw_81 hw) (tw_82 hw) (tw_84 hw) (tw_83 hw) (tw_85 hw) (by decide) (tw_85 hw) (tw_50 hw) (au_104 hw O0.z P0 P1 P2 P3 P4 P8 g_x0) e2 P0 (argsL := [.int 28]) (rest := []) 24 rfl (hml ▸ rfl) (lenOf pd_9 rfl) rfl rfl (W := 0) (nE rfl) (by decide) (hb hby d11_21) ?_
 intro v3 T3 L3 q3 X3
 obtain ⟨h3, e3⟩ := hpz T3
 rw [e3] at q3
 obtain ⟨b3_0, k3_0, rfl, N3, K3, s3_0, F3_0, F3_1, F3_2, F3_3, F3_4, F3_5⟩ := q3
 refine aN X3 hx 25 rfl hby d11_24 rfl rfl ?_
 refine aN X3 hx 26 rfl hby d11_25 rfl rfl ?_
 refine gF X3 hx hZ hown (tw_79 hw) e3 F3_1 29 rfl (hb hby d11_26) ?_
 intro T4 e4 X4
 refine aN X4 hx 30 rfl hby d11_29 rfl rfl ?_
 have fk6 := (P0.keep K3)
 have sz12 := Nat.le_trans (Keep.refl h0 [x0]).1 s3_0
 refine Go.callP X4 hx hZ hown (tw_86 hw) (tw_87 hw) (tw_89 hw) (tw_88 hw) (tw_90 hw) (by decide) (tw_90 hw) (tw_50 hw) (au_110 hw (O0.keep K3 (allS g_x0 all0)) G fk6 F3_0 F3_3 (P5.keep K3) (P6.keep K3 (ninS ne_x1_x0 nin0)) (P7.keep K3 (ninS ne_x1_x0 nin0)) F3_4 (P10.keep K3 (ninS ne_x3_x0 nin0)) (Nat.le_trans O0.z sz12) (Nat.ne_of_lt (Nat.lt_of_lt_of_le P10.lt s3_0))) e4 fk6 (argsL := [.int 10, .ref x1]) (rest := []) 33 rfl (hml ▸ rfl) (lenOf pd_15 rfl) rfl rfl (W := 0) (nE rfl) (by decide) (hb hby d11_30) ?_
 intro v14 T14 L14 q14 X14
 obtain ⟨h14, e14⟩ := hpz T14
 rw [e14] at q14
 obtain ⟨rfl, N14, K14, F14_0⟩ := q14
 refine aN X14 hx 34 rfl hby d11_33 rfl rfl ?_
 refine Go.dup X14 hx 35 rfl (hb hby d11_34) rfl ?_
 have ne15 := Nat.ne_of_lt (Nat.lt_of_lt_of_le P0.lt s3_0)
 have fk16 := (F3_1.keep K14 (ninS ne15 nin0))
 refine gF X14 hx hZ hown (tw_79 hw) e14 fk16 38 rfl (hb hby d11_35) ?_
 intro T17 e17 X17
 refine iN X17 hx 39 rfl hby d11_38 rfl ?_
 refine Go.iadd X17 hx 40 rfl (hb hby d11_39) ?_
 rw [show ((10 : Int32) + (18 : Int32)) = (28 : Int32) from by decide]
 refine Go.putF X17 hx hZ hown (host := "") (Or.inl (tw_79 hw)) Via.refl e17 fk16 (fk6.keep K14) (Or.inl (tw_80 hw)) (tw_41 hw) (ty := .int) (by decide) rfl rfl 43 rfl (hb hby d11_40) ?_
 intro T19 h19 e19 W19 F19 X19
 have N19 := Fr.snoc X19 (Fr.app (Fr.app (Fr.app (Fr.nil n0) N1) N3) N14) g_x0
 refine aN X19 hx 44 rfl hby d11_43 rfl rfl ?_
 subst hFF
 refine Go.retR X19 hx hlk (t := (.object s0)) hret rfl rfl (hb hby d11_44) (by decide) (by decide) ?_
 rw [e19]
 exact ⟨b3_0, k3_0, rfl, N19, ((((Keep.refl h0 [x0]).trans K3 (allS (Or.inl (mG 0 rfl)) all0)).trans K14 (allS (Or.inr sz12) all0)).wr W19 (Or.inl (mG 0 rfl))), sz12, ((F3_0.keep K14 (ninS ne15 nin0)).other W19 (Or.inr (slot_ne (Or.inl (tw_57 hw)) (Or.inl (tw_80 hw)) (by decide) (t := .byte) (t' := .int) (by decide) (by decide)))), F19, ((F3_2.keep K14 (ninS ne15 nin0)).other W19 (Or.inr (slot_ne (Or.inl (tw_293 hw)) (Or.inl (tw_80 hw)) (by decide) (t := .boolean) (t' := .int) (by decide) (by decide)))), ((F3_3.keep K14 (ninS ne15 nin0)).other W19 (Or.inr (slot_ne (Or.inl (tw_55 hw)) (Or.inl (tw_80 hw)) (by decide) (t := (.array .byte)) (t' := .int) (by decide) (by decide)))), (F14_0.other W19 (Ne.symm ne15)), ((F3_5.keep K14).wr W19)⟩
theorem au_102 (hw : HW a0 Z)   (O0 : Old Z n0 h0) (G : Glob Z α β γ δ ε ζ η) (P0 : Exa Z h0 x0 s3) (P1 : f1_ Z h0 x0 (.int 1)) (P2 : f4_ Z h0 x0 (.int 10)) (P3 : f5_ Z h0 x0 (.int 0)) (P4 : f3_ Z h0 x0 (.ref x2)) (P5 : Exa Z h0 x1 s1) (P6 : f0_ Z h0 x1 (.int 0)) (P7 : f2_ Z h0 x1 (.ref x3)) (P8 : Arv Z h0 x2 kk0 .byte (32 : Int32) (LL26 p0 p1 p2 p3 p4 p5 p6 p7 p8 p9 p10 p11 p12 p13 p14 p15 p16 p17 p18 p19) (.int 0)) (P10 : Arv Z h0 x3 kk1 .byte (18 : Int32) LL5 (.int (0 : Int32))) (g_x0 : n0 ≤ x0) (ne_x1_x0 : x1 ≠ x0) (ne_x3_x0 : x3 ≠ x0) :
    Ctr l Z ⟨s3, "append", s10⟩ B10 2 (some (.object s3)) (rM 8 1 68 119) #[.ref x0, .ref x1] h0 (fun v h L => ∃ (y0 : Addr) (y1 : ClassId), v = some (.ref x0) ∧ Fr n0 L ∧ Keep h0 h [x0] ∧ h0.size ≤ y0 ∧ f1_ Z h x0 (.int 1) ∧ f4_ Z h x0 (.int 28) ∧ f5_ Z h x0 (.int 0) ∧ f3_ Z h x0 (.ref y0) ∧ Arv Z h y0 y1 .byte (68 : Int32) (LL11 p0 p1 p2 p3 p4 p5 p6 p7 p8 p9 p10 p11 p12 p13 p14 p15 p16 p17 p18 p19) (.int 0) ∧ Exa Z h y0 "[B") := by
 refine Ctr.of (plainFor_of_name pn_c3) fun p e s m below meth c T0 hx hZ hby hml hown hnm hret hlk e0 es X0 => Go.cast (ef_10_RR m x0 x1) ?_
 generalize hFF : EndN s _ _ _ = FF
 refine aN X0 hx 1 rfl hby d10_0 rfl rfl ?_
 refine aN X0 hx 2 rfl hby d10_1 rfl rfl ?_
 refine Go.callUp X0 hx hZ hown (tw_64 hw) (own_sameself (tw_84 hw) rfl (tw_65 hw) (by decide)) (tw_65 hw) (tw_66 hw) (by decide) (tw_68 hw) (tw_68 hw) (tw_50 hw) (au_103 hw O0 G P0 P1 P2 P3 P4 P5 P6 P7 P8 P10 g_x0 ne_x1_x0 ne_x3_x0) e0 P0 (argsL := [.ref x1]) (rest := []) 5 rfl (hml ▸ rfl) (lenOf pd_16 rfl) rfl rfl (W := 0) (nE rfl) (by decide) (hb hby d10_2) ?_
 intro v1 T1 L1 q1 X1
 obtain ⟨h1, e1⟩ := hpz T1
 rw [e1] at q1
 obtain ⟨b1_0, k1_0, rfl, N1, K1, s1_0, F1_0, F1_1, F1_2, F1_3, F1_4, F1_5⟩ := q1
 show Go _ _ _ _ (T1.setTop (mkF m 5 #[vR x0, vR x1] [.ref x0]))
 refine Go.pop X1 hx 6 rfl (hb hby d10_5) rfl ?_
 refine aN X1 hx 7 rfl hby d10_6 rfl rfl ?_
 subst hFF
 refine Go.retR X1 hx hlk (t := (.object s3)) hret rfl rfl (hb hby d10_7) (by decide) (by decide) ?_
 rw [e1]
 exact ⟨b1_0, k1_0, rfl, (Fr.app (Fr.nil n0) N1), ((Keep.refl h0 [x0]).trans K1 (allS (Or.inl (mG 0 rfl)) all0)), (Nat.le_trans (Keep.refl h0 [x0]).1 s1_0), F1_0, F1_1, F1_2, F1_3, F1_4, F1_5⟩
theorem au_124 (hw : HW a0 Z)  (Z0 : n0 ≤ h0.size) (P4 : f3_ Z h0 x0 (.ref x1)) :
    Ctr l Z ⟨s0, "getValue", "()[B"⟩ B26 1 (some (.array .byte)) (rM 0 0 0 0) #[.ref x0] h0 (fun v h L => v = some (.ref x1) ∧ Fr n0 L ∧ h = h0) := by
 refine Ctr.of (plainFor_of_name pn_c2) fun p e s m below meth c T0 hx hZ hby hml hown hnm hret hlk e0 es X0 => Go.cast (ef_26_R m x0) ?_
 generalize hFF : EndN s _ _ _ = FF
 refine aN X0 hx 1 rfl hby d26_0 rfl rfl ?_
 refine gF X0 hx hZ hown (tw_54 hw) e0 P4 4 rfl (hb hby d26_1) ?_
 intro T1 e1 X1
 subst hFF
 refine Go.retR X1 hx hlk (t := (.array .byte)) hret rfl rfl (hb hby d26_4) (by decide) (by decide) ?_
 rw [e1]
 exact ⟨rfl, (Fr.nil n0), rfl⟩
theorem au_126 (hw : HW a0 Z)  (Z0 : n0 ≤ h0.size) (P2 : f4_ Z h0 x0 (.int 28)) :
    Ctr l Z ⟨s0, "length", "()I"⟩ B28 1 (some .int) (rM 0 0 0 0) #[.ref x0] h0 (fun v h L => v = some (.int 28) ∧ Fr n0 L ∧ h = h0) := by
 refine Ctr.of (plainFor_of_name pn_c2) fun p e s m below meth c T0 hx hZ hby hml hown hnm hret hlk e0 es X0 => Go.cast (ef_28_R m x0) ?_
 generalize hFF : EndN s _ _ _ = FF
 refine aN X0 hx 1 rfl hby d28_0 rfl rfl ?_
 refine gF X0 hx hZ hown (tw_79 hw) e0 P2 4 rfl (hb hby d28_1) ?_
 intro T1 e1 X1
 subst hFF
 refine Go.retI X1 hx hlk hret (hb hby d28_4) (by decide) (by decide) ?_
 rw [e1]
 exact ⟨rfl, (Fr.nil n0), rfl⟩
theorem au_125 (hw : HW a0 Z)  (Z0 : n0 ≤ h0.size) (P0 : Exa Z h0 x0 s3) (P2 : f4_ Z h0 x0 (.int 28)) :
    Ctr l Z ⟨s3, "length", "()I"⟩ B27 1 (some .int) (rM 1 0 0 12) #[.ref x0] h0 (fun v h L => v = some (.int 28) ∧ Fr n0 L ∧ h = h0) := by
 refine Ctr.of (plainFor_of_name pn_c3) fun p e s m below meth c T0 hx hZ hby hml hown hnm hret hlk e0 es X0 => Go.cast (ef_27_R m x0) ?_
 generalize hFF : EndN s _ _ _ = FF
 refine aN X0 hx 1 rfl hby d27_0 rfl rfl ?_
 refine Go.callUp X0 hx hZ hown (tw_154 hw) (own_sameself (tw_84 hw) rfl (tw_150 hw) (by decide)) (tw_150 hw) (tw_66 hw) (by decide) (tw_155 hw) (tw_155 hw) (tw_50 hw) (au_126 hw Z0 P2) e0 P0 (argsL := []) (rest := []) 4 rfl (hml ▸ rfl) (lenOf pd_12 rfl) rfl rfl (W := 0) (nE rfl) (by decide) (hb hby d27_1) ?_
 intro v1 T1 L1 q1 X1
 obtain ⟨rfl, N1, e1⟩ := q1
 show Go _ _ _ _ (T1.setTop (mkF m 4 #[vR x0] [.int 28]))
 subst hFF
 refine Go.retI X1 hx hlk hret (hb hby d27_4) (by decide) (by decide) ?_
 rw [e1]
 exact ⟨rfl, (Fr.app (Fr.nil n0) N1), rfl⟩
theorem au_127 (hw : HW a0 Z)   (O0 : Old Z n0 h0) (G : Glob Z α β γ δ ε ζ η) (P1 : f1_ Z h0 x0 (.int 1)) :
    Ctr l Z ⟨s0, "isLatin1", "()Z"⟩ B29 1 (some .boolean) (rM 0 0 0 0) #[.ref x0] h0 (fun v h L => v = some (.int 0) ∧ Fr n0 L ∧ h = h0) := by
 refine Ctr.of (plainFor_of_name pn_c2) ?_
 intro p e s m below meth c T0 hx hZ hby hml hown hnm hret hlk e0 es X0
 have G' := G
 obtain ⟨G0, -, -, -, -, -, -, -, -, -, -, -, G12, -⟩ := G'
 refine Go.cast (ef_29_R m x0) ?_
 generalize hFF : EndN s _ _ _ = FF
 refine Go.getS X0 hx hZ hown (host := "") (Or.inl (tw_53 hw)) Via.refl e0 (G0.ext O0.2) 3 rfl (hb hby d29_0) ?_
 intro T2 e2 X2
 refine Go.ifNo X2 hx 6 rfl (hb hby d29_3) (feq G12).1 ?_
 refine aN X2 hx 7 rfl hby d29_6 rfl rfl ?_
 refine gF X2 hx hZ hown (tw_56 hw) e2 P1 10 rfl (hb hby d29_7) ?_
 intro T3 e3 X3
 refine Go.ifYes X3 hx 17 (hb hby d29_10) (by decide) (by decide) (by decide) ?_
 refine Go.iconst X3 hx 18 rfl (hb hby d29_17) (v := (0 : Int32)) rfl ?_
 subst hFF
 refine Go.retN X3 hx hlk (t := .boolean) hret (by simp) (hb hby d29_18) (by decide) (by decide) ?_
 rw [e3]
 exact ⟨(congrArg (fun z => some (Value.int z)) (by decide : nar .boolean (0 : Int32) = (0 : Int32))), (Fr.nil n0), rfl⟩
theorem d25_41 : DD B25 41 (.getstatic 38, 3) := by decide +kernel
theorem d25_44 : DD B25 44 (.ifCond .eq 35, 3) := by decide +kernel
theorem d25_47 : DD B25 47 (.aload_n 1, 1) := by decide +kernel
theorem d25_48 : DD B25 48 (.getfield 1048, 3) := by decide +kernel
theorem d25_51 : DD B25 51 (.ifCond .eq 28, 3) := by decide +kernel
theorem d25_79 : DD B25 79 (.aload_n 0, 1) := by decide +kernel
theorem d25_80 : DD B25 80 (.iconst 1, 1) := by decide +kernel
theorem d25_81 : DD B25 81 (.putfield 15, 3) := by decide +kernel
theorem d25_84 : DD B25 84 (.aload_n 0, 1) := by decide +kernel
theorem d25_85 : DD B25 85 (.aload_n 3, 1) := by decide +kernel
theorem d25_86 : DD B25 86 (.iconst 0, 1) := by decide +kernel
theorem d25_87 : DD B25 87 (.iload 4, 2) := by decide +kernel
theorem d25_89 : DD B25 89 (.iconst 1, 1) := by decide +kernel
theorem d25_90 : DD B25 90 (.ishl, 1) := by decide +kernel
theorem au_130 (hw : HW a0 Z)  (Z0 : n0 ≤ h0.size) :
    Ctr l Z ⟨"java/util/Arrays", "checkLength", "(II)V"⟩ B32 2 none (rM 0 0 0 0) #[.int 0, .int 56] h0 (fun v h L => v = none ∧ Fr n0 L ∧ h = h0) := by
 refine Ctr.of (plainFor_of_name pn_c5) fun p e s m below meth c T0 hx hZ hby hml hown hnm hret hlk e0 es X0 => Go.cast (ef_32_II m (0 : Int32) (56 : Int32)) ?_
 generalize hFF : EndN s _ _ _ = FF
 refine iN X0 hx 1 rfl hby d32_0 rfl ?_
 refine iN X0 hx 2 rfl hby d32_1 rfl ?_
 refine Go.icmpYes X0 hx 37 (hb hby d32_2) (by decide) (by decide) (by decide) ?_
 subst hFF
 refine Go.ret0 X0 hx hlk hret (hb hby d32_37) (by decide) (by decide) ?_
 rw [e0]
 exact ⟨rfl, (Fr.nil n0), rfl⟩
theorem au_131 (hw : HW a0 Z)  (Z0 : n0 ≤ h0.size) :
    Ctr l Z ⟨"java/lang/Math", "min", "(II)I"⟩ B22 2 (some .int) (rM 0 0 0 0) #[.int 68, .int 56] h0 (fun v h L => v = some (.int 56) ∧ Fr n0 L ∧ h = h0) := by
 refine Ctr.of (Jvm.Free.JP.mathPlain rfl (by decide +kernel)) ?_
 intro p e s m below meth c T0 hx hZ hby hml hown hnm hret hlk e0 es X0
 refine Go.cast (ef_22_II m (68 : Int32) (56 : Int32)) ?_
 generalize hFF : EndN s _ _ _ = FF
 refine iN X0 hx 1 rfl hby d22_0 rfl ?_
 refine iN X0 hx 2 rfl hby d22_1 rfl ?_
 refine Go.icmpYes X0 hx 9 (hb hby d22_2) (by decide) (by decide) (by decide) ?_
 refine iN X0 hx 10 rfl hby d22_9 rfl ?_
 subst hFF
 refine Go.retI X0 hx hlk hret (hb hby d22_10) (by decide) (by decide) ?_
 rw [e0]
 exact ⟨rfl, (Fr.nil n0), rfl⟩
theorem au_129 (hw : HW a0 Z)  (Z0 : n0 ≤ h0.size) (P0 : Arv Z h0 x0 kk0 .byte (68 : Int32) (LL28 p0 p1 p2 p3 p4 p5 p6 p7 p8 p9 p10 p11 p12 p13 p14 p15 p16 p17 p18 p19 p20 p21 p22 p23 p24 p25 p26 p27 p28 p29 p30 p31 p32 p33 p34 p35 p36 p37 p38 p39 p40 p41 p42 p43 p44 p45 p46 p47 p48 p49 p50 p51 p52 p53 p54 p55) (.int 0)) :
    Ctr l Z ⟨"java/util/Arrays", "copyOfRangeByte", "([BII)[B"⟩ B31 5 (some (.array .byte)) (rM 1 1 56 18) #[.ref x0, .int 0, .int 56] h0 (fun v h L => ∃ (y0 : Addr) (y1 : ClassId), v = some (.ref y0) ∧ Fr n0 L ∧ Keep h0 h [] ∧ h0.size ≤ y0 ∧ Arv Z h y0 y1 .byte (56 : Int32) (LL16 p0 p1 p2 p3 p4 p5 p6 p7 p8 p9 p10 p11 p12 p13 p14 p15 p16 p17 p18 p19 p20 p21 p22 p23 p24 p25 p26 p27 p28 p29 p30 p31 p32 p33 p34 p35 p36 p37 p38 p39 p40 p41 p42 p43 p44 p45 p46 p47 p48 p49 p50 p51 p52 p53 p54 p55) (.int 0) ∧ Exa Z h y0 "[B") := by
 refine Ctr.of (plainFor_of_name pn_c5) fun p e s m below meth c T0 hx hZ hby hml hown hnm hret hlk e0 es X0 => Go.cast (ef_31_RII m x0 (0 : Int32) (56 : Int32)) ?_
 generalize hFF : EndN s _ _ _ = FF
 refine iN X0 hx 1 rfl hby d31_0 rfl ?_
 refine iN X0 hx 2 rfl hby d31_1 rfl ?_
 refine Go.callS X0 hx hZ hown (tw_167 hw) (tw_168 hw) (tw_125 hw) (tw_169 hw) (by decide) (tw_169 hw) (tw_125 hw) (au_130 hw Z0) e0 (argsL := [.int 0, .int 56]) (rest := []) 5 rfl (hml ▸ rfl) (lenOf pd_23 rfl) rfl rfl (W := 0) (nE rfl) (by decide) (hb hby d31_2) ?_
 intro v1 T1 L1 q1 X1
 obtain ⟨rfl, N1, e1⟩ := q1
 refine iN X1 hx 6 rfl hby d31_5 rfl ?_
 refine iN X1 hx 7 rfl hby d31_6 rfl ?_
 refine Go.isub X1 hx 8 rfl (hb hby d31_7) ?_
 rw [show ((56 : Int32) - (0 : Int32)) = (56 : Int32) from by decide]
 refine Go.istoreN X1 hx 9 rfl (hb hby d31_8) (Ls' := #[vR x0, vI 0, vI 56, vI 56, uS]) rfl ?_
 refine iN X1 hx 10 rfl hby d31_9 rfl ?_
 refine Go.newarray X1 hx hZ (ty := .byte) rfl (tw_19 hw) e1 (by decide) (cap := 56) (by decide) (by decide) (by decide) (by decide) (ad := "[B") (by decide) 56 12 rfl (hb hby d31_10) ?_
 intro T2 h2 b2 k2 e2 E2 g2 V2 A2 X2
 have V2' : Arv Z h2 b2 k2 .byte (56 : Int32) LL33 (.int 0) := V2
 refine Go.astore X2 hx 14 rfl (hb hby d31_12) (Ls' := #[vR x0, vI 0, vI 56, vI 56, vR b2]) rfl rfl ?_
 refine aN X2 hx 15 rfl hby d31_14 rfl rfl ?_
 refine iN X2 hx 16 rfl hby d31_15 rfl ?_
 refine Go.aload X2 hx 18 rfl (hb hby d31_16) rfl rfl ?_
 refine Go.iconst X2 hx 19 rfl (hb hby d31_18) (v := (0 : Int32)) rfl ?_
 refine aN X2 hx 20 rfl hby d31_19 rfl rfl ?_
 have fk3 := (P0.ext E2)
 refine Go.arraylength X2 hx hZ e2 fk3 21 rfl (hb hby d31_20) ?_
 refine iN X2 hx 22 rfl hby d31_21 rfl ?_
 refine Go.isub X2 hx 23 rfl (hb hby d31_22) ?_
 rw [show ((68 : Int32) - (0 : Int32)) = (68 : Int32) from by decide]
 refine iN X2 hx 24 rfl hby d31_23 rfl ?_
 have Kp5 := ((Keep.refl h0 []).ext E2)
 refine Go.callS X2 hx hZ hown (tw_127 hw) (tw_128 hw) (tw_119 hw) (tw_129 hw) (by decide) (tw_129 hw) (tw_119 hw) (au_131 hw (Nat.le_trans Z0 Kp5.1)) e2 (argsL := [.int 68, .int 56]) (rest := [.int 0, .ref b2, .int 0, .ref x0]) 27 rfl (hml ▸ rfl) (lenOf pd_18 rfl) rfl rfl (W := 4) (nE rfl) (by decide) (hb hby d31_24) ?_
 intro v6 T6 L6 q6 X6
 obtain ⟨rfl, N6, e6⟩ := q6
 show Go _ _ _ _ (T6.setTop (mkF m 27 #[vR x0, vI 0, vI 56, vI 56, vR b2] [.int 56, .int 0, .ref b2, .int 0, .ref x0]))
 have sz8 := Nat.le_trans (Keep.refl h0 []).1 (Nat.le_of_eq g2.symm)
 refine Go.arraycopy X6 hx hZ hown (tw_130 hw) (tw_105 hw) (tw_103 hw) (tw_104 hw) e6 fk3 V2' rfl (sp := (0 : Int32)) (dp := (0 : Int32)) (nn := (56 : Int32)) (us := (LL16 p0 p1 p2 p3 p4 p5 p6 p7 p8 p9 p10 p11 p12 p13 p14 p15 p16 p17 p18 p19 p20 p21 p22 p23 p24 p25 p26 p27 p28 p29 p30 p31 p32 p33 p34 p35 p36 p37 p38 p39 p40 p41 p42 p43 p44 p45 p46 p47 p48 p49 p50 p51 p52 p53 p54 p55)) (by decide) (by decide) (by decide) (by decide) (by decide) rfl (nB rfl) (Fr.app (Fr.app (Fr.nil n0) N1) N6) (Nat.le_trans Z0 sz8) (by decide) (W := 0) (hml ▸ rfl) (nE rfl) (by decide) (pc' := 30) rfl (hb hby d31_27) ?_
 intro T9 h9 L9 e9 N9 K9 V9 X9
 have V9' : Arv Z h9 b2 k2 .byte (56 : Int32) (LL16 p0 p1 p2 p3 p4 p5 p6 p7 p8 p9 p10 p11 p12 p13 p14 p15 p16 p17 p18 p19 p20 p21 p22 p23 p24 p25 p26 p27 p28 p29 p30 p31 p32 p33 p34 p35 p36 p37 p38 p39 p40 p41 p42 p43 p44 p45 p46 p47 p48 p49 p50 p51 p52 p53 p54 p55) (.int 0) := V9
 refine Go.aload X9 hx 32 rfl (hb hby d31_30) rfl rfl ?_
 subst hFF
 refine Go.retR X9 hx hlk (t := (.array .byte)) hret rfl rfl (hb hby d31_32) (by decide) (by decide) ?_
 rw [e9]
 exact ⟨b2, k2, rfl, N9, (Kp5.trans K9 (allS (Or.inr sz8) all0)), sz8, V9', (A2.keep K9)⟩
theorem au_128 (hw : HW a0 Z)  (Z0 : n0 ≤ h0.size) (P0 : Arv Z h0 x0 kk0 .byte (68 : Int32) (LL28 p0 p1 p2 p3 p4 p5 p6 p7 p8 p9 p10 p11 p12 p13 p14 p15 p16 p17 p18 p19 p20 p21 p22 p23 p24 p25 p26 p27 p28 p29 p30 p31 p32 p33 p34 p35 p36 p37 p38 p39 p40 p41 p42 p43 p44 p45 p46 p47 p48 p49 p50 p51 p52 p53 p54 p55) (.int 0)) :
    Ctr l Z ⟨"java/util/Arrays", "copyOfRange", "([BII)[B"⟩ B30 3 (some (.array .byte)) (rM 2 1 56 34) #[.ref x0, .int 0, .int 56] h0 (fun v h L => ∃ (y0 : Addr) (y1 : ClassId), v = some (.ref y0) ∧ Fr n0 L ∧ Keep h0 h [] ∧ h0.size ≤ y0 ∧ Arv Z h y0 y1 .byte (56 : Int32) (LL16 p0 p1 p2 p3 p4 p5 p6 p7 p8 p9 p10 p11 p12 p13 p14 p15 p16 p17 p18 p19 p20 p21 p22 p23 p24 p25 p26 p27 p28 p29 p30 p31 p32 p33 p34 p35 p36 p37 p38 p39 p40 p41 p42 p43 p44 p45 p46 p47 p48 p49 p50 p51 p52 p53 p54 p55) (.int 0) ∧ Exa Z h y0 "[B") := by
 refine Ctr.of (plainFor_of_name pn_c5) fun p e s m below meth c T0 hx hZ hby hml hown hnm hret hlk e0 es X0 => Go.cast (ef_30_RII m x0 (0 : Int32) (56 : Int32)) ?_
 generalize hFF : EndN s _ _ _ = FF
 refine iN X0 hx 1 rfl hby d30_0 rfl ?_
 refine Go.ifNo X0 hx 4 rfl (hb hby d30_1) (by decide) ?_
 refine iN X0 hx 5 rfl hby d30_4 rfl ?_
 refine aN X0 hx 6 rfl hby d30_5 rfl rfl ?_
 refine Go.arraylength X0 hx hZ e0 P0 7 rfl (hb hby d30_6) ?_
 refine Go.icmpNo X0 hx 10 rfl (hb hby d30_7) (by decide) ?_
 refine aN X0 hx 11 rfl hby d30_10 rfl rfl ?_
 refine iN X0 hx 12 rfl hby d30_11 rfl ?_
 refine iN X0 hx 13 rfl hby d30_12 rfl ?_
 refine Go.callS X0 hx hZ hown (tw_164 hw) (tw_165 hw) (tw_125 hw) (tw_166 hw) (by decide) (tw_166 hw) (tw_125 hw) (au_129 hw Z0 P0) e0 (argsL := [.ref x0, .int 0, .int 56]) (rest := []) 16 rfl (hml ▸ rfl) (lenOf pd_24 rfl) rfl rfl (W := 0) (nE rfl) (by decide) (hb hby d30_13) ?_
 intro v1 T1 L1 q1 X1
 obtain ⟨h1, e1⟩ := hpz T1
 rw [e1] at q1
 obtain ⟨b1_0, k1_0, rfl, N1, K1, s1_0, F1_0, F1_1⟩ := q1
 show Go _ _ _ _ (T1.setTop (mkF m 16 #[vR x0, vI 0, vI 56] [.ref b1_0]))
 subst hFF
 refine Go.retR X1 hx hlk (t := (.array .byte)) hret rfl rfl (hb hby d30_16) (by decide) (by decide) ?_
 rw [e1]
 exact ⟨b1_0, k1_0, rfl, (Fr.app (Fr.nil n0) N1), ((Keep.refl h0 []).trans K1 all0), (Nat.le_trans (Keep.refl h0 []).1 s1_0), F1_0, F1_1⟩
theorem d25_91 : DD B25 91 (.invokestatic 54, 3) := by decide +kernel
theorem d25_94 : DD B25 94 (.putfield 9, 3) := by decide +kernel
theorem au_123 (hw : HW a0 Z)   (O0 : Old Z n0 h0) (G : Glob Z α β γ δ ε ζ η) (P0 : Exa Z h0 x0 s1) (P1 : f0_ Z h0 x0 (.int 0)) (P2 : f2_ Z h0 x0 .null) (P3 : Exa Z h0 x1 s3) (P4 : f1_ Z h0 x1 (.int 1)) (P5 : f4_ Z h0 x1 (.int 28)) (P6 : f5_ Z h0 x1 (.int 0)) (P7 : f3_ Z h0 x1 (.ref x2)) (P8 : Arv Z h0 x2 kk0 .byte (68 : Int32) (LL28 p0 p1 p2 p3 p4 p5 p6 p7 p8 p9 p10 p11 p12 p13 p14 p15 p16 p17 p18 p19 p20 p21 p22 p23 p24 p25 p26 p27 p28 p29 p30 p31 p32 p33 p34 p35 p36 p37 p38 p39 p40 p41 p42 p43 p44 p45 p46 p47 p48 p49 p50 p51 p52 p53 p54 p55) (.int 0)) (g_x0 : n0 ≤ x0) (ne_x2_x0 : x2 ≠ x0) :
    Ctr l Z ⟨s1, "<init>", "(Ljava/lang/AbstractStringBuilder;Ljava/lang/Void;)V"⟩ B25 5 none (rM 3 1 56 49) #[.ref x0, .ref x1, .null] h0 (fun v h L => ∃ (y0 : Addr) (y1 : ClassId), v = none ∧ Fr n0 L ∧ Keep h0 h [x0] ∧ h0.size ≤ y0 ∧ f0_ Z h x0 (.int 1) ∧ f2_ Z h x0 (.ref y0) ∧ Arv Z h y0 y1 .byte (56 : Int32) (LL16 p0 p1 p2 p3 p4 p5 p6 p7 p8 p9 p10 p11 p12 p13 p14 p15 p16 p17 p18 p19 p20 p21 p22 p23 p24 p25 p26 p27 p28 p29 p30 p31 p32 p33 p34 p35 p36 p37 p38 p39 p40 p41 p42 p43 p44 p45 p46 p47 p48 p49 p50 p51 p52 p53 p54 p55) (.int 0) ∧ Exa Z h y0 "[B") := by
 refine Ctr.of (plainFor_of_name pn_c1) ?_
 intro p e s m below meth c T0 hx hZ hby hml hown hnm hret hlk e0 es X0
 have G' := G
 obtain ⟨G0, -, -, -, -, -, -, -, -, -, -, -, G12, -⟩ := G'
 refine Go.cast (ef_25_RRN m x0 x1) ?_
 generalize hFF : EndN s _ _ _ = FF
 refine aN X0 hx 1 rfl hby d25_0 rfl rfl ?_
 refine Go.initO X0 hx hZ hown (tw_11 hw) (tw_12 hw) (tw_13 hw) e0 (by decide) (W := 0) (hml ▸ rfl) (nE rfl) (by decide) (pc' := 4) rfl (hb hby d25_1) ?_
 intro T1 e1 X1
 refine aN X1 hx 5 rfl hby d25_4 rfl rfl ?_
 refine Go.callV X1 hx hZ hown (tw_143 hw) (tw_144 hw) (nF (mvT hZ (tw_146 hw))) (tw_146 hw) (tw_145 hw) (by decide) (tw_147 hw) (tw_50 hw) (au_124 hw O0.z P7) e1 P3 (argsL := []) (rest := []) 8 rfl (hml ▸ rfl) (lenOf pd_21 rfl) rfl rfl (W := 0) (nE rfl) (by decide) (hb hby d25_5) ?_
 intro v2 T2 L2 q2 X2
 obtain ⟨rfl, N2, e2⟩ := q2
 show Go _ _ _ _ (T2.setTop (mkF m 8 #[vR x0, vR x1, .val .null, uS, uS] [.ref x2]))
 refine Go.astoreN X2 hx 9 rfl (hb hby d25_8) (Ls' := #[vR x0, vR x1, .val .null, vR x2, uS]) rfl rfl ?_
 refine aN X2 hx 10 rfl hby d25_9 rfl rfl ?_
 refine Go.callV X2 hx hZ hown (tw_148 hw) (tw_149 hw) (own_nf (args := #[]) (mvT hZ (tw_84 hw)) rfl) (tw_151 hw) (tw_152 hw) (by decide) (tw_153 hw) (tw_42 hw) (au_125 hw O0.z P3 P5) e2 P3 (argsL := []) (rest := []) 13 rfl (hml ▸ rfl) (lenOf pd_12 rfl) rfl rfl (W := 0) (nE rfl) (by decide) (hb hby d25_10) ?_
 intro v3 T3 L3 q3 X3
 obtain ⟨rfl, N3, e3⟩ := q3
 show Go _ _ _ _ (T3.setTop (mkF m 13 #[vR x0, vR x1, .val .null, vR x2, uS] [.int 28]))
 refine Go.istore X3 hx 15 rfl (hb hby d25_13) (Ls' := #[vR x0, vR x1, .val .null, vR x2, vI 28]) rfl ?_
 refine aN X3 hx 16 rfl hby d25_15 rfl rfl ?_
 refine Go.callV X3 hx hZ hown (tw_156 hw) (tw_157 hw) (nF (mvT hZ (tw_159 hw))) (tw_159 hw) (tw_158 hw) (by decide) (tw_160 hw) (tw_50 hw) (au_127 hw O0 G P4) e3 P3 (argsL := []) (rest := []) 19 rfl (hml ▸ rfl) (lenOf pd_22 rfl) rfl rfl (W := 0) (nE rfl) (by decide) (hb hby d25_16) ?_
 intro v4 T4 L4 q4 X4
 obtain ⟨rfl, N4, e4⟩ := q4
 show Go _ _ _ _ (T4.setTop (mkF m 19 #[vR x0, vR x1, .val .null, vR x2, vI 28] [.int 0]))
 refine Go.ifYes X4 hx 41 (hb hby d25_19) (by decide) (by decide) (by decide) ?_
 refine Go.getS X4 hx hZ hown (host := "") (Or.inl (tw_14 hw)) Via.refl e4 (G0.ext O0.2) 44 rfl (hb hby d25_41) ?_
 intro T6 e6 X6
 refine Go.ifNo X6 hx 47 rfl (hb hby d25_44) (feq G12).1 ?_
 refine aN X6 hx 48 rfl hby d25_47 rfl rfl ?_
 refine gF X6 hx hZ hown (tw_292 hw) e6 P6 51 rfl (hb hby d25_48) ?_
 intro T7 e7 X7
 refine Go.ifYes X7 hx 79 (hb hby d25_51) (by decide) (by decide) (by decide) ?_
 refine aN X7 hx 80 rfl hby d25_79 rfl rfl ?_
 refine Go.iconst X7 hx 81 rfl (hb hby d25_80) (v := (1 : Int32)) rfl ?_
 refine Go.putFN X7 hx hZ hown (tw_26 hw) Via.refl e7 P1 P0 (Or.inr ⟨(tw_27 hw), rfl, hnm⟩) (tw_1 hw) (ty := .byte) (v' := (.int 1)) (by decide) (by decide) (by decide) 84 rfl (hb hby d25_81) ?_
 intro T8 h8 e8 W8 F8 X8
 have N8 := Fr.snoc X8 (Fr.app (Fr.app (Fr.app (Fr.nil n0) N2) N3) N4) g_x0
 refine aN X8 hx 85 rfl hby d25_84 rfl rfl ?_
 refine aN X8 hx 86 rfl hby d25_85 rfl rfl ?_
 refine Go.iconst X8 hx 87 rfl (hb hby d25_86) (v := (0 : Int32)) rfl ?_
 refine Go.iload X8 hx 89 rfl (hb hby d25_87) rfl ?_
 refine Go.iconst X8 hx 90 rfl (hb hby d25_89) (v := (1 : Int32)) rfl ?_
 refine Go.ishl X8 hx 91 rfl (hb hby d25_90) ?_
 rw [show ((28 : Int32) <<< ((1 : Int32) &&& 31)) = (56 : Int32) from by decide]
 have Kp10 := ((Keep.refl h0 [x0]).wr W8 (Or.inl (mG 0 rfl)))
 refine Go.callS X8 hx hZ hown (tw_161 hw) (tw_162 hw) (tw_125 hw) (tw_163 hw) (by decide) (tw_163 hw) (tw_125 hw) (au_128 hw (Nat.le_trans O0.z Kp10.1) (P8.other W8 ne_x2_x0)) e8 (argsL := [.ref x2, .int 0, .int 56]) (rest := [.ref x0]) 94 rfl (hml ▸ rfl) (lenOf pd_24 rfl) rfl rfl (W := 1) (nE rfl) (by decide) (hb hby d25_91) ?_
 intro v12 T12 L12 q12 X12
 obtain ⟨h12, e12⟩ := hpz T12
 rw [e12] at q12
 obtain ⟨b12_0, k12_0, rfl, N12, K12, s12_0, F12_0, F12_1⟩ := q12
 show Go _ _ _ _ (T12.setTop (mkF m 94 #[vR x0, vR x1, .val .null, vR x2, vI 28] [.ref b12_0, .ref x0]))
 refine Go.putF X12 hx hZ hown (host := "") (Or.inl (tw_28 hw)) Via.refl e12 ((P2.other W8 (Or.inr (slot_ne (Or.inr (tw_29 hw)) (Or.inr (tw_27 hw)) (by decide) (t := (.array .byte)) (t' := .byte) (by decide) (by decide)))).keep K12 nin0) ((P0.wr W8).keep K12) (Or.inr ⟨(tw_29 hw), rfl, hnm⟩) (tw_1 hw) (ty := (.array .byte)) (by decide) rfl rfl 97 rfl (hb hby d25_94) ?_
 intro T15 h15 e15 W15 F15 X15
 have N15 := Fr.snoc X15 (Fr.app N8 N12) g_x0
 subst hFF
 refine Go.ret0 X15 hx hlk hret (hb hby d25_97) (by decide) (by decide) ?_
 rw [e15]
 exact ⟨b12_0, k12_0, rfl, N15, ((Kp10.trans K12 all0).wr W15 (Or.inl (mG 0 rfl))), (Nat.le_trans Kp10.1 s12_0), ((F8.keep K12 nin0).other W15 (Or.inr (slot_ne (Or.inr (tw_27 hw)) (Or.inr (tw_29 hw)) (by decide) (t := .byte) (t' := (.array .byte)) (by decide) (by decide)))), F15, (F12_0.other W15 (Ne.symm (Nat.ne_of_lt (Nat.lt_of_lt_of_le (P0.wr W8).lt s12_0)))), (F12_1.wr W15)⟩
theorem au_122 (hw : HW a0 Z)   (O0 : Old Z n0 h0) (G : Glob Z α β γ δ ε ζ η) (P0 : Exa Z h0 x0 s1) (P1 : f0_ Z h0 x0 (.int 0)) (P2 : f2_ Z h0 x0 .null) (P3 : Exa Z h0 x1 s3) (P4 : f1_ Z h0 x1 (.int 1)) (P5 : f4_ Z h0 x1 (.int 28)) (P6 : f5_ Z h0 x1 (.int 0)) (P7 : f3_ Z h0 x1 (.ref x2)) (P8 : Arv Z h0 x2 kk0 .byte (68 : Int32) (LL28 p0 p1 p2 p3 p4 p5 p6 p7 p8 p9 p10 p11 p12 p13 p14 p15 p16 p17 p18 p19 p20 p21 p22 p23 p24 p25 p26 p27 p28 p29 p30 p31 p32 p33 p34 p35 p36 p37 p38 p39 p40 p41 p42 p43 p44 p45 p46 p47 p48 p49 p50 p51 p52 p53 p54 p55) (.int 0)) (g_x0 : n0 ≤ x0) (ne_x2_x0 : x2 ≠ x0) :
    Ctr l Z ⟨s1, "<init>", "(Ljava/lang/StringBuilder;)V"⟩ B24 2 none (rM 4 1 56 65) #[.ref x0, .ref x1] h0 (fun v h L => ∃ (y0 : Addr) (y1 : ClassId), v = none ∧ Fr n0 L ∧ Keep h0 h [x0] ∧ h0.size ≤ y0 ∧ f0_ Z h x0 (.int 1) ∧ f2_ Z h x0 (.ref y0) ∧ Arv Z h y0 y1 .byte (56 : Int32) (LL16 p0 p1 p2 p3 p4 p5 p6 p7 p8 p9 p10 p11 p12 p13 p14 p15 p16 p17 p18 p19 p20 p21 p22 p23 p24 p25 p26 p27 p28 p29 p30 p31 p32 p33 p34 p35 p36 p37 p38 p39 p40 p41 p42 p43 p44 p45 p46 p47 p48 p49 p50 p51 p52 p53 p54 p55) (.int 0) ∧ Exa Z h y0 "[B") := by
 refine Ctr.of (plainFor_of_name pn_c1) fun p e s m below meth c T0 hx hZ hby hml hown hnm hret hlk e0 es X0 => Go.cast (ef_24_RR m x0 x1) ?_
 generalize hFF : EndN s _ _ _ = FF
 refine aN X0 hx 1 rfl hby d24_0 rfl rfl ?_
 refine aN X0 hx 2 rfl hby d24_1 rfl rfl ?_
 refine Go.anull X0 hx 3 rfl (hb hby d24_2) ?_
 refine Go.callN X0 hx hZ hown rfl (tw_140 hw) (tw_141 hw) (tw_142 hw) (by decide) (tw_142 hw) (tw_2 hw) (au_123 hw O0 G P0 P1 P2 P3 P4 P5 P6 P7 P8 g_x0 ne_x2_x0) e0 (a := x0) (argsL := [.ref x1, .null]) (rest := []) 6 rfl (hml ▸ rfl) (lenOf pd_25 rfl) rfl rfl (W := 0) (nE rfl) (by decide) (hb hby d24_3) ?_
 intro v1 T1 L1 q1 X1
 obtain ⟨h1, e1⟩ := hpz T1
 rw [e1] at q1
 obtain ⟨b1_0, k1_0, rfl, N1, K1, s1_0, F1_0, F1_1, F1_2, F1_3⟩ := q1
 subst hFF
 refine Go.ret0 X1 hx hlk hret (hb hby d24_6) (by decide) (by decide) ?_
 rw [e1]
 exact ⟨b1_0, k1_0, rfl, (Fr.app (Fr.nil n0) N1), ((Keep.refl h0 [x0]).trans K1 (allS (Or.inl (mG 0 rfl)) all0)), (Nat.le_trans (Keep.refl h0 [x0]).1 s1_0), F1_0, F1_1, F1_2, F1_3⟩
theorem au_121 (hw : HW a0 Z)   (O0 : Old Z n0 h0) (G : Glob Z α β γ δ ε ζ η) (P0 : Exa Z h0 x0 s3) (P1 : f1_ Z h0 x0 (.int 1)) (P2 : f4_ Z h0 x0 (.int 28)) (P3 : f5_ Z h0 x0 (.int 0)) (P4 : f3_ Z h0 x0 (.ref x1)) (P5 : Arv Z h0 x1 kk0 .byte (68 : Int32) (LL28 p0 p1 p2 p3 p4 p5 p6 p7 p8 p9 p10 p11 p12 p13 p14 p15 p16 p17 p18 p19 p20 p21 p22 p23 p24 p25 p26 p27 p28 p29 p30 p31 p32 p33 p34 p35 p36 p37 p38 p39 p40 p41 p42 p43 p44 p45 p46 p47 p48 p49 p50 p51 p52 p53 p54 p55) (.int 0)) :
    Ctr l Z ⟨s3, "toString", "()Ljava/lang/String;"⟩ B23 1 (some (.object s1)) (rM 5 2 60 79) #[.ref x0] h0 (fun v h L => ∃ (y0 y1 : Addr) (y2 : ClassId), v = some (.ref y0) ∧ Fr n0 L ∧ Keep h0 h [] ∧ h0.size ≤ y0 ∧ h0.size ≤ y1 ∧ y1 ≠ y0 ∧ Exa Z h y0 s1 ∧ f0_ Z h y0 (.int 1) ∧ f2_ Z h y0 (.ref y1) ∧ Arv Z h y1 y2 .byte (56 : Int32) (LL16 p0 p1 p2 p3 p4 p5 p6 p7 p8 p9 p10 p11 p12 p13 p14 p15 p16 p17 p18 p19 p20 p21 p22 p23 p24 p25 p26 p27 p28 p29 p30 p31 p32 p33 p34 p35 p36 p37 p38 p39 p40 p41 p42 p43 p44 p45 p46 p47 p48 p49 p50 p51 p52 p53 p54 p55) (.int 0) ∧ Exa Z h y1 "[B") := by
 refine Ctr.of (plainFor_of_name pn_c3) fun p e s m below meth c T0 hx hZ hby hml hown hnm hret hlk e0 es X0 => Go.cast (ef_23_R m x0) ?_
 generalize hFF : EndN s _ _ _ = FF
 refine Go.new X0 hx hZ hown (tw_136 hw) (tw_1 hw) (tw_2 hw) e0 (by decide) (by decide) 3 rfl (hb hby d23_0) ?_
 intro T1 h1 b1 e1 E1 g1 A1 D1 X1
 have b1_coder : f0_ Z h1 b1 (.int 0) := D1 (Or.inr (tw_27 hw)) (ty := .byte) (by decide)
 have b1_value : f2_ Z h1 b1 .null := D1 (Or.inr (tw_29 hw)) (ty := (.array .byte)) (by decide)
 refine Go.dup X1 hx 4 rfl (hb hby d23_3) rfl ?_
 refine aN X1 hx 5 rfl hby d23_4 rfl rfl ?_
 have sz10 := Nat.le_trans (Keep.refl h0 []).1 (Nat.le_of_eq g1.symm)
 refine Go.callN X1 hx hZ hown rfl (tw_137 hw) (tw_138 hw) (tw_139 hw) (by decide) (tw_139 hw) (tw_2 hw) (au_122 hw (O0.ext E1) G A1 b1_coder b1_value (P0.ext E1) (P1.ext E1) (P2.ext E1) (P3.ext E1) (P4.ext E1) (P5.ext E1) (Nat.le_trans O0.z sz10) (Nat.ne_of_lt (Nat.lt_of_lt_of_le P5.lt (Nat.le_of_eq g1.symm)))) e1 (a := b1) (argsL := [.ref x0]) (rest := [.ref b1]) 8 rfl (hml ▸ rfl) (lenOf pd_26 rfl) rfl rfl (W := 1) (nE rfl) (by decide) (hb hby d23_5) ?_
 intro v12 T12 L12 q12 X12
 obtain ⟨h12, e12⟩ := hpz T12
 rw [e12] at q12
 obtain ⟨b12_0, k12_0, rfl, N12, K12, s12_0, F12_0, F12_1, F12_2, F12_3⟩ := q12
 subst hFF
 refine Go.retR X12 hx hlk (t := (.object s1)) hret rfl rfl (hb hby d23_8) (by decide) (by decide) ?_
 rw [e12]
 have Kp14 := ((Keep.refl h0 []).ext E1)
 exact ⟨b1, b12_0, k12_0, rfl, (Fr.app (Fr.nil n0) N12), (Kp14.trans K12 (allS (Or.inr sz10) all0)), sz10, (Nat.le_trans Kp14.1 s12_0), (Ne.symm (Nat.ne_of_lt (Nat.lt_of_lt_of_le A1.lt s12_0))), (A1.keep K12), F12_0, F12_1, F12_2, F12_3⟩
theorem au_84 (hw : HW a0 Z)   (O0 : Old Z n0 h0) (G : Glob Z α β γ δ ε ζ η) (P0 : Exa Z h0 x0 s1) (P1 : f0_ Z h0 x0 (.int 0)) (P2 : f2_ Z h0 x0 (.ref x2)) (P3 : Exa Z h0 x1 s1) (P4 : f0_ Z h0 x1 (.int 1)) (P5 : f2_ Z h0 x1 (.ref x3)) (P6 : Arv Z h0 x2 kk0 .byte (2 : Int32) [.int p0, .int p1] (.int 0)) (P8 : Arv Z h0 x3 kk1 .byte (4 : Int32) [.int p2, .int p3, .int p4, .int p5] (.int 0)) (R_p6 : 0 ≤ p6.toInt ∧ p6.toInt ≤ 255) (R_p7 : 0 ≤ p7.toInt ∧ p7.toInt ≤ 255) (B_p0 : (p6.toInt8.toInt32) = p0) (B_p1 : (p7.toInt8.toInt32) = p1) :
    CtrW l Z EL0 ⟨s12, "taken", s13⟩ B7 2 (some (.object s2)) (rM 10 16 3091 146) #[.ref x0, .ref x1] h0 [] (fun v vm h L => ∃ (y0 y1 y2 y3 y4 : Addr) (y5 y6 : ClassId), v = some (.ref y0) ∧ Fr n0 L ∧ Keep h0 h [] ∧ h0.size ≤ y0 ∧ h0.size ≤ y2 ∧ h0.size ≤ y4 ∧ y2 ≠ y0 ∧ y4 ≠ y0 ∧ y4 ≠ y2 ∧ Safe Z EL0 vm h y0 ∧ Safe Z EL0 vm h y2 ∧ Safe Z EL0 vm h y4 ∧ Exa Z h y0 s2 ∧ f6_ Z h y0 (.ref y1) ∧ f8_ Z h y0 (.ref y0) ∧ f7_ Z h y0 (.ref y2) ∧ f9_ Z h y0 (.ref γ) ∧ Exa Z h y1 s1 ∧ f0_ Z h y1 (.int 0) ∧ f2_ Z h y1 (.ref y3) ∧ Exa Z h y2 s1 ∧ f0_ Z h y2 (.int 1) ∧ f2_ Z h y2 (.ref y4) ∧ Arv Z h y3 y5 .byte (10 : Int32) LL17 (.int (0 : Int32)) ∧ Arv Z h y4 y6 .byte (56 : Int32) (LL29 p0 p1 p2 p3 p4 p5) (.int 0) ∧ Exa Z h y4 "[B") := by
 refine CtrW.of (plainFor_of_name pn_c9) ?_
 intro p e s m below meth c T0 hx hZ hby hml hown hnm hret hlk e0 es hS0 C0 hsf hKN X0
 have G' := G
 obtain ⟨-, -, -, -, G4, -, -, -, -, -, -, -, -, -⟩ := G'
 refine Go.cast (ef_7_RR m x0 x1) ?_
 generalize hFF : EndW Z EL0 s _ _ _ = FF
 refine Go.newU X0 hx hZ hown (tw_34 hw) (tw_35 hw) (tw_36 hw) e0 (by decide) (by decide) 3 rfl (hb hby d7_0) ?_
 intro T1 h1 b1 e1 E1 g1 A1 D1 N1 X1
 have b1_cause : f8_ Z h1 b1 .null := D1 (Or.inl (tw_186 hw)) (ty := (.object s4)) (by decide)
 have b1_stackTrace : Fld Z h1 b1 s4 "stackTrace" "[Ljava/lang/StackTraceElement;" .null := D1 (Or.inl (tw_189 hw)) (ty := (.array (.object "java/lang/StackTraceElement"))) (by decide)
 have b1_suppressedExceptions : f9_ Z h1 b1 .null := D1 (Or.inl (tw_192 hw)) (ty := (.object "java/util/List")) (by decide)
 have b1_detailMessage : f7_ Z h1 b1 .null := D1 (Or.inl (tw_216 hw)) (ty := (.object s1)) (by decide)
 have b1_backtrace : Fld Z h1 b1 s4 "backtrace" "Ljava/lang/Object;" .null := D1 (Or.inl (tw_217 hw)) (ty := (.object "java/lang/Object")) (by decide)
 have b1_depth : Fld Z h1 b1 s4 "depth" "I" (.int 0) := D1 (Or.inl (tw_218 hw)) (ty := .int) (by decide)
 have b1_code : f6_ Z h1 b1 .null := D1 (Or.inr (tw_222 hw)) (ty := (.object s1)) (by decide)
 refine Go.dup X1 hx 4 rfl (hb hby d7_3) rfl ?_
 have C2 := (C0.trans (CHr.ext E1 C0.1))
 refine Go.ldcCH X1 hx hZ hown (tw_37 hw) (own_SA hw) e1 hS0 (Nat.le_trans (Nat.le_refl _) E1.1) (own_EW hw) (mG 0 rfl) C2.1 (vs := [(.int (110 : Int32)), (.int (97 : Int32)), (.int (109 : Int32)), (.int (101 : Int32)), (.int (95 : Int32)), (.int (116 : Int32)), (.int (97 : Int32)), (.int (107 : Int32)), (.int (101 : Int32)), (.int (110 : Int32))]) (z := (10 : Int32)) (by decide) (by decide) rfl (n := 40) (by decide) (by decide) (by decide) (by decide) 6 rfl (hb hby d7_4) ?_
 intro a4 T4 h4 j4 b4 k4 e4 E4 S4 i4 Z4 O4 A4 F4 G4 V4 C4 D4 X4
 refine Go.new X4 hx Z4 O4 (tw_40 hw) (tw_41 hw) (tw_42 hw) e4 (by decide) (by decide) 9 rfl (hb hby d7_6) ?_
 intro T5 h5 b5 e5 E5 g5 A5 D5 X5
 have b5_value : f3_ Z h5 b5 .null := D5 (Or.inl (tw_55 hw)) (ty := (.array .byte)) (by decide)
 have b5_coder : f1_ Z h5 b5 (.int 0) := D5 (Or.inl (tw_57 hw)) (ty := .byte) (by decide)
 have b5_count : f4_ Z h5 b5 (.int 0) := D5 (Or.inl (tw_80 hw)) (ty := .int) (by decide)
 have b5_maybeLatin1 : f5_ Z h5 b5 (.int 0) := D5 (Or.inl (tw_293 hw)) (ty := .boolean) (by decide)
 refine Go.dup X5 hx 10 rfl (hb hby d7_9) rfl ?_
 have O8 := (((O0.ext E1).ext E4).ext E5)
 have Kp12 := (((Keep.refl h0 []).ext E1).ext E4)
 have sz10 := Nat.le_trans Kp12.1 (Nat.le_of_eq g5.symm)
 have ge9 := Nat.le_trans O0.z sz10
 refine Go.callN X5 hx Z4 O4 rfl (tw_43 hw) (tw_44 hw) (tw_45 hw) (by decide) (tw_45 hw) (tw_42 hw) (au_19 hw O8 G A5 b5_coder b5_count b5_maybeLatin1 b5_value ge9) e5 (a := b5) (argsL := []) (rest := [.ref b5, .ref a4, .ref b1, .ref b1]) 13 rfl (hml ▸ rfl) (lenOf pd_10 rfl) rfl rfl (W := 4) (nE rfl) (by decide) (hb hby d7_10) ?_
 intro v13 T13 L13 q13 X13
 obtain ⟨h13, e13⟩ := hpz T13
 rw [e13] at q13
 obtain ⟨b13_0, k13_0, rfl, N13, K13, s13_0, F13_0, F13_1, F13_2, F13_3, F13_4, F13_5⟩ := q13
 have C14 := (C2.trans C4)
 have C15 := (C14.trans (CHr.ext E5 C14.1))
 have fk16 := (Safe.ext E5 C14.1 (Safe.new (Nat.le_of_eq g5.symm) : Safe Z EL0 T4.vm h4 b5))
 have C17 := (C15.trans (CHr.keep K13 (sfS fk16 sf0) C15.1))
 refine Go.ldcCH X13 hx Z4 O4 (tw_58 hw) (own_SA hw) e13 S4 (Nat.le_trans (Nat.le_trans i4 E5.1) K13.1) (own_EW hw) (mG 1 rfl) C17.1 (vs := [(.int (116 : Int32)), (.int (104 : Int32)), (.int (101 : Int32)), (.int (32 : Int32))]) (z := (4 : Int32)) (by decide) (by decide) rfl (n := 16) (by decide) (by decide) (by decide) (by decide) 15 rfl (hb hby d7_13) ?_
 intro a19 T19 h19 j19 b19 k19 e19 E19 S19 i19 Z19 O19 A19 F19 G19 V19 C19 D19 X19
 have O21 := ((O8.keep K13 (allS ge9 all0)).ext E19)
 have fk22 := ((A5.keep K13).ext E19)
 have Kp30 := (Kp12.ext E5)
 have sz29 := Nat.le_trans Kp30.1 s13_0
 have ge28 := Nat.le_trans O0.z sz29
 have ne31 := Nat.ne_of_lt (Nat.lt_of_lt_of_le A5.lt s13_0)
 refine Go.callV X19 hx Z19 O19 (tw_59 hw) (tw_60 hw) (nF (mvT Z19 (tw_62 hw))) (tw_62 hw) (tw_61 hw) (by decide) (tw_63 hw) (tw_42 hw) (au_21 hw O21 G fk22 (F13_0.ext E19) (F13_1.ext E19) (F13_2.ext E19) (F13_3.ext E19) A19 F19 G19 (F13_4.ext E19) V19 ge28 ge9 ne31) e19 fk22 (argsL := [.ref a19]) (rest := [.ref a4, .ref b1, .ref b1]) 18 rfl (hml ▸ rfl) (lenOf pd_17 rfl) rfl rfl (W := 3) (nE rfl) (by decide) (hb hby d7_15) ?_
 intro v32 T32 L32 q32 X32
 obtain ⟨h32, e32⟩ := hpz T32
 rw [e32] at q32
 obtain ⟨rfl, N32, K32, F32_0, F32_1, F32_2, F32_3, F32_4⟩ := q32
 show Go _ _ _ _ (T32.setTop (mkF m 18 #[vR x0, vR x1] [.ref b5, .ref a4, .ref b1, .ref b1]))
 refine aN X32 hx 19 rfl hby d7_18 rfl rfl ?_
 have O33 := (O21.keep K32 (allS ge9 (allS ge28 all0)))
 have fk34 := (fk22.keep K32)
 have fk37 := ((P0.ext E1).ext E4)
 have ne36 := Nat.ne_of_lt (Nat.lt_of_lt_of_le fk37.lt (Nat.le_of_eq g5.symm))
 have ne38 := Nat.ne_of_lt (Nat.lt_of_lt_of_le (fk37.ext E5).lt s13_0)
 have fk43 := ((P6.ext E1).ext E4)
 have ne42 := Nat.ne_of_lt (Nat.lt_of_lt_of_le fk43.lt (Nat.le_of_eq g5.symm))
 refine Go.callV X32 hx Z19 O19 (tw_59 hw) (tw_60 hw) (nF (mvT Z19 (tw_62 hw))) (tw_62 hw) (tw_61 hw) (by decide) (tw_63 hw) (tw_42 hw) (au_29 hw O33 G fk34 F32_0 F32_1 F32_2 F32_3 ((((((P0.ext E1).ext E4).ext E5).keep K13).ext E19).keep K32) ((((((P1.ext E1).ext E4).ext E5).keep K13 (ninS ne36 nin0)).ext E19).keep K32 (ninS ne36 (ninS ne38 nin0))) ((((((P2.ext E1).ext E4).ext E5).keep K13 (ninS ne36 nin0)).ext E19).keep K32 (ninS ne36 (ninS ne38 nin0))) F32_4 ((((((P6.ext E1).ext E4).ext E5).keep K13 (ninS ne42 nin0)).ext E19).keep K32 (ninS ne42 (ninS (Nat.ne_of_lt (Nat.lt_of_lt_of_le (fk43.ext E5).lt s13_0)) nin0))) ge28 ge9 ne31) e32 fk34 (argsL := [.ref x0]) (rest := [.ref a4, .ref b1, .ref b1]) 22 rfl (hml ▸ rfl) (lenOf pd_17 rfl) rfl rfl (W := 3) (nE rfl) (by decide) (hb hby d7_19) ?_
 intro v47 T47 L47 q47 X47
 obtain ⟨h47, e47⟩ := hpz T47
 rw [e47] at q47
 obtain ⟨rfl, N47, K47, F47_0, F47_1, F47_2, F47_3, F47_4⟩ := q47
 show Go _ _ _ _ (T47.setTop (mkF m 22 #[vR x0, vR x1] [.ref b5, .ref a4, .ref b1, .ref b1]))
 have C48 := (C17.trans C19)
 have fk50 := (C19.safe F13_5.lt (Safe.keep K13 (sfS fk16 sf0) C15.1 (Safe.new s13_0 : Safe Z EL0 T4.vm h5 b13_0)))
 have fk53 := (C19.safe (A5.keep K13).lt (Safe.keep K13 (sfS fk16 sf0) C15.1 fk16))
 have C54 := (C48.trans (CHr.keep K32 (sfS fk53 (sfS fk50 sf0)) C48.1))
 have fk55 := (Safe.keep K32 (sfS fk53 (sfS fk50 sf0)) C48.1 fk50)
 have fk56 := (Safe.keep K32 (sfS fk53 (sfS fk50 sf0)) C48.1 fk53)
 have C57 := (C54.trans (CHr.keep K47 (sfS fk56 (sfS fk55 sf0)) C54.1))
 refine Go.ldcCH X47 hx Z19 O19 (tw_106 hw) (own_SA hw) e47 S19 (Nat.le_trans (Nat.le_trans i19 K32.1) K47.1) (own_EW hw) (mG 2 rfl) C57.1 (vs := [(.int (32 : Int32)), (.int (39 : Int32))]) (z := (2 : Int32)) (by decide) (by decide) rfl (n := 8) (by decide) (by decide) (by decide) (by decide) 24 rfl (hb hby d7_22) ?_
 intro a59 T59 h59 j59 b59 k59 e59 E59 S59 i59 Z59 O59 A59 F59 G59 V59 C59 D59 X59
 have O61 := ((O33.keep K47 (allS ge9 (allS ge28 all0))).ext E59)
 have fk62 := ((fk34.keep K47).ext E59)
 refine Go.callV X59 hx Z59 O59 (tw_59 hw) (tw_60 hw) (nF (mvT Z59 (tw_62 hw))) (tw_62 hw) (tw_61 hw) (by decide) (tw_63 hw) (tw_42 hw) (au_36 hw O61 G fk62 (F47_0.ext E59) (F47_1.ext E59) (F47_2.ext E59) (F47_3.ext E59) A59 F59 G59 (F47_4.ext E59) V59 ge28 ge9 ne31) e59 fk62 (argsL := [.ref a59]) (rest := [.ref a4, .ref b1, .ref b1]) 27 rfl (hml ▸ rfl) (lenOf pd_17 rfl) rfl rfl (W := 3) (nE rfl) (by decide) (hb hby d7_24) ?_
 intro v68 T68 L68 q68 X68
 obtain ⟨h68, e68⟩ := hpz T68
 rw [e68] at q68
 obtain ⟨rfl, N68, K68, F68_0, F68_1, F68_2, F68_3, F68_4⟩ := q68
 show Go _ _ _ _ (T68.setTop (mkF m 27 #[vR x0, vR x1] [.ref b5, .ref a4, .ref b1, .ref b1]))
 refine aN X68 hx 28 rfl hby d7_27 rfl rfl ?_
 have O69 := (O61.keep K68 (allS ge9 (allS ge28 all0)))
 have fk70 := (fk62.keep K68)
 have fk73 := ((P3.ext E1).ext E4)
 have ne72 := Nat.ne_of_lt (Nat.lt_of_lt_of_le fk73.lt (Nat.le_of_eq g5.symm))
 have ne74 := Nat.ne_of_lt (Nat.lt_of_lt_of_le (fk73.ext E5).lt s13_0)
 have fk79 := ((P8.ext E1).ext E4)
 have ne78 := Nat.ne_of_lt (Nat.lt_of_lt_of_le fk79.lt (Nat.le_of_eq g5.symm))
 have ne80 := Nat.ne_of_lt (Nat.lt_of_lt_of_le (fk79.ext E5).lt s13_0)
 refine Go.callV X68 hx Z59 O59 (tw_59 hw) (tw_60 hw) (nF (mvT Z59 (tw_62 hw))) (tw_62 hw) (tw_61 hw) (by decide) (tw_63 hw) (tw_42 hw) (au_85 hw O69 G fk70 F68_0 F68_1 F68_2 F68_3 (((((((((P3.ext E1).ext E4).ext E5).keep K13).ext E19).keep K32).keep K47).ext E59).keep K68) (((((((((P4.ext E1).ext E4).ext E5).keep K13 (ninS ne72 nin0)).ext E19).keep K32 (ninS ne72 (ninS ne74 nin0))).keep K47 (ninS ne72 (ninS ne74 nin0))).ext E59).keep K68 (ninS ne72 (ninS ne74 nin0))) (((((((((P5.ext E1).ext E4).ext E5).keep K13 (ninS ne72 nin0)).ext E19).keep K32 (ninS ne72 (ninS ne74 nin0))).keep K47 (ninS ne72 (ninS ne74 nin0))).ext E59).keep K68 (ninS ne72 (ninS ne74 nin0))) F68_4 (((((((((P8.ext E1).ext E4).ext E5).keep K13 (ninS ne78 nin0)).ext E19).keep K32 (ninS ne78 (ninS ne80 nin0))).keep K47 (ninS ne78 (ninS ne80 nin0))).ext E59).keep K68 (ninS ne78 (ninS ne80 nin0))) R_p6 R_p7 B_p0 B_p1 ge9 ne72 ne78) e68 fk70 (argsL := [.ref x1]) (rest := [.ref a4, .ref b1, .ref b1]) 31 rfl (hml ▸ rfl) (lenOf pd_17 rfl) rfl rfl (W := 3) (nE rfl) (by decide) (hb hby d7_28) ?_
 intro v83 T83 L83 q83 X83
 obtain ⟨h83, e83⟩ := hpz T83
 rw [e83] at q83
 obtain ⟨b83_0, k83_0, rfl, N83, K83, s83_0, F83_0, F83_1, F83_2, F83_3, F83_4, F83_5⟩ := q83
 show Go _ _ _ _ (T83.setTop (mkF m 31 #[vR x0, vR x1] [.ref b5, .ref a4, .ref b1, .ref b1]))
 have C84 := (C57.trans C59)
 have fk87 := (C59.safe (((F13_5.ext E19).keep K32).keep K47).lt (Safe.keep K47 (sfS fk56 (sfS fk55 sf0)) C54.1 fk55))
 have fk90 := (C59.safe (fk34.keep K47).lt (Safe.keep K47 (sfS fk56 (sfS fk55 sf0)) C54.1 fk56))
 have C91 := (C84.trans (CHr.keep K68 (sfS fk90 (sfS fk87 sf0)) C84.1))
 have fk92 := (Safe.keep K68 (sfS fk90 (sfS fk87 sf0)) C84.1 fk90)
 have C93 := (C91.trans (CHr.keep K83 (sfS fk92 sf0) C91.1))
 refine Go.ldcCH X83 hx Z59 O59 (tw_107 hw) (own_SA hw) e83 S59 (Nat.le_trans (Nat.le_trans i59 K68.1) K83.1) (own_EW hw) (mG 3 rfl) C93.1 (vs := [(.int (39 : Int32)), (.int (32 : Int32)), (.int (105 : Int32)), (.int (115 : Int32)), (.int (32 : Int32)), (.int (97 : Int32)), (.int (108 : Int32)), (.int (114 : Int32)), (.int (101 : Int32)), (.int (97 : Int32)), (.int (100 : Int32)), (.int (121 : Int32)), (.int (32 : Int32)), (.int (116 : Int32)), (.int (97 : Int32)), (.int (107 : Int32)), (.int (101 : Int32)), (.int (110 : Int32))]) (z := (18 : Int32)) (by decide) (by decide) rfl (n := 72) (by decide) (by decide) (by decide) (by decide) 33 rfl (hb hby d7_31) ?_
 intro a95 T95 h95 j95 b95 k95 e95 E95 S95 i95 Z95 O95 A95 F95 G95 V95 C95 D95 X95
 have O97 := ((O69.keep K83 (allS ge9 all0)).ext E95)
 have fk98 := ((fk70.keep K83).ext E95)
 have fk106 := (C95.safe (fk70.keep K83).lt (Safe.keep K83 (sfS fk92 sf0) C91.1 fk92))
 refine Go.callV X95 hx Z95 O95 (tw_59 hw) (tw_60 hw) (nF (mvT Z95 (tw_62 hw))) (tw_62 hw) (tw_61 hw) (by decide) (tw_63 hw) (tw_42 hw) (au_102 hw O97 G fk98 (F83_0.ext E95) (F83_1.ext E95) (F83_2.ext E95) (F83_3.ext E95) A95 F95 G95 (F83_4.ext E95) V95 ge9 (Ne.symm (D95 b5 fk106).1) (Ne.symm (D95 b5 fk106).2)) e95 fk98 (argsL := [.ref a95]) (rest := [.ref a4, .ref b1, .ref b1]) 36 rfl (hml ▸ rfl) (lenOf pd_17 rfl) rfl rfl (W := 3) (nE rfl) (by decide) (hb hby d7_33) ?_
 intro v107 T107 L107 q107 X107
 obtain ⟨h107, e107⟩ := hpz T107
 rw [e107] at q107
 obtain ⟨b107_0, k107_0, rfl, N107, K107, s107_0, F107_0, F107_1, F107_2, F107_3, F107_4, F107_5⟩ := q107
 show Go _ _ _ _ (T107.setTop (mkF m 36 #[vR x0, vR x1] [.ref b5, .ref a4, .ref b1, .ref b1]))
 have O108 := (O97.keep K107 (allS ge9 all0))
 have fk109 := (fk98.keep K107)
 refine Go.callV X107 hx Z95 O95 (tw_131 hw) (tw_132 hw) (nF (mvT Z95 (tw_134 hw))) (tw_134 hw) (tw_133 hw) (by decide) (tw_135 hw) (tw_42 hw) (au_121 hw O108 G fk109 F107_0 F107_1 F107_2 F107_3 F107_4) e107 fk109 (argsL := []) (rest := [.ref a4, .ref b1, .ref b1]) 39 rfl (hml ▸ rfl) (lenOf pd_27 rfl) rfl rfl (W := 3) (nE rfl) (by decide) (hb hby d7_36) ?_
 intro v110 T110 L110 q110 X110
 obtain ⟨h110, e110⟩ := hpz T110
 rw [e110] at q110
 obtain ⟨b110_0, b110_1, k110_0, rfl, N110, K110, s110_0, s110_1, n110_0, F110_0, F110_1, F110_2, F110_3, F110_4⟩ := q110
 show Go _ _ _ _ (T110.setTop (mkF m 39 #[vR x0, vR x1] [.ref b110_0, .ref a4, .ref b1, .ref b1]))
 have fk112 := ((((((((((((A1.ext E4).ext E5).keep K13).ext E19).keep K32).keep K47).ext E59).keep K68).keep K83).ext E95).keep K107).keep K110)
 have fk114 := (A1.ext E4)
 have ne113 := Nat.ne_of_lt (Nat.lt_of_lt_of_le fk114.lt (Nat.le_of_eq g5.symm))
 have fk116 := (fk114.ext E5)
 have ne115 := Nat.ne_of_lt (Nat.lt_of_lt_of_le fk116.lt s13_0)
 have sz125 := Nat.le_trans (Keep.refl h0 []).1 (Nat.le_of_eq g1.symm)
 have C126 := (C93.trans C95)
 have C127 := (C126.trans (CHr.keep K107 (sfS fk106 sf0) C126.1))
 have C128 := (C127.trans (CHr.keep K110 sf0 C127.1))
 have fk130 := (C4.safe A1.lt (Safe.ext E1 C0.1 (Safe.new (Nat.le_of_eq g1.symm) : Safe Z EL0 s.vm h0 b1)))
 have fk133 := (fk116.keep K13)
 have fk137 := (((fk133.ext E19).keep K32).keep K47)
 have fk140 := (Safe.keep K83 (sfS fk92 sf0) C91.1 (Safe.keep K68 (sfS fk90 (sfS fk87 sf0)) C84.1 (C59.safe fk137.lt (Safe.keep K47 (sfS fk56 (sfS fk55 sf0)) C54.1 (Safe.keep K32 (sfS fk53 (sfS fk50 sf0)) C48.1 (C19.safe fk133.lt (Safe.keep K13 (sfS fk16 sf0) C15.1 (Safe.ext E5 C14.1 fk130))))))))
 have fk141 := (((fk137.ext E59).keep K68).keep K83)
 have fk144 := (Safe.keep K110 sf0 C127.1 (Safe.keep K107 (sfS fk106 sf0) C126.1 (C95.safe fk141.lt fk140)))
 refine Go.callNW X110 hx Z95 O95 rfl (tw_170 hw) (tw_171 hw) (tw_172 hw) (by decide) (tw_172 hw) (tw_36 hw) (au_77 hw a4 b110_0 (O108.keep K110 all0) G fk112 ((((((((((((b1_code.ext E4).ext E5).keep K13 (ninS ne113 nin0)).ext E19).keep K32 (ninS ne113 (ninS ne115 nin0))).keep K47 (ninS ne113 (ninS ne115 nin0))).ext E59).keep K68 (ninS ne113 (ninS ne115 nin0))).keep K83 (ninS ne113 nin0)).ext E95).keep K107 (ninS ne113 nin0)).keep K110 nin0) ((((((((((((b1_backtrace.ext E4).ext E5).keep K13 (ninS ne113 nin0)).ext E19).keep K32 (ninS ne113 (ninS ne115 nin0))).keep K47 (ninS ne113 (ninS ne115 nin0))).ext E59).keep K68 (ninS ne113 (ninS ne115 nin0))).keep K83 (ninS ne113 nin0)).ext E95).keep K107 (ninS ne113 nin0)).keep K110 nin0) ((((((((((((b1_cause.ext E4).ext E5).keep K13 (ninS ne113 nin0)).ext E19).keep K32 (ninS ne113 (ninS ne115 nin0))).keep K47 (ninS ne113 (ninS ne115 nin0))).ext E59).keep K68 (ninS ne113 (ninS ne115 nin0))).keep K83 (ninS ne113 nin0)).ext E95).keep K107 (ninS ne113 nin0)).keep K110 nin0) ((((((((((((b1_detailMessage.ext E4).ext E5).keep K13 (ninS ne113 nin0)).ext E19).keep K32 (ninS ne113 (ninS ne115 nin0))).keep K47 (ninS ne113 (ninS ne115 nin0))).ext E59).keep K68 (ninS ne113 (ninS ne115 nin0))).keep K83 (ninS ne113 nin0)).ext E95).keep K107 (ninS ne113 nin0)).keep K110 nin0) ((((((((((((b1_stackTrace.ext E4).ext E5).keep K13 (ninS ne113 nin0)).ext E19).keep K32 (ninS ne113 (ninS ne115 nin0))).keep K47 (ninS ne113 (ninS ne115 nin0))).ext E59).keep K68 (ninS ne113 (ninS ne115 nin0))).keep K83 (ninS ne113 nin0)).ext E95).keep K107 (ninS ne113 nin0)).keep K110 nin0) ((((((((((((b1_suppressedExceptions.ext E4).ext E5).keep K13 (ninS ne113 nin0)).ext E19).keep K32 (ninS ne113 (ninS ne115 nin0))).keep K47 (ninS ne113 (ninS ne115 nin0))).ext E59).keep K68 (ninS ne113 (ninS ne115 nin0))).keep K83 (ninS ne113 nin0)).ext E95).keep K107 (ninS ne113 nin0)).keep K110 nin0) (Unt.keep K110 nin0 (Unt.keep K107 (ninS ne113 nin0) (Unt.ext E95 (Unt.keep K83 (ninS ne113 nin0) (Unt.keep K68 (ninS ne113 (ninS ne115 nin0)) (Unt.ext E59 (Unt.keep K47 (ninS ne113 (ninS ne115 nin0)) (Unt.keep K32 (ninS ne113 (ninS ne115 nin0)) (Unt.ext E19 (Unt.keep K13 (ninS ne113 nin0) (Unt.ext E5 (Unt.ext E4 N1)))))))))))) (Nat.le_trans O0.z sz125)) hKN (own_EW hw) C128.1 (allS ⟨fk112.lt, fk144⟩ all0) S95 (Nat.le_trans (Nat.le_trans i95 K107.1) K110.1) e110 (a := b1) (argsL := [.ref a4, .ref b110_0]) (rest := [.ref b1]) 42 rfl (hml ▸ rfl) (lenOf pd_28 rfl) rfl rfl (W := 1) (nE rfl) (by decide) (hb hby d7_39) ?_
 intro v146 T146 L146 h146 e146 q146 C146 S146 Z146 O146 X146
 obtain ⟨rfl, N146, K146, F146_0, F146_1, F146_2, F146_3⟩ := q146
 subst hFF
 refine Go.retRW X146 hx hlk Z146 (own_EW hw) e146 S146 (Nat.le_refl _) (C128.trans C146) (t := (.object s2)) hret rfl rfl (hb hby d7_42) (by decide) (by decide) (fun hat => ?_)
 have fk148 := (fk112.keep K146)
 have ne150 := Nat.ne_of_lt (Nat.lt_of_lt_of_le (A4.ext E5).lt s13_0)
 have fk152 := ((((((((((((F4.ext E5).keep K13 (ninS (Ne.symm (D4 b5 (Safe.new (Nat.le_of_eq g5.symm) : Safe Z EL0 T4.vm h4 b5)).1) nin0)).ext E19).keep K32 (ninS (Ne.symm (D4 b5 (Safe.new (Nat.le_of_eq g5.symm) : Safe Z EL0 T4.vm h4 b5)).1) (ninS ne150 nin0))).keep K47 (ninS (Ne.symm (D4 b5 (Safe.new (Nat.le_of_eq g5.symm) : Safe Z EL0 T4.vm h4 b5)).1) (ninS ne150 nin0))).ext E59).keep K68 (ninS (Ne.symm (D4 b5 (Safe.new (Nat.le_of_eq g5.symm) : Safe Z EL0 T4.vm h4 b5)).1) (ninS ne150 nin0))).keep K83 (ninS (Ne.symm (D4 b5 (Safe.new (Nat.le_of_eq g5.symm) : Safe Z EL0 T4.vm h4 b5)).1) nin0)).ext E95).keep K107 (ninS (Ne.symm (D4 b5 (Safe.new (Nat.le_of_eq g5.symm) : Safe Z EL0 T4.vm h4 b5)).1) nin0)).keep K110 nin0).keep K146 (ninS (Ne.symm (D4 b1 fk130).1) nin0))
 have fk153 := ((((((((((((G4.ext E5).keep K13 (ninS (Ne.symm (D4 b5 (Safe.new (Nat.le_of_eq g5.symm) : Safe Z EL0 T4.vm h4 b5)).1) nin0)).ext E19).keep K32 (ninS (Ne.symm (D4 b5 (Safe.new (Nat.le_of_eq g5.symm) : Safe Z EL0 T4.vm h4 b5)).1) (ninS ne150 nin0))).keep K47 (ninS (Ne.symm (D4 b5 (Safe.new (Nat.le_of_eq g5.symm) : Safe Z EL0 T4.vm h4 b5)).1) (ninS ne150 nin0))).ext E59).keep K68 (ninS (Ne.symm (D4 b5 (Safe.new (Nat.le_of_eq g5.symm) : Safe Z EL0 T4.vm h4 b5)).1) (ninS ne150 nin0))).keep K83 (ninS (Ne.symm (D4 b5 (Safe.new (Nat.le_of_eq g5.symm) : Safe Z EL0 T4.vm h4 b5)).1) nin0)).ext E95).keep K107 (ninS (Ne.symm (D4 b5 (Safe.new (Nat.le_of_eq g5.symm) : Safe Z EL0 T4.vm h4 b5)).1) nin0)).keep K110 nin0).keep K146 (ninS (Ne.symm (D4 b1 fk130).1) nin0))
 have fk154 := (F110_0.keep K146)
 have fk156 := ((fk141.ext E95).keep K107)
 have ne155 := Nat.ne_of_lt (Nat.lt_of_lt_of_le fk156.lt s110_0)
 have ne159 := Nat.ne_of_lt (Nat.lt_of_lt_of_le (V4.ext E5).lt s13_0)
 have fk161 := ((((((((((((V4.ext E5).keep K13 (ninS (Ne.symm (D4 b5 (Safe.new (Nat.le_of_eq g5.symm) : Safe Z EL0 T4.vm h4 b5)).2) nin0)).ext E19).keep K32 (ninS (Ne.symm (D4 b5 (Safe.new (Nat.le_of_eq g5.symm) : Safe Z EL0 T4.vm h4 b5)).2) (ninS ne159 nin0))).keep K47 (ninS (Ne.symm (D4 b5 (Safe.new (Nat.le_of_eq g5.symm) : Safe Z EL0 T4.vm h4 b5)).2) (ninS ne159 nin0))).ext E59).keep K68 (ninS (Ne.symm (D4 b5 (Safe.new (Nat.le_of_eq g5.symm) : Safe Z EL0 T4.vm h4 b5)).2) (ninS ne159 nin0))).keep K83 (ninS (Ne.symm (D4 b5 (Safe.new (Nat.le_of_eq g5.symm) : Safe Z EL0 T4.vm h4 b5)).2) nin0)).ext E95).keep K107 (ninS (Ne.symm (D4 b5 (Safe.new (Nat.le_of_eq g5.symm) : Safe Z EL0 T4.vm h4 b5)).2) nin0)).keep K110 nin0).keep K146 (ninS (Ne.symm (D4 b1 fk130).2) nin0))
 have ne162 := Nat.ne_of_lt (Nat.lt_of_lt_of_le fk156.lt s110_1)
 have fk163 := (F110_3.keep K146 (ninS (Ne.symm ne162) nin0))
 have Kp172 := ((((((((Kp30.trans K13 (allS (Or.inr sz10) all0)).ext E19).trans K32 (allS (Or.inr sz10) (allS (Or.inr sz29) all0))).trans K47 (allS (Or.inr sz10) (allS (Or.inr sz29) all0))).ext E59).trans K68 (allS (Or.inr sz10) (allS (Or.inr sz29) all0))).trans K83 (allS (Or.inr sz10) all0)).ext E95)
 have Kp173 := (Kp172.trans K107 (allS (Or.inr sz10) all0))
 exact ⟨b1, a4, b110_0, b4, b110_1, k4, k110_0, rfl, (Fr.app (Fr.app (Fr.app (Fr.app (Fr.app (Fr.app (Fr.app (Fr.app (Fr.nil n0) N13) N32) N47) N68) N83) N107) N110) N146), ((Kp173.trans K110 all0).trans K146 (allS (Or.inr sz125) all0)), sz125, (Nat.le_trans Kp173.1 s110_0), (Nat.le_trans Kp173.1 s110_1), (Ne.symm ne155), (Ne.symm ne162), n110_0, (hat.safe fk148.lt (C146.safe fk112.lt fk144)), (hat.safe fk154.lt (C146.safe F110_0.lt (Safe.keep K110 sf0 C127.1 (Safe.new s110_0 : Safe Z EL0 T95.vm h107 b110_0)))), (hat.safe fk163.lt (C146.safe F110_3.lt (Safe.keep K110 sf0 C127.1 (Safe.new s110_1 : Safe Z EL0 T95.vm h107 b110_1)))), fk148, F146_0, F146_1, F146_2, F146_3, ((((((((((((A4.ext E5).keep K13).ext E19).keep K32).keep K47).ext E59).keep K68).keep K83).ext E95).keep K107).keep K110).keep K146), fk152, fk153, fk154, (F110_1.keep K146 (ninS (Ne.symm ne155) nin0)), (F110_2.keep K146 (ninS (Ne.symm ne155) nin0)), fk161, fk163, (F110_4.keep K146)⟩
theorem au_132 (hw : HW a0 Z)   (O0 : Old Z n0 h0) (G : Glob Z α β γ δ ε ζ η) (P1 : f0_ Z h0 x0 (.int 1)) (P2 : f2_ Z h0 x0 (.ref x2)) (P3 : Exa Z h0 x1 s1) (P4 : f0_ Z h0 x1 (.int 1)) (P5 : f2_ Z h0 x1 (.ref x3)) (P6 : Arv Z h0 x2 kk0 .byte (56 : Int32) (LL29 p0 p1 p2 p3 p4 p5) (.int 0)) (P8 : Arv Z h0 x3 kk1 .byte (56 : Int32) (LL29 p0 p1 p2 p3 p4 p5) (.int 0)) (ne_x0_x1 : x0 ≠ x1) :
    Ctr l Z ⟨s1, "equals", "(Ljava/lang/Object;)Z"⟩ B39 3 (some .boolean) (rM 1 0 0 14) #[.ref x0, .ref x1] h0 (fun v h L => v = some (.int 1) ∧ Fr n0 L ∧ h = h0) := by
 refine Ctr.of (plainFor_of_name pn_c1) ?_
 intro p e s m below meth c T0 hx hZ hby hml hown hnm hret hlk e0 es X0
 have G' := G
 obtain ⟨G0, -, -, -, -, -, -, -, -, -, -, -, G12, -⟩ := G'
 refine Go.cast (ef_39_RR m x0 x1) ?_
 generalize hFF : EndN s _ _ _ = FF
 refine aN X0 hx 1 rfl hby d39_0 rfl rfl ?_
 refine aN X0 hx 2 rfl hby d39_1 rfl rfl ?_
 refine Go.acmp X0 hx (pc' := 7) (same := false) (hb hby d39_2) rfl rfl (decide_eq_false (fun q => ne_x0_x1 (Value.ref.inj q))) (by decide) (by decide) ?_
 refine aN X0 hx 8 rfl hby d39_7 rfl rfl ?_
 refine Go.instY X0 hx hZ hown (tw_240 hw) e0 (Ins.self P3) 11 rfl (hb hby d39_8) ?_
 intro T1 e1 X1
 refine Go.ifNo X1 hx 14 rfl (hb hby d39_11) (by decide) ?_
 refine aN X1 hx 15 rfl hby d39_14 rfl rfl ?_
 refine Go.castY X1 hx hZ hown (tw_240 hw) e1 (Ins.self P3) 18 rfl (hb hby d39_15) ?_
 intro T2 e2 X2
 refine Go.astoreN X2 hx 19 rfl (hb hby d39_18) (Ls' := #[vR x0, vR x1, vR x1]) rfl rfl ?_
 refine Go.getS X2 hx hZ hown (host := "") (Or.inl (tw_14 hw)) Via.refl e2 (G0.ext O0.2) 22 rfl (hb hby d39_19) ?_
 intro T4 e4 X4
 refine Go.ifNo X4 hx 25 rfl (hb hby d39_22) (feq G12).1 ?_
 refine aN X4 hx 26 rfl hby d39_25 rfl rfl ?_
 refine gF X4 hx hZ hown (tw_26 hw) e4 P1 29 rfl (hb hby d39_26) ?_
 intro T5 e5 X5
 refine aN X5 hx 30 rfl hby d39_29 rfl rfl ?_
 refine gF X5 hx hZ hown (tw_26 hw) e5 P4 33 rfl (hb hby d39_30) ?_
 intro T6 e6 X6
 refine Go.icmpNo X6 hx 36 rfl (hb hby d39_33) (by decide) ?_
 refine aN X6 hx 37 rfl hby d39_36 rfl rfl ?_
 refine gF X6 hx hZ hown (tw_28 hw) e6 P2 40 rfl (hb hby d39_37) ?_
 intro T7 e7 X7
 refine aN X7 hx 41 rfl hby d39_40 rfl rfl ?_
 refine gF X7 hx hZ hown (tw_28 hw) e7 P5 44 rfl (hb hby d39_41) ?_
 intro T8 e8 X8
 refine Go.callS X8 hx hZ hown (tw_241 hw) (tw_242 hw) (tw_243 hw) (tw_244 hw) (by decide) (tw_244 hw) (tw_243 hw) (gl_eq l Z a0 hw x2 x3 kk0 kk1 (56 : Int32) (56 : Int32) (LL36 p0 p1 p2 p3 p4 p5) (LL36 p0 p1 p2 p3 p4 p5) h0 P6 P8 rfl rfl) e8 (argsL := [.ref x2, .ref x3]) (rest := []) 47 rfl (hml ▸ rfl) (lenOf pd_31 rfl) rfl rfl (W := 0) (nE rfl) (by decide) (hb hby d39_44) ?_
 intro v9 T9 L9 q9 X9
 obtain ⟨rfl, rfl, e9⟩ := q9
 rw [if_pos (show ((LL36 p0 p1 p2 p3 p4 p5) : List Int32) = (LL36 p0 p1 p2 p3 p4 p5) from rfl)]
 show Go _ _ _ _ (T9.setTop (mkF m 47 #[vR x0, vR x1, vR x1] [.int 1]))
 refine Go.ifNo X9 hx 50 rfl (hb hby d39_47) (by decide) ?_
 refine Go.iconst X9 hx 51 rfl (hb hby d39_50) (v := (1 : Int32)) rfl ?_
 refine Go.goto X9 hx 55 (hb hby d39_51) (by decide) (by decide) ?_
 subst hFF
 refine Go.retN X9 hx hlk (t := .boolean) hret (by simp) (hb hby d39_55) (by decide) (by decide) ?_
 rw [e9]
 exact ⟨(congrArg (fun z => some (Value.int z)) (by decide : nar .boolean (1 : Int32) = (1 : Int32))), (Fr.app (Fr.nil n0) (Fr.nil n0)), rfl⟩
theorem au_140 (hw : HW a0 Z)   (O0 : Old Z n0 h0) (G : Glob Z α β γ δ ε ζ η) (P1 : f1_ Z h0 x0 (.int 0)) :
    Ctr l Z ⟨s0, "isLatin1", "()Z"⟩ B29 1 (some .boolean) (rM 0 0 0 0) #[.ref x0] h0 (fun v h L => v = some (.int 1) ∧ Fr n0 L ∧ h = h0) := by
 refine Ctr.of (plainFor_of_name pn_c2) ?_
 intro p e s m below meth c T0 hx hZ hby hml hown hnm hret hlk e0 es X0
 have G' := G
 obtain ⟨G0, -, -, -, -, -, -, -, -, -, -, -, G12, -⟩ := G'
 refine Go.cast (ef_29_R m x0) ?_
 generalize hFF : EndN s _ _ _ = FF
 refine Go.getS X0 hx hZ hown (host := "") (Or.inl (tw_53 hw)) Via.refl e0 (G0.ext O0.2) 3 rfl (hb hby d29_0) ?_
 intro T2 e2 X2
 refine Go.ifNo X2 hx 6 rfl (hb hby d29_3) (feq G12).1 ?_
 refine aN X2 hx 7 rfl hby d29_6 rfl rfl ?_
 refine gF X2 hx hZ hown (tw_56 hw) e2 P1 10 rfl (hb hby d29_7) ?_
 intro T3 e3 X3
 refine Go.ifNo X3 hx 13 rfl (hb hby d29_10) (by decide) ?_
 refine Go.iconst X3 hx 14 rfl (hb hby d29_13) (v := (1 : Int32)) rfl ?_
 refine Go.goto X3 hx 18 (hb hby d29_14) (by decide) (by decide) ?_
 subst hFF
 refine Go.retN X3 hx hlk (t := .boolean) hret (by simp) (hb hby d29_18) (by decide) (by decide) ?_
 rw [e3]
 exact ⟨(congrArg (fun z => some (Value.int z)) (by decide : nar .boolean (1 : Int32) = (1 : Int32))), (Fr.nil n0), rfl⟩
theorem au_145 (hw : HW a0 Z)  (Z0 : n0 ≤ h0.size) (G : Glob Z α β γ δ ε ζ η) :
    Ctr l Z ⟨"jdk/internal/util/Preconditions", "checkFromIndexSize", "(IIILjava/util/function/BiFunction;)I"⟩ B53 4 (some .int) (rM 0 0 0 0) #[.int 0, .int 4, .int 16, ε] h0 (fun v h L => v = some (.int 0) ∧ Fr n0 L ∧ h = h0) := by
 refine Ctr.of (plainFor_of_name pn_c11) ?_
 intro p e s m below meth c T0 hx hZ hby hml hown hnm hret hlk e0 es X0
 have G' := G
 obtain ⟨-, -, -, -, -, -, -, -, -, -, -, -, -, G13⟩ := G'
 refine Go.cast (ef_53_IIIV m (0 : Int32) (4 : Int32) (16 : Int32) ε G13) ?_
 generalize hFF : EndN s _ _ _ = FF
 refine iN X0 hx 1 rfl hby d53_0 rfl ?_
 refine iN X0 hx 2 rfl hby d53_1 rfl ?_
 refine Go.ior X0 hx 3 rfl (hb hby d53_2) ?_
 rw [show ((16 : Int32) ||| (0 : Int32)) = (16 : Int32) from by decide]
 refine iN X0 hx 4 rfl hby d53_3 rfl ?_
 refine Go.ior X0 hx 5 rfl (hb hby d53_4) ?_
 rw [show ((16 : Int32) ||| (4 : Int32)) = (20 : Int32) from by decide]
 refine Go.ifNo X0 hx 8 rfl (hb hby d53_5) (by decide) ?_
 refine iN X0 hx 9 rfl hby d53_8 rfl ?_
 refine iN X0 hx 10 rfl hby d53_9 rfl ?_
 refine iN X0 hx 11 rfl hby d53_10 rfl ?_
 refine Go.isub X0 hx 12 rfl (hb hby d53_11) ?_
 rw [show ((16 : Int32) - (0 : Int32)) = (16 : Int32) from by decide]
 refine Go.icmpYes X0 hx 23 (hb hby d53_12) (by decide) (by decide) (by decide) ?_
 refine iN X0 hx 24 rfl hby d53_23 rfl ?_
 subst hFF
 refine Go.retI X0 hx hlk hret (hb hby d53_24) (by decide) (by decide) ?_
 rw [e0]
 exact ⟨rfl, (Fr.nil n0), rfl⟩
theorem au_144 (hw : HW a0 Z)   (O0 : Old Z n0 h0) (G : Glob Z α β γ δ ε ζ η) :
    Ctr l Z ⟨s1, "checkBoundsOffCount", "(III)I"⟩ B52 3 (some .int) (rM 1 0 0 15) #[.int 0, .int 4, .int 16] h0 (fun v h L => v = some (.int 0) ∧ Fr n0 L ∧ h = h0) := by
 refine Ctr.of (plainFor_of_name pn_c1) ?_
 intro p e s m below meth c T0 hx hZ hby hml hown hnm hret hlk e0 es X0
 have G' := G
 obtain ⟨-, -, -, -, -, -, -, -, -, G9, -, -, -, -⟩ := G'
 refine Go.cast (ef_52_III m (0 : Int32) (4 : Int32) (16 : Int32)) ?_
 generalize hFF : EndN s _ _ _ = FF
 refine iN X0 hx 1 rfl hby d52_0 rfl ?_
 refine iN X0 hx 2 rfl hby d52_1 rfl ?_
 refine iN X0 hx 3 rfl hby d52_2 rfl ?_
 refine Go.getS X0 hx hZ hown (host := "") (Or.inl (tw_286 hw)) Via.refl e0 (G9.ext O0.2) 6 rfl (hb hby d52_3) ?_
 intro T2 e2 X2
 refine Go.callS X2 hx hZ hown (tw_288 hw) (tw_289 hw) (tw_287 hw) (tw_290 hw) (by decide) (tw_290 hw) (tw_287 hw) (au_145 hw O0.z G) e2 (argsL := [.int 0, .int 4, .int 16, ε]) (rest := []) 9 rfl (hml ▸ rfl) (lenOf pd_33 rfl) rfl rfl (W := 0) (nE rfl) (by decide) (hb hby d52_6) ?_
 intro v3 T3 L3 q3 X3
 obtain ⟨rfl, N3, e3⟩ := q3
 show Go _ _ _ _ (T3.setTop (mkF m 9 #[vI 0, vI 4, vI 16] [.int 0]))
 subst hFF
 refine Go.retI X3 hx hlk hret (hb hby d52_9) (by decide) (by decide) ?_
 rw [e3]
 exact ⟨rfl, (Fr.app (Fr.nil n0) N3), rfl⟩
theorem au_143 (hw : HW a0 Z)   (O0 : Old Z n0 h0) (G : Glob Z α β γ δ ε ζ η) (P0 : Arv Z h0 x0 kk0 .byte (32 : Int32) ls0 (.int 0)) :
    Ctr l Z ⟨s5, "checkBoundsOffCount", "(II[B)V"⟩ B50 3 none (rM 2 0 0 29) #[.int 0, .int 4, .ref x0] h0 (fun v h L => v = none ∧ Fr n0 L ∧ h = h0) := by
 refine Ctr.of (plainFor_of_name pn_c0) fun p e s m below meth c T0 hx hZ hby hml hown hnm hret hlk e0 es X0 => Go.cast (ef_50_IIR m (0 : Int32) (4 : Int32) x0) ?_
 generalize hFF : EndN s _ _ _ = FF
 refine iN X0 hx 1 rfl hby d50_0 rfl ?_
 refine iN X0 hx 2 rfl hby d50_1 rfl ?_
 refine aN X0 hx 3 rfl hby d50_2 rfl rfl ?_
 refine Go.callS X0 hx hZ hown (tw_280 hw) (tw_281 hw) (tw_17 hw) (tw_282 hw) (by decide) (tw_282 hw) (tw_17 hw) (au_98 hw O0.z P0) e0 (argsL := [.ref x0]) (rest := [.int 4, .int 0]) 6 rfl (hml ▸ rfl) (lenOf pd_32 rfl) rfl rfl (W := 2) (nE rfl) (by decide) (hb hby d50_3) ?_
 intro v1 T1 L1 q1 X1
 obtain ⟨rfl, N1, e1⟩ := q1
 show Go _ _ _ _ (T1.setTop (mkF m 6 #[vI 0, vI 4, vR x0] [.int 16, .int 4, .int 0]))
 refine Go.callS X1 hx hZ hown (tw_283 hw) (tw_284 hw) (tw_2 hw) (tw_285 hw) (by decide) (tw_285 hw) (tw_2 hw) (au_144 hw O0 G) e1 (argsL := [.int 0, .int 4, .int 16]) (rest := []) 9 rfl (hml ▸ rfl) (lenOf pd_19 rfl) rfl rfl (W := 0) (nE rfl) (by decide) (hb hby d50_6) ?_
 intro v2 T2 L2 q2 X2
 obtain ⟨rfl, N2, e2⟩ := q2
 show Go _ _ _ _ (T2.setTop (mkF m 9 #[vI 0, vI 4, vR x0] [.int 0]))
 refine Go.pop X2 hx 10 rfl (hb hby d50_9) rfl ?_
 subst hFF
 refine Go.ret0 X2 hx hlk hret (hb hby d50_10) (by decide) (by decide) ?_
 rw [e2]
 exact ⟨rfl, (Fr.app (Fr.app (Fr.nil n0) N1) N2), rfl⟩
theorem au_142 (hw : HW a0 Z)   (O0 : Old Z n0 h0) (G : Glob Z α β γ δ ε ζ η) (P0 : Arv Z h0 x0 kk0 .byte (16 : Int32) LL2 (.int 0)) (P2 : Arv Z h0 x1 kk1 .byte (32 : Int32) LL18 (.int 0)) (g_x1 : n0 ≤ x1) (ne_x0_x1 : x0 ≠ x1) :
    Ctr l Z ⟨s5, "inflate", "([BI[BII)V"⟩ B49 6 none (rM 3 0 0 43) #[.ref x0, .int 0, .ref x1, .int 0, .int 4] h0 (fun v h L => v = none ∧ Fr n0 L ∧ Keep h0 h [x1] ∧ Arv Z h x1 kk1 .byte (32 : Int32) LL12 (.int 0)) := by
 refine Ctr.of (plainFor_of_name pn_c0) ?_
 intro p e s m below meth c T0 hx hZ hby hml hown hnm hret hlk e0 es X0
 have G' := G
 obtain ⟨-, -, -, -, -, -, G6, G7, G8, -, -, -, -, -⟩ := G'
 refine Go.cast (ef_49_RIRII m x0 (0 : Int32) x1 (0 : Int32) (4 : Int32)) ?_
 generalize hFF : EndN s _ _ _ = FF
 refine iN X0 hx 1 rfl hby d49_0 rfl ?_
 refine Go.iload X0 hx 3 rfl (hb hby d49_1) rfl ?_
 refine aN X0 hx 4 rfl hby d49_3 rfl rfl ?_
 refine Go.callS X0 hx hZ hown (tw_277 hw) (tw_278 hw) (tw_17 hw) (tw_279 hw) (by decide) (tw_279 hw) (tw_17 hw) (au_143 hw O0 G P2) e0 (argsL := [.int 0, .int 4, .ref x1]) (rest := []) 7 rfl (hml ▸ rfl) (lenOf pd_34 rfl) rfl rfl (W := 0) (nE rfl) (by decide) (hb hby d49_4) ?_
 intro v1 T1 L1 q1 X1
 obtain ⟨rfl, N1, e1⟩ := q1
 refine Go.iconst X1 hx 8 rfl (hb hby d49_7) (v := (0 : Int32)) rfl ?_
 refine Go.istore X1 hx 10 rfl (hb hby d49_8) (Ls' := #[vR x0, vI 0, vR x1, vI 0, vI 4, vI 0]) rfl ?_
 have A2 : Arv Z h0 x0 kk0 .byte (16 : Int32) (([(116 : Int32), (104 : Int32), (101 : Int32), (32 : Int32)] : List Int32).map own_vb ++ LL9) (.int 0) := by rw [show ([(116 : Int32), (104 : Int32), (101 : Int32), (32 : Int32)] : List Int32).map own_vb ++ (LL9 : List Value) = LL2 from (own_mca (by decide) (own_mca (by decide) (own_mca (by decide) (own_mca (by decide) rfl))))]; exact P0
 refine lp_inf hw X1 hx hZ hby hml hown e1 O0 (Fr.app (Fr.nil n0) N1) G6 G7 G8 (by decide) (by decide) (by decide) (by decide) (cs := [(116 : Int32), (104 : Int32), (101 : Int32), (32 : Int32)]) (off := 0) (rest := LL9) (pre := []) (m0 := LL35) (post := LL41) A2 P2 rfl rfl rfl rfl rfl rfl (own_xc (own_rlit (n := 116) (by decide)) (by decide) (by decide) (own_xc (own_rlit (n := 104) (by decide)) (by decide) (by decide) (own_xc (own_rlit (n := 101) (by decide)) (by decide) (by decide) (own_xc (own_rlit (n := 32) (by decide)) (by decide) (by decide) own_x0)))) g_x1 ne_x0_x1 ?_
 intro T2 h2 L2 e2 X2 N2 K2 V2
 have E2 : ([] : List Value) ++ (own_u16 [(116 : Int32), (104 : Int32), (101 : Int32), (32 : Int32)] ++ LL41) = LL12 := congrArg (fun t => ([] : List Value) ++ t) ((own_uc (by decide) (by decide) (own_uc (by decide) (by decide) (own_uc (by decide) (by decide) (own_uc (by decide) (by decide) rfl)))) : own_u16 [(116 : Int32), (104 : Int32), (101 : Int32), (32 : Int32)] ++ LL41 = LL12)
 have U2 : Arv Z h2 x1 kk1 .byte (32 : Int32) LL12 (.int 0) := by rw [← E2]; exact V2
 show Go _ _ _ _ (T2.setTop (mkF m 41 #[vR x0, vI 4, vR x1, vI 4, vI 4, vI 4] []))
 subst hFF
 refine Go.ret0 X2 hx hlk hret (hb hby d49_41) (by decide) (by decide) ?_
 rw [e2]
 exact ⟨rfl, N2, ((Keep.refl h0 [x1]).trans K2 (allS (Or.inl (mG 0 rfl)) all0)), U2⟩
theorem au_141 (hw : HW a0 Z)   (O0 : Old Z n0 h0) (G : Glob Z α β γ δ ε ζ η) (P0 : Arv Z h0 x0 kk0 .byte (16 : Int32) LL2 (.int 0)) (P2 : Arv Z h0 x1 kk1 .byte (32 : Int32) LL18 (.int 0)) (g_x1 : n0 ≤ x1) (ne_x0_x1 : x0 ≠ x1) :
    Ctr l Z ⟨"java/lang/StringLatin1", "inflate", "([BI[BII)V"⟩ B48 5 none (rM 4 0 0 60) #[.ref x0, .int 0, .ref x1, .int 0, .int 4] h0 (fun v h L => v = none ∧ Fr n0 L ∧ Keep h0 h [x1] ∧ Arv Z h x1 kk1 .byte (32 : Int32) LL12 (.int 0)) := by
 refine Ctr.of (plainFor_of_name pn_c10) fun p e s m below meth c T0 hx hZ hby hml hown hnm hret hlk e0 es X0 => Go.cast (ef_48_RIRII m x0 (0 : Int32) x1 (0 : Int32) (4 : Int32)) ?_
 generalize hFF : EndN s _ _ _ = FF
 refine aN X0 hx 1 rfl hby d48_0 rfl rfl ?_
 refine iN X0 hx 2 rfl hby d48_1 rfl ?_
 refine aN X0 hx 3 rfl hby d48_2 rfl rfl ?_
 refine iN X0 hx 4 rfl hby d48_3 rfl ?_
 refine Go.iload X0 hx 6 rfl (hb hby d48_4) rfl ?_
 refine Go.callS X0 hx hZ hown (tw_274 hw) (tw_275 hw) (tw_17 hw) (tw_276 hw) (by decide) (tw_276 hw) (tw_17 hw) (au_142 hw O0 G P0 P2 g_x1 ne_x0_x1) e0 (argsL := [.ref x0, .int 0, .ref x1, .int 0, .int 4]) (rest := []) 9 rfl (hml ▸ rfl) (lenOf pd_35 rfl) rfl rfl (W := 0) (nE rfl) (by decide) (hb hby d48_6) ?_
 intro v1 T1 L1 q1 X1
 obtain ⟨h1, e1⟩ := hpz T1
 rw [e1] at q1
 obtain ⟨rfl, N1, K1, F1_0⟩ := q1
 subst hFF
 refine Go.ret0 X1 hx hlk hret (hb hby d48_9) (by decide) (by decide) ?_
 rw [e1]
 exact ⟨rfl, (Fr.app (Fr.nil n0) N1), ((Keep.refl h0 [x1]).trans K1 (allS (Or.inl (mG 0 rfl)) all0)), F1_0⟩
theorem au_139 (hw : HW a0 Z)   (O0 : Old Z n0 h0) (G : Glob Z α β γ δ ε ζ η) (P0 : Exa Z h0 x0 s3) (P1 : f1_ Z h0 x0 (.int 0)) (P2 : f4_ Z h0 x0 (.int 4)) (P3 : f5_ Z h0 x0 (.int 0)) (P4 : f3_ Z h0 x0 (.ref x1)) (P5 : Arv Z h0 x1 kk0 .byte (16 : Int32) LL2 (.int 0)) (g_x0 : n0 ≤ x0) :
    Ctr l Z ⟨s0, "inflate", "()V"⟩ B47 2 none (rM 5 1 32 76) #[.ref x0] h0 (fun v h L => ∃ (y0 : Addr) (y1 : ClassId), v = none ∧ Fr n0 L ∧ Keep h0 h [x0] ∧ h0.size ≤ y0 ∧ f1_ Z h x0 (.int 1) ∧ f4_ Z h x0 (.int 4) ∧ f5_ Z h x0 (.int 0) ∧ f3_ Z h x0 (.ref y0) ∧ Arv Z h y0 y1 .byte (32 : Int32) LL12 (.int 0) ∧ Exa Z h y0 "[B") := by
 refine Ctr.of (plainFor_of_name pn_c2) fun p e s m below meth c T0 hx hZ hby hml hown hnm hret hlk e0 es X0 => Go.cast (ef_47_R m x0) ?_
 generalize hFF : EndN s _ _ _ = FF
 refine aN X0 hx 1 rfl hby d47_0 rfl rfl ?_
 refine Go.callV X0 hx hZ hown (tw_269 hw) (tw_157 hw) (nF (mvT hZ (tw_159 hw))) (tw_159 hw) (tw_158 hw) (by decide) (tw_160 hw) (tw_50 hw) (au_140 hw O0 G P1) e0 P0 (argsL := []) (rest := []) 4 rfl (hml ▸ rfl) (lenOf pd_22 rfl) rfl rfl (W := 0) (nE rfl) (by decide) (hb hby d47_1) ?_
 intro v1 T1 L1 q1 X1
 obtain ⟨rfl, N1, e1⟩ := q1
 show Go _ _ _ _ (T1.setTop (mkF m 4 #[vR x0, uS] [.int 1]))
 refine Go.ifYes X1 hx 8 (hb hby d47_4) (by decide) (by decide) (by decide) ?_
 refine aN X1 hx 9 rfl hby d47_8 rfl rfl ?_
 refine gF X1 hx hZ hown (tw_54 hw) e1 P4 12 rfl (hb hby d47_9) ?_
 intro T2 e2 X2
 refine Go.arraylength X2 hx hZ e2 P5 13 rfl (hb hby d47_12) ?_
 refine Go.callS X2 hx hZ hown (tw_270 hw) (tw_249 hw) (tw_17 hw) (tw_250 hw) (by decide) (tw_250 hw) (tw_17 hw) (au_93 hw O0.z) e2 (argsL := [.int 16]) (rest := []) 16 rfl (hml ▸ rfl) (lenOf pd_2 rfl) rfl rfl (W := 0) (nE rfl) (by decide) (hb hby d47_13) ?_
 intro v3 T3 L3 q3 X3
 obtain ⟨h3, e3⟩ := hpz T3
 rw [e3] at q3
 obtain ⟨b3_0, k3_0, rfl, N3, K3, s3_0, F3_0, F3_1⟩ := q3
 show Go _ _ _ _ (T3.setTop (mkF m 16 #[vR x0, uS] [.ref b3_0]))
 refine Go.astoreN X3 hx 17 rfl (hb hby d47_16) (Ls' := #[vR x0, vR b3_0]) rfl rfl ?_
 refine aN X3 hx 18 rfl hby d47_17 rfl rfl ?_
 have fk4 := (P4.keep K3 nin0)
 refine gF X3 hx hZ hown (tw_54 hw) e3 fk4 21 rfl (hb hby d47_18) ?_
 intro T5 e5 X5
 refine Go.iconst X5 hx 22 rfl (hb hby d47_21) (v := (0 : Int32)) rfl ?_
 refine aN X5 hx 23 rfl hby d47_22 rfl rfl ?_
 refine Go.iconst X5 hx 24 rfl (hb hby d47_23) (v := (0 : Int32)) rfl ?_
 refine aN X5 hx 25 rfl hby d47_24 rfl rfl ?_
 have fk6 := (P2.keep K3 nin0)
 refine gF X5 hx hZ hown (tw_79 hw) e5 fk6 28 rfl (hb hby d47_25) ?_
 intro T7 e7 X7
 have sz11 := Nat.le_trans (Keep.refl h0 [x0]).1 s3_0
 refine Go.callS X7 hx hZ hown (tw_271 hw) (tw_272 hw) (tw_243 hw) (tw_273 hw) (by decide) (tw_273 hw) (tw_243 hw) (au_141 hw (O0.keep K3 all0) G (P5.keep K3 nin0) F3_0 (Nat.le_trans O0.z sz11) (Nat.ne_of_lt (Nat.lt_of_lt_of_le P5.lt s3_0))) e7 (argsL := [.ref x1, .int 0, .ref b3_0, .int 0, .int 4]) (rest := []) 31 rfl (hml ▸ rfl) (lenOf pd_35 rfl) rfl rfl (W := 0) (nE rfl) (by decide) (hb hby d47_28) ?_
 intro v13 T13 L13 q13 X13
 obtain ⟨h13, e13⟩ := hpz T13
 rw [e13] at q13
 obtain ⟨rfl, N13, K13, F13_0⟩ := q13
 refine aN X13 hx 32 rfl hby d47_31 rfl rfl ?_
 refine aN X13 hx 33 rfl hby d47_32 rfl rfl ?_
 have ne14 := Nat.ne_of_lt (Nat.lt_of_lt_of_le P0.lt s3_0)
 have fk16 := ((P0.keep K3).keep K13)
 refine Go.putF X13 hx hZ hown (host := "") (Or.inl (tw_54 hw)) Via.refl e13 (fk4.keep K13 (ninS ne14 nin0)) fk16 (Or.inl (tw_55 hw)) (tw_41 hw) (ty := (.array .byte)) (by decide) rfl rfl 36 rfl (hb hby d47_33) ?_
 intro T17 h17 e17 W17 F17 X17
 have N17 := Fr.snoc X17 (Fr.app (Fr.app (Fr.app (Fr.nil n0) N1) N3) N13) g_x0
 refine aN X17 hx 37 rfl hby d47_36 rfl rfl ?_
 refine Go.iconst X17 hx 38 rfl (hb hby d47_37) (v := (1 : Int32)) rfl ?_
 refine Go.putFN X17 hx hZ hown (tw_56 hw) Via.refl e17 (((P1.keep K3 nin0).keep K13 (ninS ne14 nin0)).other W17 (Or.inr (slot_ne (Or.inl (tw_57 hw)) (Or.inl (tw_55 hw)) (by decide) (t := .byte) (t' := (.array .byte)) (by decide) (by decide)))) (fk16.wr W17) (Or.inl (tw_57 hw)) (tw_41 hw) (ty := .byte) (v' := (.int 1)) (by decide) (by decide) (by decide) 41 rfl (hb hby d47_38) ?_
 intro T20 h20 e20 W20 F20 X20
 have N20 := Fr.snoc X20 N17 g_x0
 subst hFF
 refine Go.ret0 X20 hx hlk hret (hb hby d47_41) (by decide) (by decide) ?_
 rw [e20]
 exact ⟨b3_0, k3_0, rfl, N20, (((((Keep.refl h0 [x0]).trans K3 all0).trans K13 (allS (Or.inr sz11) all0)).wr W17 (Or.inl (mG 0 rfl))).wr W20 (Or.inl (mG 0 rfl))), sz11, F20, (((fk6.keep K13 (ninS ne14 nin0)).other W17 (Or.inr (slot_ne (Or.inl (tw_80 hw)) (Or.inl (tw_55 hw)) (by decide) (t := .int) (t' := (.array .byte)) (by decide) (by decide)))).other W20 (Or.inr (slot_ne (Or.inl (tw_80 hw)) (Or.inl (tw_57 hw)) (by decide) (t := .int) (t' := .byte) (by decide) (by decide)))), ((((P3.keep K3 nin0).keep K13 (ninS ne14 nin0)).other W17 (Or.inr (slot_ne (Or.inl (tw_293 hw)) (Or.inl (tw_55 hw)) (by decide) (t := .boolean) (t' := (.array .byte)) (by decide) (by decide)))).other W20 (Or.inr (slot_ne (Or.inl (tw_293 hw)) (Or.inl (tw_57 hw)) (by decide) (t := .boolean) (t' := .byte) (by decide) (by decide)))), (F17.other W20 (Or.inr (slot_ne (Or.inl (tw_55 hw)) (Or.inl (tw_57 hw)) (by decide) (t := (.array .byte)) (t' := .byte) (by decide) (by decide)))), ((F13_0.other W17 (Ne.symm ne14)).other W20 (Ne.symm ne14)), (((F3_1.keep K13).wr W17).wr W20)⟩
theorem au_138 (hw : HW a0 Z)   (O0 : Old Z n0 h0) (G : Glob Z α β γ δ ε ζ η) (P0 : Exa Z h0 x0 s3) (P1 : f1_ Z h0 x0 (.int 0)) (P2 : f4_ Z h0 x0 (.int 4)) (P3 : f5_ Z h0 x0 (.int 0)) (P4 : f3_ Z h0 x0 (.ref x2)) (P5 : Exa Z h0 x1 s1) (P6 : f0_ Z h0 x1 (.int 1)) (P8 : Arv Z h0 x2 kk0 .byte (16 : Int32) LL2 (.int 0)) (g_x0 : n0 ≤ x0) :
    Ctr l Z ⟨s0, "inflateIfNeededFor", "(Ljava/lang/String;)V"⟩ B16 2 none (rM 6 1 32 89) #[.ref x0, .ref x1] h0 (fun v h L => ∃ (y0 : Addr) (y1 : ClassId), v = none ∧ Fr n0 L ∧ Keep h0 h [x0] ∧ h0.size ≤ y0 ∧ f1_ Z h x0 (.int 1) ∧ f4_ Z h x0 (.int 4) ∧ f5_ Z h x0 (.int 0) ∧ f3_ Z h x0 (.ref y0) ∧ Arv Z h y0 y1 .byte (32 : Int32) LL12 (.int 0) ∧ Exa Z h y0 "[B") := by
 refine Ctr.of (plainFor_of_name pn_c2) ?_
 intro p e s m below meth c T0 hx hZ hby hml hown hnm hret hlk e0 es X0
 have G' := G
 obtain ⟨G0, -, -, -, -, -, -, -, -, -, -, -, G12, -⟩ := G'
 refine Go.cast (ef_16_RR m x0 x1) ?_
 generalize hFF : EndN s _ _ _ = FF
 refine Go.getS X0 hx hZ hown (host := "") (Or.inl (tw_53 hw)) Via.refl e0 (G0.ext O0.2) 3 rfl (hb hby d16_0) ?_
 intro T2 e2 X2
 refine Go.ifNo X2 hx 6 rfl (hb hby d16_3) (feq G12).1 ?_
 refine aN X2 hx 7 rfl hby d16_6 rfl rfl ?_
 refine gF X2 hx hZ hown (tw_56 hw) e2 P1 10 rfl (hb hby d16_7) ?_
 intro T3 e3 X3
 refine aN X3 hx 11 rfl hby d16_10 rfl rfl ?_
 refine Go.callV X3 hx hZ hown (tw_96 hw) (tw_75 hw) (nF (mvT hZ (tw_77 hw))) (tw_77 hw) (tw_76 hw) (by decide) (tw_78 hw) (tw_2 hw) (au_88 hw O0 G P6) e3 P5 (argsL := []) (rest := [.int 0]) 14 rfl (hml ▸ rfl) (lenOf pd_11 rfl) rfl rfl (W := 1) (nE rfl) (by decide) (hb hby d16_11) ?_
 intro v4 T4 L4 q4 X4
 obtain ⟨rfl, N4, e4⟩ := q4
 show Go _ _ _ _ (T4.setTop (mkF m 14 #[vR x0, vR x1] [.int 1, .int 0]))
 refine Go.icmpNo X4 hx 17 rfl (hb hby d16_14) (by decide) ?_
 refine aN X4 hx 18 rfl hby d16_17 rfl rfl ?_
 refine Go.callP X4 hx hZ hown (tw_264 hw) (tw_265 hw) (tw_267 hw) (tw_266 hw) (tw_268 hw) (by decide) (tw_268 hw) (tw_50 hw) (au_139 hw O0 G P0 P1 P2 P3 P4 P8 g_x0) e4 P0 (argsL := []) (rest := []) 21 rfl (hml ▸ rfl) (lenOf pd_10 rfl) rfl rfl (W := 0) (nE rfl) (by decide) (hb hby d16_18) ?_
 intro v5 T5 L5 q5 X5
 obtain ⟨h5, e5⟩ := hpz T5
 rw [e5] at q5
 obtain ⟨b5_0, k5_0, rfl, N5, K5, s5_0, F5_0, F5_1, F5_2, F5_3, F5_4, F5_5⟩ := q5
 subst hFF
 refine Go.ret0 X5 hx hlk hret (hb hby d16_21) (by decide) (by decide) ?_
 rw [e5]
 exact ⟨b5_0, k5_0, rfl, (Fr.app (Fr.app (Fr.nil n0) N4) N5), ((Keep.refl h0 [x0]).trans K5 (allS (Or.inl (mG 0 rfl)) all0)), (Nat.le_trans (Keep.refl h0 [x0]).1 s5_0), F5_0, F5_1, F5_2, F5_3, F5_4, F5_5⟩
theorem au_146 (hw : HW a0 Z)   (O0 : Old Z n0 h0) (G : Glob Z α β γ δ ε ζ η) (P0 : Exa Z h0 x0 s1) (P1 : f0_ Z h0 x0 (.int 1)) (P2 : f2_ Z h0 x0 (.ref x2)) (P3 : Arv Z h0 x1 kk0 .byte (32 : Int32) LL12 (.int 0)) (P5 : Arv Z h0 x2 kk1 .byte (4 : Int32) [.int p0, .int p1, .int p2, .int p3] (.int 0)) (g_x1 : n0 ≤ x1) :
    Ctr l Z ⟨s1, "getBytes", "([BIB)V"⟩ B17 4 none (rM 1 0 0 18) #[.ref x0, .ref x1, .int 4, .int 1] h0 (fun v h L => v = none ∧ Fr n0 L ∧ Keep h0 h [x1] ∧ Arv Z h x1 kk0 .byte (32 : Int32) (LL6 p0 p1 p2 p3) (.int 0)) := by
 refine Ctr.of (plainFor_of_name pn_c1) fun p e s m below meth c T0 hx hZ hby hml hown hnm hret hlk e0 es X0 => Go.cast (ef_17_RRII m x0 x1 (4 : Int32) (1 : Int32)) ?_
 generalize hFF : EndN s _ _ _ = FF
 refine aN X0 hx 1 rfl hby d17_0 rfl rfl ?_
 refine Go.callV X0 hx hZ hown (tw_74 hw) (tw_75 hw) (nF (mvT hZ (tw_77 hw))) (tw_77 hw) (tw_76 hw) (by decide) (tw_78 hw) (tw_2 hw) (au_88 hw O0 G P1) e0 P0 (argsL := []) (rest := []) 4 rfl (hml ▸ rfl) (lenOf pd_11 rfl) rfl rfl (W := 0) (nE rfl) (by decide) (hb hby d17_1) ?_
 intro v1 T1 L1 q1 X1
 obtain ⟨rfl, N1, e1⟩ := q1
 show Go _ _ _ _ (T1.setTop (mkF m 4 #[vR x0, vR x1, vI 4, vI 1] [.int 1]))
 refine iN X1 hx 5 rfl hby d17_4 rfl ?_
 refine Go.icmpNo X1 hx 8 rfl (hb hby d17_5) (by decide) ?_
 refine aN X1 hx 9 rfl hby d17_8 rfl rfl ?_
 refine gF X1 hx hZ hown (tw_28 hw) e1 P2 12 rfl (hb hby d17_9) ?_
 intro T2 e2 X2
 refine Go.iconst X2 hx 13 rfl (hb hby d17_12) (v := (0 : Int32)) rfl ?_
 refine aN X2 hx 14 rfl hby d17_13 rfl rfl ?_
 refine iN X2 hx 15 rfl hby d17_14 rfl ?_
 refine iN X2 hx 16 rfl hby d17_15 rfl ?_
 refine Go.ishl X2 hx 17 rfl (hb hby d17_16) ?_
 rw [show ((4 : Int32) <<< ((1 : Int32) &&& 31)) = (8 : Int32) from by decide]
 refine aN X2 hx 18 rfl hby d17_17 rfl rfl ?_
 refine gF X2 hx hZ hown (tw_28 hw) e2 P2 21 rfl (hb hby d17_18) ?_
 intro T3 e3 X3
 refine Go.arraylength X3 hx hZ e3 P5 22 rfl (hb hby d17_21) ?_
 refine Go.arraycopy X3 hx hZ hown (tw_102 hw) (tw_105 hw) (tw_103 hw) (tw_104 hw) e3 P5 P3 rfl (sp := (0 : Int32)) (dp := (8 : Int32)) (nn := (4 : Int32)) (us := [.int p0, .int p1, .int p2, .int p3]) (by decide) (by decide) (by decide) (by decide) (by decide) rfl (nB rfl) (Fr.app (Fr.nil n0) N1) g_x1 (by decide) (W := 0) (hml ▸ rfl) (nE rfl) (by decide) (pc' := 25) rfl (hb hby d17_22) ?_
 intro T4 h4 L4 e4 N4 K4 V4 X4
 have V4' : Arv Z h4 x1 kk0 .byte (32 : Int32) (LL6 p0 p1 p2 p3) (.int 0) := V4
 refine Go.goto X4 hx 43 (hb hby d17_25) (by decide) (by decide) ?_
 subst hFF
 refine Go.ret0 X4 hx hlk hret (hb hby d17_43) (by decide) (by decide) ?_
 rw [e4]
 exact ⟨rfl, N4, ((Keep.refl h0 [x1]).trans K4 (allS (Or.inl (mG 0 rfl)) all0)), V4'⟩
theorem au_137 (hw : HW a0 Z)   (O0 : Old Z n0 h0) (G : Glob Z α β γ δ ε ζ η) (P0 : Exa Z h0 x0 s3) (P1 : f1_ Z h0 x0 (.int 0)) (P2 : f4_ Z h0 x0 (.int 4)) (P3 : f5_ Z h0 x0 (.int 0)) (P4 : f3_ Z h0 x0 (.ref x2)) (P5 : Exa Z h0 x1 s1) (P6 : f0_ Z h0 x1 (.int 1)) (P7 : f2_ Z h0 x1 (.ref x3)) (P8 : Arv Z h0 x2 kk0 .byte (16 : Int32) LL2 (.int 0)) (P10 : Arv Z h0 x3 kk1 .byte (4 : Int32) [.int p0, .int p1, .int p2, .int p3] (.int 0)) (g_x0 : n0 ≤ x0) (ne_x1_x0 : x1 ≠ x0) (ne_x3_x0 : x3 ≠ x0) :
    Ctr l Z ⟨s0, "putStringAt", "(ILjava/lang/String;)V"⟩ B15 3 none (rM 7 1 32 102) #[.ref x0, .int 4, .ref x1] h0 (fun v h L => ∃ (y0 : Addr) (y1 : ClassId), v = none ∧ Fr n0 L ∧ Keep h0 h [x0] ∧ h0.size ≤ y0 ∧ f1_ Z h x0 (.int 1) ∧ f4_ Z h x0 (.int 4) ∧ f5_ Z h x0 (.int 0) ∧ f3_ Z h x0 (.ref y0) ∧ Arv Z h y0 y1 .byte (32 : Int32) (LL6 p0 p1 p2 p3) (.int 0) ∧ Exa Z h y0 "[B") := by
 refine Ctr.of (plainFor_of_name pn_c2) fun p e s m below meth c T0 hx hZ hby hml hown hnm hret hlk e0 es X0 => Go.cast (ef_15_RIR m x0 (4 : Int32) x1) ?_
 generalize hFF : EndN s _ _ _ = FF
 refine aN X0 hx 1 rfl hby d15_0 rfl rfl ?_
 refine aN X0 hx 2 rfl hby d15_1 rfl rfl ?_
 refine Go.callP X0 hx hZ hown (tw_91 hw) (tw_92 hw) (tw_94 hw) (tw_93 hw) (tw_95 hw) (by decide) (tw_95 hw) (tw_50 hw) (au_138 hw O0 G P0 P1 P2 P3 P4 P5 P6 P8 g_x0) e0 P0 (argsL := [.ref x1]) (rest := []) 5 rfl (hml ▸ rfl) (lenOf pd_13 rfl) rfl rfl (W := 0) (nE rfl) (by decide) (hb hby d15_2) ?_
 intro v1 T1 L1 q1 X1
 obtain ⟨h1, e1⟩ := hpz T1
 rw [e1] at q1
 obtain ⟨b1_0, k1_0, rfl, N1, K1, s1_0, F1_0, F1_1, F1_2, F1_3, F1_4, F1_5⟩ := q1
 refine aN X1 hx 6 rfl hby d15_5 rfl rfl ?_
 refine aN X1 hx 7 rfl hby d15_6 rfl rfl ?_
 refine gF X1 hx hZ hown (tw_54 hw) e1 F1_3 10 rfl (hb hby d15_7) ?_
 intro T2 e2 X2
 refine iN X2 hx 11 rfl hby d15_10 rfl ?_
 refine aN X2 hx 12 rfl hby d15_11 rfl rfl ?_
 refine gF X2 hx hZ hown (tw_56 hw) e2 F1_0 15 rfl (hb hby d15_12) ?_
 intro T3 e3 X3
 have fk5 := (P5.keep K1)
 have sz10 := Nat.le_trans (Keep.refl h0 [x0]).1 s1_0
 refine Go.callV X3 hx hZ hown (tw_97 hw) (tw_98 hw) (nF (mvT hZ (tw_100 hw))) (tw_100 hw) (tw_99 hw) (by decide) (tw_101 hw) (tw_2 hw) (au_146 hw (O0.keep K1 (allS g_x0 all0)) G fk5 (P6.keep K1 (ninS ne_x1_x0 nin0)) (P7.keep K1 (ninS ne_x1_x0 nin0)) F1_4 (P10.keep K1 (ninS ne_x3_x0 nin0)) (Nat.le_trans O0.z sz10)) e3 fk5 (argsL := [.ref b1_0, .int 4, .int 1]) (rest := []) 18 rfl (hml ▸ rfl) (lenOf pd_14 rfl) rfl rfl (W := 0) (nE rfl) (by decide) (hb hby d15_15) ?_
 intro v11 T11 L11 q11 X11
 obtain ⟨h11, e11⟩ := hpz T11
 rw [e11] at q11
 obtain ⟨rfl, N11, K11, F11_0⟩ := q11
 subst hFF
 refine Go.ret0 X11 hx hlk hret (hb hby d15_18) (by decide) (by decide) ?_
 rw [e11]
 have ne12 := Nat.ne_of_lt (Nat.lt_of_lt_of_le P0.lt s1_0)
 exact ⟨b1_0, k1_0, rfl, (Fr.app (Fr.app (Fr.nil n0) N1) N11), (((Keep.refl h0 [x0]).trans K1 (allS (Or.inl (mG 0 rfl)) all0)).trans K11 (allS (Or.inr sz10) all0)), sz10, (F1_0.keep K11 (ninS ne12 nin0)), (F1_1.keep K11 (ninS ne12 nin0)), (F1_2.keep K11 (ninS ne12 nin0)), (F1_3.keep K11 (ninS ne12 nin0)), F11_0, (F1_5.keep K11)⟩
theorem au_136 (hw : HW a0 Z)   (O0 : Old Z n0 h0) (G : Glob Z α β γ δ ε ζ η) (P0 : Exa Z h0 x0 s3) (P1 : f1_ Z h0 x0 (.int 0)) (P2 : f4_ Z h0 x0 (.int 4)) (P3 : f5_ Z h0 x0 (.int 0)) (P4 : f3_ Z h0 x0 (.ref x2)) (P5 : Exa Z h0 x1 s1) (P6 : f0_ Z h0 x1 (.int 1)) (P7 : f2_ Z h0 x1 (.ref x3)) (P8 : Arv Z h0 x2 kk0 .byte (16 : Int32) LL2 (.int 0)) (P10 : Arv Z h0 x3 kk1 .byte (4 : Int32) [.int p0, .int p1, .int p2, .int p3] (.int 0)) (g_x0 : n0 ≤ x0) (ne_x1_x0 : x1 ≠ x0) (ne_x3_x0 : x3 ≠ x0) :
    Ctr l Z ⟨s0, "append", s11⟩ B11 3 (some (.object s0)) (rM 8 1 32 116) #[.ref x0, .ref x1] h0 (fun v h L => ∃ (y0 : Addr) (y1 : ClassId), v = some (.ref x0) ∧ Fr n0 L ∧ Keep h0 h [x0] ∧ h0.size ≤ y0 ∧ f1_ Z h x0 (.int 1) ∧ f4_ Z h x0 (.int 6) ∧ f5_ Z h x0 (.int 0) ∧ f3_ Z h x0 (.ref y0) ∧ Arv Z h y0 y1 .byte (32 : Int32) (LL6 p0 p1 p2 p3) (.int 0) ∧ Exa Z h y0 "[B") := by
 refine Ctr.of (plainFor_of_name pn_c2) fun p e s m below meth c T0 hx hZ hby hml hown hnm hret hlk e0 es X0 => Go.cast (ef_11_RR m x0 x1) ?_
 generalize hFF : EndN s _ _ _ = FF
 refine aN X0 hx 1 rfl hby d11_0 rfl rfl ?_
 refine Go.ifnonnullYes X0 hx 9 (hb hby d11_1) (by decide) (by decide) ?_
 refine aN X0 hx 10 rfl hby d11_9 rfl rfl ?_
 refine Go.callV X0 hx hZ hown (tw_69 hw) (tw_70 hw) (nF (mvT hZ (tw_72 hw))) (tw_72 hw) (tw_71 hw) (by decide) (tw_73 hw) (tw_2 hw) (au_87 hw O0 G P5 P6 P7 P10) e0 P5 (argsL := []) (rest := []) 13 rfl (hml ▸ rfl) (lenOf pd_12 rfl) rfl rfl (W := 0) (nE rfl) (by decide) (hb hby d11_10) ?_
 intro v1 T1 L1 q1 X1
 obtain ⟨rfl, N1, e1⟩ := q1
 show Go _ _ _ _ (T1.setTop (mkF m 13 #[vR x0, vR x1, uS] [.int 2]))
 refine Go.istoreN X1 hx 14 rfl (hb hby d11_13) (Ls' := #[vR x0, vR x1, vI 2]) rfl ?_
 refine aN X1 hx 15 rfl hby d11_14 rfl rfl ?_
 refine aN X1 hx 16 rfl hby d11_15 rfl rfl ?_
 refine gF X1 hx hZ hown (tw_79 hw) e1 P2 19 rfl (hb hby d11_16) ?_
 intro T2 e2 X2
 refine iN X2 hx 20 rfl hby d11_19 rfl ?_
 refine Go.iadd X2 hx 21 rfl (hb hby d11_20) ?_
 rw [show ((4 : Int32) + (2 : Int32)) = (6 : Int32) from by decide]
 refine Go.callP X2 hx hZ hown (tw_81 hw) (tw_82 hw) (tw_84 hw) (tw_83 hw) (tw_85 hw) (by decide) (tw_85 hw) (tw_50 hw) (au_32 hw O0.z P1 P4 P8) e2 P0 (argsL := [.int 6]) (rest := []) 24 rfl (hml ▸ rfl) (lenOf pd_9 rfl) rfl rfl (W := 0) (nE rfl) (by decide) (hb hby d11_21) ?_
 intro v3 T3 L3 q3 X3
 obtain ⟨rfl, N3, e3⟩ := q3
 refine aN X3 hx 25 rfl hby d11_24 rfl rfl ?_
 refine aN X3 hx 26 rfl hby d11_25 rfl rfl ?_
 refine gF X3 hx hZ hown (tw_79 hw) e3 P2 29 rfl (hb hby d11_26) ?_
 intro T4 e4 X4
 refine aN X4 hx 30 rfl hby d11_29 rfl rfl ?_
 refine Go.callP X4 hx hZ hown (tw_86 hw) (tw_87 hw) (tw_89 hw) (tw_88 hw) (tw_90 hw) (by decide) (tw_90 hw) (tw_50 hw) (au_137 hw O0 G P0 P1 P2 P3 P4 P5 P6 P7 P8 P10 g_x0 ne_x1_x0 ne_x3_x0) e4 P0 (argsL := [.int 4, .ref x1]) (rest := []) 33 rfl (hml ▸ rfl) (lenOf pd_15 rfl) rfl rfl (W := 0) (nE rfl) (by decide) (hb hby d11_30) ?_
 intro v5 T5 L5 q5 X5
 obtain ⟨h5, e5⟩ := hpz T5
 rw [e5] at q5
 obtain ⟨b5_0, k5_0, rfl, N5, K5, s5_0, F5_0, F5_1, F5_2, F5_3, F5_4, F5_5⟩ := q5
 refine aN X5 hx 34 rfl hby d11_33 rfl rfl ?_
 refine Go.dup X5 hx 35 rfl (hb hby d11_34) rfl ?_
 refine gF X5 hx hZ hown (tw_79 hw) e5 F5_1 38 rfl (hb hby d11_35) ?_
 intro T6 e6 X6
 refine iN X6 hx 39 rfl hby d11_38 rfl ?_
 refine Go.iadd X6 hx 40 rfl (hb hby d11_39) ?_
 rw [show ((4 : Int32) + (2 : Int32)) = (6 : Int32) from by decide]
 refine Go.putF X6 hx hZ hown (host := "") (Or.inl (tw_79 hw)) Via.refl e6 F5_1 (P0.keep K5) (Or.inl (tw_80 hw)) (tw_41 hw) (ty := .int) (by decide) rfl rfl 43 rfl (hb hby d11_40) ?_
 intro T8 h8 e8 W8 F8 X8
 have N8 := Fr.snoc X8 (Fr.app (Fr.app (Fr.app (Fr.nil n0) N1) N3) N5) g_x0
 refine aN X8 hx 44 rfl hby d11_43 rfl rfl ?_
 subst hFF
 refine Go.retR X8 hx hlk (t := (.object s0)) hret rfl rfl (hb hby d11_44) (by decide) (by decide) ?_
 rw [e8]
 exact ⟨b5_0, k5_0, rfl, N8, (((Keep.refl h0 [x0]).trans K5 (allS (Or.inl (mG 0 rfl)) all0)).wr W8 (Or.inl (mG 0 rfl))), (Nat.le_trans (Keep.refl h0 [x0]).1 s5_0), (F5_0.other W8 (Or.inr (slot_ne (Or.inl (tw_57 hw)) (Or.inl (tw_80 hw)) (by decide) (t := .byte) (t' := .int) (by decide) (by decide)))), F8, (F5_2.other W8 (Or.inr (slot_ne (Or.inl (tw_293 hw)) (Or.inl (tw_80 hw)) (by decide) (t := .boolean) (t' := .int) (by decide) (by decide)))), (F5_3.other W8 (Or.inr (slot_ne (Or.inl (tw_55 hw)) (Or.inl (tw_80 hw)) (by decide) (t := (.array .byte)) (t' := .int) (by decide) (by decide)))), (F5_4.other W8 (Ne.symm (Nat.ne_of_lt (Nat.lt_of_lt_of_le P0.lt s5_0)))), (F5_5.wr W8)⟩
theorem au_135 (hw : HW a0 Z)   (O0 : Old Z n0 h0) (G : Glob Z α β γ δ ε ζ η) (P0 : Exa Z h0 x0 s3) (P1 : f1_ Z h0 x0 (.int 0)) (P2 : f4_ Z h0 x0 (.int 4)) (P3 : f5_ Z h0 x0 (.int 0)) (P4 : f3_ Z h0 x0 (.ref x2)) (P5 : Exa Z h0 x1 s1) (P6 : f0_ Z h0 x1 (.int 1)) (P7 : f2_ Z h0 x1 (.ref x3)) (P8 : Arv Z h0 x2 kk0 .byte (16 : Int32) LL2 (.int 0)) (P10 : Arv Z h0 x3 kk1 .byte (4 : Int32) [.int p0, .int p1, .int p2, .int p3] (.int 0)) (g_x0 : n0 ≤ x0) (ne_x1_x0 : x1 ≠ x0) (ne_x3_x0 : x3 ≠ x0) :
    Ctr l Z ⟨s3, "append", s10⟩ B10 2 (some (.object s3)) (rM 9 1 32 130) #[.ref x0, .ref x1] h0 (fun v h L => ∃ (y0 : Addr) (y1 : ClassId), v = some (.ref x0) ∧ Fr n0 L ∧ Keep h0 h [x0] ∧ h0.size ≤ y0 ∧ f1_ Z h x0 (.int 1) ∧ f4_ Z h x0 (.int 6) ∧ f5_ Z h x0 (.int 0) ∧ f3_ Z h x0 (.ref y0) ∧ Arv Z h y0 y1 .byte (32 : Int32) (LL6 p0 p1 p2 p3) (.int 0) ∧ Exa Z h y0 "[B") := by
 refine Ctr.of (plainFor_of_name pn_c3) fun p e s m below meth c T0 hx hZ hby hml hown hnm hret hlk e0 es X0 => Go.cast (ef_10_RR m x0 x1) ?_
 generalize hFF : EndN s _ _ _ = FF
 refine aN X0 hx 1 rfl hby d10_0 rfl rfl ?_
 refine aN X0 hx 2 rfl hby d10_1 rfl rfl ?_
 refine Go.callUp X0 hx hZ hown (tw_64 hw) (own_sameself (tw_84 hw) rfl (tw_65 hw) (by decide)) (tw_65 hw) (tw_66 hw) (by decide) (tw_68 hw) (tw_68 hw) (tw_50 hw) (au_136 hw O0 G P0 P1 P2 P3 P4 P5 P6 P7 P8 P10 g_x0 ne_x1_x0 ne_x3_x0) e0 P0 (argsL := [.ref x1]) (rest := []) 5 rfl (hml ▸ rfl) (lenOf pd_16 rfl) rfl rfl (W := 0) (nE rfl) (by decide) (hb hby d10_2) ?_
 intro v1 T1 L1 q1 X1
 obtain ⟨h1, e1⟩ := hpz T1
 rw [e1] at q1
 obtain ⟨b1_0, k1_0, rfl, N1, K1, s1_0, F1_0, F1_1, F1_2, F1_3, F1_4, F1_5⟩ := q1
 show Go _ _ _ _ (T1.setTop (mkF m 5 #[vR x0, vR x1] [.ref x0]))
 refine Go.pop X1 hx 6 rfl (hb hby d10_5) rfl ?_
 refine aN X1 hx 7 rfl hby d10_6 rfl rfl ?_
 subst hFF
 refine Go.retR X1 hx hlk (t := (.object s3)) hret rfl rfl (hb hby d10_7) (by decide) (by decide) ?_
 rw [e1]
 exact ⟨b1_0, k1_0, rfl, (Fr.app (Fr.nil n0) N1), ((Keep.refl h0 [x0]).trans K1 (allS (Or.inl (mG 0 rfl)) all0)), (Nat.le_trans (Keep.refl h0 [x0]).1 s1_0), F1_0, F1_1, F1_2, F1_3, F1_4, F1_5⟩
theorem au_149 (hw : HW a0 Z)  (Z0 : n0 ≤ h0.size) (P1 : f1_ Z h0 x0 (.int 1)) (P4 : f3_ Z h0 x0 (.ref x1)) (P5 : Arv Z h0 x1 kk0 .byte (32 : Int32) ls0 (.int 0)) :
    Ctr l Z ⟨s0, "ensureCapacityInternal", "(I)V"⟩ B14 3 none (rM 0 0 0 0) #[.ref x0, .int 8] h0 (fun v h L => v = none ∧ Fr n0 L ∧ h = h0) := by
 refine Ctr.of (plainFor_of_name pn_c2) fun p e s m below meth c T0 hx hZ hby hml hown hnm hret hlk e0 es X0 => Go.cast (ef_14_RI m x0 (8 : Int32)) ?_
 generalize hFF : EndN s _ _ _ = FF
 refine aN X0 hx 1 rfl hby d14_0 rfl rfl ?_
 refine gF X0 hx hZ hown (tw_54 hw) e0 P4 4 rfl (hb hby d14_1) ?_
 intro T1 e1 X1
 refine Go.arraylength X1 hx hZ e1 P5 5 rfl (hb hby d14_4) ?_
 refine aN X1 hx 6 rfl hby d14_5 rfl rfl ?_
 refine gF X1 hx hZ hown (tw_56 hw) e1 P1 9 rfl (hb hby d14_6) ?_
 intro T2 e2 X2
 refine Go.ishr X2 hx 10 rfl (hb hby d14_9) ?_
 rw [show ((32 : Int32) >>> ((1 : Int32) &&& 31)) = (16 : Int32) from by decide]
 refine Go.istoreN X2 hx 11 rfl (hb hby d14_10) (Ls' := #[vR x0, vI 8, vI 16]) rfl ?_
 refine iN X2 hx 12 rfl hby d14_11 rfl ?_
 refine iN X2 hx 13 rfl hby d14_12 rfl ?_
 refine Go.isub X2 hx 14 rfl (hb hby d14_13) ?_
 rw [show ((8 : Int32) - (16 : Int32)) = (-8 : Int32) from by decide]
 refine Go.ifYes X2 hx 38 (hb hby d14_14) (by decide) (by decide) (by decide) ?_
 subst hFF
 refine Go.ret0 X2 hx hlk hret (hb hby d14_38) (by decide) (by decide) ?_
 rw [e2]
 exact ⟨rfl, (Fr.nil n0), rfl⟩
theorem au_153 (hw : HW a0 Z)   (O0 : Old Z n0 h0) (G : Glob Z α β γ δ ε ζ η) (P1 : f1_ Z h0 x0 (.int 1)) :
    Ctr l Z ⟨s0, "isLatin1", "()Z"⟩ B29 1 (some .boolean) (rM 0 0 0 0) #[.ref x0] h0 (fun v h L => v = some (.int 0) ∧ Fr n0 L ∧ h = h0) := by
 refine Ctr.of (plainFor_of_name pn_c2) ?_
 intro p e s m below meth c T0 hx hZ hby hml hown hnm hret hlk e0 es X0
 have G' := G
 obtain ⟨G0, -, -, -, -, -, -, -, -, -, -, -, G12, -⟩ := G'
 refine Go.cast (ef_29_R m x0) ?_
 generalize hFF : EndN s _ _ _ = FF
 refine Go.getS X0 hx hZ hown (host := "") (Or.inl (tw_53 hw)) Via.refl e0 (G0.ext O0.2) 3 rfl (hb hby d29_0) ?_
 intro T2 e2 X2
 refine Go.ifNo X2 hx 6 rfl (hb hby d29_3) (feq G12).1 ?_
 refine aN X2 hx 7 rfl hby d29_6 rfl rfl ?_
 refine gF X2 hx hZ hown (tw_56 hw) e2 P1 10 rfl (hb hby d29_7) ?_
 intro T3 e3 X3
 refine Go.ifYes X3 hx 17 (hb hby d29_10) (by decide) (by decide) (by decide) ?_
 refine Go.iconst X3 hx 18 rfl (hb hby d29_17) (v := (0 : Int32)) rfl ?_
 subst hFF
 refine Go.retN X3 hx hlk (t := .boolean) hret (by simp) (hb hby d29_18) (by decide) (by decide) ?_
 rw [e3]
 exact ⟨(congrArg (fun z => some (Value.int z)) (by decide : nar .boolean (0 : Int32) = (0 : Int32))), (Fr.nil n0), rfl⟩
theorem au_152 (hw : HW a0 Z)   (O0 : Old Z n0 h0) (G : Glob Z α β γ δ ε ζ η) (P0 : Exa Z h0 x0 s3) (P1 : f1_ Z h0 x0 (.int 1)) :
    Ctr l Z ⟨s0, "inflate", "()V"⟩ B47 2 none (rM 1 0 0 12) #[.ref x0] h0 (fun v h L => v = none ∧ Fr n0 L ∧ h = h0) := by
 refine Ctr.of (plainFor_of_name pn_c2) fun p e s m below meth c T0 hx hZ hby hml hown hnm hret hlk e0 es X0 => Go.cast (ef_47_R m x0) ?_
 generalize hFF : EndN s _ _ _ = FF
 refine aN X0 hx 1 rfl hby d47_0 rfl rfl ?_
 refine Go.callV X0 hx hZ hown (tw_269 hw) (tw_157 hw) (nF (mvT hZ (tw_159 hw))) (tw_159 hw) (tw_158 hw) (by decide) (tw_160 hw) (tw_50 hw) (au_153 hw O0 G P1) e0 P0 (argsL := []) (rest := []) 4 rfl (hml ▸ rfl) (lenOf pd_22 rfl) rfl rfl (W := 0) (nE rfl) (by decide) (hb hby d47_1) ?_
 intro v1 T1 L1 q1 X1
 obtain ⟨rfl, N1, e1⟩ := q1
 show Go _ _ _ _ (T1.setTop (mkF m 4 #[vR x0, uS] [.int 0]))
 refine Go.ifNo X1 hx 7 rfl (hb hby d47_4) (by decide) ?_
 subst hFF
 refine Go.ret0 X1 hx hlk hret (hb hby d47_7) (by decide) (by decide) ?_
 rw [e1]
 exact ⟨rfl, (Fr.app (Fr.nil n0) N1), rfl⟩
theorem au_151 (hw : HW a0 Z)   (O0 : Old Z n0 h0) (G : Glob Z α β γ δ ε ζ η) (P0 : Exa Z h0 x0 s3) (P1 : f1_ Z h0 x0 (.int 1)) (P5 : Exa Z h0 x1 s1) (P6 : f0_ Z h0 x1 (.int 0)) :
    Ctr l Z ⟨s0, "inflateIfNeededFor", "(Ljava/lang/String;)V"⟩ B16 2 none (rM 2 0 0 25) #[.ref x0, .ref x1] h0 (fun v h L => v = none ∧ Fr n0 L ∧ h = h0) := by
 refine Ctr.of (plainFor_of_name pn_c2) ?_
 intro p e s m below meth c T0 hx hZ hby hml hown hnm hret hlk e0 es X0
 have G' := G
 obtain ⟨G0, -, -, -, -, -, -, -, -, -, -, -, G12, -⟩ := G'
 refine Go.cast (ef_16_RR m x0 x1) ?_
 generalize hFF : EndN s _ _ _ = FF
 refine Go.getS X0 hx hZ hown (host := "") (Or.inl (tw_53 hw)) Via.refl e0 (G0.ext O0.2) 3 rfl (hb hby d16_0) ?_
 intro T2 e2 X2
 refine Go.ifNo X2 hx 6 rfl (hb hby d16_3) (feq G12).1 ?_
 refine aN X2 hx 7 rfl hby d16_6 rfl rfl ?_
 refine gF X2 hx hZ hown (tw_56 hw) e2 P1 10 rfl (hb hby d16_7) ?_
 intro T3 e3 X3
 refine aN X3 hx 11 rfl hby d16_10 rfl rfl ?_
 refine Go.callV X3 hx hZ hown (tw_96 hw) (tw_75 hw) (nF (mvT hZ (tw_77 hw))) (tw_77 hw) (tw_76 hw) (by decide) (tw_78 hw) (tw_2 hw) (au_24 hw O0 G P6) e3 P5 (argsL := []) (rest := [.int 1]) 14 rfl (hml ▸ rfl) (lenOf pd_11 rfl) rfl rfl (W := 1) (nE rfl) (by decide) (hb hby d16_11) ?_
 intro v4 T4 L4 q4 X4
 obtain ⟨rfl, N4, e4⟩ := q4
 show Go _ _ _ _ (T4.setTop (mkF m 14 #[vR x0, vR x1] [.int 0, .int 1]))
 refine Go.icmpNo X4 hx 17 rfl (hb hby d16_14) (by decide) ?_
 refine aN X4 hx 18 rfl hby d16_17 rfl rfl ?_
 refine Go.callP X4 hx hZ hown (tw_264 hw) (tw_265 hw) (tw_267 hw) (tw_266 hw) (tw_268 hw) (by decide) (tw_268 hw) (tw_50 hw) (au_152 hw O0 G P0 P1) e4 P0 (argsL := []) (rest := []) 21 rfl (hml ▸ rfl) (lenOf pd_10 rfl) rfl rfl (W := 0) (nE rfl) (by decide) (hb hby d16_18) ?_
 intro v5 T5 L5 q5 X5
 obtain ⟨rfl, N5, e5⟩ := q5
 subst hFF
 refine Go.ret0 X5 hx hlk hret (hb hby d16_21) (by decide) (by decide) ?_
 rw [e5]
 exact ⟨rfl, (Fr.app (Fr.app (Fr.nil n0) N4) N5), rfl⟩
theorem au_159 (hw : HW a0 Z)  (Z0 : n0 ≤ h0.size) (G : Glob Z α β γ δ ε ζ η) :
    Ctr l Z ⟨"jdk/internal/util/Preconditions", "checkFromIndexSize", "(IIILjava/util/function/BiFunction;)I"⟩ B53 4 (some .int) (rM 0 0 0 0) #[.int 6, .int 2, .int 16, ε] h0 (fun v h L => v = some (.int 6) ∧ Fr n0 L ∧ h = h0) := by
 refine Ctr.of (plainFor_of_name pn_c11) ?_
 intro p e s m below meth c T0 hx hZ hby hml hown hnm hret hlk e0 es X0
 have G' := G
 obtain ⟨-, -, -, -, -, -, -, -, -, -, -, -, -, G13⟩ := G'
 refine Go.cast (ef_53_IIIV m (6 : Int32) (2 : Int32) (16 : Int32) ε G13) ?_
 generalize hFF : EndN s _ _ _ = FF
 refine iN X0 hx 1 rfl hby d53_0 rfl ?_
 refine iN X0 hx 2 rfl hby d53_1 rfl ?_
 refine Go.ior X0 hx 3 rfl (hb hby d53_2) ?_
 rw [show ((16 : Int32) ||| (6 : Int32)) = (22 : Int32) from by decide]
 refine iN X0 hx 4 rfl hby d53_3 rfl ?_
 refine Go.ior X0 hx 5 rfl (hb hby d53_4) ?_
 rw [show ((22 : Int32) ||| (2 : Int32)) = (22 : Int32) from by decide]
 refine Go.ifNo X0 hx 8 rfl (hb hby d53_5) (by decide) ?_
 refine iN X0 hx 9 rfl hby d53_8 rfl ?_
 refine iN X0 hx 10 rfl hby d53_9 rfl ?_
 refine iN X0 hx 11 rfl hby d53_10 rfl ?_
 refine Go.isub X0 hx 12 rfl (hb hby d53_11) ?_
 rw [show ((16 : Int32) - (6 : Int32)) = (10 : Int32) from by decide]
 refine Go.icmpYes X0 hx 23 (hb hby d53_12) (by decide) (by decide) (by decide) ?_
 refine iN X0 hx 24 rfl hby d53_23 rfl ?_
 subst hFF
 refine Go.retI X0 hx hlk hret (hb hby d53_24) (by decide) (by decide) ?_
 rw [e0]
 exact ⟨rfl, (Fr.nil n0), rfl⟩
theorem au_158 (hw : HW a0 Z)   (O0 : Old Z n0 h0) (G : Glob Z α β γ δ ε ζ η) :
    Ctr l Z ⟨s1, "checkBoundsOffCount", "(III)I"⟩ B52 3 (some .int) (rM 1 0 0 15) #[.int 6, .int 2, .int 16] h0 (fun v h L => v = some (.int 6) ∧ Fr n0 L ∧ h = h0) := by
 refine Ctr.of (plainFor_of_name pn_c1) ?_
 intro p e s m below meth c T0 hx hZ hby hml hown hnm hret hlk e0 es X0
 have G' := G
 obtain ⟨-, -, -, -, -, -, -, -, -, G9, -, -, -, -⟩ := G'
 refine Go.cast (ef_52_III m (6 : Int32) (2 : Int32) (16 : Int32)) ?_
 generalize hFF : EndN s _ _ _ = FF
 refine iN X0 hx 1 rfl hby d52_0 rfl ?_
 refine iN X0 hx 2 rfl hby d52_1 rfl ?_
 refine iN X0 hx 3 rfl hby d52_2 rfl ?_
 refine Go.getS X0 hx hZ hown (host := "") (Or.inl (tw_286 hw)) Via.refl e0 (G9.ext O0.2) 6 rfl (hb hby d52_3) ?_
 intro T2 e2 X2
 refine Go.callS X2 hx hZ hown (tw_288 hw) (tw_289 hw) (tw_287 hw) (tw_290 hw) (by decide) (tw_290 hw) (tw_287 hw) (au_159 hw O0.z G) e2 (argsL := [.int 6, .int 2, .int 16, ε]) (rest := []) 9 rfl (hml ▸ rfl) (lenOf pd_33 rfl) rfl rfl (W := 0) (nE rfl) (by decide) (hb hby d52_6) ?_
 intro v3 T3 L3 q3 X3
 obtain ⟨rfl, N3, e3⟩ := q3
 show Go _ _ _ _ (T3.setTop (mkF m 9 #[vI 6, vI 2, vI 16] [.int 6]))
 subst hFF
 refine Go.retI X3 hx hlk hret (hb hby d52_9) (by decide) (by decide) ?_
 rw [e3]
 exact ⟨rfl, (Fr.app (Fr.nil n0) N3), rfl⟩
theorem au_157 (hw : HW a0 Z)   (O0 : Old Z n0 h0) (G : Glob Z α β γ δ ε ζ η) (P0 : Arv Z h0 x0 kk0 .byte (32 : Int32) ls0 (.int 0)) :
    Ctr l Z ⟨s5, "checkBoundsOffCount", "(II[B)V"⟩ B50 3 none (rM 2 0 0 29) #[.int 6, .int 2, .ref x0] h0 (fun v h L => v = none ∧ Fr n0 L ∧ h = h0) := by
 refine Ctr.of (plainFor_of_name pn_c0) fun p e s m below meth c T0 hx hZ hby hml hown hnm hret hlk e0 es X0 => Go.cast (ef_50_IIR m (6 : Int32) (2 : Int32) x0) ?_
 generalize hFF : EndN s _ _ _ = FF
 refine iN X0 hx 1 rfl hby d50_0 rfl ?_
 refine iN X0 hx 2 rfl hby d50_1 rfl ?_
 refine aN X0 hx 3 rfl hby d50_2 rfl rfl ?_
 refine Go.callS X0 hx hZ hown (tw_280 hw) (tw_281 hw) (tw_17 hw) (tw_282 hw) (by decide) (tw_282 hw) (tw_17 hw) (au_98 hw O0.z P0) e0 (argsL := [.ref x0]) (rest := [.int 2, .int 6]) 6 rfl (hml ▸ rfl) (lenOf pd_32 rfl) rfl rfl (W := 2) (nE rfl) (by decide) (hb hby d50_3) ?_
 intro v1 T1 L1 q1 X1
 obtain ⟨rfl, N1, e1⟩ := q1
 show Go _ _ _ _ (T1.setTop (mkF m 6 #[vI 6, vI 2, vR x0] [.int 16, .int 2, .int 6]))
 refine Go.callS X1 hx hZ hown (tw_283 hw) (tw_284 hw) (tw_2 hw) (tw_285 hw) (by decide) (tw_285 hw) (tw_2 hw) (au_158 hw O0 G) e1 (argsL := [.int 6, .int 2, .int 16]) (rest := []) 9 rfl (hml ▸ rfl) (lenOf pd_19 rfl) rfl rfl (W := 0) (nE rfl) (by decide) (hb hby d50_6) ?_
 intro v2 T2 L2 q2 X2
 obtain ⟨rfl, N2, e2⟩ := q2
 show Go _ _ _ _ (T2.setTop (mkF m 9 #[vI 6, vI 2, vR x0] [.int 6]))
 refine Go.pop X2 hx 10 rfl (hb hby d50_9) rfl ?_
 subst hFF
 refine Go.ret0 X2 hx hlk hret (hb hby d50_10) (by decide) (by decide) ?_
 rw [e2]
 exact ⟨rfl, (Fr.app (Fr.app (Fr.nil n0) N1) N2), rfl⟩
theorem au_156 (hw : HW a0 Z)   (O0 : Old Z n0 h0) (G : Glob Z α β γ δ ε ζ η) (P0 : Arv Z h0 x0 kk0 .byte (2 : Int32) [.int 32, .int 39] (.int (0 : Int32))) (P1 : Arv Z h0 x1 kk1 .byte (32 : Int32) (LL6 p0 p1 p2 p3) (.int 0)) (g_x1 : n0 ≤ x1) (ne_x0_x1 : x0 ≠ x1) :
    Ctr l Z ⟨s5, "inflate", "([BI[BII)V"⟩ B49 6 none (rM 3 0 0 43) #[.ref x0, .int 0, .ref x1, .int 6, .int 2] h0 (fun v h L => v = none ∧ Fr n0 L ∧ Keep h0 h [x1] ∧ Arv Z h x1 kk1 .byte (32 : Int32) (LL1 p0 p1 p2 p3) (.int 0)) := by
 refine Ctr.of (plainFor_of_name pn_c0) ?_
 intro p e s m below meth c T0 hx hZ hby hml hown hnm hret hlk e0 es X0
 have G' := G
 obtain ⟨-, -, -, -, -, -, G6, G7, G8, -, -, -, -, -⟩ := G'
 refine Go.cast (ef_49_RIRII m x0 (0 : Int32) x1 (6 : Int32) (2 : Int32)) ?_
 generalize hFF : EndN s _ _ _ = FF
 refine iN X0 hx 1 rfl hby d49_0 rfl ?_
 refine Go.iload X0 hx 3 rfl (hb hby d49_1) rfl ?_
 refine aN X0 hx 4 rfl hby d49_3 rfl rfl ?_
 refine Go.callS X0 hx hZ hown (tw_277 hw) (tw_278 hw) (tw_17 hw) (tw_279 hw) (by decide) (tw_279 hw) (tw_17 hw) (au_157 hw O0 G P1) e0 (argsL := [.int 6, .int 2, .ref x1]) (rest := []) 7 rfl (hml ▸ rfl) (lenOf pd_34 rfl) rfl rfl (W := 0) (nE rfl) (by decide) (hb hby d49_4) ?_
 intro v1 T1 L1 q1 X1
 obtain ⟨rfl, N1, e1⟩ := q1
 refine Go.iconst X1 hx 8 rfl (hb hby d49_7) (v := (0 : Int32)) rfl ?_
 refine Go.istore X1 hx 10 rfl (hb hby d49_8) (Ls' := #[vR x0, vI 0, vR x1, vI 6, vI 2, vI 0]) rfl ?_
 have A2 : Arv Z h0 x0 kk0 .byte (2 : Int32) (([(32 : Int32), (39 : Int32)] : List Int32).map own_vb ++ []) (.int 0) := by rw [show ([(32 : Int32), (39 : Int32)] : List Int32).map own_vb ++ ([] : List Value) = [.int 32, .int 39] from (own_mca (by decide) (own_mca (by decide) rfl))]; exact P0
 refine lp_inf hw X1 hx hZ hby hml hown e1 O0 (Fr.app (Fr.nil n0) N1) G6 G7 G8 (by decide) (by decide) (by decide) (by decide) (cs := [(32 : Int32), (39 : Int32)]) (off := 6) (rest := []) (pre := (LL42 p0 p1 p2 p3)) (m0 := [.int 0, .int 0, .int 0, .int 0]) (post := LL4) A2 P1 rfl rfl rfl rfl rfl rfl (own_xc (own_rlit (n := 32) (by decide)) (by decide) (by decide) (own_xc (own_rlit (n := 39) (by decide)) (by decide) (by decide) own_x0)) g_x1 ne_x0_x1 ?_
 intro T2 h2 L2 e2 X2 N2 K2 V2
 have E2 : ((LL42 p0 p1 p2 p3) : List Value) ++ (own_u16 [(32 : Int32), (39 : Int32)] ++ LL4) = (LL1 p0 p1 p2 p3) := congrArg (fun t => ((LL42 p0 p1 p2 p3) : List Value) ++ t) ((own_uc (by decide) (by decide) (own_uc (by decide) (by decide) rfl)) : own_u16 [(32 : Int32), (39 : Int32)] ++ LL4 = [.int 32, .int 0, .int 39, .int 0, .int 0, .int 0, .int 0, .int 0, .int 0, .int 0, .int 0, .int 0, .int 0, .int 0, .int 0, .int 0, .int 0, .int 0, .int 0, .int 0])
 have U2 : Arv Z h2 x1 kk1 .byte (32 : Int32) (LL1 p0 p1 p2 p3) (.int 0) := by rw [← E2]; exact V2
 show Go _ _ _ _ (T2.setTop (mkF m 41 #[vR x0, vI 2, vR x1, vI 8, vI 2, vI 2] []))
 subst hFF
 refine Go.ret0 X2 hx hlk hret (hb hby d49_41) (by decide) (by decide) ?_
 rw [e2]
 exact ⟨rfl, N2, ((Keep.refl h0 [x1]).trans K2 (allS (Or.inl (mG 0 rfl)) all0)), U2⟩
theorem au_155 (hw : HW a0 Z)   (O0 : Old Z n0 h0) (G : Glob Z α β γ δ ε ζ η) (P0 : Arv Z h0 x0 kk0 .byte (2 : Int32) [.int 32, .int 39] (.int (0 : Int32))) (P1 : Arv Z h0 x1 kk1 .byte (32 : Int32) (LL6 p0 p1 p2 p3) (.int 0)) (g_x1 : n0 ≤ x1) (ne_x0_x1 : x0 ≠ x1) :
    Ctr l Z ⟨"java/lang/StringLatin1", "inflate", "([BI[BII)V"⟩ B48 5 none (rM 4 0 0 60) #[.ref x0, .int 0, .ref x1, .int 6, .int 2] h0 (fun v h L => v = none ∧ Fr n0 L ∧ Keep h0 h [x1] ∧ Arv Z h x1 kk1 .byte (32 : Int32) (LL1 p0 p1 p2 p3) (.int 0)) := by
 refine Ctr.of (plainFor_of_name pn_c10) fun p e s m below meth c T0 hx hZ hby hml hown hnm hret hlk e0 es X0 => Go.cast (ef_48_RIRII m x0 (0 : Int32) x1 (6 : Int32) (2 : Int32)) ?_
 generalize hFF : EndN s _ _ _ = FF
 refine aN X0 hx 1 rfl hby d48_0 rfl rfl ?_
 refine iN X0 hx 2 rfl hby d48_1 rfl ?_
 refine aN X0 hx 3 rfl hby d48_2 rfl rfl ?_
 refine iN X0 hx 4 rfl hby d48_3 rfl ?_
 refine Go.iload X0 hx 6 rfl (hb hby d48_4) rfl ?_
 refine Go.callS X0 hx hZ hown (tw_274 hw) (tw_275 hw) (tw_17 hw) (tw_276 hw) (by decide) (tw_276 hw) (tw_17 hw) (au_156 hw O0 G P0 P1 g_x1 ne_x0_x1) e0 (argsL := [.ref x0, .int 0, .ref x1, .int 6, .int 2]) (rest := []) 9 rfl (hml ▸ rfl) (lenOf pd_35 rfl) rfl rfl (W := 0) (nE rfl) (by decide) (hb hby d48_6) ?_
 intro v1 T1 L1 q1 X1
 obtain ⟨h1, e1⟩ := hpz T1
 rw [e1] at q1
 obtain ⟨rfl, N1, K1, F1_0⟩ := q1
 subst hFF
 refine Go.ret0 X1 hx hlk hret (hb hby d48_9) (by decide) (by decide) ?_
 rw [e1]
 exact ⟨rfl, (Fr.app (Fr.nil n0) N1), ((Keep.refl h0 [x1]).trans K1 (allS (Or.inl (mG 0 rfl)) all0)), F1_0⟩
theorem au_154 (hw : HW a0 Z)   (O0 : Old Z n0 h0) (G : Glob Z α β γ δ ε ζ η) (P0 : Exa Z h0 x0 s1) (P1 : f0_ Z h0 x0 (.int 0)) (P2 : f2_ Z h0 x0 (.ref x2)) (P3 : Arv Z h0 x1 kk0 .byte (32 : Int32) (LL6 p0 p1 p2 p3) (.int 0)) (P5 : Arv Z h0 x2 kk1 .byte (2 : Int32) [.int 32, .int 39] (.int (0 : Int32))) (g_x1 : n0 ≤ x1) (ne_x2_x1 : x2 ≠ x1) :
    Ctr l Z ⟨s1, "getBytes", "([BIB)V"⟩ B17 4 none (rM 5 0 0 76) #[.ref x0, .ref x1, .int 6, .int 1] h0 (fun v h L => v = none ∧ Fr n0 L ∧ Keep h0 h [x1] ∧ Arv Z h x1 kk0 .byte (32 : Int32) (LL1 p0 p1 p2 p3) (.int 0)) := by
 refine Ctr.of (plainFor_of_name pn_c1) fun p e s m below meth c T0 hx hZ hby hml hown hnm hret hlk e0 es X0 => Go.cast (ef_17_RRII m x0 x1 (6 : Int32) (1 : Int32)) ?_
 generalize hFF : EndN s _ _ _ = FF
 refine aN X0 hx 1 rfl hby d17_0 rfl rfl ?_
 refine Go.callV X0 hx hZ hown (tw_74 hw) (tw_75 hw) (nF (mvT hZ (tw_77 hw))) (tw_77 hw) (tw_76 hw) (by decide) (tw_78 hw) (tw_2 hw) (au_24 hw O0 G P1) e0 P0 (argsL := []) (rest := []) 4 rfl (hml ▸ rfl) (lenOf pd_11 rfl) rfl rfl (W := 0) (nE rfl) (by decide) (hb hby d17_1) ?_
 intro v1 T1 L1 q1 X1
 obtain ⟨rfl, N1, e1⟩ := q1
 show Go _ _ _ _ (T1.setTop (mkF m 4 #[vR x0, vR x1, vI 6, vI 1] [.int 0]))
 refine iN X1 hx 5 rfl hby d17_4 rfl ?_
 refine Go.icmpYes X1 hx 28 (hb hby d17_5) (by decide) (by decide) (by decide) ?_
 refine aN X1 hx 29 rfl hby d17_28 rfl rfl ?_
 refine gF X1 hx hZ hown (tw_28 hw) e1 P2 32 rfl (hb hby d17_29) ?_
 intro T2 e2 X2
 refine Go.iconst X2 hx 33 rfl (hb hby d17_32) (v := (0 : Int32)) rfl ?_
 refine aN X2 hx 34 rfl hby d17_33 rfl rfl ?_
 refine iN X2 hx 35 rfl hby d17_34 rfl ?_
 refine aN X2 hx 36 rfl hby d17_35 rfl rfl ?_
 refine gF X2 hx hZ hown (tw_28 hw) e2 P2 39 rfl (hb hby d17_36) ?_
 intro T3 e3 X3
 refine Go.arraylength X3 hx hZ e3 P5 40 rfl (hb hby d17_39) ?_
 refine Go.callS X3 hx hZ hown (tw_291 hw) (tw_272 hw) (tw_243 hw) (tw_273 hw) (by decide) (tw_273 hw) (tw_243 hw) (au_155 hw O0 G P5 P3 g_x1 ne_x2_x1) e3 (argsL := [.ref x2, .int 0, .ref x1, .int 6, .int 2]) (rest := []) 43 rfl (hml ▸ rfl) (lenOf pd_35 rfl) rfl rfl (W := 0) (nE rfl) (by decide) (hb hby d17_40) ?_
 intro v4 T4 L4 q4 X4
 obtain ⟨h4, e4⟩ := hpz T4
 rw [e4] at q4
 obtain ⟨rfl, N4, K4, F4_0⟩ := q4
 subst hFF
 refine Go.ret0 X4 hx hlk hret (hb hby d17_43) (by decide) (by decide) ?_
 rw [e4]
 exact ⟨rfl, (Fr.app (Fr.app (Fr.nil n0) N1) N4), ((Keep.refl h0 [x1]).trans K4 (allS (Or.inl (mG 0 rfl)) all0)), F4_0⟩
theorem au_150 (hw : HW a0 Z)   (O0 : Old Z n0 h0) (G : Glob Z α β γ δ ε ζ η) (P0 : Exa Z h0 x0 s3) (P1 : f1_ Z h0 x0 (.int 1)) (P4 : f3_ Z h0 x0 (.ref x2)) (P5 : Exa Z h0 x1 s1) (P6 : f0_ Z h0 x1 (.int 0)) (P7 : f2_ Z h0 x1 (.ref x3)) (P8 : Arv Z h0 x2 kk0 .byte (32 : Int32) (LL6 p0 p1 p2 p3) (.int 0)) (P10 : Arv Z h0 x3 kk1 .byte (2 : Int32) [.int 32, .int 39] (.int (0 : Int32))) (g_x2 : n0 ≤ x2) (ne_x3_x2 : x3 ≠ x2) :
    Ctr l Z ⟨s0, "putStringAt", "(ILjava/lang/String;)V"⟩ B15 3 none (rM 6 0 0 91) #[.ref x0, .int 6, .ref x1] h0 (fun v h L => v = none ∧ Fr n0 L ∧ Keep h0 h [x2] ∧ Arv Z h x2 kk0 .byte (32 : Int32) (LL1 p0 p1 p2 p3) (.int 0)) := by
 refine Ctr.of (plainFor_of_name pn_c2) fun p e s m below meth c T0 hx hZ hby hml hown hnm hret hlk e0 es X0 => Go.cast (ef_15_RIR m x0 (6 : Int32) x1) ?_
 generalize hFF : EndN s _ _ _ = FF
 refine aN X0 hx 1 rfl hby d15_0 rfl rfl ?_
 refine aN X0 hx 2 rfl hby d15_1 rfl rfl ?_
 refine Go.callP X0 hx hZ hown (tw_91 hw) (tw_92 hw) (tw_94 hw) (tw_93 hw) (tw_95 hw) (by decide) (tw_95 hw) (tw_50 hw) (au_151 hw O0 G P0 P1 P5 P6) e0 P0 (argsL := [.ref x1]) (rest := []) 5 rfl (hml ▸ rfl) (lenOf pd_13 rfl) rfl rfl (W := 0) (nE rfl) (by decide) (hb hby d15_2) ?_
 intro v1 T1 L1 q1 X1
 obtain ⟨rfl, N1, e1⟩ := q1
 refine aN X1 hx 6 rfl hby d15_5 rfl rfl ?_
 refine aN X1 hx 7 rfl hby d15_6 rfl rfl ?_
 refine gF X1 hx hZ hown (tw_54 hw) e1 P4 10 rfl (hb hby d15_7) ?_
 intro T2 e2 X2
 refine iN X2 hx 11 rfl hby d15_10 rfl ?_
 refine aN X2 hx 12 rfl hby d15_11 rfl rfl ?_
 refine gF X2 hx hZ hown (tw_56 hw) e2 P1 15 rfl (hb hby d15_12) ?_
 intro T3 e3 X3
 refine Go.callV X3 hx hZ hown (tw_97 hw) (tw_98 hw) (nF (mvT hZ (tw_100 hw))) (tw_100 hw) (tw_99 hw) (by decide) (tw_101 hw) (tw_2 hw) (au_154 hw O0 G P5 P6 P7 P8 P10 g_x2 ne_x3_x2) e3 P5 (argsL := [.ref x2, .int 6, .int 1]) (rest := []) 18 rfl (hml ▸ rfl) (lenOf pd_14 rfl) rfl rfl (W := 0) (nE rfl) (by decide) (hb hby d15_15) ?_
 intro v4 T4 L4 q4 X4
 obtain ⟨h4, e4⟩ := hpz T4
 rw [e4] at q4
 obtain ⟨rfl, N4, K4, F4_0⟩ := q4
 subst hFF
 refine Go.ret0 X4 hx hlk hret (hb hby d15_18) (by decide) (by decide) ?_
 rw [e4]
 exact ⟨rfl, (Fr.app (Fr.app (Fr.nil n0) N1) N4), ((Keep.refl h0 [x2]).trans K4 (allS (Or.inl (mG 0 rfl)) all0)), F4_0⟩
theorem au_148 (hw : HW a0 Z)   (O0 : Old Z n0 h0) (G : Glob Z α β γ δ ε ζ η) (P0 : Exa Z h0 x0 s3) (P1 : f1_ Z h0 x0 (.int 1)) (P2 : f4_ Z h0 x0 (.int 6)) (P3 : f5_ Z h0 x0 (.int 0)) (P4 : f3_ Z h0 x0 (.ref x2)) (P5 : Exa Z h0 x1 s1) (P6 : f0_ Z h0 x1 (.int 0)) (P7 : f2_ Z h0 x1 (.ref x3)) (P8 : Arv Z h0 x2 kk0 .byte (32 : Int32) (LL6 p0 p1 p2 p3) (.int 0)) (P10 : Arv Z h0 x3 kk1 .byte (2 : Int32) [.int 32, .int 39] (.int (0 : Int32))) (g_x2 : n0 ≤ x2) (g_x0 : n0 ≤ x0) (ne_x3_x2 : x3 ≠ x2) (ne_x0_x2 : x0 ≠ x2) :
    Ctr l Z ⟨s0, "append", s11⟩ B11 3 (some (.object s0)) (rM 7 0 0 105) #[.ref x0, .ref x1] h0 (fun v h L => v = some (.ref x0) ∧ Fr n0 L ∧ Keep h0 h [x0, x2] ∧ f1_ Z h x0 (.int 1) ∧ f4_ Z h x0 (.int 8) ∧ f5_ Z h x0 (.int 0) ∧ f3_ Z h x0 (.ref x2) ∧ Arv Z h x2 kk0 .byte (32 : Int32) (LL1 p0 p1 p2 p3) (.int 0)) := by
 refine Ctr.of (plainFor_of_name pn_c2) fun p e s m below meth c T0 hx hZ hby hml hown hnm hret hlk e0 es X0 => Go.cast (ef_11_RR m x0 x1) ?_
 generalize hFF : EndN s _ _ _ = FF
 refine aN X0 hx 1 rfl hby d11_0 rfl rfl ?_
 refine Go.ifnonnullYes X0 hx 9 (hb hby d11_1) (by decide) (by decide) ?_
 refine aN X0 hx 10 rfl hby d11_9 rfl rfl ?_
 refine Go.callV X0 hx hZ hown (tw_69 hw) (tw_70 hw) (nF (mvT hZ (tw_72 hw))) (tw_72 hw) (tw_71 hw) (by decide) (tw_73 hw) (tw_2 hw) (au_38 hw O0 G P5 P6 P7 P10) e0 P5 (argsL := []) (rest := []) 13 rfl (hml ▸ rfl) (lenOf pd_12 rfl) rfl rfl (W := 0) (nE rfl) (by decide) (hb hby d11_10) ?_
 intro v1 T1 L1 q1 X1
 obtain ⟨rfl, N1, e1⟩ := q1
 show Go _ _ _ _ (T1.setTop (mkF m 13 #[vR x0, vR x1, uS] [.int 2]))
 refine Go.istoreN X1 hx 14 rfl (hb hby d11_13) (Ls' := #[vR x0, vR x1, vI 2]) rfl ?_
 refine aN X1 hx 15 rfl hby d11_14 rfl rfl ?_
 refine aN X1 hx 16 rfl hby d11_15 rfl rfl ?_
 refine gF X1 hx hZ hown (tw_79 hw) e1 P2 19 rfl (hb hby d11_16) ?_
 intro T2 e2 X2
 refine iN X2 hx 20 rfl hby d11_19 rfl ?_
 refine Go.iadd X2 hx 21 rfl (hb hby d11_20) ?_
 rw [show ((6 : Int32) + (2 : Int32)) = (8 : Int32) from by decide]
 refine Go.callP X2 hx hZ hown (tw_81 hw) (tw_82 hw) (tw_84 hw) (tw_83 hw) (tw_85 hw) (by decide) (tw_85 hw) (tw_50 hw) (au_149 hw O0.z P1 P4 P8) e2 P0 (argsL := [.int 8]) (rest := []) 24 rfl (hml ▸ rfl) (lenOf pd_9 rfl) rfl rfl (W := 0) (nE rfl) (by decide) (hb hby d11_21) ?_
 intro v3 T3 L3 q3 X3
 obtain ⟨rfl, N3, e3⟩ := q3
 refine aN X3 hx 25 rfl hby d11_24 rfl rfl ?_
 refine aN X3 hx 26 rfl hby d11_25 rfl rfl ?_
 refine gF X3 hx hZ hown (tw_79 hw) e3 P2 29 rfl (hb hby d11_26) ?_
 intro T4 e4 X4
 refine aN X4 hx 30 rfl hby d11_29 rfl rfl ?_
 refine Go.callP X4 hx hZ hown (tw_86 hw) (tw_87 hw) (tw_89 hw) (tw_88 hw) (tw_90 hw) (by decide) (tw_90 hw) (tw_50 hw) (au_150 hw O0 G P0 P1 P4 P5 P6 P7 P8 P10 g_x2 ne_x3_x2) e4 P0 (argsL := [.int 6, .ref x1]) (rest := []) 33 rfl (hml ▸ rfl) (lenOf pd_15 rfl) rfl rfl (W := 0) (nE rfl) (by decide) (hb hby d11_30) ?_
 intro v5 T5 L5 q5 X5
 obtain ⟨h5, e5⟩ := hpz T5
 rw [e5] at q5
 obtain ⟨rfl, N5, K5, F5_0⟩ := q5
 refine aN X5 hx 34 rfl hby d11_33 rfl rfl ?_
 refine Go.dup X5 hx 35 rfl (hb hby d11_34) rfl ?_
 have fk6 := (P2.keep K5 (ninS ne_x0_x2 nin0))
 refine gF X5 hx hZ hown (tw_79 hw) e5 fk6 38 rfl (hb hby d11_35) ?_
 intro T7 e7 X7
 refine iN X7 hx 39 rfl hby d11_38 rfl ?_
 refine Go.iadd X7 hx 40 rfl (hb hby d11_39) ?_
 rw [show ((6 : Int32) + (2 : Int32)) = (8 : Int32) from by decide]
 refine Go.putF X7 hx hZ hown (host := "") (Or.inl (tw_79 hw)) Via.refl e7 fk6 (P0.keep K5) (Or.inl (tw_80 hw)) (tw_41 hw) (ty := .int) (by decide) rfl rfl 43 rfl (hb hby d11_40) ?_
 intro T9 h9 e9 W9 F9 X9
 have N9 := Fr.snoc X9 (Fr.app (Fr.app (Fr.app (Fr.nil n0) N1) N3) N5) g_x0
 refine aN X9 hx 44 rfl hby d11_43 rfl rfl ?_
 subst hFF
 refine Go.retR X9 hx hlk (t := (.object s0)) hret rfl rfl (hb hby d11_44) (by decide) (by decide) ?_
 rw [e9]
 exact ⟨rfl, N9, (((Keep.refl h0 [x0, x2]).trans K5 (allS (Or.inl (mG 1 rfl)) all0)).wr W9 (Or.inl (mG 0 rfl))), ((P1.keep K5 (ninS ne_x0_x2 nin0)).other W9 (Or.inr (slot_ne (Or.inl (tw_57 hw)) (Or.inl (tw_80 hw)) (by decide) (t := .byte) (t' := .int) (by decide) (by decide)))), F9, ((P3.keep K5 (ninS ne_x0_x2 nin0)).other W9 (Or.inr (slot_ne (Or.inl (tw_293 hw)) (Or.inl (tw_80 hw)) (by decide) (t := .boolean) (t' := .int) (by decide) (by decide)))), ((P4.keep K5 (ninS ne_x0_x2 nin0)).other W9 (Or.inr (slot_ne (Or.inl (tw_55 hw)) (Or.inl (tw_80 hw)) (by decide) (t := (.array .byte)) (t' := .int) (by decide) (by decide)))), (F5_0.other W9 (Ne.symm ne_x0_x2))⟩
theorem au_147 (hw : HW a0 Z)   (O0 : Old Z n0 h0) (G : Glob Z α β γ δ ε ζ η) (P0 : Exa Z h0 x0 s3) (P1 : f1_ Z h0 x0 (.int 1)) (P2 : f4_ Z h0 x0 (.int 6)) (P3 : f5_ Z h0 x0 (.int 0)) (P4 : f3_ Z h0 x0 (.ref x2)) (P5 : Exa Z h0 x1 s1) (P6 : f0_ Z h0 x1 (.int 0)) (P7 : f2_ Z h0 x1 (.ref x3)) (P8 : Arv Z h0 x2 kk0 .byte (32 : Int32) (LL6 p0 p1 p2 p3) (.int 0)) (P10 : Arv Z h0 x3 kk1 .byte (2 : Int32) [.int 32, .int 39] (.int (0 : Int32))) (g_x2 : n0 ≤ x2) (g_x0 : n0 ≤ x0) (ne_x3_x2 : x3 ≠ x2) (ne_x0_x2 : x0 ≠ x2) :
    Ctr l Z ⟨s3, "append", s10⟩ B10 2 (some (.object s3)) (rM 8 0 0 119) #[.ref x0, .ref x1] h0 (fun v h L => v = some (.ref x0) ∧ Fr n0 L ∧ Keep h0 h [x0, x2] ∧ f1_ Z h x0 (.int 1) ∧ f4_ Z h x0 (.int 8) ∧ f5_ Z h x0 (.int 0) ∧ f3_ Z h x0 (.ref x2) ∧ Arv Z h x2 kk0 .byte (32 : Int32) (LL1 p0 p1 p2 p3) (.int 0)) := by
 refine Ctr.of (plainFor_of_name pn_c3) fun p e s m below meth c T0 hx hZ hby hml hown hnm hret hlk e0 es X0 => Go.cast (ef_10_RR m x0 x1) ?_
 generalize hFF : EndN s _ _ _ = FF
 refine aN X0 hx 1 rfl hby d10_0 rfl rfl ?_
 refine aN X0 hx 2 rfl hby d10_1 rfl rfl ?_
 refine Go.callUp X0 hx hZ hown (tw_64 hw) (own_sameself (tw_84 hw) rfl (tw_65 hw) (by decide)) (tw_65 hw) (tw_66 hw) (by decide) (tw_68 hw) (tw_68 hw) (tw_50 hw) (au_148 hw O0 G P0 P1 P2 P3 P4 P5 P6 P7 P8 P10 g_x2 g_x0 ne_x3_x2 ne_x0_x2) e0 P0 (argsL := [.ref x1]) (rest := []) 5 rfl (hml ▸ rfl) (lenOf pd_16 rfl) rfl rfl (W := 0) (nE rfl) (by decide) (hb hby d10_2) ?_
 intro v1 T1 L1 q1 X1
 obtain ⟨h1, e1⟩ := hpz T1
 rw [e1] at q1
 obtain ⟨rfl, N1, K1, F1_0, F1_1, F1_2, F1_3, F1_4⟩ := q1
 show Go _ _ _ _ (T1.setTop (mkF m 5 #[vR x0, vR x1] [.ref x0]))
 refine Go.pop X1 hx 6 rfl (hb hby d10_5) rfl ?_
 refine aN X1 hx 7 rfl hby d10_6 rfl rfl ?_
 subst hFF
 refine Go.retR X1 hx hlk (t := (.object s3)) hret rfl rfl (hb hby d10_7) (by decide) (by decide) ?_
 rw [e1]
 exact ⟨rfl, (Fr.app (Fr.nil n0) N1), ((Keep.refl h0 [x0, x2]).trans K1 (allS (Or.inl (mG 0 rfl)) (allS (Or.inl (mG 1 rfl)) all0))), F1_0, F1_1, F1_2, F1_3, F1_4⟩
theorem au_162 (hw : HW a0 Z)  (Z0 : n0 ≤ h0.size) (P1 : f1_ Z h0 x0 (.int 1)) (P4 : f3_ Z h0 x0 (.ref x1)) (P5 : Arv Z h0 x1 kk0 .byte (32 : Int32) ls0 (.int 0)) :
    Ctr l Z ⟨s0, "ensureCapacityInternal", "(I)V"⟩ B14 3 none (rM 0 0 0 0) #[.ref x0, .int 10] h0 (fun v h L => v = none ∧ Fr n0 L ∧ h = h0) := by
 refine Ctr.of (plainFor_of_name pn_c2) fun p e s m below meth c T0 hx hZ hby hml hown hnm hret hlk e0 es X0 => Go.cast (ef_14_RI m x0 (10 : Int32)) ?_
 generalize hFF : EndN s _ _ _ = FF
 refine aN X0 hx 1 rfl hby d14_0 rfl rfl ?_
 refine gF X0 hx hZ hown (tw_54 hw) e0 P4 4 rfl (hb hby d14_1) ?_
 intro T1 e1 X1
 refine Go.arraylength X1 hx hZ e1 P5 5 rfl (hb hby d14_4) ?_
 refine aN X1 hx 6 rfl hby d14_5 rfl rfl ?_
 refine gF X1 hx hZ hown (tw_56 hw) e1 P1 9 rfl (hb hby d14_6) ?_
 intro T2 e2 X2
 refine Go.ishr X2 hx 10 rfl (hb hby d14_9) ?_
 rw [show ((32 : Int32) >>> ((1 : Int32) &&& 31)) = (16 : Int32) from by decide]
 refine Go.istoreN X2 hx 11 rfl (hb hby d14_10) (Ls' := #[vR x0, vI 10, vI 16]) rfl ?_
 refine iN X2 hx 12 rfl hby d14_11 rfl ?_
 refine iN X2 hx 13 rfl hby d14_12 rfl ?_
 refine Go.isub X2 hx 14 rfl (hb hby d14_13) ?_
 rw [show ((10 : Int32) - (16 : Int32)) = (-6 : Int32) from by decide]
 refine Go.ifYes X2 hx 38 (hb hby d14_14) (by decide) (by decide) (by decide) ?_
 subst hFF
 refine Go.ret0 X2 hx hlk hret (hb hby d14_38) (by decide) (by decide) ?_
 rw [e2]
 exact ⟨rfl, (Fr.nil n0), rfl⟩
theorem au_166 (hw : HW a0 Z)   (O0 : Old Z n0 h0) (G : Glob Z α β γ δ ε ζ η) (P1 : f1_ Z h0 x0 (.int 1)) :
    Ctr l Z ⟨s0, "isLatin1", "()Z"⟩ B29 1 (some .boolean) (rM 0 0 0 0) #[.ref x0] h0 (fun v h L => v = some (.int 0) ∧ Fr n0 L ∧ h = h0) := by
 refine Ctr.of (plainFor_of_name pn_c2) ?_
 intro p e s m below meth c T0 hx hZ hby hml hown hnm hret hlk e0 es X0
 have G' := G
 obtain ⟨G0, -, -, -, -, -, -, -, -, -, -, -, G12, -⟩ := G'
 refine Go.cast (ef_29_R m x0) ?_
 generalize hFF : EndN s _ _ _ = FF
 refine Go.getS X0 hx hZ hown (host := "") (Or.inl (tw_53 hw)) Via.refl e0 (G0.ext O0.2) 3 rfl (hb hby d29_0) ?_
 intro T2 e2 X2
 refine Go.ifNo X2 hx 6 rfl (hb hby d29_3) (feq G12).1 ?_
 refine aN X2 hx 7 rfl hby d29_6 rfl rfl ?_
 refine gF X2 hx hZ hown (tw_56 hw) e2 P1 10 rfl (hb hby d29_7) ?_
 intro T3 e3 X3
 refine Go.ifYes X3 hx 17 (hb hby d29_10) (by decide) (by decide) (by decide) ?_
 refine Go.iconst X3 hx 18 rfl (hb hby d29_17) (v := (0 : Int32)) rfl ?_
 subst hFF
 refine Go.retN X3 hx hlk (t := .boolean) hret (by simp) (hb hby d29_18) (by decide) (by decide) ?_
 rw [e3]
 exact ⟨(congrArg (fun z => some (Value.int z)) (by decide : nar .boolean (0 : Int32) = (0 : Int32))), (Fr.nil n0), rfl⟩
theorem au_165 (hw : HW a0 Z)   (O0 : Old Z n0 h0) (G : Glob Z α β γ δ ε ζ η) (P0 : Exa Z h0 x0 s3) (P1 : f1_ Z h0 x0 (.int 1)) :
    Ctr l Z ⟨s0, "inflate", "()V"⟩ B47 2 none (rM 1 0 0 12) #[.ref x0] h0 (fun v h L => v = none ∧ Fr n0 L ∧ h = h0) := by
 refine Ctr.of (plainFor_of_name pn_c2) fun p e s m below meth c T0 hx hZ hby hml hown hnm hret hlk e0 es X0 => Go.cast (ef_47_R m x0) ?_
 generalize hFF : EndN s _ _ _ = FF
 refine aN X0 hx 1 rfl hby d47_0 rfl rfl ?_
 refine Go.callV X0 hx hZ hown (tw_269 hw) (tw_157 hw) (nF (mvT hZ (tw_159 hw))) (tw_159 hw) (tw_158 hw) (by decide) (tw_160 hw) (tw_50 hw) (au_166 hw O0 G P1) e0 P0 (argsL := []) (rest := []) 4 rfl (hml ▸ rfl) (lenOf pd_22 rfl) rfl rfl (W := 0) (nE rfl) (by decide) (hb hby d47_1) ?_
 intro v1 T1 L1 q1 X1
 obtain ⟨rfl, N1, e1⟩ := q1
 show Go _ _ _ _ (T1.setTop (mkF m 4 #[vR x0, uS] [.int 0]))
 refine Go.ifNo X1 hx 7 rfl (hb hby d47_4) (by decide) ?_
 subst hFF
 refine Go.ret0 X1 hx hlk hret (hb hby d47_7) (by decide) (by decide) ?_
 rw [e1]
 exact ⟨rfl, (Fr.app (Fr.nil n0) N1), rfl⟩
theorem au_164 (hw : HW a0 Z)   (O0 : Old Z n0 h0) (G : Glob Z α β γ δ ε ζ η) (P0 : Exa Z h0 x0 s3) (P1 : f1_ Z h0 x0 (.int 1)) (P5 : Exa Z h0 x1 s1) (P6 : f0_ Z h0 x1 (.int 0)) :
    Ctr l Z ⟨s0, "inflateIfNeededFor", "(Ljava/lang/String;)V"⟩ B16 2 none (rM 2 0 0 25) #[.ref x0, .ref x1] h0 (fun v h L => v = none ∧ Fr n0 L ∧ h = h0) := by
 refine Ctr.of (plainFor_of_name pn_c2) ?_
 intro p e s m below meth c T0 hx hZ hby hml hown hnm hret hlk e0 es X0
 have G' := G
 obtain ⟨G0, -, -, -, -, -, -, -, -, -, -, -, G12, -⟩ := G'
 refine Go.cast (ef_16_RR m x0 x1) ?_
 generalize hFF : EndN s _ _ _ = FF
 refine Go.getS X0 hx hZ hown (host := "") (Or.inl (tw_53 hw)) Via.refl e0 (G0.ext O0.2) 3 rfl (hb hby d16_0) ?_
 intro T2 e2 X2
 refine Go.ifNo X2 hx 6 rfl (hb hby d16_3) (feq G12).1 ?_
 refine aN X2 hx 7 rfl hby d16_6 rfl rfl ?_
 refine gF X2 hx hZ hown (tw_56 hw) e2 P1 10 rfl (hb hby d16_7) ?_
 intro T3 e3 X3
 refine aN X3 hx 11 rfl hby d16_10 rfl rfl ?_
 refine Go.callV X3 hx hZ hown (tw_96 hw) (tw_75 hw) (nF (mvT hZ (tw_77 hw))) (tw_77 hw) (tw_76 hw) (by decide) (tw_78 hw) (tw_2 hw) (au_24 hw O0 G P6) e3 P5 (argsL := []) (rest := [.int 1]) 14 rfl (hml ▸ rfl) (lenOf pd_11 rfl) rfl rfl (W := 1) (nE rfl) (by decide) (hb hby d16_11) ?_
 intro v4 T4 L4 q4 X4
 obtain ⟨rfl, N4, e4⟩ := q4
 show Go _ _ _ _ (T4.setTop (mkF m 14 #[vR x0, vR x1] [.int 0, .int 1]))
 refine Go.icmpNo X4 hx 17 rfl (hb hby d16_14) (by decide) ?_
 refine aN X4 hx 18 rfl hby d16_17 rfl rfl ?_
 refine Go.callP X4 hx hZ hown (tw_264 hw) (tw_265 hw) (tw_267 hw) (tw_266 hw) (tw_268 hw) (by decide) (tw_268 hw) (tw_50 hw) (au_165 hw O0 G P0 P1) e4 P0 (argsL := []) (rest := []) 21 rfl (hml ▸ rfl) (lenOf pd_10 rfl) rfl rfl (W := 0) (nE rfl) (by decide) (hb hby d16_18) ?_
 intro v5 T5 L5 q5 X5
 obtain ⟨rfl, N5, e5⟩ := q5
 subst hFF
 refine Go.ret0 X5 hx hlk hret (hb hby d16_21) (by decide) (by decide) ?_
 rw [e5]
 exact ⟨rfl, (Fr.app (Fr.app (Fr.nil n0) N4) N5), rfl⟩
theorem au_172 (hw : HW a0 Z)  (Z0 : n0 ≤ h0.size) (G : Glob Z α β γ δ ε ζ η) :
    Ctr l Z ⟨"jdk/internal/util/Preconditions", "checkFromIndexSize", "(IIILjava/util/function/BiFunction;)I"⟩ B53 4 (some .int) (rM 0 0 0 0) #[.int 8, .int 2, .int 16, ε] h0 (fun v h L => v = some (.int 8) ∧ Fr n0 L ∧ h = h0) := by
 refine Ctr.of (plainFor_of_name pn_c11) ?_
 intro p e s m below meth c T0 hx hZ hby hml hown hnm hret hlk e0 es X0
 have G' := G
 obtain ⟨-, -, -, -, -, -, -, -, -, -, -, -, -, G13⟩ := G'
 refine Go.cast (ef_53_IIIV m (8 : Int32) (2 : Int32) (16 : Int32) ε G13) ?_
 generalize hFF : EndN s _ _ _ = FF
 refine iN X0 hx 1 rfl hby d53_0 rfl ?_
 refine iN X0 hx 2 rfl hby d53_1 rfl ?_
 refine Go.ior X0 hx 3 rfl (hb hby d53_2) ?_
 rw [show ((16 : Int32) ||| (8 : Int32)) = (24 : Int32) from by decide]
 refine iN X0 hx 4 rfl hby d53_3 rfl ?_
 refine Go.ior X0 hx 5 rfl (hb hby d53_4) ?_
 rw [show ((24 : Int32) ||| (2 : Int32)) = (26 : Int32) from by decide]
 refine Go.ifNo X0 hx 8 rfl (hb hby d53_5) (by decide) ?_
 refine iN X0 hx 9 rfl hby d53_8 rfl ?_
 refine iN X0 hx 10 rfl hby d53_9 rfl ?_
 refine iN X0 hx 11 rfl hby d53_10 rfl ?_
 refine Go.isub X0 hx 12 rfl (hb hby d53_11) ?_
 rw [show ((16 : Int32) - (8 : Int32)) = (8 : Int32) from by decide]
 refine Go.icmpYes X0 hx 23 (hb hby d53_12) (by decide) (by decide) (by decide) ?_
 refine iN X0 hx 24 rfl hby d53_23 rfl ?_
 subst hFF
 refine Go.retI X0 hx hlk hret (hb hby d53_24) (by decide) (by decide) ?_
 rw [e0]
 exact ⟨rfl, (Fr.nil n0), rfl⟩
theorem au_171 (hw : HW a0 Z)   (O0 : Old Z n0 h0) (G : Glob Z α β γ δ ε ζ η) :
    Ctr l Z ⟨s1, "checkBoundsOffCount", "(III)I"⟩ B52 3 (some .int) (rM 1 0 0 15) #[.int 8, .int 2, .int 16] h0 (fun v h L => v = some (.int 8) ∧ Fr n0 L ∧ h = h0) := by
 refine Ctr.of (plainFor_of_name pn_c1) ?_
 intro p e s m below meth c T0 hx hZ hby hml hown hnm hret hlk e0 es X0
 have G' := G
 obtain ⟨-, -, -, -, -, -, -, -, -, G9, -, -, -, -⟩ := G'
 refine Go.cast (ef_52_III m (8 : Int32) (2 : Int32) (16 : Int32)) ?_
 generalize hFF : EndN s _ _ _ = FF
 refine iN X0 hx 1 rfl hby d52_0 rfl ?_
 refine iN X0 hx 2 rfl hby d52_1 rfl ?_
 refine iN X0 hx 3 rfl hby d52_2 rfl ?_
 refine Go.getS X0 hx hZ hown (host := "") (Or.inl (tw_286 hw)) Via.refl e0 (G9.ext O0.2) 6 rfl (hb hby d52_3) ?_
 intro T2 e2 X2
 refine Go.callS X2 hx hZ hown (tw_288 hw) (tw_289 hw) (tw_287 hw) (tw_290 hw) (by decide) (tw_290 hw) (tw_287 hw) (au_172 hw O0.z G) e2 (argsL := [.int 8, .int 2, .int 16, ε]) (rest := []) 9 rfl (hml ▸ rfl) (lenOf pd_33 rfl) rfl rfl (W := 0) (nE rfl) (by decide) (hb hby d52_6) ?_
 intro v3 T3 L3 q3 X3
 obtain ⟨rfl, N3, e3⟩ := q3
 show Go _ _ _ _ (T3.setTop (mkF m 9 #[vI 8, vI 2, vI 16] [.int 8]))
 subst hFF
 refine Go.retI X3 hx hlk hret (hb hby d52_9) (by decide) (by decide) ?_
 rw [e3]
 exact ⟨rfl, (Fr.app (Fr.nil n0) N3), rfl⟩
theorem au_170 (hw : HW a0 Z)   (O0 : Old Z n0 h0) (G : Glob Z α β γ δ ε ζ η) (P0 : Arv Z h0 x0 kk0 .byte (32 : Int32) ls0 (.int 0)) :
    Ctr l Z ⟨s5, "checkBoundsOffCount", "(II[B)V"⟩ B50 3 none (rM 2 0 0 29) #[.int 8, .int 2, .ref x0] h0 (fun v h L => v = none ∧ Fr n0 L ∧ h = h0) := by
 refine Ctr.of (plainFor_of_name pn_c0) fun p e s m below meth c T0 hx hZ hby hml hown hnm hret hlk e0 es X0 => Go.cast (ef_50_IIR m (8 : Int32) (2 : Int32) x0) ?_
 generalize hFF : EndN s _ _ _ = FF
 refine iN X0 hx 1 rfl hby d50_0 rfl ?_
 refine iN X0 hx 2 rfl hby d50_1 rfl ?_
 refine aN X0 hx 3 rfl hby d50_2 rfl rfl ?_
 refine Go.callS X0 hx hZ hown (tw_280 hw) (tw_281 hw) (tw_17 hw) (tw_282 hw) (by decide) (tw_282 hw) (tw_17 hw) (au_98 hw O0.z P0) e0 (argsL := [.ref x0]) (rest := [.int 2, .int 8]) 6 rfl (hml ▸ rfl) (lenOf pd_32 rfl) rfl rfl (W := 2) (nE rfl) (by decide) (hb hby d50_3) ?_
 intro v1 T1 L1 q1 X1
 obtain ⟨rfl, N1, e1⟩ := q1
 show Go _ _ _ _ (T1.setTop (mkF m 6 #[vI 8, vI 2, vR x0] [.int 16, .int 2, .int 8]))
 refine Go.callS X1 hx hZ hown (tw_283 hw) (tw_284 hw) (tw_2 hw) (tw_285 hw) (by decide) (tw_285 hw) (tw_2 hw) (au_171 hw O0 G) e1 (argsL := [.int 8, .int 2, .int 16]) (rest := []) 9 rfl (hml ▸ rfl) (lenOf pd_19 rfl) rfl rfl (W := 0) (nE rfl) (by decide) (hb hby d50_6) ?_
 intro v2 T2 L2 q2 X2
 obtain ⟨rfl, N2, e2⟩ := q2
 show Go _ _ _ _ (T2.setTop (mkF m 9 #[vI 8, vI 2, vR x0] [.int 8]))
 refine Go.pop X2 hx 10 rfl (hb hby d50_9) rfl ?_
 subst hFF
 refine Go.ret0 X2 hx hlk hret (hb hby d50_10) (by decide) (by decide) ?_
 rw [e2]
 exact ⟨rfl, (Fr.app (Fr.app (Fr.nil n0) N1) N2), rfl⟩
theorem au_169 (hw : HW a0 Z)   (O0 : Old Z n0 h0) (G : Glob Z α β γ δ ε ζ η) (P0 : Arv Z h0 x0 kk0 .byte (2 : Int32) [.int p0, .int p1] (.int 0)) (P2 : Arv Z h0 x1 kk1 .byte (32 : Int32) (LL1 p2 p3 p4 p5) (.int 0)) (R_p6 : 0 ≤ p6.toInt ∧ p6.toInt ≤ 255) (R_p7 : 0 ≤ p7.toInt ∧ p7.toInt ≤ 255) (B_p0 : (p6.toInt8.toInt32) = p0) (B_p1 : (p7.toInt8.toInt32) = p1) (g_x1 : n0 ≤ x1) (ne_x0_x1 : x0 ≠ x1) :
    Ctr l Z ⟨s5, "inflate", "([BI[BII)V"⟩ B49 6 none (rM 3 0 0 43) #[.ref x0, .int 0, .ref x1, .int 8, .int 2] h0 (fun v h L => v = none ∧ Fr n0 L ∧ Keep h0 h [x1] ∧ Arv Z h x1 kk1 .byte (32 : Int32) (LL13 p2 p3 p4 p5 p0 p1) (.int 0)) := by
 refine Ctr.of (plainFor_of_name pn_c0) ?_
 intro p e s m below meth c T0 hx hZ hby hml hown hnm hret hlk e0 es X0
 have G' := G
 obtain ⟨-, -, -, -, -, -, G6, G7, G8, -, -, -, -, -⟩ := G'
 refine Go.cast (ef_49_RIRII m x0 (0 : Int32) x1 (8 : Int32) (2 : Int32)) ?_
 generalize hFF : EndN s _ _ _ = FF
 refine iN X0 hx 1 rfl hby d49_0 rfl ?_
 refine Go.iload X0 hx 3 rfl (hb hby d49_1) rfl ?_
 refine aN X0 hx 4 rfl hby d49_3 rfl rfl ?_
 refine Go.callS X0 hx hZ hown (tw_277 hw) (tw_278 hw) (tw_17 hw) (tw_279 hw) (by decide) (tw_279 hw) (tw_17 hw) (au_170 hw O0 G P2) e0 (argsL := [.int 8, .int 2, .ref x1]) (rest := []) 7 rfl (hml ▸ rfl) (lenOf pd_34 rfl) rfl rfl (W := 0) (nE rfl) (by decide) (hb hby d49_4) ?_
 intro v1 T1 L1 q1 X1
 obtain ⟨rfl, N1, e1⟩ := q1
 refine Go.iconst X1 hx 8 rfl (hb hby d49_7) (v := (0 : Int32)) rfl ?_
 refine Go.istore X1 hx 10 rfl (hb hby d49_8) (Ls' := #[vR x0, vI 0, vR x1, vI 8, vI 2, vI 0]) rfl ?_
 have A2 : Arv Z h0 x0 kk0 .byte (2 : Int32) (([p6, p7] : List Int32).map own_vb ++ []) (.int 0) := by rw [show ([p6, p7] : List Int32).map own_vb ++ ([] : List Value) = [.int p0, .int p1] from (own_mca B_p0 (own_mca B_p1 rfl))]; exact P0
 refine lp_inf hw X1 hx hZ hby hml hown e1 O0 (Fr.app (Fr.nil n0) N1) G6 G7 G8 (by decide) (by decide) (by decide) (by decide) (cs := [p6, p7]) (off := 8) (rest := []) (pre := (LL43 p2 p3 p4 p5)) (m0 := [.int 0, .int 0, .int 0, .int 0]) (post := LL9) A2 P2 rfl rfl rfl rfl rfl rfl (own_xc R_p6 (by decide) (by decide) (own_xc R_p7 (by decide) (by decide) own_x0)) g_x1 ne_x0_x1 ?_
 intro T2 h2 L2 e2 X2 N2 K2 V2
 have E2 : ((LL43 p2 p3 p4 p5) : List Value) ++ (own_u16 [p6, p7] ++ LL9) = (LL13 p2 p3 p4 p5 p0 p1) := congrArg (fun t => ((LL43 p2 p3 p4 p5) : List Value) ++ t) ((own_uc B_p0 (own_hi0 R_p6 (by decide) (by decide)) (own_uc B_p1 (own_hi0 R_p7 (by decide) (by decide)) rfl)) : own_u16 [p6, p7] ++ LL9 = [.int p0, .int 0, .int p1, .int 0, .int 0, .int 0, .int 0, .int 0, .int 0, .int 0, .int 0, .int 0, .int 0, .int 0, .int 0, .int 0])
 have U2 : Arv Z h2 x1 kk1 .byte (32 : Int32) (LL13 p2 p3 p4 p5 p0 p1) (.int 0) := by rw [← E2]; exact V2
 show Go _ _ _ _ (T2.setTop (mkF m 41 #[vR x0, vI 2, vR x1, vI 10, vI 2, vI 2] []))
 subst hFF
 refine Go.ret0 X2 hx hlk hret (hb hby d49_41) (by decide) (by decide) ?_
 rw [e2]
 exact ⟨rfl, N2, ((Keep.refl h0 [x1]).trans K2 (allS (Or.inl (mG 0 rfl)) all0)), U2⟩
theorem au_168 (hw : HW a0 Z)   (O0 : Old Z n0 h0) (G : Glob Z α β γ δ ε ζ η) (P0 : Arv Z h0 x0 kk0 .byte (2 : Int32) [.int p0, .int p1] (.int 0)) (P2 : Arv Z h0 x1 kk1 .byte (32 : Int32) (LL1 p2 p3 p4 p5) (.int 0)) (R_p6 : 0 ≤ p6.toInt ∧ p6.toInt ≤ 255) (R_p7 : 0 ≤ p7.toInt ∧ p7.toInt ≤ 255) (B_p0 : (p6.toInt8.toInt32) = p0) (B_p1 : (p7.toInt8.toInt32) = p1) (g_x1 : n0 ≤ x1) (ne_x0_x1 : x0 ≠ x1) :
    Ctr l Z ⟨"java/lang/StringLatin1", "inflate", "([BI[BII)V"⟩ B48 5 none (rM 4 0 0 60) #[.ref x0, .int 0, .ref x1, .int 8, .int 2] h0 (fun v h L => v = none ∧ Fr n0 L ∧ Keep h0 h [x1] ∧ Arv Z h x1 kk1 .byte (32 : Int32) (LL13 p2 p3 p4 p5 p0 p1) (.int 0)) := by
 refine Ctr.of (plainFor_of_name pn_c10) fun p e s m below meth c T0 hx hZ hby hml hown hnm hret hlk e0 es X0 => Go.cast (ef_48_RIRII m x0 (0 : Int32) x1 (8 : Int32) (2 : Int32)) ?_
 generalize hFF : EndN s _ _ _ = FF
 refine aN X0 hx 1 rfl hby d48_0 rfl rfl ?_
 refine iN X0 hx 2 rfl hby d48_1 rfl ?_
 refine aN X0 hx 3 rfl hby d48_2 rfl rfl ?_
 refine iN X0 hx 4 rfl hby d48_3 rfl ?_
 refine Go.iload X0 hx 6 rfl (hb hby d48_4) rfl ?_
 refine Go.callS X0 hx hZ hown (tw_274 hw) (tw_275 hw) (tw_17 hw) (tw_276 hw) (by decide) (tw_276 hw) (tw_17 hw) (au_169 hw O0 G P0 P2 R_p6 R_p7 B_p0 B_p1 g_x1 ne_x0_x1) e0 (argsL := [.ref x0, .int 0, .ref x1, .int 8, .int 2]) (rest := []) 9 rfl (hml ▸ rfl) (lenOf pd_35 rfl) rfl rfl (W := 0) (nE rfl) (by decide) (hb hby d48_6) ?_
 intro v1 T1 L1 q1 X1
 obtain ⟨h1, e1⟩ := hpz T1
 rw [e1] at q1
 obtain ⟨rfl, N1, K1, F1_0⟩ := q1
 subst hFF
 refine Go.ret0 X1 hx hlk hret (hb hby d48_9) (by decide) (by decide) ?_
 rw [e1]
 exact ⟨rfl, (Fr.app (Fr.nil n0) N1), ((Keep.refl h0 [x1]).trans K1 (allS (Or.inl (mG 0 rfl)) all0)), F1_0⟩
theorem au_167 (hw : HW a0 Z)   (O0 : Old Z n0 h0) (G : Glob Z α β γ δ ε ζ η) (P0 : Exa Z h0 x0 s1) (P1 : f0_ Z h0 x0 (.int 0)) (P2 : f2_ Z h0 x0 (.ref x2)) (P3 : Arv Z h0 x1 kk0 .byte (32 : Int32) (LL1 p0 p1 p2 p3) (.int 0)) (P5 : Arv Z h0 x2 kk1 .byte (2 : Int32) [.int p4, .int p5] (.int 0)) (R_p6 : 0 ≤ p6.toInt ∧ p6.toInt ≤ 255) (R_p7 : 0 ≤ p7.toInt ∧ p7.toInt ≤ 255) (B_p4 : (p6.toInt8.toInt32) = p4) (B_p5 : (p7.toInt8.toInt32) = p5) (g_x1 : n0 ≤ x1) (ne_x2_x1 : x2 ≠ x1) :
    Ctr l Z ⟨s1, "getBytes", "([BIB)V"⟩ B17 4 none (rM 5 0 0 76) #[.ref x0, .ref x1, .int 8, .int 1] h0 (fun v h L => v = none ∧ Fr n0 L ∧ Keep h0 h [x1] ∧ Arv Z h x1 kk0 .byte (32 : Int32) (LL13 p0 p1 p2 p3 p4 p5) (.int 0)) := by
 refine Ctr.of (plainFor_of_name pn_c1) fun p e s m below meth c T0 hx hZ hby hml hown hnm hret hlk e0 es X0 => Go.cast (ef_17_RRII m x0 x1 (8 : Int32) (1 : Int32)) ?_
 generalize hFF : EndN s _ _ _ = FF
 refine aN X0 hx 1 rfl hby d17_0 rfl rfl ?_
 refine Go.callV X0 hx hZ hown (tw_74 hw) (tw_75 hw) (nF (mvT hZ (tw_77 hw))) (tw_77 hw) (tw_76 hw) (by decide) (tw_78 hw) (tw_2 hw) (au_24 hw O0 G P1) e0 P0 (argsL := []) (rest := []) 4 rfl (hml ▸ rfl) (lenOf pd_11 rfl) rfl rfl (W := 0) (nE rfl) (by decide) (hb hby d17_1) ?_
 intro v1 T1 L1 q1 X1
 obtain ⟨rfl, N1, e1⟩ := q1
 show Go _ _ _ _ (T1.setTop (mkF m 4 #[vR x0, vR x1, vI 8, vI 1] [.int 0]))
 refine iN X1 hx 5 rfl hby d17_4 rfl ?_
 refine Go.icmpYes X1 hx 28 (hb hby d17_5) (by decide) (by decide) (by decide) ?_
 refine aN X1 hx 29 rfl hby d17_28 rfl rfl ?_
 refine gF X1 hx hZ hown (tw_28 hw) e1 P2 32 rfl (hb hby d17_29) ?_
 intro T2 e2 X2
 refine Go.iconst X2 hx 33 rfl (hb hby d17_32) (v := (0 : Int32)) rfl ?_
 refine aN X2 hx 34 rfl hby d17_33 rfl rfl ?_
 refine iN X2 hx 35 rfl hby d17_34 rfl ?_
 refine aN X2 hx 36 rfl hby d17_35 rfl rfl ?_
 refine gF X2 hx hZ hown (tw_28 hw) e2 P2 39 rfl (hb hby d17_36) ?_
 intro T3 e3 X3
 refine Go.arraylength X3 hx hZ e3 P5 40 rfl (hb hby d17_39) ?_
 refine Go.callS X3 hx hZ hown (tw_291 hw) (tw_272 hw) (tw_243 hw) (tw_273 hw) (by decide) (tw_273 hw) (tw_243 hw) (au_168 hw O0 G P5 P3 R_p6 R_p7 B_p4 B_p5 g_x1 ne_x2_x1) e3 (argsL := [.ref x2, .int 0, .ref x1, .int 8, .int 2]) (rest := []) 43 rfl (hml ▸ rfl) (lenOf pd_35 rfl) rfl rfl (W := 0) (nE rfl) (by decide) (hb hby d17_40) ?_
 intro v4 T4 L4 q4 X4
 obtain ⟨h4, e4⟩ := hpz T4
 rw [e4] at q4
 obtain ⟨rfl, N4, K4, F4_0⟩ := q4
 subst hFF
 refine Go.ret0 X4 hx hlk hret (hb hby d17_43) (by decide) (by decide) ?_
 rw [e4]
 exact ⟨rfl, (Fr.app (Fr.app (Fr.nil n0) N1) N4), ((Keep.refl h0 [x1]).trans K4 (allS (Or.inl (mG 0 rfl)) all0)), F4_0⟩
theorem au_163 (hw : HW a0 Z)   (O0 : Old Z n0 h0) (G : Glob Z α β γ δ ε ζ η) (P0 : Exa Z h0 x0 s3) (P1 : f1_ Z h0 x0 (.int 1)) (P4 : f3_ Z h0 x0 (.ref x2)) (P5 : Exa Z h0 x1 s1) (P6 : f0_ Z h0 x1 (.int 0)) (P7 : f2_ Z h0 x1 (.ref x3)) (P8 : Arv Z h0 x2 kk0 .byte (32 : Int32) (LL1 p0 p1 p2 p3) (.int 0)) (P10 : Arv Z h0 x3 kk1 .byte (2 : Int32) [.int p4, .int p5] (.int 0)) (R_p6 : 0 ≤ p6.toInt ∧ p6.toInt ≤ 255) (R_p7 : 0 ≤ p7.toInt ∧ p7.toInt ≤ 255) (B_p4 : (p6.toInt8.toInt32) = p4) (B_p5 : (p7.toInt8.toInt32) = p5) (g_x2 : n0 ≤ x2) (ne_x3_x2 : x3 ≠ x2) :
    Ctr l Z ⟨s0, "putStringAt", "(ILjava/lang/String;)V"⟩ B15 3 none (rM 6 0 0 91) #[.ref x0, .int 8, .ref x1] h0 (fun v h L => v = none ∧ Fr n0 L ∧ Keep h0 h [x2] ∧ Arv Z h x2 kk0 .byte (32 : Int32) (LL13 p0 p1 p2 p3 p4 p5) (.int 0)) := by
 refine Ctr.of (plainFor_of_name pn_c2) fun p e s m below meth c T0 hx hZ hby hml hown hnm hret hlk e0 es X0 => Go.cast (ef_15_RIR m x0 (8 : Int32) x1) ?_
 generalize hFF : EndN s _ _ _ = FF
 refine aN X0 hx 1 rfl hby d15_0 rfl rfl ?_
 refine aN X0 hx 2 rfl hby d15_1 rfl rfl ?_
 refine Go.callP X0 hx hZ hown (tw_91 hw) (tw_92 hw) (tw_94 hw) (tw_93 hw) (tw_95 hw) (by decide) (tw_95 hw) (tw_50 hw) (au_164 hw O0 G P0 P1 P5 P6) e0 P0 (argsL := [.ref x1]) (rest := []) 5 rfl (hml ▸ rfl) (lenOf pd_13 rfl) rfl rfl (W := 0) (nE rfl) (by decide) (hb hby d15_2) ?_
 intro v1 T1 L1 q1 X1
 obtain ⟨rfl, N1, e1⟩ := q1
 refine aN X1 hx 6 rfl hby d15_5 rfl rfl ?_
 refine aN X1 hx 7 rfl hby d15_6 rfl rfl ?_
 refine gF X1 hx hZ hown (tw_54 hw) e1 P4 10 rfl (hb hby d15_7) ?_
 intro T2 e2 X2
 refine iN X2 hx 11 rfl hby d15_10 rfl ?_
 refine aN X2 hx 12 rfl hby d15_11 rfl rfl ?_
 refine gF X2 hx hZ hown (tw_56 hw) e2 P1 15 rfl (hb hby d15_12) ?_
 intro T3 e3 X3
 refine Go.callV X3 hx hZ hown (tw_97 hw) (tw_98 hw) (nF (mvT hZ (tw_100 hw))) (tw_100 hw) (tw_99 hw) (by decide) (tw_101 hw) (tw_2 hw) (au_167 hw O0 G P5 P6 P7 P8 P10 R_p6 R_p7 B_p4 B_p5 g_x2 ne_x3_x2) e3 P5 (argsL := [.ref x2, .int 8, .int 1]) (rest := []) 18 rfl (hml ▸ rfl) (lenOf pd_14 rfl) rfl rfl (W := 0) (nE rfl) (by decide) (hb hby d15_15) ?_
 intro v4 T4 L4 q4 X4
 obtain ⟨h4, e4⟩ := hpz T4
 rw [e4] at q4
 obtain ⟨rfl, N4, K4, F4_0⟩ := q4
 subst hFF
 refine Go.ret0 X4 hx hlk hret (hb hby d15_18) (by decide) (by decide) ?_
 rw [e4]
 exact ⟨rfl, (Fr.app (Fr.app (Fr.nil n0) N1) N4), ((Keep.refl h0 [x2]).trans K4 (allS (Or.inl (mG 0 rfl)) all0)), F4_0⟩
theorem au_161 (hw : HW a0 Z)   (O0 : Old Z n0 h0) (G : Glob Z α β γ δ ε ζ η) (P0 : Exa Z h0 x0 s3) (P1 : f1_ Z h0 x0 (.int 1)) (P2 : f4_ Z h0 x0 (.int 8)) (P3 : f5_ Z h0 x0 (.int 0)) (P4 : f3_ Z h0 x0 (.ref x2)) (P5 : Exa Z h0 x1 s1) (P6 : f0_ Z h0 x1 (.int 0)) (P7 : f2_ Z h0 x1 (.ref x3)) (P8 : Arv Z h0 x2 kk0 .byte (32 : Int32) (LL1 p0 p1 p2 p3) (.int 0)) (P10 : Arv Z h0 x3 kk1 .byte (2 : Int32) [.int p4, .int p5] (.int 0)) (R_p6 : 0 ≤ p6.toInt ∧ p6.toInt ≤ 255) (R_p7 : 0 ≤ p7.toInt ∧ p7.toInt ≤ 255) (B_p4 : (p6.toInt8.toInt32) = p4) (B_p5 : (p7.toInt8.toInt32) = p5) (g_x2 : n0 ≤ x2) (g_x0 : n0 ≤ x0) (ne_x3_x2 : x3 ≠ x2) (ne_x0_x2 : x0 ≠ x2) :
    Ctr l Z ⟨s0, "append", s11⟩ B11 3 (some (.object s0)) (rM 7 0 0 105) #[.ref x0, .ref x1] h0 (fun v h L => v = some (.ref x0) ∧ Fr n0 L ∧ Keep h0 h [x0, x2] ∧ f1_ Z h x0 (.int 1) ∧ f4_ Z h x0 (.int 10) ∧ f5_ Z h x0 (.int 0) ∧ f3_ Z h x0 (.ref x2) ∧ Arv Z h x2 kk0 .byte (32 : Int32) (LL13 p0 p1 p2 p3 p4 p5) (.int 0)) := by
 refine Ctr.of (plainFor_of_name pn_c2) fun p e s m below meth c T0 hx hZ hby hml hown hnm hret hlk e0 es X0 => Go.cast (ef_11_RR m x0 x1) ?_
 generalize hFF : EndN s _ _ _ = FF
 refine aN X0 hx 1 rfl hby d11_0 rfl rfl ?_
 refine Go.ifnonnullYes X0 hx 9 (hb hby d11_1) (by decide) (by decide) ?_
 refine aN X0 hx 10 rfl hby d11_9 rfl rfl ?_
 refine Go.callV X0 hx hZ hown (tw_69 hw) (tw_70 hw) (nF (mvT hZ (tw_72 hw))) (tw_72 hw) (tw_71 hw) (by decide) (tw_73 hw) (tw_2 hw) (au_31 hw O0 G P5 P6 P7 P10) e0 P5 (argsL := []) (rest := []) 13 rfl (hml ▸ rfl) (lenOf pd_12 rfl) rfl rfl (W := 0) (nE rfl) (by decide) (hb hby d11_10) ?_
 intro v1 T1 L1 q1 X1
 obtain ⟨rfl, N1, e1⟩ := q1
 show Go _ _ _ _ (T1.setTop (mkF m 13 #[vR x0, vR x1, uS] [.int 2]))
 refine Go.istoreN X1 hx 14 rfl (hb hby d11_13) (Ls' := #[vR x0, vR x1, vI 2]) rfl ?_
 refine aN X1 hx 15 rfl hby d11_14 rfl rfl ?_
 refine aN X1 hx 16 rfl hby d11_15 rfl rfl ?_
 refine gF X1 hx hZ hown (tw_79 hw) e1 P2 19 rfl (hb hby d11_16) ?_
 intro T2 e2 X2
 refine iN X2 hx 20 rfl hby d11_19 rfl ?_
 refine Go.iadd X2 hx 21 rfl (hb hby d11_20) ?_
 rw [show ((8 : Int32) + (2 : Int32)) = (10 : Int32) from by decide]
 refine Go.callP X2 hx hZ hown (tw_81 hw) (tw_82 hw) (tw_84 hw) (tw_83 hw) (tw_85 hw) (by decide) (tw_85 hw) (tw_50 hw) (au_162 hw O0.z P1 P4 P8) e2 P0 (argsL := [.int 10]) (rest := []) 24 rfl (hml ▸ rfl) (lenOf pd_9 rfl) rfl rfl (W := 0) (nE rfl) (by decide) (hb hby d11_21) ?_
 intro v3 T3 L3 q3 X3
 obtain ⟨rfl, N3, e3⟩ := q3
 refine aN X3 hx 25 rfl hby d11_24 rfl rfl ?_
 refine aN X3 hx 26 rfl hby d11_25 rfl rfl ?_
 refine gF X3 hx hZ hown (tw_79 hw) e3 P2 29 rfl (hb hby d11_26) ?_
 intro T4 e4 X4
 refine aN X4 hx 30 rfl hby d11_29 rfl rfl ?_
 refine Go.callP X4 hx hZ hown (tw_86 hw) (tw_87 hw) (tw_89 hw) (tw_88 hw) (tw_90 hw) (by decide) (tw_90 hw) (tw_50 hw) (au_163 hw O0 G P0 P1 P4 P5 P6 P7 P8 P10 R_p6 R_p7 B_p4 B_p5 g_x2 ne_x3_x2) e4 P0 (argsL := [.int 8, .ref x1]) (rest := []) 33 rfl (hml ▸ rfl) (lenOf pd_15 rfl) rfl rfl (W := 0) (nE rfl) (by decide) (hb hby d11_30) ?_
 intro v5 T5 L5 q5 X5
 obtain ⟨h5, e5⟩ := hpz T5
 rw [e5] at q5
 obtain ⟨rfl, N5, K5, F5_0⟩ := q5
 refine aN X5 hx 34 rfl hby d11_33 rfl rfl ?_
 refine Go.dup X5 hx 35 rfl (hb hby d11_34) rfl ?_
 have fk6 := (P2.keep K5 (ninS ne_x0_x2 nin0))
 refine gF X5 hx hZ hown (tw_79 hw) e5 fk6 38 rfl (hb hby d11_35) ?_
 intro T7 e7 X7
 refine iN X7 hx 39 rfl hby d11_38 rfl ?_
 refine Go.iadd X7 hx 40 rfl (hb hby d11_39) ?_
 rw [show ((8 : Int32) + (2 : Int32)) = (10 : Int32) from by decide]
 refine Go.putF X7 hx hZ hown (host := "") (Or.inl (tw_79 hw)) Via.refl e7 fk6 (P0.keep K5) (Or.inl (tw_80 hw)) (tw_41 hw) (ty := .int) (by decide) rfl rfl 43 rfl (hb hby d11_40) ?_
 intro T9 h9 e9 W9 F9 X9
 have N9 := Fr.snoc X9 (Fr.app (Fr.app (Fr.app (Fr.nil n0) N1) N3) N5) g_x0
 refine aN X9 hx 44 rfl hby d11_43 rfl rfl ?_
 subst hFF
 refine Go.retR X9 hx hlk (t := (.object s0)) hret rfl rfl (hb hby d11_44) (by decide) (by decide) ?_
 rw [e9]
 exact ⟨rfl, N9, (((Keep.refl h0 [x0, x2]).trans K5 (allS (Or.inl (mG 1 rfl)) all0)).wr W9 (Or.inl (mG 0 rfl))), ((P1.keep K5 (ninS ne_x0_x2 nin0)).other W9 (Or.inr (slot_ne (Or.inl (tw_57 hw)) (Or.inl (tw_80 hw)) (by decide) (t := .byte) (t' := .int) (by decide) (by decide)))), F9, ((P3.keep K5 (ninS ne_x0_x2 nin0)).other W9 (Or.inr (slot_ne (Or.inl (tw_293 hw)) (Or.inl (tw_80 hw)) (by decide) (t := .boolean) (t' := .int) (by decide) (by decide)))), ((P4.keep K5 (ninS ne_x0_x2 nin0)).other W9 (Or.inr (slot_ne (Or.inl (tw_55 hw)) (Or.inl (tw_80 hw)) (by decide) (t := (.array .byte)) (t' := .int) (by decide) (by decide)))), (F5_0.other W9 (Ne.symm ne_x0_x2))⟩
theorem au_160 (hw : HW a0 Z)   (O0 : Old Z n0 h0) (G : Glob Z α β γ δ ε ζ η) (P0 : Exa Z h0 x0 s3) (P1 : f1_ Z h0 x0 (.int 1)) (P2 : f4_ Z h0 x0 (.int 8)) (P3 : f5_ Z h0 x0 (.int 0)) (P4 : f3_ Z h0 x0 (.ref x2)) (P5 : Exa Z h0 x1 s1) (P6 : f0_ Z h0 x1 (.int 0)) (P7 : f2_ Z h0 x1 (.ref x3)) (P8 : Arv Z h0 x2 kk0 .byte (32 : Int32) (LL1 p0 p1 p2 p3) (.int 0)) (P10 : Arv Z h0 x3 kk1 .byte (2 : Int32) [.int p4, .int p5] (.int 0)) (R_p6 : 0 ≤ p6.toInt ∧ p6.toInt ≤ 255) (R_p7 : 0 ≤ p7.toInt ∧ p7.toInt ≤ 255) (B_p4 : (p6.toInt8.toInt32) = p4) (B_p5 : (p7.toInt8.toInt32) = p5) (g_x2 : n0 ≤ x2) (g_x0 : n0 ≤ x0) (ne_x3_x2 : x3 ≠ x2) (ne_x0_x2 : x0 ≠ x2) :
    Ctr l Z ⟨s3, "append", s10⟩ B10 2 (some (.object s3)) (rM 8 0 0 119) #[.ref x0, .ref x1] h0 (fun v h L => v = some (.ref x0) ∧ Fr n0 L ∧ Keep h0 h [x0, x2] ∧ f1_ Z h x0 (.int 1) ∧ f4_ Z h x0 (.int 10) ∧ f5_ Z h x0 (.int 0) ∧ f3_ Z h x0 (.ref x2) ∧ Arv Z h x2 kk0 .byte (32 : Int32) (LL13 p0 p1 p2 p3 p4 p5) (.int 0)) := by
 refine Ctr.of (plainFor_of_name pn_c3) fun p e s m below meth c T0 hx hZ hby hml hown hnm hret hlk e0 es X0 => Go.cast (ef_10_RR m x0 x1) ?_
 generalize hFF : EndN s _ _ _ = FF
 refine aN X0 hx 1 rfl hby d10_0 rfl rfl ?_
 refine aN X0 hx 2 rfl hby d10_1 rfl rfl ?_
 refine Go.callUp X0 hx hZ hown (tw_64 hw) (own_sameself (tw_84 hw) rfl (tw_65 hw) (by decide)) (tw_65 hw) (tw_66 hw) (by decide) (tw_68 hw) (tw_68 hw) (tw_50 hw) (au_161 hw O0 G P0 P1 P2 P3 P4 P5 P6 P7 P8 P10 R_p6 R_p7 B_p4 B_p5 g_x2 g_x0 ne_x3_x2 ne_x0_x2) e0 P0 (argsL := [.ref x1]) (rest := []) 5 rfl (hml ▸ rfl) (lenOf pd_16 rfl) rfl rfl (W := 0) (nE rfl) (by decide) (hb hby d10_2) ?_
 intro v1 T1 L1 q1 X1
 obtain ⟨h1, e1⟩ := hpz T1
 rw [e1] at q1
 obtain ⟨rfl, N1, K1, F1_0, F1_1, F1_2, F1_3, F1_4⟩ := q1
 show Go _ _ _ _ (T1.setTop (mkF m 5 #[vR x0, vR x1] [.ref x0]))
 refine Go.pop X1 hx 6 rfl (hb hby d10_5) rfl ?_
 refine aN X1 hx 7 rfl hby d10_6 rfl rfl ?_
 subst hFF
 refine Go.retR X1 hx hlk (t := (.object s3)) hret rfl rfl (hb hby d10_7) (by decide) (by decide) ?_
 rw [e1]
 exact ⟨rfl, (Fr.app (Fr.nil n0) N1), ((Keep.refl h0 [x0, x2]).trans K1 (allS (Or.inl (mG 0 rfl)) (allS (Or.inl (mG 1 rfl)) all0))), F1_0, F1_1, F1_2, F1_3, F1_4⟩
theorem au_134 (hw : HW a0 Z)   (O0 : Old Z n0 h0) (G : Glob Z α β γ δ ε ζ η) (P0 : Exa Z h0 x0 s1) (P1 : f0_ Z h0 x0 (.int 1)) (P2 : f2_ Z h0 x0 (.ref x2)) (P3 : Exa Z h0 x1 s1) (P4 : f0_ Z h0 x1 (.int 0)) (P5 : f2_ Z h0 x1 (.ref x3)) (P6 : Arv Z h0 x2 kk0 .byte (4 : Int32) [.int p0, .int p1, .int p2, .int p3] (.int 0)) (P8 : Arv Z h0 x3 kk1 .byte (2 : Int32) [.int p4, .int p5] (.int 0)) (R_p6 : 0 ≤ p6.toInt ∧ p6.toInt ≤ 255) (R_p7 : 0 ≤ p7.toInt ∧ p7.toInt ≤ 255) (B_p4 : (p6.toInt8.toInt32) = p4) (B_p5 : (p7.toInt8.toInt32) = p5) :
    CtrW l Z EL0 ⟨s12, "taken", s13⟩ B7 2 (some (.object s2)) (rM 10 16 3091 146) #[.ref x0, .ref x1] h0 [] (fun v vm h L => ∃ (y0 y1 y2 y3 y4 : Addr) (y5 y6 : ClassId), v = some (.ref y0) ∧ Fr n0 L ∧ Keep h0 h [] ∧ h0.size ≤ y0 ∧ h0.size ≤ y2 ∧ h0.size ≤ y4 ∧ y2 ≠ y0 ∧ y4 ≠ y0 ∧ y4 ≠ y2 ∧ Safe Z EL0 vm h y0 ∧ Safe Z EL0 vm h y2 ∧ Safe Z EL0 vm h y4 ∧ Exa Z h y0 s2 ∧ f6_ Z h y0 (.ref y1) ∧ f8_ Z h y0 (.ref y0) ∧ f7_ Z h y0 (.ref y2) ∧ f9_ Z h y0 (.ref γ) ∧ Exa Z h y1 s1 ∧ f0_ Z h y1 (.int 0) ∧ f2_ Z h y1 (.ref y3) ∧ Exa Z h y2 s1 ∧ f0_ Z h y2 (.int 1) ∧ f2_ Z h y2 (.ref y4) ∧ Arv Z h y3 y5 .byte (10 : Int32) LL17 (.int (0 : Int32)) ∧ Arv Z h y4 y6 .byte (56 : Int32) (LL30 p0 p1 p2 p3 p4 p5) (.int 0) ∧ Exa Z h y4 "[B") := by
 refine CtrW.of (plainFor_of_name pn_c9) ?_
 intro p e s m below meth c T0 hx hZ hby hml hown hnm hret hlk e0 es hS0 C0 hsf hKN X0
 have G' := G
 obtain ⟨-, -, -, -, G4, -, -, -, -, -, -, -, -, -⟩ := G'
 refine Go.cast (ef_7_RR m x0 x1) ?_
 generalize hFF : EndW Z EL0 s _ _ _ = FF
 refine Go.newU X0 hx hZ hown (tw_34 hw) (tw_35 hw) (tw_36 hw) e0 (by decide) (by decide) 3 rfl (hb hby d7_0) ?_
 intro T1 h1 b1 e1 E1 g1 A1 D1 N1 X1
 have b1_cause : f8_ Z h1 b1 .null := D1 (Or.inl (tw_186 hw)) (ty := (.object s4)) (by decide)
 have b1_stackTrace : Fld Z h1 b1 s4 "stackTrace" "[Ljava/lang/StackTraceElement;" .null := D1 (Or.inl (tw_189 hw)) (ty := (.array (.object "java/lang/StackTraceElement"))) (by decide)
 have b1_suppressedExceptions : f9_ Z h1 b1 .null := D1 (Or.inl (tw_192 hw)) (ty := (.object "java/util/List")) (by decide)
 have b1_detailMessage : f7_ Z h1 b1 .null := D1 (Or.inl (tw_216 hw)) (ty := (.object s1)) (by decide)
 have b1_backtrace : Fld Z h1 b1 s4 "backtrace" "Ljava/lang/Object;" .null := D1 (Or.inl (tw_217 hw)) (ty := (.object "java/lang/Object")) (by decide)
 have b1_depth : Fld Z h1 b1 s4 "depth" "I" (.int 0) := D1 (Or.inl (tw_218 hw)) (ty := .int) (by decide)
 have b1_code : f6_ Z h1 b1 .null := D1 (Or.inr (tw_222 hw)) (ty := (.object s1)) (by decide)
 refine Go.dup X1 hx 4 rfl (hb hby d7_3) rfl ?_
 have C2 := (C0.trans (CHr.ext E1 C0.1))
 refine Go.ldcCH X1 hx hZ hown (tw_37 hw) (own_SA hw) e1 hS0 (Nat.le_trans (Nat.le_refl _) E1.1) (own_EW hw) (mG 0 rfl) C2.1 (vs := [(.int (110 : Int32)), (.int (97 : Int32)), (.int (109 : Int32)), (.int (101 : Int32)), (.int (95 : Int32)), (.int (116 : Int32)), (.int (97 : Int32)), (.int (107 : Int32)), (.int (101 : Int32)), (.int (110 : Int32))]) (z := (10 : Int32)) (by decide) (by decide) rfl (n := 40) (by decide) (by decide) (by decide) (by decide) 6 rfl (hb hby d7_4) ?_
 intro a4 T4 h4 j4 b4 k4 e4 E4 S4 i4 Z4 O4 A4 F4 G4 V4 C4 D4 X4
 refine Go.new X4 hx Z4 O4 (tw_40 hw) (tw_41 hw) (tw_42 hw) e4 (by decide) (by decide) 9 rfl (hb hby d7_6) ?_
 intro T5 h5 b5 e5 E5 g5 A5 D5 X5
 have b5_value : f3_ Z h5 b5 .null := D5 (Or.inl (tw_55 hw)) (ty := (.array .byte)) (by decide)
 have b5_coder : f1_ Z h5 b5 (.int 0) := D5 (Or.inl (tw_57 hw)) (ty := .byte) (by decide)
 have b5_count : f4_ Z h5 b5 (.int 0) := D5 (Or.inl (tw_80 hw)) (ty := .int) (by decide)
 have b5_maybeLatin1 : f5_ Z h5 b5 (.int 0) := D5 (Or.inl (tw_293 hw)) (ty := .boolean) (by decide)
 refine Go.dup X5 hx 10 rfl (hb hby d7_9) rfl ?_
 have O8 := (((O0.ext E1).ext E4).ext E5)
 have Kp12 := (((Keep.refl h0 []).ext E1).ext E4)
 have sz10 := Nat.le_trans Kp12.1 (Nat.le_of_eq g5.symm)
 have ge9 := Nat.le_trans O0.z sz10
 refine Go.callN X5 hx Z4 O4 rfl (tw_43 hw) (tw_44 hw) (tw_45 hw) (by decide) (tw_45 hw) (tw_42 hw) (au_19 hw O8 G A5 b5_coder b5_count b5_maybeLatin1 b5_value ge9) e5 (a := b5) (argsL := []) (rest := [.ref b5, .ref a4, .ref b1, .ref b1]) 13 rfl (hml ▸ rfl) (lenOf pd_10 rfl) rfl rfl (W := 4) (nE rfl) (by decide) (hb hby d7_10) ?_
 intro v13 T13 L13 q13 X13
 obtain ⟨h13, e13⟩ := hpz T13
 rw [e13] at q13
 obtain ⟨b13_0, k13_0, rfl, N13, K13, s13_0, F13_0, F13_1, F13_2, F13_3, F13_4, F13_5⟩ := q13
 have C14 := (C2.trans C4)
 have C15 := (C14.trans (CHr.ext E5 C14.1))
 have fk16 := (Safe.ext E5 C14.1 (Safe.new (Nat.le_of_eq g5.symm) : Safe Z EL0 T4.vm h4 b5))
 have C17 := (C15.trans (CHr.keep K13 (sfS fk16 sf0) C15.1))
 refine Go.ldcCH X13 hx Z4 O4 (tw_58 hw) (own_SA hw) e13 S4 (Nat.le_trans (Nat.le_trans i4 E5.1) K13.1) (own_EW hw) (mG 1 rfl) C17.1 (vs := [(.int (116 : Int32)), (.int (104 : Int32)), (.int (101 : Int32)), (.int (32 : Int32))]) (z := (4 : Int32)) (by decide) (by decide) rfl (n := 16) (by decide) (by decide) (by decide) (by decide) 15 rfl (hb hby d7_13) ?_
 intro a19 T19 h19 j19 b19 k19 e19 E19 S19 i19 Z19 O19 A19 F19 G19 V19 C19 D19 X19
 have O21 := ((O8.keep K13 (allS ge9 all0)).ext E19)
 have fk22 := ((A5.keep K13).ext E19)
 have Kp30 := (Kp12.ext E5)
 have sz29 := Nat.le_trans Kp30.1 s13_0
 have ge28 := Nat.le_trans O0.z sz29
 refine Go.callV X19 hx Z19 O19 (tw_59 hw) (tw_60 hw) (nF (mvT Z19 (tw_62 hw))) (tw_62 hw) (tw_61 hw) (by decide) (tw_63 hw) (tw_42 hw) (au_21 hw O21 G fk22 (F13_0.ext E19) (F13_1.ext E19) (F13_2.ext E19) (F13_3.ext E19) A19 F19 G19 (F13_4.ext E19) V19 ge28 ge9 (Nat.ne_of_lt (Nat.lt_of_lt_of_le A5.lt s13_0))) e19 fk22 (argsL := [.ref a19]) (rest := [.ref a4, .ref b1, .ref b1]) 18 rfl (hml ▸ rfl) (lenOf pd_17 rfl) rfl rfl (W := 3) (nE rfl) (by decide) (hb hby d7_15) ?_
 intro v32 T32 L32 q32 X32
 obtain ⟨h32, e32⟩ := hpz T32
 rw [e32] at q32
 obtain ⟨rfl, N32, K32, F32_0, F32_1, F32_2, F32_3, F32_4⟩ := q32
 show Go _ _ _ _ (T32.setTop (mkF m 18 #[vR x0, vR x1] [.ref b5, .ref a4, .ref b1, .ref b1]))
 refine aN X32 hx 19 rfl hby d7_18 rfl rfl ?_
 have O33 := (O21.keep K32 (allS ge9 (allS ge28 all0)))
 have fk34 := (fk22.keep K32)
 have fk37 := ((P0.ext E1).ext E4)
 have ne36 := Nat.ne_of_lt (Nat.lt_of_lt_of_le fk37.lt (Nat.le_of_eq g5.symm))
 have ne38 := Nat.ne_of_lt (Nat.lt_of_lt_of_le (fk37.ext E5).lt s13_0)
 have fk43 := ((P6.ext E1).ext E4)
 have ne42 := Nat.ne_of_lt (Nat.lt_of_lt_of_le fk43.lt (Nat.le_of_eq g5.symm))
 refine Go.callV X32 hx Z19 O19 (tw_59 hw) (tw_60 hw) (nF (mvT Z19 (tw_62 hw))) (tw_62 hw) (tw_61 hw) (by decide) (tw_63 hw) (tw_42 hw) (au_135 hw O33 G fk34 F32_0 F32_1 F32_2 F32_3 ((((((P0.ext E1).ext E4).ext E5).keep K13).ext E19).keep K32) ((((((P1.ext E1).ext E4).ext E5).keep K13 (ninS ne36 nin0)).ext E19).keep K32 (ninS ne36 (ninS ne38 nin0))) ((((((P2.ext E1).ext E4).ext E5).keep K13 (ninS ne36 nin0)).ext E19).keep K32 (ninS ne36 (ninS ne38 nin0))) F32_4 ((((((P6.ext E1).ext E4).ext E5).keep K13 (ninS ne42 nin0)).ext E19).keep K32 (ninS ne42 (ninS (Nat.ne_of_lt (Nat.lt_of_lt_of_le (fk43.ext E5).lt s13_0)) nin0))) ge9 ne36 ne42) e32 fk34 (argsL := [.ref x0]) (rest := [.ref a4, .ref b1, .ref b1]) 22 rfl (hml ▸ rfl) (lenOf pd_17 rfl) rfl rfl (W := 3) (nE rfl) (by decide) (hb hby d7_19) ?_
 intro v47 T47 L47 q47 X47
 obtain ⟨h47, e47⟩ := hpz T47
 rw [e47] at q47
 obtain ⟨b47_0, k47_0, rfl, N47, K47, s47_0, F47_0, F47_1, F47_2, F47_3, F47_4, F47_5⟩ := q47
 show Go _ _ _ _ (T47.setTop (mkF m 22 #[vR x0, vR x1] [.ref b5, .ref a4, .ref b1, .ref b1]))
 have C48 := (C17.trans C19)
 have fk50 := (C19.safe F13_5.lt (Safe.keep K13 (sfS fk16 sf0) C15.1 (Safe.new s13_0 : Safe Z EL0 T4.vm h5 b13_0)))
 have fk53 := (C19.safe (A5.keep K13).lt (Safe.keep K13 (sfS fk16 sf0) C15.1 fk16))
 have C54 := (C48.trans (CHr.keep K32 (sfS fk53 (sfS fk50 sf0)) C48.1))
 have fk55 := (Safe.keep K32 (sfS fk53 (sfS fk50 sf0)) C48.1 fk53)
 have C56 := (C54.trans (CHr.keep K47 (sfS fk55 sf0) C54.1))
 refine Go.ldcCH X47 hx Z19 O19 (tw_106 hw) (own_SA hw) e47 S19 (Nat.le_trans (Nat.le_trans i19 K32.1) K47.1) (own_EW hw) (mG 2 rfl) C56.1 (vs := [(.int (32 : Int32)), (.int (39 : Int32))]) (z := (2 : Int32)) (by decide) (by decide) rfl (n := 8) (by decide) (by decide) (by decide) (by decide) 24 rfl (hb hby d7_22) ?_
 intro a58 T58 h58 j58 b58 k58 e58 E58 S58 i58 Z58 O58 A58 F58 G58 V58 C58 D58 X58
 have O60 := ((O33.keep K47 (allS ge9 all0)).ext E58)
 have fk61 := ((fk34.keep K47).ext E58)
 have Kp71 := (((Kp30.trans K13 (allS (Or.inr sz10) all0)).ext E19).trans K32 (allS (Or.inr sz10) (allS (Or.inr sz29) all0)))
 have sz68 := Nat.le_trans Kp71.1 s47_0
 have ge67 := Nat.le_trans O0.z sz68
 have fk73 := (C58.safe F47_4.lt (Safe.keep K47 (sfS fk55 sf0) C54.1 (Safe.new s47_0 : Safe Z EL0 T19.vm h32 b47_0)))
 have ne74 := Nat.ne_of_lt (Nat.lt_of_lt_of_le fk34.lt s47_0)
 refine Go.callV X58 hx Z58 O58 (tw_59 hw) (tw_60 hw) (nF (mvT Z58 (tw_62 hw))) (tw_62 hw) (tw_61 hw) (by decide) (tw_63 hw) (tw_42 hw) (au_147 hw O60 G fk61 (F47_0.ext E58) (F47_1.ext E58) (F47_2.ext E58) (F47_3.ext E58) A58 F58 G58 (F47_4.ext E58) V58 ge67 ge9 (Ne.symm (D58 b47_0 fk73).2) ne74) e58 fk61 (argsL := [.ref a58]) (rest := [.ref a4, .ref b1, .ref b1]) 27 rfl (hml ▸ rfl) (lenOf pd_17 rfl) rfl rfl (W := 3) (nE rfl) (by decide) (hb hby d7_24) ?_
 intro v75 T75 L75 q75 X75
 obtain ⟨h75, e75⟩ := hpz T75
 rw [e75] at q75
 obtain ⟨rfl, N75, K75, F75_0, F75_1, F75_2, F75_3, F75_4⟩ := q75
 show Go _ _ _ _ (T75.setTop (mkF m 27 #[vR x0, vR x1] [.ref b5, .ref a4, .ref b1, .ref b1]))
 refine aN X75 hx 28 rfl hby d7_27 rfl rfl ?_
 have O76 := (O60.keep K75 (allS ge9 (allS ge67 all0)))
 have fk77 := (fk61.keep K75)
 have fk80 := ((P3.ext E1).ext E4)
 have ne79 := Nat.ne_of_lt (Nat.lt_of_lt_of_le fk80.lt (Nat.le_of_eq g5.symm))
 have fk82 := (fk80.ext E5)
 have ne81 := Nat.ne_of_lt (Nat.lt_of_lt_of_le fk82.lt s13_0)
 have ne83 := Nat.ne_of_lt (Nat.lt_of_lt_of_le (((fk82.keep K13).ext E19).keep K32).lt s47_0)
 have fk88 := ((P8.ext E1).ext E4)
 have ne87 := Nat.ne_of_lt (Nat.lt_of_lt_of_le fk88.lt (Nat.le_of_eq g5.symm))
 have fk90 := (fk88.ext E5)
 have ne89 := Nat.ne_of_lt (Nat.lt_of_lt_of_le fk90.lt s13_0)
 have ne91 := Nat.ne_of_lt (Nat.lt_of_lt_of_le (((fk90.keep K13 (ninS ne87 nin0)).ext E19).keep K32 (ninS ne87 (ninS ne89 nin0))).lt s47_0)
 refine Go.callV X75 hx Z58 O58 (tw_59 hw) (tw_60 hw) (nF (mvT Z58 (tw_62 hw))) (tw_62 hw) (tw_61 hw) (by decide) (tw_63 hw) (tw_42 hw) (au_160 hw O76 G fk77 F75_0 F75_1 F75_2 F75_3 (((((((((P3.ext E1).ext E4).ext E5).keep K13).ext E19).keep K32).keep K47).ext E58).keep K75) (((((((((P4.ext E1).ext E4).ext E5).keep K13 (ninS ne79 nin0)).ext E19).keep K32 (ninS ne79 (ninS ne81 nin0))).keep K47 (ninS ne79 nin0)).ext E58).keep K75 (ninS ne79 (ninS ne83 nin0))) (((((((((P5.ext E1).ext E4).ext E5).keep K13 (ninS ne79 nin0)).ext E19).keep K32 (ninS ne79 (ninS ne81 nin0))).keep K47 (ninS ne79 nin0)).ext E58).keep K75 (ninS ne79 (ninS ne83 nin0))) F75_4 (((((((((P8.ext E1).ext E4).ext E5).keep K13 (ninS ne87 nin0)).ext E19).keep K32 (ninS ne87 (ninS ne89 nin0))).keep K47 (ninS ne87 nin0)).ext E58).keep K75 (ninS ne87 (ninS ne91 nin0))) R_p6 R_p7 B_p4 B_p5 ge67 ge9 ne91 ne74) e75 fk77 (argsL := [.ref x1]) (rest := [.ref a4, .ref b1, .ref b1]) 31 rfl (hml ▸ rfl) (lenOf pd_17 rfl) rfl rfl (W := 3) (nE rfl) (by decide) (hb hby d7_28) ?_
 intro v94 T94 L94 q94 X94
 obtain ⟨h94, e94⟩ := hpz T94
 rw [e94] at q94
 obtain ⟨rfl, N94, K94, F94_0, F94_1, F94_2, F94_3, F94_4⟩ := q94
 show Go _ _ _ _ (T94.setTop (mkF m 31 #[vR x0, vR x1] [.ref b5, .ref a4, .ref b1, .ref b1]))
 have C95 := (C56.trans C58)
 have fk98 := (C58.safe (fk34.keep K47).lt (Safe.keep K47 (sfS fk55 sf0) C54.1 fk55))
 have C99 := (C95.trans (CHr.keep K75 (sfS fk98 (sfS fk73 sf0)) C95.1))
 have fk100 := (Safe.keep K75 (sfS fk98 (sfS fk73 sf0)) C95.1 fk73)
 have fk101 := (Safe.keep K75 (sfS fk98 (sfS fk73 sf0)) C95.1 fk98)
 have C102 := (C99.trans (CHr.keep K94 (sfS fk101 (sfS fk100 sf0)) C99.1))
 refine Go.ldcCH X94 hx Z58 O58 (tw_107 hw) (own_SA hw) e94 S58 (Nat.le_trans (Nat.le_trans i58 K75.1) K94.1) (own_EW hw) (mG 3 rfl) C102.1 (vs := [(.int (39 : Int32)), (.int (32 : Int32)), (.int (105 : Int32)), (.int (115 : Int32)), (.int (32 : Int32)), (.int (97 : Int32)), (.int (108 : Int32)), (.int (114 : Int32)), (.int (101 : Int32)), (.int (97 : Int32)), (.int (100 : Int32)), (.int (121 : Int32)), (.int (32 : Int32)), (.int (116 : Int32)), (.int (97 : Int32)), (.int (107 : Int32)), (.int (101 : Int32)), (.int (110 : Int32))]) (z := (18 : Int32)) (by decide) (by decide) rfl (n := 72) (by decide) (by decide) (by decide) (by decide) 33 rfl (hb hby d7_31) ?_
 intro a104 T104 h104 j104 b104 k104 e104 E104 S104 i104 Z104 O104 A104 F104 G104 V104 C104 D104 X104
 have O106 := ((O76.keep K94 (allS ge9 (allS ge67 all0))).ext E104)
 have fk107 := ((fk77.keep K94).ext E104)
 have fk115 := (C104.safe (fk77.keep K94).lt (Safe.keep K94 (sfS fk101 (sfS fk100 sf0)) C99.1 fk101))
 refine Go.callV X104 hx Z104 O104 (tw_59 hw) (tw_60 hw) (nF (mvT Z104 (tw_62 hw))) (tw_62 hw) (tw_61 hw) (by decide) (tw_63 hw) (tw_42 hw) (au_102 hw O106 G fk107 (F94_0.ext E104) (F94_1.ext E104) (F94_2.ext E104) (F94_3.ext E104) A104 F104 G104 (F94_4.ext E104) V104 ge9 (Ne.symm (D104 b5 fk115).1) (Ne.symm (D104 b5 fk115).2)) e104 fk107 (argsL := [.ref a104]) (rest := [.ref a4, .ref b1, .ref b1]) 36 rfl (hml ▸ rfl) (lenOf pd_17 rfl) rfl rfl (W := 3) (nE rfl) (by decide) (hb hby d7_33) ?_
 intro v116 T116 L116 q116 X116
 obtain ⟨h116, e116⟩ := hpz T116
 rw [e116] at q116
 obtain ⟨b116_0, k116_0, rfl, N116, K116, s116_0, F116_0, F116_1, F116_2, F116_3, F116_4, F116_5⟩ := q116
 show Go _ _ _ _ (T116.setTop (mkF m 36 #[vR x0, vR x1] [.ref b5, .ref a4, .ref b1, .ref b1]))
 have O117 := (O106.keep K116 (allS ge9 all0))
 have fk118 := (fk107.keep K116)
 refine Go.callV X116 hx Z104 O104 (tw_131 hw) (tw_132 hw) (nF (mvT Z104 (tw_134 hw))) (tw_134 hw) (tw_133 hw) (by decide) (tw_135 hw) (tw_42 hw) (au_121 hw O117 G fk118 F116_0 F116_1 F116_2 F116_3 F116_4) e116 fk118 (argsL := []) (rest := [.ref a4, .ref b1, .ref b1]) 39 rfl (hml ▸ rfl) (lenOf pd_27 rfl) rfl rfl (W := 3) (nE rfl) (by decide) (hb hby d7_36) ?_
 intro v119 T119 L119 q119 X119
 obtain ⟨h119, e119⟩ := hpz T119
 rw [e119] at q119
 obtain ⟨b119_0, b119_1, k119_0, rfl, N119, K119, s119_0, s119_1, n119_0, F119_0, F119_1, F119_2, F119_3, F119_4⟩ := q119
 show Go _ _ _ _ (T119.setTop (mkF m 39 #[vR x0, vR x1] [.ref b119_0, .ref a4, .ref b1, .ref b1]))
 have fk121 := ((((((((((((A1.ext E4).ext E5).keep K13).ext E19).keep K32).keep K47).ext E58).keep K75).keep K94).ext E104).keep K116).keep K119)
 have fk123 := (A1.ext E4)
 have ne122 := Nat.ne_of_lt (Nat.lt_of_lt_of_le fk123.lt (Nat.le_of_eq g5.symm))
 have fk125 := (fk123.ext E5)
 have ne124 := Nat.ne_of_lt (Nat.lt_of_lt_of_le fk125.lt s13_0)
 have fk127 := (((fk125.keep K13).ext E19).keep K32)
 have ne126 := Nat.ne_of_lt (Nat.lt_of_lt_of_le fk127.lt s47_0)
 have sz136 := Nat.le_trans (Keep.refl h0 []).1 (Nat.le_of_eq g1.symm)
 have C137 := (C102.trans C104)
 have C138 := (C137.trans (CHr.keep K116 (sfS fk115 sf0) C137.1))
 have C139 := (C138.trans (CHr.keep K119 sf0 C138.1))
 have fk141 := (C4.safe A1.lt (Safe.ext E1 C0.1 (Safe.new (Nat.le_of_eq g1.symm) : Safe Z EL0 s.vm h0 b1)))
 have fk148 := (fk127.keep K47)
 have fk150 := (Safe.keep K75 (sfS fk98 (sfS fk73 sf0)) C95.1 (C58.safe fk148.lt (Safe.keep K47 (sfS fk55 sf0) C54.1 (Safe.keep K32 (sfS fk53 (sfS fk50 sf0)) C48.1 (C19.safe (fk125.keep K13).lt (Safe.keep K13 (sfS fk16 sf0) C15.1 (Safe.ext E5 C14.1 fk141)))))))
 have fk152 := (((fk148.ext E58).keep K75).keep K94)
 have fk155 := (Safe.keep K119 sf0 C138.1 (Safe.keep K116 (sfS fk115 sf0) C137.1 (C104.safe fk152.lt (Safe.keep K94 (sfS fk101 (sfS fk100 sf0)) C99.1 fk150))))
 refine Go.callNW X119 hx Z104 O104 rfl (tw_170 hw) (tw_171 hw) (tw_172 hw) (by decide) (tw_172 hw) (tw_36 hw) (au_77 hw a4 b119_0 (O117.keep K119 all0) G fk121 ((((((((((((b1_code.ext E4).ext E5).keep K13 (ninS ne122 nin0)).ext E19).keep K32 (ninS ne122 (ninS ne124 nin0))).keep K47 (ninS ne122 nin0)).ext E58).keep K75 (ninS ne122 (ninS ne126 nin0))).keep K94 (ninS ne122 (ninS ne126 nin0))).ext E104).keep K116 (ninS ne122 nin0)).keep K119 nin0) ((((((((((((b1_backtrace.ext E4).ext E5).keep K13 (ninS ne122 nin0)).ext E19).keep K32 (ninS ne122 (ninS ne124 nin0))).keep K47 (ninS ne122 nin0)).ext E58).keep K75 (ninS ne122 (ninS ne126 nin0))).keep K94 (ninS ne122 (ninS ne126 nin0))).ext E104).keep K116 (ninS ne122 nin0)).keep K119 nin0) ((((((((((((b1_cause.ext E4).ext E5).keep K13 (ninS ne122 nin0)).ext E19).keep K32 (ninS ne122 (ninS ne124 nin0))).keep K47 (ninS ne122 nin0)).ext E58).keep K75 (ninS ne122 (ninS ne126 nin0))).keep K94 (ninS ne122 (ninS ne126 nin0))).ext E104).keep K116 (ninS ne122 nin0)).keep K119 nin0) ((((((((((((b1_detailMessage.ext E4).ext E5).keep K13 (ninS ne122 nin0)).ext E19).keep K32 (ninS ne122 (ninS ne124 nin0))).keep K47 (ninS ne122 nin0)).ext E58).keep K75 (ninS ne122 (ninS ne126 nin0))).keep K94 (ninS ne122 (ninS ne126 nin0))).ext E104).keep K116 (ninS ne122 nin0)).keep K119 nin0) ((((((((((((b1_stackTrace.ext E4).ext E5).keep K13 (ninS ne122 nin0)).ext E19).keep K32 (ninS ne122 (ninS ne124 nin0))).keep K47 (ninS ne122 nin0)).ext E58).keep K75 (ninS ne122 (ninS ne126 nin0))).keep K94 (ninS ne122 (ninS ne126 nin0))).ext E104).keep K116 (ninS ne122 nin0)).keep K119 nin0) ((((((((((((b1_suppressedExceptions.ext E4).ext E5).keep K13 (ninS ne122 nin0)).ext E19).keep K32 (ninS ne122 (ninS ne124 nin0))).keep K47 (ninS ne122 nin0)).ext E58).keep K75 (ninS ne122 (ninS ne126 nin0))).keep K94 (ninS ne122 (ninS ne126 nin0))).ext E104).keep K116 (ninS ne122 nin0)).keep K119 nin0) (Unt.keep K119 nin0 (Unt.keep K116 (ninS ne122 nin0) (Unt.ext E104 (Unt.keep K94 (ninS ne122 (ninS ne126 nin0)) (Unt.keep K75 (ninS ne122 (ninS ne126 nin0)) (Unt.ext E58 (Unt.keep K47 (ninS ne122 nin0) (Unt.keep K32 (ninS ne122 (ninS ne124 nin0)) (Unt.ext E19 (Unt.keep K13 (ninS ne122 nin0) (Unt.ext E5 (Unt.ext E4 N1)))))))))))) (Nat.le_trans O0.z sz136)) hKN (own_EW hw) C139.1 (allS ⟨fk121.lt, fk155⟩ all0) S104 (Nat.le_trans (Nat.le_trans i104 K116.1) K119.1) e119 (a := b1) (argsL := [.ref a4, .ref b119_0]) (rest := [.ref b1]) 42 rfl (hml ▸ rfl) (lenOf pd_28 rfl) rfl rfl (W := 1) (nE rfl) (by decide) (hb hby d7_39) ?_
 intro v157 T157 L157 h157 e157 q157 C157 S157 Z157 O157 X157
 obtain ⟨rfl, N157, K157, F157_0, F157_1, F157_2, F157_3⟩ := q157
 subst hFF
 refine Go.retRW X157 hx hlk Z157 (own_EW hw) e157 S157 (Nat.le_refl _) (C139.trans C157) (t := (.object s2)) hret rfl rfl (hb hby d7_42) (by decide) (by decide) (fun hat => ?_)
 have fk159 := (fk121.keep K157)
 have fk162 := (A4.ext E5)
 have ne161 := Nat.ne_of_lt (Nat.lt_of_lt_of_le fk162.lt s13_0)
 have ne163 := Nat.ne_of_lt (Nat.lt_of_lt_of_le (((fk162.keep K13).ext E19).keep K32).lt s47_0)
 have fk165 := ((((((((((((F4.ext E5).keep K13 (ninS (Ne.symm (D4 b5 (Safe.new (Nat.le_of_eq g5.symm) : Safe Z EL0 T4.vm h4 b5)).1) nin0)).ext E19).keep K32 (ninS (Ne.symm (D4 b5 (Safe.new (Nat.le_of_eq g5.symm) : Safe Z EL0 T4.vm h4 b5)).1) (ninS ne161 nin0))).keep K47 (ninS (Ne.symm (D4 b5 (Safe.new (Nat.le_of_eq g5.symm) : Safe Z EL0 T4.vm h4 b5)).1) nin0)).ext E58).keep K75 (ninS (Ne.symm (D4 b5 (Safe.new (Nat.le_of_eq g5.symm) : Safe Z EL0 T4.vm h4 b5)).1) (ninS ne163 nin0))).keep K94 (ninS (Ne.symm (D4 b5 (Safe.new (Nat.le_of_eq g5.symm) : Safe Z EL0 T4.vm h4 b5)).1) (ninS ne163 nin0))).ext E104).keep K116 (ninS (Ne.symm (D4 b5 (Safe.new (Nat.le_of_eq g5.symm) : Safe Z EL0 T4.vm h4 b5)).1) nin0)).keep K119 nin0).keep K157 (ninS (Ne.symm (D4 b1 fk141).1) nin0))
 have fk166 := ((((((((((((G4.ext E5).keep K13 (ninS (Ne.symm (D4 b5 (Safe.new (Nat.le_of_eq g5.symm) : Safe Z EL0 T4.vm h4 b5)).1) nin0)).ext E19).keep K32 (ninS (Ne.symm (D4 b5 (Safe.new (Nat.le_of_eq g5.symm) : Safe Z EL0 T4.vm h4 b5)).1) (ninS ne161 nin0))).keep K47 (ninS (Ne.symm (D4 b5 (Safe.new (Nat.le_of_eq g5.symm) : Safe Z EL0 T4.vm h4 b5)).1) nin0)).ext E58).keep K75 (ninS (Ne.symm (D4 b5 (Safe.new (Nat.le_of_eq g5.symm) : Safe Z EL0 T4.vm h4 b5)).1) (ninS ne163 nin0))).keep K94 (ninS (Ne.symm (D4 b5 (Safe.new (Nat.le_of_eq g5.symm) : Safe Z EL0 T4.vm h4 b5)).1) (ninS ne163 nin0))).ext E104).keep K116 (ninS (Ne.symm (D4 b5 (Safe.new (Nat.le_of_eq g5.symm) : Safe Z EL0 T4.vm h4 b5)).1) nin0)).keep K119 nin0).keep K157 (ninS (Ne.symm (D4 b1 fk141).1) nin0))
 have fk167 := (F119_0.keep K157)
 have fk169 := ((fk152.ext E104).keep K116)
 have ne168 := Nat.ne_of_lt (Nat.lt_of_lt_of_le fk169.lt s119_0)
 have fk173 := (V4.ext E5)
 have ne172 := Nat.ne_of_lt (Nat.lt_of_lt_of_le fk173.lt s13_0)
 have ne174 := Nat.ne_of_lt (Nat.lt_of_lt_of_le (((fk173.keep K13 (ninS (Ne.symm (D4 b5 (Safe.new (Nat.le_of_eq g5.symm) : Safe Z EL0 T4.vm h4 b5)).2) nin0)).ext E19).keep K32 (ninS (Ne.symm (D4 b5 (Safe.new (Nat.le_of_eq g5.symm) : Safe Z EL0 T4.vm h4 b5)).2) (ninS ne172 nin0))).lt s47_0)
 have fk176 := ((((((((((((V4.ext E5).keep K13 (ninS (Ne.symm (D4 b5 (Safe.new (Nat.le_of_eq g5.symm) : Safe Z EL0 T4.vm h4 b5)).2) nin0)).ext E19).keep K32 (ninS (Ne.symm (D4 b5 (Safe.new (Nat.le_of_eq g5.symm) : Safe Z EL0 T4.vm h4 b5)).2) (ninS ne172 nin0))).keep K47 (ninS (Ne.symm (D4 b5 (Safe.new (Nat.le_of_eq g5.symm) : Safe Z EL0 T4.vm h4 b5)).2) nin0)).ext E58).keep K75 (ninS (Ne.symm (D4 b5 (Safe.new (Nat.le_of_eq g5.symm) : Safe Z EL0 T4.vm h4 b5)).2) (ninS ne174 nin0))).keep K94 (ninS (Ne.symm (D4 b5 (Safe.new (Nat.le_of_eq g5.symm) : Safe Z EL0 T4.vm h4 b5)).2) (ninS ne174 nin0))).ext E104).keep K116 (ninS (Ne.symm (D4 b5 (Safe.new (Nat.le_of_eq g5.symm) : Safe Z EL0 T4.vm h4 b5)).2) nin0)).keep K119 nin0).keep K157 (ninS (Ne.symm (D4 b1 fk141).2) nin0))
 have ne177 := Nat.ne_of_lt (Nat.lt_of_lt_of_le fk169.lt s119_1)
 have fk178 := (F119_3.keep K157 (ninS (Ne.symm ne177) nin0))
 have Kp185 := ((((((Kp71.trans K47 (allS (Or.inr sz10) all0)).ext E58).trans K75 (allS (Or.inr sz10) (allS (Or.inr sz68) all0))).trans K94 (allS (Or.inr sz10) (allS (Or.inr sz68) all0))).ext E104).trans K116 (allS (Or.inr sz10) all0))
 exact ⟨b1, a4, b119_0, b4, b119_1, k4, k119_0, rfl, (Fr.app (Fr.app (Fr.app (Fr.app (Fr.app (Fr.app (Fr.app (Fr.app (Fr.nil n0) N13) N32) N47) N75) N94) N116) N119) N157), ((Kp185.trans K119 all0).trans K157 (allS (Or.inr sz136) all0)), sz136, (Nat.le_trans Kp185.1 s119_0), (Nat.le_trans Kp185.1 s119_1), (Ne.symm ne168), (Ne.symm ne177), n119_0, (hat.safe fk159.lt (C157.safe fk121.lt fk155)), (hat.safe fk167.lt (C157.safe F119_0.lt (Safe.keep K119 sf0 C138.1 (Safe.new s119_0 : Safe Z EL0 T104.vm h116 b119_0)))), (hat.safe fk178.lt (C157.safe F119_3.lt (Safe.keep K119 sf0 C138.1 (Safe.new s119_1 : Safe Z EL0 T104.vm h116 b119_1)))), fk159, F157_0, F157_1, F157_2, F157_3, ((((((((((((A4.ext E5).keep K13).ext E19).keep K32).keep K47).ext E58).keep K75).keep K94).ext E104).keep K116).keep K119).keep K157), fk165, fk166, fk167, (F119_1.keep K157 (ninS (Ne.symm ne168) nin0)), (F119_2.keep K157 (ninS (Ne.symm ne168) nin0)), fk176, fk178, (F119_4.keep K157)⟩
theorem au_173 (hw : HW a0 Z)   (O0 : Old Z n0 h0) (G : Glob Z α β γ δ ε ζ η) (P1 : f0_ Z h0 x0 (.int 1)) (P2 : f2_ Z h0 x0 (.ref x2)) (P3 : Exa Z h0 x1 s1) (P4 : f0_ Z h0 x1 (.int 1)) (P5 : f2_ Z h0 x1 (.ref x3)) (P6 : Arv Z h0 x2 kk0 .byte (56 : Int32) (LL30 p0 p1 p2 p3 p4 p5) (.int 0)) (P8 : Arv Z h0 x3 kk1 .byte (56 : Int32) (LL30 p0 p1 p2 p3 p4 p5) (.int 0)) (ne_x0_x1 : x0 ≠ x1) :
    Ctr l Z ⟨s1, "equals", "(Ljava/lang/Object;)Z"⟩ B39 3 (some .boolean) (rM 1 0 0 14) #[.ref x0, .ref x1] h0 (fun v h L => v = some (.int 1) ∧ Fr n0 L ∧ h = h0) := by
 refine Ctr.of (plainFor_of_name pn_c1) ?_
 intro p e s m below meth c T0 hx hZ hby hml hown hnm hret hlk e0 es X0
 have G' := G
 obtain ⟨G0, -, -, -, -, -, -, -, -, -, -, -, G12, -⟩ := G'
 refine Go.cast (ef_39_RR m x0 x1) ?_
 generalize hFF : EndN s _ _ _ = FF
 refine aN X0 hx 1 rfl hby d39_0 rfl rfl ?_
 refine aN X0 hx 2 rfl hby d39_1 rfl rfl ?_
 refine Go.acmp X0 hx (pc' := 7) (same := false) (hb hby d39_2) rfl rfl (decide_eq_false (fun q => ne_x0_x1 (Value.ref.inj q))) (by decide) (by decide) ?_
 refine aN X0 hx 8 rfl hby d39_7 rfl rfl ?_
 refine Go.instY X0 hx hZ hown (tw_240 hw) e0 (Ins.self P3) 11 rfl (hb hby d39_8) ?_
 intro T1 e1 X1
 refine Go.ifNo X1 hx 14 rfl (hb hby d39_11) (by decide) ?_
 refine aN X1 hx 15 rfl hby d39_14 rfl rfl ?_
 refine Go.castY X1 hx hZ hown (tw_240 hw) e1 (Ins.self P3) 18 rfl (hb hby d39_15) ?_
 intro T2 e2 X2
 refine Go.astoreN X2 hx 19 rfl (hb hby d39_18) (Ls' := #[vR x0, vR x1, vR x1]) rfl rfl ?_
 refine Go.getS X2 hx hZ hown (host := "") (Or.inl (tw_14 hw)) Via.refl e2 (G0.ext O0.2) 22 rfl (hb hby d39_19) ?_
 intro T4 e4 X4
 refine Go.ifNo X4 hx 25 rfl (hb hby d39_22) (feq G12).1 ?_
 refine aN X4 hx 26 rfl hby d39_25 rfl rfl ?_
 refine gF X4 hx hZ hown (tw_26 hw) e4 P1 29 rfl (hb hby d39_26) ?_
 intro T5 e5 X5
 refine aN X5 hx 30 rfl hby d39_29 rfl rfl ?_
 refine gF X5 hx hZ hown (tw_26 hw) e5 P4 33 rfl (hb hby d39_30) ?_
 intro T6 e6 X6
 refine Go.icmpNo X6 hx 36 rfl (hb hby d39_33) (by decide) ?_
 refine aN X6 hx 37 rfl hby d39_36 rfl rfl ?_
 refine gF X6 hx hZ hown (tw_28 hw) e6 P2 40 rfl (hb hby d39_37) ?_
 intro T7 e7 X7
 refine aN X7 hx 41 rfl hby d39_40 rfl rfl ?_
 refine gF X7 hx hZ hown (tw_28 hw) e7 P5 44 rfl (hb hby d39_41) ?_
 intro T8 e8 X8
 refine Go.callS X8 hx hZ hown (tw_241 hw) (tw_242 hw) (tw_243 hw) (tw_244 hw) (by decide) (tw_244 hw) (tw_243 hw) (gl_eq l Z a0 hw x2 x3 kk0 kk1 (56 : Int32) (56 : Int32) (LL37 p0 p1 p2 p3 p4 p5) (LL37 p0 p1 p2 p3 p4 p5) h0 P6 P8 rfl rfl) e8 (argsL := [.ref x2, .ref x3]) (rest := []) 47 rfl (hml ▸ rfl) (lenOf pd_31 rfl) rfl rfl (W := 0) (nE rfl) (by decide) (hb hby d39_44) ?_
 intro v9 T9 L9 q9 X9
 obtain ⟨rfl, rfl, e9⟩ := q9
 rw [if_pos (show ((LL37 p0 p1 p2 p3 p4 p5) : List Int32) = (LL37 p0 p1 p2 p3 p4 p5) from rfl)]
 show Go _ _ _ _ (T9.setTop (mkF m 47 #[vR x0, vR x1, vR x1] [.int 1]))
 refine Go.ifNo X9 hx 50 rfl (hb hby d39_47) (by decide) ?_
 refine Go.iconst X9 hx 51 rfl (hb hby d39_50) (v := (1 : Int32)) rfl ?_
 refine Go.goto X9 hx 55 (hb hby d39_51) (by decide) (by decide) ?_
 subst hFF
 refine Go.retN X9 hx hlk (t := .boolean) hret (by simp) (hb hby d39_55) (by decide) (by decide) ?_
 rw [e9]
 exact ⟨(congrArg (fun z => some (Value.int z)) (by decide : nar .boolean (1 : Int32) = (1 : Int32))), (Fr.app (Fr.nil n0) (Fr.nil n0)), rfl⟩
theorem au_179 (hw : HW a0 Z)   (O0 : Old Z n0 h0) (G : Glob Z α β γ δ ε ζ η) (P1 : f1_ Z h0 x0 (.int 1)) (P5 : Exa Z h0 x1 s1) (P6 : f0_ Z h0 x1 (.int 1)) :
    Ctr l Z ⟨s0, "inflateIfNeededFor", "(Ljava/lang/String;)V"⟩ B16 2 none (rM 1 0 0 13) #[.ref x0, .ref x1] h0 (fun v h L => v = none ∧ Fr n0 L ∧ h = h0) := by
 refine Ctr.of (plainFor_of_name pn_c2) ?_
 intro p e s m below meth c T0 hx hZ hby hml hown hnm hret hlk e0 es X0
 have G' := G
 obtain ⟨G0, -, -, -, -, -, -, -, -, -, -, -, G12, -⟩ := G'
 refine Go.cast (ef_16_RR m x0 x1) ?_
 generalize hFF : EndN s _ _ _ = FF
 refine Go.getS X0 hx hZ hown (host := "") (Or.inl (tw_53 hw)) Via.refl e0 (G0.ext O0.2) 3 rfl (hb hby d16_0) ?_
 intro T2 e2 X2
 refine Go.ifNo X2 hx 6 rfl (hb hby d16_3) (feq G12).1 ?_
 refine aN X2 hx 7 rfl hby d16_6 rfl rfl ?_
 refine gF X2 hx hZ hown (tw_56 hw) e2 P1 10 rfl (hb hby d16_7) ?_
 intro T3 e3 X3
 refine aN X3 hx 11 rfl hby d16_10 rfl rfl ?_
 refine Go.callV X3 hx hZ hown (tw_96 hw) (tw_75 hw) (nF (mvT hZ (tw_77 hw))) (tw_77 hw) (tw_76 hw) (by decide) (tw_78 hw) (tw_2 hw) (au_88 hw O0 G P6) e3 P5 (argsL := []) (rest := [.int 1]) 14 rfl (hml ▸ rfl) (lenOf pd_11 rfl) rfl rfl (W := 1) (nE rfl) (by decide) (hb hby d16_11) ?_
 intro v4 T4 L4 q4 X4
 obtain ⟨rfl, N4, e4⟩ := q4
 show Go _ _ _ _ (T4.setTop (mkF m 14 #[vR x0, vR x1] [.int 1, .int 1]))
 refine Go.icmpYes X4 hx 21 (hb hby d16_14) (by decide) (by decide) (by decide) ?_
 subst hFF
 refine Go.ret0 X4 hx hlk hret (hb hby d16_21) (by decide) (by decide) ?_
 rw [e4]
 exact ⟨rfl, (Fr.app (Fr.nil n0) N4), rfl⟩
theorem au_180 (hw : HW a0 Z)   (O0 : Old Z n0 h0) (G : Glob Z α β γ δ ε ζ η) (P0 : Exa Z h0 x0 s1) (P1 : f0_ Z h0 x0 (.int 1)) (P2 : f2_ Z h0 x0 (.ref x2)) (P3 : Arv Z h0 x1 kk0 .byte (32 : Int32) (LL1 p0 p1 p2 p3) (.int 0)) (P5 : Arv Z h0 x2 kk1 .byte (4 : Int32) [.int p4, .int p5, .int p6, .int p7] (.int 0)) (g_x1 : n0 ≤ x1) :
    Ctr l Z ⟨s1, "getBytes", "([BIB)V"⟩ B17 4 none (rM 1 0 0 18) #[.ref x0, .ref x1, .int 8, .int 1] h0 (fun v h L => v = none ∧ Fr n0 L ∧ Keep h0 h [x1] ∧ Arv Z h x1 kk0 .byte (32 : Int32) (LL31 p0 p1 p2 p3 p4 p5 p6 p7) (.int 0)) := by
 refine Ctr.of (plainFor_of_name pn_c1) fun p e s m below meth c T0 hx hZ hby hml hown hnm hret hlk e0 es X0 => Go.cast (ef_17_RRII m x0 x1 (8 : Int32) (1 : Int32)) ?_
 generalize hFF : EndN s _ _ _ = FF
 refine aN X0 hx 1 rfl hby d17_0 rfl rfl ?_
 refine Go.callV X0 hx hZ hown (tw_74 hw) (tw_75 hw) (nF (mvT hZ (tw_77 hw))) (tw_77 hw) (tw_76 hw) (by decide) (tw_78 hw) (tw_2 hw) (au_88 hw O0 G P1) e0 P0 (argsL := []) (rest := []) 4 rfl (hml ▸ rfl) (lenOf pd_11 rfl) rfl rfl (W := 0) (nE rfl) (by decide) (hb hby d17_1) ?_
 intro v1 T1 L1 q1 X1
 obtain ⟨rfl, N1, e1⟩ := q1
 show Go _ _ _ _ (T1.setTop (mkF m 4 #[vR x0, vR x1, vI 8, vI 1] [.int 1]))
 refine iN X1 hx 5 rfl hby d17_4 rfl ?_
 refine Go.icmpNo X1 hx 8 rfl (hb hby d17_5) (by decide) ?_
 refine aN X1 hx 9 rfl hby d17_8 rfl rfl ?_
 refine gF X1 hx hZ hown (tw_28 hw) e1 P2 12 rfl (hb hby d17_9) ?_
 intro T2 e2 X2
 refine Go.iconst X2 hx 13 rfl (hb hby d17_12) (v := (0 : Int32)) rfl ?_
 refine aN X2 hx 14 rfl hby d17_13 rfl rfl ?_
 refine iN X2 hx 15 rfl hby d17_14 rfl ?_
 refine iN X2 hx 16 rfl hby d17_15 rfl ?_
 refine Go.ishl X2 hx 17 rfl (hb hby d17_16) ?_
 rw [show ((8 : Int32) <<< ((1 : Int32) &&& 31)) = (16 : Int32) from by decide]
 refine aN X2 hx 18 rfl hby d17_17 rfl rfl ?_
 refine gF X2 hx hZ hown (tw_28 hw) e2 P2 21 rfl (hb hby d17_18) ?_
 intro T3 e3 X3
 refine Go.arraylength X3 hx hZ e3 P5 22 rfl (hb hby d17_21) ?_
 refine Go.arraycopy X3 hx hZ hown (tw_102 hw) (tw_105 hw) (tw_103 hw) (tw_104 hw) e3 P5 P3 rfl (sp := (0 : Int32)) (dp := (16 : Int32)) (nn := (4 : Int32)) (us := [.int p4, .int p5, .int p6, .int p7]) (by decide) (by decide) (by decide) (by decide) (by decide) rfl (nB rfl) (Fr.app (Fr.nil n0) N1) g_x1 (by decide) (W := 0) (hml ▸ rfl) (nE rfl) (by decide) (pc' := 25) rfl (hb hby d17_22) ?_
 intro T4 h4 L4 e4 N4 K4 V4 X4
 have V4' : Arv Z h4 x1 kk0 .byte (32 : Int32) (LL31 p0 p1 p2 p3 p4 p5 p6 p7) (.int 0) := V4
 refine Go.goto X4 hx 43 (hb hby d17_25) (by decide) (by decide) ?_
 subst hFF
 refine Go.ret0 X4 hx hlk hret (hb hby d17_43) (by decide) (by decide) ?_
 rw [e4]
 exact ⟨rfl, N4, ((Keep.refl h0 [x1]).trans K4 (allS (Or.inl (mG 0 rfl)) all0)), V4'⟩
theorem au_178 (hw : HW a0 Z)   (O0 : Old Z n0 h0) (G : Glob Z α β γ δ ε ζ η) (P0 : Exa Z h0 x0 s3) (P1 : f1_ Z h0 x0 (.int 1)) (P4 : f3_ Z h0 x0 (.ref x2)) (P5 : Exa Z h0 x1 s1) (P6 : f0_ Z h0 x1 (.int 1)) (P7 : f2_ Z h0 x1 (.ref x3)) (P8 : Arv Z h0 x2 kk0 .byte (32 : Int32) (LL1 p0 p1 p2 p3) (.int 0)) (P10 : Arv Z h0 x3 kk1 .byte (4 : Int32) [.int p4, .int p5, .int p6, .int p7] (.int 0)) (g_x2 : n0 ≤ x2) :
    Ctr l Z ⟨s0, "putStringAt", "(ILjava/lang/String;)V"⟩ B15 3 none (rM 2 0 0 33) #[.ref x0, .int 8, .ref x1] h0 (fun v h L => v = none ∧ Fr n0 L ∧ Keep h0 h [x2] ∧ Arv Z h x2 kk0 .byte (32 : Int32) (LL31 p0 p1 p2 p3 p4 p5 p6 p7) (.int 0)) := by
 refine Ctr.of (plainFor_of_name pn_c2) fun p e s m below meth c T0 hx hZ hby hml hown hnm hret hlk e0 es X0 => Go.cast (ef_15_RIR m x0 (8 : Int32) x1) ?_
 generalize hFF : EndN s _ _ _ = FF
 refine aN X0 hx 1 rfl hby d15_0 rfl rfl ?_
 refine aN X0 hx 2 rfl hby d15_1 rfl rfl ?_
 refine Go.callP X0 hx hZ hown (tw_91 hw) (tw_92 hw) (tw_94 hw) (tw_93 hw) (tw_95 hw) (by decide) (tw_95 hw) (tw_50 hw) (au_179 hw O0 G P1 P5 P6) e0 P0 (argsL := [.ref x1]) (rest := []) 5 rfl (hml ▸ rfl) (lenOf pd_13 rfl) rfl rfl (W := 0) (nE rfl) (by decide) (hb hby d15_2) ?_
 intro v1 T1 L1 q1 X1
 obtain ⟨rfl, N1, e1⟩ := q1
 refine aN X1 hx 6 rfl hby d15_5 rfl rfl ?_
 refine aN X1 hx 7 rfl hby d15_6 rfl rfl ?_
 refine gF X1 hx hZ hown (tw_54 hw) e1 P4 10 rfl (hb hby d15_7) ?_
 intro T2 e2 X2
 refine iN X2 hx 11 rfl hby d15_10 rfl ?_
 refine aN X2 hx 12 rfl hby d15_11 rfl rfl ?_
 refine gF X2 hx hZ hown (tw_56 hw) e2 P1 15 rfl (hb hby d15_12) ?_
 intro T3 e3 X3
 refine Go.callV X3 hx hZ hown (tw_97 hw) (tw_98 hw) (nF (mvT hZ (tw_100 hw))) (tw_100 hw) (tw_99 hw) (by decide) (tw_101 hw) (tw_2 hw) (au_180 hw O0 G P5 P6 P7 P8 P10 g_x2) e3 P5 (argsL := [.ref x2, .int 8, .int 1]) (rest := []) 18 rfl (hml ▸ rfl) (lenOf pd_14 rfl) rfl rfl (W := 0) (nE rfl) (by decide) (hb hby d15_15) ?_
 intro v4 T4 L4 q4 X4
 obtain ⟨h4, e4⟩ := hpz T4
 rw [e4] at q4
 obtain ⟨rfl, N4, K4, F4_0⟩ := q4
 subst hFF
 refine Go.ret0 X4 hx hlk hret (hb hby d15_18) (by decide) (by decide) ?_
 rw [e4]
 exact ⟨rfl, (Fr.app (Fr.app (Fr.nil n0) N1) N4), ((Keep.refl h0 [x2]).trans K4 (allS (Or.inl (mG 0 rfl)) all0)), F4_0⟩
theorem au_177 (hw : HW a0 Z)   (O0 : Old Z n0 h0) (G : Glob Z α β γ δ ε ζ η) (P0 : Exa Z h0 x0 s3) (P1 : f1_ Z h0 x0 (.int 1)) (P2 : f4_ Z h0 x0 (.int 8)) (P3 : f5_ Z h0 x0 (.int 0)) (P4 : f3_ Z h0 x0 (.ref x2)) (P5 : Exa Z h0 x1 s1) (P6 : f0_ Z h0 x1 (.int 1)) (P7 : f2_ Z h0 x1 (.ref x3)) (P8 : Arv Z h0 x2 kk0 .byte (32 : Int32) (LL1 p0 p1 p2 p3) (.int 0)) (P10 : Arv Z h0 x3 kk1 .byte (4 : Int32) [.int p4, .int p5, .int p6, .int p7] (.int 0)) (g_x2 : n0 ≤ x2) (g_x0 : n0 ≤ x0) (ne_x0_x2 : x0 ≠ x2) :
    Ctr l Z ⟨s0, "append", s11⟩ B11 3 (some (.object s0)) (rM 3 0 0 47) #[.ref x0, .ref x1] h0 (fun v h L => v = some (.ref x0) ∧ Fr n0 L ∧ Keep h0 h [x0, x2] ∧ f1_ Z h x0 (.int 1) ∧ f4_ Z h x0 (.int 10) ∧ f5_ Z h x0 (.int 0) ∧ f3_ Z h x0 (.ref x2) ∧ Arv Z h x2 kk0 .byte (32 : Int32) (LL31 p0 p1 p2 p3 p4 p5 p6 p7) (.int 0)) := by
 refine Ctr.of (plainFor_of_name pn_c2) fun p e s m below meth c T0 hx hZ hby hml hown hnm hret hlk e0 es X0 => Go.cast (ef_11_RR m x0 x1) ?_
 generalize hFF : EndN s _ _ _ = FF
 refine aN X0 hx 1 rfl hby d11_0 rfl rfl ?_
 refine Go.ifnonnullYes X0 hx 9 (hb hby d11_1) (by decide) (by decide) ?_
 refine aN X0 hx 10 rfl hby d11_9 rfl rfl ?_
 refine Go.callV X0 hx hZ hown (tw_69 hw) (tw_70 hw) (nF (mvT hZ (tw_72 hw))) (tw_72 hw) (tw_71 hw) (by decide) (tw_73 hw) (tw_2 hw) (au_87 hw O0 G P5 P6 P7 P10) e0 P5 (argsL := []) (rest := []) 13 rfl (hml ▸ rfl) (lenOf pd_12 rfl) rfl rfl (W := 0) (nE rfl) (by decide) (hb hby d11_10) ?_
 intro v1 T1 L1 q1 X1
 obtain ⟨rfl, N1, e1⟩ := q1
 show Go _ _ _ _ (T1.setTop (mkF m 13 #[vR x0, vR x1, uS] [.int 2]))
 refine Go.istoreN X1 hx 14 rfl (hb hby d11_13) (Ls' := #[vR x0, vR x1, vI 2]) rfl ?_
 refine aN X1 hx 15 rfl hby d11_14 rfl rfl ?_
 refine aN X1 hx 16 rfl hby d11_15 rfl rfl ?_
 refine gF X1 hx hZ hown (tw_79 hw) e1 P2 19 rfl (hb hby d11_16) ?_
 intro T2 e2 X2
 refine iN X2 hx 20 rfl hby d11_19 rfl ?_
 refine Go.iadd X2 hx 21 rfl (hb hby d11_20) ?_
 rw [show ((8 : Int32) + (2 : Int32)) = (10 : Int32) from by decide]
 refine Go.callP X2 hx hZ hown (tw_81 hw) (tw_82 hw) (tw_84 hw) (tw_83 hw) (tw_85 hw) (by decide) (tw_85 hw) (tw_50 hw) (au_162 hw O0.z P1 P4 P8) e2 P0 (argsL := [.int 10]) (rest := []) 24 rfl (hml ▸ rfl) (lenOf pd_9 rfl) rfl rfl (W := 0) (nE rfl) (by decide) (hb hby d11_21) ?_
 intro v3 T3 L3 q3 X3
 obtain ⟨rfl, N3, e3⟩ := q3
 refine aN X3 hx 25 rfl hby d11_24 rfl rfl ?_
 refine aN X3 hx 26 rfl hby d11_25 rfl rfl ?_
 refine gF X3 hx hZ hown (tw_79 hw) e3 P2 29 rfl (hb hby d11_26) ?_
 intro T4 e4 X4
 refine aN X4 hx 30 rfl hby d11_29 rfl rfl ?_
 refine Go.callP X4 hx hZ hown (tw_86 hw) (tw_87 hw) (tw_89 hw) (tw_88 hw) (tw_90 hw) (by decide) (tw_90 hw) (tw_50 hw) (au_178 hw O0 G P0 P1 P4 P5 P6 P7 P8 P10 g_x2) e4 P0 (argsL := [.int 8, .ref x1]) (rest := []) 33 rfl (hml ▸ rfl) (lenOf pd_15 rfl) rfl rfl (W := 0) (nE rfl) (by decide) (hb hby d11_30) ?_
 intro v5 T5 L5 q5 X5
 obtain ⟨h5, e5⟩ := hpz T5
 rw [e5] at q5
 obtain ⟨rfl, N5, K5, F5_0⟩ := q5
 refine aN X5 hx 34 rfl hby d11_33 rfl rfl ?_
 refine Go.dup X5 hx 35 rfl (hb hby d11_34) rfl ?_
 have fk6 := (P2.keep K5 (ninS ne_x0_x2 nin0))
 refine gF X5 hx hZ hown (tw_79 hw) e5 fk6 38 rfl (hb hby d11_35) ?_
 intro T7 e7 X7
 refine iN X7 hx 39 rfl hby d11_38 rfl ?_
 refine Go.iadd X7 hx 40 rfl (hb hby d11_39) ?_
 rw [show ((8 : Int32) + (2 : Int32)) = (10 : Int32) from by decide]
 refine Go.putF X7 hx hZ hown (host := "") (Or.inl (tw_79 hw)) Via.refl e7 fk6 (P0.keep K5) (Or.inl (tw_80 hw)) (tw_41 hw) (ty := .int) (by decide) rfl rfl 43 rfl (hb hby d11_40) ?_
 intro T9 h9 e9 W9 F9 X9
 have N9 := Fr.snoc X9 (Fr.app (Fr.app (Fr.app (Fr.nil n0) N1) N3) N5) g_x0
 refine aN X9 hx 44 rfl hby d11_43 rfl rfl ?_
 subst hFF
 refine Go.retR X9 hx hlk (t := (.object s0)) hret rfl rfl (hb hby d11_44) (by decide) (by decide) ?_
 rw [e9]
 exact ⟨rfl, N9, (((Keep.refl h0 [x0, x2]).trans K5 (allS (Or.inl (mG 1 rfl)) all0)).wr W9 (Or.inl (mG 0 rfl))), ((P1.keep K5 (ninS ne_x0_x2 nin0)).other W9 (Or.inr (slot_ne (Or.inl (tw_57 hw)) (Or.inl (tw_80 hw)) (by decide) (t := .byte) (t' := .int) (by decide) (by decide)))), F9, ((P3.keep K5 (ninS ne_x0_x2 nin0)).other W9 (Or.inr (slot_ne (Or.inl (tw_293 hw)) (Or.inl (tw_80 hw)) (by decide) (t := .boolean) (t' := .int) (by decide) (by decide)))), ((P4.keep K5 (ninS ne_x0_x2 nin0)).other W9 (Or.inr (slot_ne (Or.inl (tw_55 hw)) (Or.inl (tw_80 hw)) (by decide) (t := (.array .byte)) (t' := .int) (by decide) (by decide)))), (F5_0.other W9 (Ne.symm ne_x0_x2))⟩
theorem au_176 (hw : HW a0 Z)   (O0 : Old Z n0 h0) (G : Glob Z α β γ δ ε ζ η) (P0 : Exa Z h0 x0 s3) (P1 : f1_ Z h0 x0 (.int 1)) (P2 : f4_ Z h0 x0 (.int 8)) (P3 : f5_ Z h0 x0 (.int 0)) (P4 : f3_ Z h0 x0 (.ref x2)) (P5 : Exa Z h0 x1 s1) (P6 : f0_ Z h0 x1 (.int 1)) (P7 : f2_ Z h0 x1 (.ref x3)) (P8 : Arv Z h0 x2 kk0 .byte (32 : Int32) (LL1 p0 p1 p2 p3) (.int 0)) (P10 : Arv Z h0 x3 kk1 .byte (4 : Int32) [.int p4, .int p5, .int p6, .int p7] (.int 0)) (g_x2 : n0 ≤ x2) (g_x0 : n0 ≤ x0) (ne_x0_x2 : x0 ≠ x2) :
    Ctr l Z ⟨s3, "append", s10⟩ B10 2 (some (.object s3)) (rM 4 0 0 61) #[.ref x0, .ref x1] h0 (fun v h L => v = some (.ref x0) ∧ Fr n0 L ∧ Keep h0 h [x0, x2] ∧ f1_ Z h x0 (.int 1) ∧ f4_ Z h x0 (.int 10) ∧ f5_ Z h x0 (.int 0) ∧ f3_ Z h x0 (.ref x2) ∧ Arv Z h x2 kk0 .byte (32 : Int32) (LL31 p0 p1 p2 p3 p4 p5 p6 p7) (.int 0)) := by
 refine Ctr.of (plainFor_of_name pn_c3) fun p e s m below meth c T0 hx hZ hby hml hown hnm hret hlk e0 es X0 => Go.cast (ef_10_RR m x0 x1) ?_
 generalize hFF : EndN s _ _ _ = FF
 refine aN X0 hx 1 rfl hby d10_0 rfl rfl ?_
 refine aN X0 hx 2 rfl hby d10_1 rfl rfl ?_
 refine Go.callUp X0 hx hZ hown (tw_64 hw) (own_sameself (tw_84 hw) rfl (tw_65 hw) (by decide)) (tw_65 hw) (tw_66 hw) (by decide) (tw_68 hw) (tw_68 hw) (tw_50 hw) (au_177 hw O0 G P0 P1 P2 P3 P4 P5 P6 P7 P8 P10 g_x2 g_x0 ne_x0_x2) e0 P0 (argsL := [.ref x1]) (rest := []) 5 rfl (hml ▸ rfl) (lenOf pd_16 rfl) rfl rfl (W := 0) (nE rfl) (by decide) (hb hby d10_2) ?_
 intro v1 T1 L1 q1 X1
 obtain ⟨h1, e1⟩ := hpz T1
 rw [e1] at q1
 obtain ⟨rfl, N1, K1, F1_0, F1_1, F1_2, F1_3, F1_4⟩ := q1
 show Go _ _ _ _ (T1.setTop (mkF m 5 #[vR x0, vR x1] [.ref x0]))
 refine Go.pop X1 hx 6 rfl (hb hby d10_5) rfl ?_
 refine aN X1 hx 7 rfl hby d10_6 rfl rfl ?_
 subst hFF
 refine Go.retR X1 hx hlk (t := (.object s3)) hret rfl rfl (hb hby d10_7) (by decide) (by decide) ?_
 rw [e1]
 exact ⟨rfl, (Fr.app (Fr.nil n0) N1), ((Keep.refl h0 [x0, x2]).trans K1 (allS (Or.inl (mG 0 rfl)) (allS (Or.inl (mG 1 rfl)) all0))), F1_0, F1_1, F1_2, F1_3, F1_4⟩
theorem au_175 (hw : HW a0 Z)   (O0 : Old Z n0 h0) (G : Glob Z α β γ δ ε ζ η) (P0 : Exa Z h0 x0 s1) (P1 : f0_ Z h0 x0 (.int 1)) (P2 : f2_ Z h0 x0 (.ref x2)) (P3 : Exa Z h0 x1 s1) (P4 : f0_ Z h0 x1 (.int 1)) (P5 : f2_ Z h0 x1 (.ref x3)) (P6 : Arv Z h0 x2 kk0 .byte (4 : Int32) [.int p0, .int p1, .int p2, .int p3] (.int 0)) (P8 : Arv Z h0 x3 kk1 .byte (4 : Int32) [.int p4, .int p5, .int p6, .int p7] (.int 0)) :
    CtrW l Z EL0 ⟨s12, "taken", s13⟩ B7 2 (some (.object s2)) (rM 10 16 3091 146) #[.ref x0, .ref x1] h0 [] (fun v vm h L => ∃ (y0 y1 y2 y3 y4 : Addr) (y5 y6 : ClassId), v = some (.ref y0) ∧ Fr n0 L ∧ Keep h0 h [] ∧ h0.size ≤ y0 ∧ h0.size ≤ y2 ∧ h0.size ≤ y4 ∧ y2 ≠ y0 ∧ y4 ≠ y0 ∧ y4 ≠ y2 ∧ Safe Z EL0 vm h y0 ∧ Safe Z EL0 vm h y2 ∧ Safe Z EL0 vm h y4 ∧ Exa Z h y0 s2 ∧ f6_ Z h y0 (.ref y1) ∧ f8_ Z h y0 (.ref y0) ∧ f7_ Z h y0 (.ref y2) ∧ f9_ Z h y0 (.ref γ) ∧ Exa Z h y1 s1 ∧ f0_ Z h y1 (.int 0) ∧ f2_ Z h y1 (.ref y3) ∧ Exa Z h y2 s1 ∧ f0_ Z h y2 (.int 1) ∧ f2_ Z h y2 (.ref y4) ∧ Arv Z h y3 y5 .byte (10 : Int32) LL17 (.int (0 : Int32)) ∧ Arv Z h y4 y6 .byte (56 : Int32) (LL32 p0 p1 p2 p3 p4 p5 p6 p7) (.int 0) ∧ Exa Z h y4 "[B") := by
 refine CtrW.of (plainFor_of_name pn_c9) ?_
 intro p e s m below meth c T0 hx hZ hby hml hown hnm hret hlk e0 es hS0 C0 hsf hKN X0
 have G' := G
 obtain ⟨-, -, -, -, G4, -, -, -, -, -, -, -, -, -⟩ := G'
 refine Go.cast (ef_7_RR m x0 x1) ?_
 generalize hFF : EndW Z EL0 s _ _ _ = FF
 refine Go.newU X0 hx hZ hown (tw_34 hw) (tw_35 hw) (tw_36 hw) e0 (by decide) (by decide) 3 rfl (hb hby d7_0) ?_
 intro T1 h1 b1 e1 E1 g1 A1 D1 N1 X1
 have b1_cause : f8_ Z h1 b1 .null := D1 (Or.inl (tw_186 hw)) (ty := (.object s4)) (by decide)
 have b1_stackTrace : Fld Z h1 b1 s4 "stackTrace" "[Ljava/lang/StackTraceElement;" .null := D1 (Or.inl (tw_189 hw)) (ty := (.array (.object "java/lang/StackTraceElement"))) (by decide)
 have b1_suppressedExceptions : f9_ Z h1 b1 .null := D1 (Or.inl (tw_192 hw)) (ty := (.object "java/util/List")) (by decide)
 have b1_detailMessage : f7_ Z h1 b1 .null := D1 (Or.inl (tw_216 hw)) (ty := (.object s1)) (by decide)
 have b1_backtrace : Fld Z h1 b1 s4 "backtrace" "Ljava/lang/Object;" .null := D1 (Or.inl (tw_217 hw)) (ty := (.object "java/lang/Object")) (by decide)
 have b1_depth : Fld Z h1 b1 s4 "depth" "I" (.int 0) := D1 (Or.inl (tw_218 hw)) (ty := .int) (by decide)
 have b1_code : f6_ Z h1 b1 .null := D1 (Or.inr (tw_222 hw)) (ty := (.object s1)) (by decide)
 refine Go.dup X1 hx 4 rfl (hb hby d7_3) rfl ?_
 have C2 := (C0.trans (CHr.ext E1 C0.1))
 refine Go.ldcCH X1 hx hZ hown (tw_37 hw) (own_SA hw) e1 hS0 (Nat.le_trans (Nat.le_refl _) E1.1) (own_EW hw) (mG 0 rfl) C2.1 (vs := [(.int (110 : Int32)), (.int (97 : Int32)), (.int (109 : Int32)), (.int (101 : Int32)), (.int (95 : Int32)), (.int (116 : Int32)), (.int (97 : Int32)), (.int (107 : Int32)), (.int (101 : Int32)), (.int (110 : Int32))]) (z := (10 : Int32)) (by decide) (by decide) rfl (n := 40) (by decide) (by decide) (by decide) (by decide) 6 rfl (hb hby d7_4) ?_
 intro a4 T4 h4 j4 b4 k4 e4 E4 S4 i4 Z4 O4 A4 F4 G4 V4 C4 D4 X4
 refine Go.new X4 hx Z4 O4 (tw_40 hw) (tw_41 hw) (tw_42 hw) e4 (by decide) (by decide) 9 rfl (hb hby d7_6) ?_
 intro T5 h5 b5 e5 E5 g5 A5 D5 X5
 have b5_value : f3_ Z h5 b5 .null := D5 (Or.inl (tw_55 hw)) (ty := (.array .byte)) (by decide)
 have b5_coder : f1_ Z h5 b5 (.int 0) := D5 (Or.inl (tw_57 hw)) (ty := .byte) (by decide)
 have b5_count : f4_ Z h5 b5 (.int 0) := D5 (Or.inl (tw_80 hw)) (ty := .int) (by decide)
 have b5_maybeLatin1 : f5_ Z h5 b5 (.int 0) := D5 (Or.inl (tw_293 hw)) (ty := .boolean) (by decide)
 refine Go.dup X5 hx 10 rfl (hb hby d7_9) rfl ?_
 have O8 := (((O0.ext E1).ext E4).ext E5)
 have Kp12 := (((Keep.refl h0 []).ext E1).ext E4)
 have sz10 := Nat.le_trans Kp12.1 (Nat.le_of_eq g5.symm)
 have ge9 := Nat.le_trans O0.z sz10
 refine Go.callN X5 hx Z4 O4 rfl (tw_43 hw) (tw_44 hw) (tw_45 hw) (by decide) (tw_45 hw) (tw_42 hw) (au_19 hw O8 G A5 b5_coder b5_count b5_maybeLatin1 b5_value ge9) e5 (a := b5) (argsL := []) (rest := [.ref b5, .ref a4, .ref b1, .ref b1]) 13 rfl (hml ▸ rfl) (lenOf pd_10 rfl) rfl rfl (W := 4) (nE rfl) (by decide) (hb hby d7_10) ?_
 intro v13 T13 L13 q13 X13
 obtain ⟨h13, e13⟩ := hpz T13
 rw [e13] at q13
 obtain ⟨b13_0, k13_0, rfl, N13, K13, s13_0, F13_0, F13_1, F13_2, F13_3, F13_4, F13_5⟩ := q13
 have C14 := (C2.trans C4)
 have C15 := (C14.trans (CHr.ext E5 C14.1))
 have fk16 := (Safe.ext E5 C14.1 (Safe.new (Nat.le_of_eq g5.symm) : Safe Z EL0 T4.vm h4 b5))
 have C17 := (C15.trans (CHr.keep K13 (sfS fk16 sf0) C15.1))
 refine Go.ldcCH X13 hx Z4 O4 (tw_58 hw) (own_SA hw) e13 S4 (Nat.le_trans (Nat.le_trans i4 E5.1) K13.1) (own_EW hw) (mG 1 rfl) C17.1 (vs := [(.int (116 : Int32)), (.int (104 : Int32)), (.int (101 : Int32)), (.int (32 : Int32))]) (z := (4 : Int32)) (by decide) (by decide) rfl (n := 16) (by decide) (by decide) (by decide) (by decide) 15 rfl (hb hby d7_13) ?_
 intro a19 T19 h19 j19 b19 k19 e19 E19 S19 i19 Z19 O19 A19 F19 G19 V19 C19 D19 X19
 have O21 := ((O8.keep K13 (allS ge9 all0)).ext E19)
 have fk22 := ((A5.keep K13).ext E19)
 have Kp30 := (Kp12.ext E5)
 have sz29 := Nat.le_trans Kp30.1 s13_0
 have ge28 := Nat.le_trans O0.z sz29
 refine Go.callV X19 hx Z19 O19 (tw_59 hw) (tw_60 hw) (nF (mvT Z19 (tw_62 hw))) (tw_62 hw) (tw_61 hw) (by decide) (tw_63 hw) (tw_42 hw) (au_21 hw O21 G fk22 (F13_0.ext E19) (F13_1.ext E19) (F13_2.ext E19) (F13_3.ext E19) A19 F19 G19 (F13_4.ext E19) V19 ge28 ge9 (Nat.ne_of_lt (Nat.lt_of_lt_of_le A5.lt s13_0))) e19 fk22 (argsL := [.ref a19]) (rest := [.ref a4, .ref b1, .ref b1]) 18 rfl (hml ▸ rfl) (lenOf pd_17 rfl) rfl rfl (W := 3) (nE rfl) (by decide) (hb hby d7_15) ?_
 intro v32 T32 L32 q32 X32
 obtain ⟨h32, e32⟩ := hpz T32
 rw [e32] at q32
 obtain ⟨rfl, N32, K32, F32_0, F32_1, F32_2, F32_3, F32_4⟩ := q32
 show Go _ _ _ _ (T32.setTop (mkF m 18 #[vR x0, vR x1] [.ref b5, .ref a4, .ref b1, .ref b1]))
 refine aN X32 hx 19 rfl hby d7_18 rfl rfl ?_
 have O33 := (O21.keep K32 (allS ge9 (allS ge28 all0)))
 have fk34 := (fk22.keep K32)
 have fk37 := ((P0.ext E1).ext E4)
 have ne36 := Nat.ne_of_lt (Nat.lt_of_lt_of_le fk37.lt (Nat.le_of_eq g5.symm))
 have ne38 := Nat.ne_of_lt (Nat.lt_of_lt_of_le (fk37.ext E5).lt s13_0)
 have fk43 := ((P6.ext E1).ext E4)
 have ne42 := Nat.ne_of_lt (Nat.lt_of_lt_of_le fk43.lt (Nat.le_of_eq g5.symm))
 refine Go.callV X32 hx Z19 O19 (tw_59 hw) (tw_60 hw) (nF (mvT Z19 (tw_62 hw))) (tw_62 hw) (tw_61 hw) (by decide) (tw_63 hw) (tw_42 hw) (au_135 hw O33 G fk34 F32_0 F32_1 F32_2 F32_3 ((((((P0.ext E1).ext E4).ext E5).keep K13).ext E19).keep K32) ((((((P1.ext E1).ext E4).ext E5).keep K13 (ninS ne36 nin0)).ext E19).keep K32 (ninS ne36 (ninS ne38 nin0))) ((((((P2.ext E1).ext E4).ext E5).keep K13 (ninS ne36 nin0)).ext E19).keep K32 (ninS ne36 (ninS ne38 nin0))) F32_4 ((((((P6.ext E1).ext E4).ext E5).keep K13 (ninS ne42 nin0)).ext E19).keep K32 (ninS ne42 (ninS (Nat.ne_of_lt (Nat.lt_of_lt_of_le (fk43.ext E5).lt s13_0)) nin0))) ge9 ne36 ne42) e32 fk34 (argsL := [.ref x0]) (rest := [.ref a4, .ref b1, .ref b1]) 22 rfl (hml ▸ rfl) (lenOf pd_17 rfl) rfl rfl (W := 3) (nE rfl) (by decide) (hb hby d7_19) ?_
 intro v47 T47 L47 q47 X47
 obtain ⟨h47, e47⟩ := hpz T47
 rw [e47] at q47
 obtain ⟨b47_0, k47_0, rfl, N47, K47, s47_0, F47_0, F47_1, F47_2, F47_3, F47_4, F47_5⟩ := q47
 show Go _ _ _ _ (T47.setTop (mkF m 22 #[vR x0, vR x1] [.ref b5, .ref a4, .ref b1, .ref b1]))
 have C48 := (C17.trans C19)
 have fk50 := (C19.safe F13_5.lt (Safe.keep K13 (sfS fk16 sf0) C15.1 (Safe.new s13_0 : Safe Z EL0 T4.vm h5 b13_0)))
 have fk53 := (C19.safe (A5.keep K13).lt (Safe.keep K13 (sfS fk16 sf0) C15.1 fk16))
 have C54 := (C48.trans (CHr.keep K32 (sfS fk53 (sfS fk50 sf0)) C48.1))
 have fk55 := (Safe.keep K32 (sfS fk53 (sfS fk50 sf0)) C48.1 fk53)
 have C56 := (C54.trans (CHr.keep K47 (sfS fk55 sf0) C54.1))
 refine Go.ldcCH X47 hx Z19 O19 (tw_106 hw) (own_SA hw) e47 S19 (Nat.le_trans (Nat.le_trans i19 K32.1) K47.1) (own_EW hw) (mG 2 rfl) C56.1 (vs := [(.int (32 : Int32)), (.int (39 : Int32))]) (z := (2 : Int32)) (by decide) (by decide) rfl (n := 8) (by decide) (by decide) (by decide) (by decide) 24 rfl (hb hby d7_22) ?_
 intro a58 T58 h58 j58 b58 k58 e58 E58 S58 i58 Z58 O58 A58 F58 G58 V58 C58 D58 X58
 have O60 := ((O33.keep K47 (allS ge9 all0)).ext E58)
 have fk61 := ((fk34.keep K47).ext E58)
 have Kp71 := (((Kp30.trans K13 (allS (Or.inr sz10) all0)).ext E19).trans K32 (allS (Or.inr sz10) (allS (Or.inr sz29) all0)))
 have sz68 := Nat.le_trans Kp71.1 s47_0
 have ge67 := Nat.le_trans O0.z sz68
 have fk73 := (C58.safe F47_4.lt (Safe.keep K47 (sfS fk55 sf0) C54.1 (Safe.new s47_0 : Safe Z EL0 T19.vm h32 b47_0)))
 have ne74 := Nat.ne_of_lt (Nat.lt_of_lt_of_le fk34.lt s47_0)
 refine Go.callV X58 hx Z58 O58 (tw_59 hw) (tw_60 hw) (nF (mvT Z58 (tw_62 hw))) (tw_62 hw) (tw_61 hw) (by decide) (tw_63 hw) (tw_42 hw) (au_147 hw O60 G fk61 (F47_0.ext E58) (F47_1.ext E58) (F47_2.ext E58) (F47_3.ext E58) A58 F58 G58 (F47_4.ext E58) V58 ge67 ge9 (Ne.symm (D58 b47_0 fk73).2) ne74) e58 fk61 (argsL := [.ref a58]) (rest := [.ref a4, .ref b1, .ref b1]) 27 rfl (hml ▸ rfl) (lenOf pd_17 rfl) rfl rfl (W := 3) (nE rfl) (by decide) (hb hby d7_24) ?_
 intro v75 T75 L75 q75 X75
 obtain ⟨h75, e75⟩ := hpz T75
 rw [e75] at q75
 obtain ⟨rfl, N75, K75, F75_0, F75_1, F75_2, F75_3, F75_4⟩ := q75
 show Go _ _ _ _ (T75.setTop (mkF m 27 #[vR x0, vR x1] [.ref b5, .ref a4, .ref b1, .ref b1]))
 refine aN X75 hx 28 rfl hby d7_27 rfl rfl ?_
 have O76 := (O60.keep K75 (allS ge9 (allS ge67 all0)))
 have fk77 := (fk61.keep K75)
 have fk80 := ((P3.ext E1).ext E4)
 have ne79 := Nat.ne_of_lt (Nat.lt_of_lt_of_le fk80.lt (Nat.le_of_eq g5.symm))
 have fk82 := (fk80.ext E5)
 have ne81 := Nat.ne_of_lt (Nat.lt_of_lt_of_le fk82.lt s13_0)
 have ne83 := Nat.ne_of_lt (Nat.lt_of_lt_of_le (((fk82.keep K13).ext E19).keep K32).lt s47_0)
 have fk88 := ((P8.ext E1).ext E4)
 have ne87 := Nat.ne_of_lt (Nat.lt_of_lt_of_le fk88.lt (Nat.le_of_eq g5.symm))
 have fk90 := (fk88.ext E5)
 have ne89 := Nat.ne_of_lt (Nat.lt_of_lt_of_le fk90.lt s13_0)
 refine Go.callV X75 hx Z58 O58 (tw_59 hw) (tw_60 hw) (nF (mvT Z58 (tw_62 hw))) (tw_62 hw) (tw_61 hw) (by decide) (tw_63 hw) (tw_42 hw) (au_176 hw O76 G fk77 F75_0 F75_1 F75_2 F75_3 (((((((((P3.ext E1).ext E4).ext E5).keep K13).ext E19).keep K32).keep K47).ext E58).keep K75) (((((((((P4.ext E1).ext E4).ext E5).keep K13 (ninS ne79 nin0)).ext E19).keep K32 (ninS ne79 (ninS ne81 nin0))).keep K47 (ninS ne79 nin0)).ext E58).keep K75 (ninS ne79 (ninS ne83 nin0))) (((((((((P5.ext E1).ext E4).ext E5).keep K13 (ninS ne79 nin0)).ext E19).keep K32 (ninS ne79 (ninS ne81 nin0))).keep K47 (ninS ne79 nin0)).ext E58).keep K75 (ninS ne79 (ninS ne83 nin0))) F75_4 (((((((((P8.ext E1).ext E4).ext E5).keep K13 (ninS ne87 nin0)).ext E19).keep K32 (ninS ne87 (ninS ne89 nin0))).keep K47 (ninS ne87 nin0)).ext E58).keep K75 (ninS ne87 (ninS (Nat.ne_of_lt (Nat.lt_of_lt_of_le (((fk90.keep K13 (ninS ne87 nin0)).ext E19).keep K32 (ninS ne87 (ninS ne89 nin0))).lt s47_0)) nin0))) ge67 ge9 ne74) e75 fk77 (argsL := [.ref x1]) (rest := [.ref a4, .ref b1, .ref b1]) 31 rfl (hml ▸ rfl) (lenOf pd_17 rfl) rfl rfl (W := 3) (nE rfl) (by decide) (hb hby d7_28) ?_
 intro v94 T94 L94 q94 X94
 obtain ⟨h94, e94⟩ := hpz T94
 rw [e94] at q94
 obtain ⟨rfl, N94, K94, F94_0, F94_1, F94_2, F94_3, F94_4⟩ := q94
 show Go _ _ _ _ (T94.setTop (mkF m 31 #[vR x0, vR x1] [.ref b5, .ref a4, .ref b1, .ref b1]))
 have C95 := (C56.trans C58)
 have fk98 := (C58.safe (fk34.keep K47).lt (Safe.keep K47 (sfS fk55 sf0) C54.1 fk55))
 have C99 := (C95.trans (CHr.keep K75 (sfS fk98 (sfS fk73 sf0)) C95.1))
 have fk100 := (Safe.keep K75 (sfS fk98 (sfS fk73 sf0)) C95.1 fk73)
 have fk101 := (Safe.keep K75 (sfS fk98 (sfS fk73 sf0)) C95.1 fk98)
 have C102 := (C99.trans (CHr.keep K94 (sfS fk101 (sfS fk100 sf0)) C99.1))
 refine Go.ldcCH X94 hx Z58 O58 (tw_107 hw) (own_SA hw) e94 S58 (Nat.le_trans (Nat.le_trans i58 K75.1) K94.1) (own_EW hw) (mG 3 rfl) C102.1 (vs := [(.int (39 : Int32)), (.int (32 : Int32)), (.int (105 : Int32)), (.int (115 : Int32)), (.int (32 : Int32)), (.int (97 : Int32)), (.int (108 : Int32)), (.int (114 : Int32)), (.int (101 : Int32)), (.int (97 : Int32)), (.int (100 : Int32)), (.int (121 : Int32)), (.int (32 : Int32)), (.int (116 : Int32)), (.int (97 : Int32)), (.int (107 : Int32)), (.int (101 : Int32)), (.int (110 : Int32))]) (z := (18 : Int32)) (by decide) (by decide) rfl (n := 72) (by decide) (by decide) (by decide) (by decide) 33 rfl (hb hby d7_31) ?_
 intro a104 T104 h104 j104 b104 k104 e104 E104 S104 i104 Z104 O104 A104 F104 G104 V104 C104 D104 X104
 have O106 := ((O76.keep K94 (allS ge9 (allS ge67 all0))).ext E104)
 have fk107 := ((fk77.keep K94).ext E104)
 have fk115 := (C104.safe (fk77.keep K94).lt (Safe.keep K94 (sfS fk101 (sfS fk100 sf0)) C99.1 fk101))
 refine Go.callV X104 hx Z104 O104 (tw_59 hw) (tw_60 hw) (nF (mvT Z104 (tw_62 hw))) (tw_62 hw) (tw_61 hw) (by decide) (tw_63 hw) (tw_42 hw) (au_102 hw O106 G fk107 (F94_0.ext E104) (F94_1.ext E104) (F94_2.ext E104) (F94_3.ext E104) A104 F104 G104 (F94_4.ext E104) V104 ge9 (Ne.symm (D104 b5 fk115).1) (Ne.symm (D104 b5 fk115).2)) e104 fk107 (argsL := [.ref a104]) (rest := [.ref a4, .ref b1, .ref b1]) 36 rfl (hml ▸ rfl) (lenOf pd_17 rfl) rfl rfl (W := 3) (nE rfl) (by decide) (hb hby d7_33) ?_
 intro v116 T116 L116 q116 X116
 obtain ⟨h116, e116⟩ := hpz T116
 rw [e116] at q116
 obtain ⟨b116_0, k116_0, rfl, N116, K116, s116_0, F116_0, F116_1, F116_2, F116_3, F116_4, F116_5⟩ := q116
 show Go _ _ _ _ (T116.setTop (mkF m 36 #[vR x0, vR x1] [.ref b5, .ref a4, .ref b1, .ref b1]))
 have O117 := (O106.keep K116 (allS ge9 all0))
 have fk118 := (fk107.keep K116)
 refine Go.callV X116 hx Z104 O104 (tw_131 hw) (tw_132 hw) (nF (mvT Z104 (tw_134 hw))) (tw_134 hw) (tw_133 hw) (by decide) (tw_135 hw) (tw_42 hw) (au_121 hw O117 G fk118 F116_0 F116_1 F116_2 F116_3 F116_4) e116 fk118 (argsL := []) (rest := [.ref a4, .ref b1, .ref b1]) 39 rfl (hml ▸ rfl) (lenOf pd_27 rfl) rfl rfl (W := 3) (nE rfl) (by decide) (hb hby d7_36) ?_
 intro v119 T119 L119 q119 X119
 obtain ⟨h119, e119⟩ := hpz T119
 rw [e119] at q119
 obtain ⟨b119_0, b119_1, k119_0, rfl, N119, K119, s119_0, s119_1, n119_0, F119_0, F119_1, F119_2, F119_3, F119_4⟩ := q119
 show Go _ _ _ _ (T119.setTop (mkF m 39 #[vR x0, vR x1] [.ref b119_0, .ref a4, .ref b1, .ref b1]))
 have fk121 := ((((((((((((A1.ext E4).ext E5).keep K13).ext E19).keep K32).keep K47).ext E58).keep K75).keep K94).ext E104).keep K116).keep K119)
 have fk123 := (A1.ext E4)
 have ne122 := Nat.ne_of_lt (Nat.lt_of_lt_of_le fk123.lt (Nat.le_of_eq g5.symm))
 have fk125 := (fk123.ext E5)
 have ne124 := Nat.ne_of_lt (Nat.lt_of_lt_of_le fk125.lt s13_0)
 have fk127 := (((fk125.keep K13).ext E19).keep K32)
 have ne126 := Nat.ne_of_lt (Nat.lt_of_lt_of_le fk127.lt s47_0)
 have sz136 := Nat.le_trans (Keep.refl h0 []).1 (Nat.le_of_eq g1.symm)
 have C137 := (C102.trans C104)
 have C138 := (C137.trans (CHr.keep K116 (sfS fk115 sf0) C137.1))
 have C139 := (C138.trans (CHr.keep K119 sf0 C138.1))
 have fk141 := (C4.safe A1.lt (Safe.ext E1 C0.1 (Safe.new (Nat.le_of_eq g1.symm) : Safe Z EL0 s.vm h0 b1)))
 have fk148 := (fk127.keep K47)
 have fk150 := (Safe.keep K75 (sfS fk98 (sfS fk73 sf0)) C95.1 (C58.safe fk148.lt (Safe.keep K47 (sfS fk55 sf0) C54.1 (Safe.keep K32 (sfS fk53 (sfS fk50 sf0)) C48.1 (C19.safe (fk125.keep K13).lt (Safe.keep K13 (sfS fk16 sf0) C15.1 (Safe.ext E5 C14.1 fk141)))))))
 have fk152 := (((fk148.ext E58).keep K75).keep K94)
 have fk155 := (Safe.keep K119 sf0 C138.1 (Safe.keep K116 (sfS fk115 sf0) C137.1 (C104.safe fk152.lt (Safe.keep K94 (sfS fk101 (sfS fk100 sf0)) C99.1 fk150))))
 refine Go.callNW X119 hx Z104 O104 rfl (tw_170 hw) (tw_171 hw) (tw_172 hw) (by decide) (tw_172 hw) (tw_36 hw) (au_77 hw a4 b119_0 (O117.keep K119 all0) G fk121 ((((((((((((b1_code.ext E4).ext E5).keep K13 (ninS ne122 nin0)).ext E19).keep K32 (ninS ne122 (ninS ne124 nin0))).keep K47 (ninS ne122 nin0)).ext E58).keep K75 (ninS ne122 (ninS ne126 nin0))).keep K94 (ninS ne122 (ninS ne126 nin0))).ext E104).keep K116 (ninS ne122 nin0)).keep K119 nin0) ((((((((((((b1_backtrace.ext E4).ext E5).keep K13 (ninS ne122 nin0)).ext E19).keep K32 (ninS ne122 (ninS ne124 nin0))).keep K47 (ninS ne122 nin0)).ext E58).keep K75 (ninS ne122 (ninS ne126 nin0))).keep K94 (ninS ne122 (ninS ne126 nin0))).ext E104).keep K116 (ninS ne122 nin0)).keep K119 nin0) ((((((((((((b1_cause.ext E4).ext E5).keep K13 (ninS ne122 nin0)).ext E19).keep K32 (ninS ne122 (ninS ne124 nin0))).keep K47 (ninS ne122 nin0)).ext E58).keep K75 (ninS ne122 (ninS ne126 nin0))).keep K94 (ninS ne122 (ninS ne126 nin0))).ext E104).keep K116 (ninS ne122 nin0)).keep K119 nin0) ((((((((((((b1_detailMessage.ext E4).ext E5).keep K13 (ninS ne122 nin0)).ext E19).keep K32 (ninS ne122 (ninS ne124 nin0))).keep K47 (ninS ne122 nin0)).ext E58).keep K75 (ninS ne122 (ninS ne126 nin0))).keep K94 (ninS ne122 (ninS ne126 nin0))).ext E104).keep K116 (ninS ne122 nin0)).keep K119 nin0) ((((((((((((b1_stackTrace.ext E4).ext E5).keep K13 (ninS ne122 nin0)).ext E19).keep K32 (ninS ne122 (ninS ne124 nin0))).keep K47 (ninS ne122 nin0)).ext E58).keep K75 (ninS ne122 (ninS ne126 nin0))).keep K94 (ninS ne122 (ninS ne126 nin0))).ext E104).keep K116 (ninS ne122 nin0)).keep K119 nin0) ((((((((((((b1_suppressedExceptions.ext E4).ext E5).keep K13 (ninS ne122 nin0)).ext E19).keep K32 (ninS ne122 (ninS ne124 nin0))).keep K47 (ninS ne122 nin0)).ext E58).keep K75 (ninS ne122 (ninS ne126 nin0))).keep K94 (ninS ne122 (ninS ne126 nin0))).ext E104).keep K116 (ninS ne122 nin0)).keep K119 nin0) (Unt.keep K119 nin0 (Unt.keep K116 (ninS ne122 nin0) (Unt.ext E104 (Unt.keep K94 (ninS ne122 (ninS ne126 nin0)) (Unt.keep K75 (ninS ne122 (ninS ne126 nin0)) (Unt.ext E58 (Unt.keep K47 (ninS ne122 nin0) (Unt.keep K32 (ninS ne122 (ninS ne124 nin0)) (Unt.ext E19 (Unt.keep K13 (ninS ne122 nin0) (Unt.ext E5 (Unt.ext E4 N1)))))))))))) (Nat.le_trans O0.z sz136)) hKN (own_EW hw) C139.1 (allS ⟨fk121.lt, fk155⟩ all0) S104 (Nat.le_trans (Nat.le_trans i104 K116.1) K119.1) e119 (a := b1) (argsL := [.ref a4, .ref b119_0]) (rest := [.ref b1]) 42 rfl (hml ▸ rfl) (lenOf pd_28 rfl) rfl rfl (W := 1) (nE rfl) (by decide) (hb hby d7_39) ?_
 intro v157 T157 L157 h157 e157 q157 C157 S157 Z157 O157 X157
 obtain ⟨rfl, N157, K157, F157_0, F157_1, F157_2, F157_3⟩ := q157
 subst hFF
 refine Go.retRW X157 hx hlk Z157 (own_EW hw) e157 S157 (Nat.le_refl _) (C139.trans C157) (t := (.object s2)) hret rfl rfl (hb hby d7_42) (by decide) (by decide) (fun hat => ?_)
 have fk159 := (fk121.keep K157)
 have fk162 := (A4.ext E5)
 have ne161 := Nat.ne_of_lt (Nat.lt_of_lt_of_le fk162.lt s13_0)
 have ne163 := Nat.ne_of_lt (Nat.lt_of_lt_of_le (((fk162.keep K13).ext E19).keep K32).lt s47_0)
 have fk165 := ((((((((((((F4.ext E5).keep K13 (ninS (Ne.symm (D4 b5 (Safe.new (Nat.le_of_eq g5.symm) : Safe Z EL0 T4.vm h4 b5)).1) nin0)).ext E19).keep K32 (ninS (Ne.symm (D4 b5 (Safe.new (Nat.le_of_eq g5.symm) : Safe Z EL0 T4.vm h4 b5)).1) (ninS ne161 nin0))).keep K47 (ninS (Ne.symm (D4 b5 (Safe.new (Nat.le_of_eq g5.symm) : Safe Z EL0 T4.vm h4 b5)).1) nin0)).ext E58).keep K75 (ninS (Ne.symm (D4 b5 (Safe.new (Nat.le_of_eq g5.symm) : Safe Z EL0 T4.vm h4 b5)).1) (ninS ne163 nin0))).keep K94 (ninS (Ne.symm (D4 b5 (Safe.new (Nat.le_of_eq g5.symm) : Safe Z EL0 T4.vm h4 b5)).1) (ninS ne163 nin0))).ext E104).keep K116 (ninS (Ne.symm (D4 b5 (Safe.new (Nat.le_of_eq g5.symm) : Safe Z EL0 T4.vm h4 b5)).1) nin0)).keep K119 nin0).keep K157 (ninS (Ne.symm (D4 b1 fk141).1) nin0))
 have fk166 := ((((((((((((G4.ext E5).keep K13 (ninS (Ne.symm (D4 b5 (Safe.new (Nat.le_of_eq g5.symm) : Safe Z EL0 T4.vm h4 b5)).1) nin0)).ext E19).keep K32 (ninS (Ne.symm (D4 b5 (Safe.new (Nat.le_of_eq g5.symm) : Safe Z EL0 T4.vm h4 b5)).1) (ninS ne161 nin0))).keep K47 (ninS (Ne.symm (D4 b5 (Safe.new (Nat.le_of_eq g5.symm) : Safe Z EL0 T4.vm h4 b5)).1) nin0)).ext E58).keep K75 (ninS (Ne.symm (D4 b5 (Safe.new (Nat.le_of_eq g5.symm) : Safe Z EL0 T4.vm h4 b5)).1) (ninS ne163 nin0))).keep K94 (ninS (Ne.symm (D4 b5 (Safe.new (Nat.le_of_eq g5.symm) : Safe Z EL0 T4.vm h4 b5)).1) (ninS ne163 nin0))).ext E104).keep K116 (ninS (Ne.symm (D4 b5 (Safe.new (Nat.le_of_eq g5.symm) : Safe Z EL0 T4.vm h4 b5)).1) nin0)).keep K119 nin0).keep K157 (ninS (Ne.symm (D4 b1 fk141).1) nin0))
 have fk167 := (F119_0.keep K157)
 have fk169 := ((fk152.ext E104).keep K116)
 have ne168 := Nat.ne_of_lt (Nat.lt_of_lt_of_le fk169.lt s119_0)
 have fk173 := (V4.ext E5)
 have ne172 := Nat.ne_of_lt (Nat.lt_of_lt_of_le fk173.lt s13_0)
 have ne174 := Nat.ne_of_lt (Nat.lt_of_lt_of_le (((fk173.keep K13 (ninS (Ne.symm (D4 b5 (Safe.new (Nat.le_of_eq g5.symm) : Safe Z EL0 T4.vm h4 b5)).2) nin0)).ext E19).keep K32 (ninS (Ne.symm (D4 b5 (Safe.new (Nat.le_of_eq g5.symm) : Safe Z EL0 T4.vm h4 b5)).2) (ninS ne172 nin0))).lt s47_0)
 have fk176 := ((((((((((((V4.ext E5).keep K13 (ninS (Ne.symm (D4 b5 (Safe.new (Nat.le_of_eq g5.symm) : Safe Z EL0 T4.vm h4 b5)).2) nin0)).ext E19).keep K32 (ninS (Ne.symm (D4 b5 (Safe.new (Nat.le_of_eq g5.symm) : Safe Z EL0 T4.vm h4 b5)).2) (ninS ne172 nin0))).keep K47 (ninS (Ne.symm (D4 b5 (Safe.new (Nat.le_of_eq g5.symm) : Safe Z EL0 T4.vm h4 b5)).2) nin0)).ext E58).keep K75 (ninS (Ne.symm (D4 b5 (Safe.new (Nat.le_of_eq g5.symm) : Safe Z EL0 T4.vm h4 b5)).2) (ninS ne174 nin0))).keep K94 (ninS (Ne.symm (D4 b5 (Safe.new (Nat.le_of_eq g5.symm) : Safe Z EL0 T4.vm h4 b5)).2) (ninS ne174 nin0))).ext E104).keep K116 (ninS (Ne.symm (D4 b5 (Safe.new (Nat.le_of_eq g5.symm) : Safe Z EL0 T4.vm h4 b5)).2) nin0)).keep K119 nin0).keep K157 (ninS (Ne.symm (D4 b1 fk141).2) nin0))
 have ne177 := Nat.ne_of_lt (Nat.lt_of_lt_of_le fk169.lt s119_1)
 have fk178 := (F119_3.keep K157 (ninS (Ne.symm ne177) nin0))
 have Kp185 := ((((((Kp71.trans K47 (allS (Or.inr sz10) all0)).ext E58).trans K75 (allS (Or.inr sz10) (allS (Or.inr sz68) all0))).trans K94 (allS (Or.inr sz10) (allS (Or.inr sz68) all0))).ext E104).trans K116 (allS (Or.inr sz10) all0))
 exact ⟨b1, a4, b119_0, b4, b119_1, k4, k119_0, rfl, (Fr.app (Fr.app (Fr.app (Fr.app (Fr.app (Fr.app (Fr.app (Fr.app (Fr.nil n0) N13) N32) N47) N75) N94) N116) N119) N157), ((Kp185.trans K119 all0).trans K157 (allS (Or.inr sz136) all0)), sz136, (Nat.le_trans Kp185.1 s119_0), (Nat.le_trans Kp185.1 s119_1), (Ne.symm ne168), (Ne.symm ne177), n119_0, (hat.safe fk159.lt (C157.safe fk121.lt fk155)), (hat.safe fk167.lt (C157.safe F119_0.lt (Safe.keep K119 sf0 C138.1 (Safe.new s119_0 : Safe Z EL0 T104.vm h116 b119_0)))), (hat.safe fk178.lt (C157.safe F119_3.lt (Safe.keep K119 sf0 C138.1 (Safe.new s119_1 : Safe Z EL0 T104.vm h116 b119_1)))), fk159, F157_0, F157_1, F157_2, F157_3, ((((((((((((A4.ext E5).keep K13).ext E19).keep K32).keep K47).ext E58).keep K75).keep K94).ext E104).keep K116).keep K119).keep K157), fk165, fk166, fk167, (F119_1.keep K157 (ninS (Ne.symm ne168) nin0)), (F119_2.keep K157 (ninS (Ne.symm ne168) nin0)), fk176, fk178, (F119_4.keep K157)⟩
theorem au_181 (hw : HW a0 Z)   (O0 : Old Z n0 h0) (G : Glob Z α β γ δ ε ζ η) (P1 : f0_ Z h0 x0 (.int 1)) (P2 : f2_ Z h0 x0 (.ref x2)) (P3 : Exa Z h0 x1 s1) (P4 : f0_ Z h0 x1 (.int 1)) (P5 : f2_ Z h0 x1 (.ref x3)) (P6 : Arv Z h0 x2 kk0 .byte (56 : Int32) (LL32 p0 p1 p2 p3 p4 p5 p6 p7) (.int 0)) (P8 : Arv Z h0 x3 kk1 .byte (56 : Int32) (LL32 p0 p1 p2 p3 p4 p5 p6 p7) (.int 0)) (ne_x0_x1 : x0 ≠ x1) :
    Ctr l Z ⟨s1, "equals", "(Ljava/lang/Object;)Z"⟩ B39 3 (some .boolean) (rM 1 0 0 14) #[.ref x0, .ref x1] h0 (fun v h L => v = some (.int 1) ∧ Fr n0 L ∧ h = h0) := by
 refine Ctr.of (plainFor_of_name pn_c1) ?_
 intro p e s m below meth c T0 hx hZ hby hml hown hnm hret hlk e0 es X0
 have G' := G
 obtain ⟨G0, -, -, -, -, -, -, -, -, -, -, -, G12, -⟩ := G'
 refine Go.cast (ef_39_RR m x0 x1) ?_
 generalize hFF : EndN s _ _ _ = FF
 refine aN X0 hx 1 rfl hby d39_0 rfl rfl ?_
 refine aN X0 hx 2 rfl hby d39_1 rfl rfl ?_
 refine Go.acmp X0 hx (pc' := 7) (same := false) (hb hby d39_2) rfl rfl (decide_eq_false (fun q => ne_x0_x1 (Value.ref.inj q))) (by decide) (by decide) ?_
 refine aN X0 hx 8 rfl hby d39_7 rfl rfl ?_
 refine Go.instY X0 hx hZ hown (tw_240 hw) e0 (Ins.self P3) 11 rfl (hb hby d39_8) ?_
 intro T1 e1 X1
 refine Go.ifNo X1 hx 14 rfl (hb hby d39_11) (by decide) ?_
 refine aN X1 hx 15 rfl hby d39_14 rfl rfl ?_
 refine Go.castY X1 hx hZ hown (tw_240 hw) e1 (Ins.self P3) 18 rfl (hb hby d39_15) ?_
 intro T2 e2 X2
 refine Go.astoreN X2 hx 19 rfl (hb hby d39_18) (Ls' := #[vR x0, vR x1, vR x1]) rfl rfl ?_
 refine Go.getS X2 hx hZ hown (host := "") (Or.inl (tw_14 hw)) Via.refl e2 (G0.ext O0.2) 22 rfl (hb hby d39_19) ?_
 intro T4 e4 X4
 refine Go.ifNo X4 hx 25 rfl (hb hby d39_22) (feq G12).1 ?_
 refine aN X4 hx 26 rfl hby d39_25 rfl rfl ?_
 refine gF X4 hx hZ hown (tw_26 hw) e4 P1 29 rfl (hb hby d39_26) ?_
 intro T5 e5 X5
 refine aN X5 hx 30 rfl hby d39_29 rfl rfl ?_
 refine gF X5 hx hZ hown (tw_26 hw) e5 P4 33 rfl (hb hby d39_30) ?_
 intro T6 e6 X6
 refine Go.icmpNo X6 hx 36 rfl (hb hby d39_33) (by decide) ?_
 refine aN X6 hx 37 rfl hby d39_36 rfl rfl ?_
 refine gF X6 hx hZ hown (tw_28 hw) e6 P2 40 rfl (hb hby d39_37) ?_
 intro T7 e7 X7
 refine aN X7 hx 41 rfl hby d39_40 rfl rfl ?_
 refine gF X7 hx hZ hown (tw_28 hw) e7 P5 44 rfl (hb hby d39_41) ?_
 intro T8 e8 X8
 refine Go.callS X8 hx hZ hown (tw_241 hw) (tw_242 hw) (tw_243 hw) (tw_244 hw) (by decide) (tw_244 hw) (tw_243 hw) (gl_eq l Z a0 hw x2 x3 kk0 kk1 (56 : Int32) (56 : Int32) (LL38 p0 p1 p2 p3 p4 p5 p6 p7) (LL38 p0 p1 p2 p3 p4 p5 p6 p7) h0 P6 P8 rfl rfl) e8 (argsL := [.ref x2, .ref x3]) (rest := []) 47 rfl (hml ▸ rfl) (lenOf pd_31 rfl) rfl rfl (W := 0) (nE rfl) (by decide) (hb hby d39_44) ?_
 intro v9 T9 L9 q9 X9
 obtain ⟨rfl, rfl, e9⟩ := q9
 rw [if_pos (show ((LL38 p0 p1 p2 p3 p4 p5 p6 p7) : List Int32) = (LL38 p0 p1 p2 p3 p4 p5 p6 p7) from rfl)]
 show Go _ _ _ _ (T9.setTop (mkF m 47 #[vR x0, vR x1, vR x1] [.int 1]))
 refine Go.ifNo X9 hx 50 rfl (hb hby d39_47) (by decide) ?_
 refine Go.iconst X9 hx 51 rfl (hb hby d39_50) (v := (1 : Int32)) rfl ?_
 refine Go.goto X9 hx 55 (hb hby d39_51) (by decide) (by decide) ?_
 subst hFF
 refine Go.retN X9 hx hlk (t := .boolean) hret (by simp) (hb hby d39_55) (by decide) (by decide) ?_
 rw [e9]
 exact ⟨(congrArg (fun z => some (Value.int z)) (by decide : nar .boolean (1 : Int32) = (1 : Int32))), (Fr.app (Fr.nil n0) (Fr.nil n0)), rfl⟩
theorem ef_0_II (m : MethodId) (x0 : Int32) (x1 : Int32) : entryFrame m #[(.int x0), (.int x1)] maxLocals = mkF m 0 #[.val (.int x0), .val (.int x1), .unset, .unset, .unset, .unset, .unset, .unset, .unset, .unset, .unset] [] := by first | (simp [entryFrame, mkF, argsToLocals, Value.category, maxLocals]; done) | rfl
theorem pn_c12 : plainName "com/example/rollcall/rollcall/core/NamesTakenPinLaw" = true := by first | (simp [plainName, overriddenIn]; done) | decide +kernel
set_option maxRecDepth 65536 in
set_option maxHeartbeats 40000000 in
theorem rm0 (l : Launch) (Z : State) (a0 : Array Value) (hw : HW a0 Z) (p0 p1 α : Int32) (β γ δ : Addr) (ε : Value) (ζ η : ClassId) (h0 : Heap) (n0 : Nat) (Z0 : n0 ≤ h0.size) (O0 : Old Z n0 h0) (G : Glob Z α β γ δ ε ζ η) :
    CtrW l Z EL0 x code maxLocals ret room_1 #[.int p0, .int p1] h0 [] (fun v vm h L => v = some (.int (1 : Int32)) ∧ Fr n0 L) := by
 refine CtrW.of (plainFor_of_name pn_c12) ?_
 intro p e s m below meth c T0 hx hZ hby hml hown hnm hret hlk e0 es hS0 C0 hsf hKN X0
 refine Go.cast (ef_0_II m p0 p1) ?_
 have G' := G
 obtain ⟨-, -, -, -, -, -, -, -, -, -, -, -, -, -⟩ := G'
 refine iN X0 hx 1 rfl hby at_0 rfl ?_
 refine Go.i2c X0 hx 2 rfl (hb hby at_1) ?_
 generalize hz1 : (p0.toUInt32.toUInt16.toUInt32.toInt32) = z1
 refine Go.istoreN X0 hx 3 rfl (hb hby at_2) (Ls' := #[vI p0, vI p1, vI z1, uS, uS, uS, uS, uS, uS, uS, uS]) rfl ?_
 refine iN X0 hx 4 rfl hby at_3 rfl ?_
 refine Go.bipush X0 hx 6 rfl (hb hby at_4) (v := (16 : Int32)) (by decide) ?_
 refine Go.iushr X0 hx 7 rfl (hb hby at_6) ?_
 generalize hz2 : ((p0.toUInt32 >>> ((16 : Int32) &&& 31).toUInt32).toInt32) = z2
 refine Go.i2c X0 hx 8 rfl (hb hby at_7) ?_
 have r3 : 0 ≤ z2.toInt ∧ z2.toInt ≤ 65535 := own_rushr hz2 (k := 16) (by decide) (by decide) (by decide)
 rw [show (z2.toUInt32.toUInt16.toUInt32.toInt32) = z2 from (own_i2c_id r3 (by decide) (by decide))]
 refine Go.istoreN X0 hx 9 rfl (hb hby at_8) (Ls' := #[vI p0, vI p1, vI z1, vI z2, uS, uS, uS, uS, uS, uS, uS]) rfl ?_
 refine iN X0 hx 10 rfl hby at_9 rfl ?_
 refine Go.i2c X0 hx 11 rfl (hb hby at_10) ?_
 generalize hz4 : (p1.toUInt32.toUInt16.toUInt32.toInt32) = z4
 refine Go.istore X0 hx 13 rfl (hb hby at_11) (Ls' := #[vI p0, vI p1, vI z1, vI z2, vI z4, uS, uS, uS, uS, uS, uS]) rfl ?_
 refine iN X0 hx 14 rfl hby at_13 rfl ?_
 refine Go.bipush X0 hx 16 rfl (hb hby at_14) (v := (16 : Int32)) (by decide) ?_
 refine Go.iushr X0 hx 17 rfl (hb hby at_16) ?_
 generalize hz5 : ((p1.toUInt32 >>> ((16 : Int32) &&& 31).toUInt32).toInt32) = z5
 refine Go.i2c X0 hx 18 rfl (hb hby at_17) ?_
 have r6 : 0 ≤ z5.toInt ∧ z5.toInt ≤ 65535 := own_rushr hz5 (k := 16) (by decide) (by decide) (by decide)
 rw [show (z5.toUInt32.toUInt16.toUInt32.toInt32) = z5 from (own_i2c_id r6 (by decide) (by decide))]
 refine Go.istore X0 hx 20 rfl (hb hby at_18) (Ls' := #[vI p0, vI p1, vI z1, vI z2, vI z4, vI z5, uS, uS, uS, uS, uS]) rfl ?_
 refine Go.new X0 hx hZ hown (tw_0 hw) (tw_1 hw) (tw_2 hw) e0 (by decide) (by decide) 23 rfl (hb hby at_20) ?_
 intro T7 h7 b7 e7 E7 g7 A7 D7 X7
 have b7_coder : f0_ Z h7 b7 (.int 0) := D7 (Or.inr (tw_27 hw)) (ty := .byte) (by decide)
 have b7_value : f2_ Z h7 b7 .null := D7 (Or.inr (tw_29 hw)) (ty := (.array .byte)) (by decide)
 refine Go.dup X7 hx 24 rfl (hb hby at_23) rfl ?_
 refine Go.iconst X7 hx 25 rfl (hb hby at_24) (v := (2 : Int32)) rfl ?_
 refine Go.newarray X7 hx hZ (ty := .char) rfl (tw_3 hw) e7 (by decide) (cap := 2) (by decide) (by decide) (by decide) (by decide) (ad := "[C") (by decide) 2 27 rfl (hb hby at_25) ?_
 intro T8 h8 b8 k8 e8 E8 g8 V8 A8 X8
 have V8' : Arv Z h8 b8 k8 .char (2 : Int32) [.int 0, .int 0] (.int 0) := V8
 refine Go.dup X8 hx 28 rfl (hb hby at_27) rfl ?_
 refine Go.iconst X8 hx 29 rfl (hb hby at_28) (v := (0 : Int32)) rfl ?_
 refine iN X8 hx 30 rfl hby at_29 rfl ?_
 have Kp11 := ((Keep.refl h0 []).ext E7)
 have sz10 := Nat.le_trans Kp11.1 (Nat.le_of_eq g8.symm)
 have ge9 := Nat.le_trans Z0 sz10
 have r12 : 0 ≤ z1.toInt ∧ z1.toInt ≤ 65535 := own_ri2c hz1
 refine Go.castore X8 hx hZ e8 V8' z1 (own_nar_char r12 (by decide) (by decide)) ⟨by decide, by decide⟩ 0 rfl (nB rfl) 31 rfl (hb hby at_30) ?_
 intro T13 h13 e13 W13 V13 X13
 have N13 := Fr.snoc X13 (Fr.nil n0) ge9
 refine Go.dup X13 hx 32 rfl (hb hby at_31) rfl ?_
 refine Go.iconst X13 hx 33 rfl (hb hby at_32) (v := (1 : Int32)) rfl ?_
 refine iN X13 hx 34 rfl hby at_33 rfl ?_
 refine Go.castore X13 hx hZ e13 V13 z2 (own_nar_char r3 (by decide) (by decide)) ⟨by decide, by decide⟩ 1 rfl (nB rfl) 35 rfl (hb hby at_34) ?_
 intro T14 h14 e14 W14 V14 X14
 have N14 := Fr.snoc X14 N13 ge9
 have O18 := ((((O0.ext E7).ext E8).wr W13 ge9).wr W14 ge9)
 have fk19 := (((A7.ext E8).wr W13).wr W14)
 have ne20 := Nat.ne_of_lt (Nat.lt_of_lt_of_le A7.lt (Nat.le_of_eq g8.symm))
 have V23 : Arv Z h14 b8 k8 .char (2 : Int32) [.int z1, .int z2] (.int 0) := V14
 have sz25 := Nat.le_trans (Keep.refl h0 []).1 (Nat.le_of_eq g7.symm)
 have ge24 := Nat.le_trans Z0 sz25
 refine Go.callN X14 hx hZ hown rfl (tw_4 hw) (tw_5 hw) (tw_6 hw) (by decide) (tw_6 hw) (tw_2 hw) (au_1 hw O18 G fk19 (((b7_coder.ext E8).other W13 (Or.inl ne20)).other W14 (Or.inl ne20)) (((b7_value.ext E8).other W13 (Or.inl ne20)).other W14 (Or.inl ne20)) V23 r12 r3 ge24) e14 (a := b7) (argsL := [.ref b8]) (rest := [.ref b7]) 38 rfl (hml ▸ rfl) (lenOf pd_8 rfl) rfl rfl (W := 1) (nE rfl) (by decide) (hb hby at_35) ?_
 intro v26 T26 L26 q26 X26
 obtain ⟨h26, e26⟩ := hpz T26
 rw [e26] at q26
 obtain ⟨z26_0, z26_1, z26_2, b26_0, k26_0, c26_0, rfl, N26, K26, s26_0, F26_0, F26_1, F26_2, F26_3⟩ := q26
 refine Go.astore X26 hx 40 rfl (hb hby at_38) (Ls' := #[vI p0, vI p1, vI z1, vI z2, vI z4, vI z5, vR b7, uS, uS, uS, uS]) rfl rfl ?_
 refine Go.new X26 hx hZ hown (tw_0 hw) (tw_1 hw) (tw_2 hw) e26 (by decide) (by decide) 43 rfl (hb hby at_40) ?_
 intro T27 h27 b27 e27 E27 g27 A27 D27 X27
 have b27_coder : f0_ Z h27 b27 (.int 0) := D27 (Or.inr (tw_27 hw)) (ty := .byte) (by decide)
 have b27_value : f2_ Z h27 b27 .null := D27 (Or.inr (tw_29 hw)) (ty := (.array .byte)) (by decide)
 refine Go.dup X27 hx 44 rfl (hb hby at_43) rfl ?_
 refine Go.iconst X27 hx 45 rfl (hb hby at_44) (v := (2 : Int32)) rfl ?_
 refine Go.newarray X27 hx hZ (ty := .char) rfl (tw_3 hw) e27 (by decide) (cap := 2) (by decide) (by decide) (by decide) (by decide) (ad := "[C") (by decide) 2 47 rfl (hb hby at_45) ?_
 intro T28 h28 b28 k28 e28 E28 g28 V28 A28 X28
 have V28' : Arv Z h28 b28 k28 .char (2 : Int32) [.int 0, .int 0] (.int 0) := V28
 refine Go.dup X28 hx 48 rfl (hb hby at_47) rfl ?_
 refine Go.iconst X28 hx 49 rfl (hb hby at_48) (v := (0 : Int32)) rfl ?_
 refine Go.iload X28 hx 51 rfl (hb hby at_49) rfl ?_
 have Kp34 := ((((Kp11.ext E8).wr W13 (Or.inr sz10)).wr W14 (Or.inr sz10)).trans K26 (allS (Or.inr sz25) all0))
 have Kp35 := (Kp34.ext E27)
 have sz30 := Nat.le_trans Kp35.1 (Nat.le_of_eq g28.symm)
 have ge29 := Nat.le_trans Z0 sz30
 have r36 : 0 ≤ z4.toInt ∧ z4.toInt ≤ 65535 := own_ri2c hz4
 refine Go.castore X28 hx hZ e28 V28' z4 (own_nar_char r36 (by decide) (by decide)) ⟨by decide, by decide⟩ 0 rfl (nB rfl) 52 rfl (hb hby at_51) ?_
 intro T37 h37 e37 W37 V37 X37
 have N37 := Fr.snoc X37 (Fr.app N14 N26) ge29
 refine Go.dup X37 hx 53 rfl (hb hby at_52) rfl ?_
 refine Go.iconst X37 hx 54 rfl (hb hby at_53) (v := (1 : Int32)) rfl ?_
 refine Go.iload X37 hx 56 rfl (hb hby at_54) rfl ?_
 refine Go.castore X37 hx hZ e37 V37 z5 (own_nar_char r6 (by decide) (by decide)) ⟨by decide, by decide⟩ 1 rfl (nB rfl) 57 rfl (hb hby at_56) ?_
 intro T38 h38 e38 W38 V38 X38
 have N38 := Fr.snoc X38 N37 ge29
 have O43 := (((((O18.keep K26 (allS ge24 all0)).ext E27).ext E28).wr W37 ge29).wr W38 ge29)
 have fk44 := (((A27.ext E28).wr W37).wr W38)
 have ne45 := Nat.ne_of_lt (Nat.lt_of_lt_of_le A27.lt (Nat.le_of_eq g28.symm))
 have V48 : Arv Z h38 b28 k28 .char (2 : Int32) [.int z4, .int z5] (.int 0) := V38
 have sz50 := Nat.le_trans Kp34.1 (Nat.le_of_eq g27.symm)
 have ge49 := Nat.le_trans Z0 sz50
 refine Go.callN X38 hx hZ hown rfl (tw_4 hw) (tw_5 hw) (tw_6 hw) (by decide) (tw_6 hw) (tw_2 hw) (au_1 hw O43 G fk44 (((b27_coder.ext E28).other W37 (Or.inl ne45)).other W38 (Or.inl ne45)) (((b27_value.ext E28).other W37 (Or.inl ne45)).other W38 (Or.inl ne45)) V48 r36 r6 ge49) e38 (a := b27) (argsL := [.ref b28]) (rest := [.ref b27]) 60 rfl (hml ▸ rfl) (lenOf pd_8 rfl) rfl rfl (W := 1) (nE rfl) (by decide) (hb hby at_57) ?_
 intro v51 T51 L51 q51 X51
 obtain ⟨h51, e51⟩ := hpz T51
 rw [e51] at q51
 obtain ⟨z51_0, z51_1, z51_2, b51_0, k51_0, c51_0, rfl, N51, K51, s51_0, F51_0, F51_1, F51_2, F51_3⟩ := q51
 refine Go.astore X51 hx 62 rfl (hb hby at_60) (Ls' := #[vI p0, vI p1, vI z1, vI z2, vI z4, vI z5, vR b7, vR b27, uS, uS, uS]) rfl rfl ?_
 refine Go.bipush X51 hx 64 rfl (hb hby at_62) (v := (28 : Int32)) (by decide) ?_
 refine Go.newarray X51 hx hZ (ty := .char) rfl (tw_3 hw) e51 (by decide) (cap := 28) (by decide) (by decide) (by decide) (by decide) (ad := "[C") (by decide) 28 66 rfl (hb hby at_64) ?_
 intro T52 h52 b52 k52 e52 E52 g52 V52 A52 X52
 have V52' : Arv Z h52 b52 k52 .char (28 : Int32) LL39 (.int 0) := V52
 refine Go.dup X52 hx 67 rfl (hb hby at_66) rfl ?_
 refine Go.iconst X52 hx 68 rfl (hb hby at_67) (v := (0 : Int32)) rfl ?_
 refine Go.bipush X52 hx 70 rfl (hb hby at_68) (v := (116 : Int32)) (by decide) ?_
 have Kp58 := ((((Kp35.ext E28).wr W37 (Or.inr sz30)).wr W38 (Or.inr sz30)).trans K51 (allS (Or.inr sz50) all0))
 have sz54 := Nat.le_trans Kp58.1 (Nat.le_of_eq g52.symm)
 have ge53 := Nat.le_trans Z0 sz54
 refine Go.castore X52 hx hZ e52 V52' (116 : Int32) rfl ⟨by decide, by decide⟩ 0 rfl (nB rfl) 71 rfl (hb hby at_70) ?_
 intro T59 h59 e59 W59 V59 X59
 have N59 := Fr.snoc X59 (Fr.app N38 N51) ge53
 refine Go.dup X59 hx 72 rfl (hb hby at_71) rfl ?_
 refine Go.iconst X59 hx 73 rfl (hb hby at_72) (v := (1 : Int32)) rfl ?_
 refine Go.bipush X59 hx 75 rfl (hb hby at_73) (v := (104 : Int32)) (by decide) ?_
 refine Go.castore X59 hx hZ e59 V59 (104 : Int32) rfl ⟨by decide, by decide⟩ 1 rfl (nB rfl) 76 rfl (hb hby at_75) ?_
 intro T60 h60 e60 W60 V60 X60
 have N60 := Fr.snoc X60 N59 ge53
 refine Go.dup X60 hx 77 rfl (hb hby at_76) rfl ?_
 refine Go.iconst X60 hx 78 rfl (hb hby at_77) (v := (2 : Int32)) rfl ?_
 refine Go.bipush X60 hx 80 rfl (hb hby at_78) (v := (101 : Int32)) (by decide) ?_
 refine Go.castore X60 hx hZ e60 V60 (101 : Int32) rfl ⟨by decide, by decide⟩ 2 rfl (nB rfl) 81 rfl (hb hby at_80) ?_
 intro T61 h61 e61 W61 V61 X61
 have N61 := Fr.snoc X61 N60 ge53
 refine Go.dup X61 hx 82 rfl (hb hby at_81) rfl ?_
 refine Go.iconst X61 hx 83 rfl (hb hby at_82) (v := (3 : Int32)) rfl ?_
 refine Go.bipush X61 hx 85 rfl (hb hby at_83) (v := (32 : Int32)) (by decide) ?_
 have V62 : Arv Z h61 b52 k52 .char (28 : Int32) [.int 116, .int 104, .int 101, .int 0, .int 0, .int 0, .int 0, .int 0, .int 0, .int 0, .int 0, .int 0, .int 0, .int 0, .int 0, .int 0, .int 0, .int 0, .int 0, .int 0, .int 0, .int 0, .int 0, .int 0, .int 0, .int 0, .int 0, .int 0] (.int 0) := V61
 refine Go.castore X61 hx hZ e61 V62 (32 : Int32) rfl ⟨by decide, by decide⟩ 3 rfl (nB rfl) 86 rfl (hb hby at_85) ?_
 intro T63 h63 e63 W63 V63 X63
 have N63 := Fr.snoc X63 N61 ge53
 refine Go.dup X63 hx 87 rfl (hb hby at_86) rfl ?_
 refine Go.iconst X63 hx 88 rfl (hb hby at_87) (v := (4 : Int32)) rfl ?_
 refine iN X63 hx 89 rfl hby at_88 rfl ?_
 refine Go.castore X63 hx hZ e63 V63 z1 (own_nar_char r12 (by decide) (by decide)) ⟨by decide, by decide⟩ 4 rfl (nB rfl) 90 rfl (hb hby at_89) ?_
 intro T64 h64 e64 W64 V64 X64
 have N64 := Fr.snoc X64 N63 ge53
 refine Go.dup X64 hx 91 rfl (hb hby at_90) rfl ?_
 refine Go.iconst X64 hx 92 rfl (hb hby at_91) (v := (5 : Int32)) rfl ?_
 refine iN X64 hx 93 rfl hby at_92 rfl ?_
 refine Go.castore X64 hx hZ e64 V64 z2 (own_nar_char r3 (by decide) (by decide)) ⟨by decide, by decide⟩ 5 rfl (nB rfl) 94 rfl (hb hby at_93) ?_
 intro T65 h65 e65 W65 V65 X65
 have N65 := Fr.snoc X65 N64 ge53
 refine Go.dup X65 hx 95 rfl (hb hby at_94) rfl ?_
 refine Go.bipush X65 hx 97 rfl (hb hby at_95) (v := (6 : Int32)) (by decide) ?_
 refine Go.bipush X65 hx 99 rfl (hb hby at_97) (v := (32 : Int32)) (by decide) ?_
 refine Go.castore X65 hx hZ e65 V65 (32 : Int32) rfl ⟨by decide, by decide⟩ 6 rfl (nB rfl) 100 rfl (hb hby at_99) ?_
 intro T66 h66 e66 W66 V66 X66
 have N66 := Fr.snoc X66 N65 ge53
 refine Go.dup X66 hx 101 rfl (hb hby at_100) rfl ?_
 refine Go.bipush X66 hx 103 rfl (hb hby at_101) (v := (7 : Int32)) (by decide) ?_
 refine Go.bipush X66 hx 105 rfl (hb hby at_103) (v := (39 : Int32)) (by decide) ?_
 have V67 : Arv Z h66 b52 k52 .char (28 : Int32) [.int 116, .int 104, .int 101, .int 32, .int z1, .int z2, .int 32, .int 0, .int 0, .int 0, .int 0, .int 0, .int 0, .int 0, .int 0, .int 0, .int 0, .int 0, .int 0, .int 0, .int 0, .int 0, .int 0, .int 0, .int 0, .int 0, .int 0, .int 0] (.int 0) := V66
 refine Go.castore X66 hx hZ e66 V67 (39 : Int32) rfl ⟨by decide, by decide⟩ 7 rfl (nB rfl) 106 rfl (hb hby at_105) ?_
 intro T68 h68 e68 W68 V68 X68
 have N68 := Fr.snoc X68 N66 ge53
 refine Go.dup X68 hx 107 rfl (hb hby at_106) rfl ?_
 refine Go.bipush X68 hx 109 rfl (hb hby at_107) (v := (8 : Int32)) (by decide) ?_
 refine Go.iload X68 hx 111 rfl (hb hby at_109) rfl ?_
 refine Go.castore X68 hx hZ e68 V68 z4 (own_nar_char r36 (by decide) (by decide)) ⟨by decide, by decide⟩ 8 rfl (nB rfl) 112 rfl (hb hby at_111) ?_
 intro T69 h69 e69 W69 V69 X69
 have N69 := Fr.snoc X69 N68 ge53
 refine Go.dup X69 hx 113 rfl (hb hby at_112) rfl ?_
 refine Go.bipush X69 hx 115 rfl (hb hby at_113) (v := (9 : Int32)) (by decide) ?_
 refine Go.iload X69 hx 117 rfl (hb hby at_115) rfl ?_
 refine Go.castore X69 hx hZ e69 V69 z5 (own_nar_char r6 (by decide) (by decide)) ⟨by decide, by decide⟩ 9 rfl (nB rfl) 118 rfl (hb hby at_117) ?_
 intro T70 h70 e70 W70 V70 X70
 have N70 := Fr.snoc X70 N69 ge53
 refine Go.dup X70 hx 119 rfl (hb hby at_118) rfl ?_
 refine Go.bipush X70 hx 121 rfl (hb hby at_119) (v := (10 : Int32)) (by decide) ?_
 refine Go.bipush X70 hx 123 rfl (hb hby at_121) (v := (39 : Int32)) (by decide) ?_
 refine Go.castore X70 hx hZ e70 V70 (39 : Int32) rfl ⟨by decide, by decide⟩ 10 rfl (nB rfl) 124 rfl (hb hby at_123) ?_
 intro T71 h71 e71 W71 V71 X71
 have N71 := Fr.snoc X71 N70 ge53
 refine Go.dup X71 hx 125 rfl (hb hby at_124) rfl ?_
 refine Go.bipush X71 hx 127 rfl (hb hby at_125) (v := (11 : Int32)) (by decide) ?_
 refine Go.bipush X71 hx 129 rfl (hb hby at_127) (v := (32 : Int32)) (by decide) ?_
 have V72 : Arv Z h71 b52 k52 .char (28 : Int32) [.int 116, .int 104, .int 101, .int 32, .int z1, .int z2, .int 32, .int 39, .int z4, .int z5, .int 39, .int 0, .int 0, .int 0, .int 0, .int 0, .int 0, .int 0, .int 0, .int 0, .int 0, .int 0, .int 0, .int 0, .int 0, .int 0, .int 0, .int 0] (.int 0) := V71
 refine Go.castore X71 hx hZ e71 V72 (32 : Int32) rfl ⟨by decide, by decide⟩ 11 rfl (nB rfl) 130 rfl (hb hby at_129) ?_
 intro T73 h73 e73 W73 V73 X73
 have N73 := Fr.snoc X73 N71 ge53
 refine Go.dup X73 hx 131 rfl (hb hby at_130) rfl ?_
 refine Go.bipush X73 hx 133 rfl (hb hby at_131) (v := (12 : Int32)) (by decide) ?_
 refine Go.bipush X73 hx 135 rfl (hb hby at_133) (v := (105 : Int32)) (by decide) ?_
 refine Go.castore X73 hx hZ e73 V73 (105 : Int32) rfl ⟨by decide, by decide⟩ 12 rfl (nB rfl) 136 rfl (hb hby at_135) ?_
 intro T74 h74 e74 W74 V74 X74
 have N74 := Fr.snoc X74 N73 ge53
 refine Go.dup X74 hx 137 rfl (hb hby at_136) rfl ?_
 refine Go.bipush X74 hx 139 rfl (hb hby at_137) (v := (13 : Int32)) (by decide) ?_
 refine Go.bipush X74 hx 141 rfl (hb hby at_139) (v := (115 : Int32)) (by decide) ?_
 refine Go.castore X74 hx hZ e74 V74 (115 : Int32) rfl ⟨by decide, by decide⟩ 13 rfl (nB rfl) 142 rfl (hb hby at_141) ?_
 intro T75 h75 e75 W75 V75 X75
 have N75 := Fr.snoc X75 N74 ge53
 refine Go.dup X75 hx 143 rfl (hb hby at_142) rfl ?_
 refine Go.bipush X75 hx 145 rfl (hb hby at_143) (v := (14 : Int32)) (by decide) ?_
 refine Go.bipush X75 hx 147 rfl (hb hby at_145) (v := (32 : Int32)) (by decide) ?_
 refine Go.castore X75 hx hZ e75 V75 (32 : Int32) rfl ⟨by decide, by decide⟩ 14 rfl (nB rfl) 148 rfl (hb hby at_147) ?_
 intro T76 h76 e76 W76 V76 X76
 have N76 := Fr.snoc X76 N75 ge53
 refine Go.dup X76 hx 149 rfl (hb hby at_148) rfl ?_
 refine Go.bipush X76 hx 151 rfl (hb hby at_149) (v := (15 : Int32)) (by decide) ?_
 refine Go.bipush X76 hx 153 rfl (hb hby at_151) (v := (97 : Int32)) (by decide) ?_
 have V77 : Arv Z h76 b52 k52 .char (28 : Int32) [.int 116, .int 104, .int 101, .int 32, .int z1, .int z2, .int 32, .int 39, .int z4, .int z5, .int 39, .int 32, .int 105, .int 115, .int 32, .int 0, .int 0, .int 0, .int 0, .int 0, .int 0, .int 0, .int 0, .int 0, .int 0, .int 0, .int 0, .int 0] (.int 0) := V76
 refine Go.castore X76 hx hZ e76 V77 (97 : Int32) rfl ⟨by decide, by decide⟩ 15 rfl (nB rfl) 154 rfl (hb hby at_153) ?_
 intro T78 h78 e78 W78 V78 X78
 have N78 := Fr.snoc X78 N76 ge53
 refine Go.dup X78 hx 155 rfl (hb hby at_154) rfl ?_
 refine Go.bipush X78 hx 157 rfl (hb hby at_155) (v := (16 : Int32)) (by decide) ?_
 refine Go.bipush X78 hx 159 rfl (hb hby at_157) (v := (108 : Int32)) (by decide) ?_
 refine Go.castore X78 hx hZ e78 V78 (108 : Int32) rfl ⟨by decide, by decide⟩ 16 rfl (nB rfl) 160 rfl (hb hby at_159) ?_
 intro T79 h79 e79 W79 V79 X79
 have N79 := Fr.snoc X79 N78 ge53
 refine Go.dup X79 hx 161 rfl (hb hby at_160) rfl ?_
 refine Go.bipush X79 hx 163 rfl (hb hby at_161) (v := (17 : Int32)) (by decide) ?_
 refine Go.bipush X79 hx 165 rfl (hb hby at_163) (v := (114 : Int32)) (by decide) ?_
 refine Go.castore X79 hx hZ e79 V79 (114 : Int32) rfl ⟨by decide, by decide⟩ 17 rfl (nB rfl) 166 rfl (hb hby at_165) ?_
 intro T80 h80 e80 W80 V80 X80
 have N80 := Fr.snoc X80 N79 ge53
 refine Go.dup X80 hx 167 rfl (hb hby at_166) rfl ?_
 refine Go.bipush X80 hx 169 rfl (hb hby at_167) (v := (18 : Int32)) (by decide) ?_
 refine Go.bipush X80 hx 171 rfl (hb hby at_169) (v := (101 : Int32)) (by decide) ?_
 refine Go.castore X80 hx hZ e80 V80 (101 : Int32) rfl ⟨by decide, by decide⟩ 18 rfl (nB rfl) 172 rfl (hb hby at_171) ?_
 intro T81 h81 e81 W81 V81 X81
 have N81 := Fr.snoc X81 N80 ge53
 refine Go.dup X81 hx 173 rfl (hb hby at_172) rfl ?_
 refine Go.bipush X81 hx 175 rfl (hb hby at_173) (v := (19 : Int32)) (by decide) ?_
 refine Go.bipush X81 hx 177 rfl (hb hby at_175) (v := (97 : Int32)) (by decide) ?_
 have V82 : Arv Z h81 b52 k52 .char (28 : Int32) [.int 116, .int 104, .int 101, .int 32, .int z1, .int z2, .int 32, .int 39, .int z4, .int z5, .int 39, .int 32, .int 105, .int 115, .int 32, .int 97, .int 108, .int 114, .int 101, .int 0, .int 0, .int 0, .int 0, .int 0, .int 0, .int 0, .int 0, .int 0] (.int 0) := V81
 refine Go.castore X81 hx hZ e81 V82 (97 : Int32) rfl ⟨by decide, by decide⟩ 19 rfl (nB rfl) 178 rfl (hb hby at_177) ?_
 intro T83 h83 e83 W83 V83 X83
 have N83 := Fr.snoc X83 N81 ge53
 refine Go.dup X83 hx 179 rfl (hb hby at_178) rfl ?_
 refine Go.bipush X83 hx 181 rfl (hb hby at_179) (v := (20 : Int32)) (by decide) ?_
 refine Go.bipush X83 hx 183 rfl (hb hby at_181) (v := (100 : Int32)) (by decide) ?_
 refine Go.castore X83 hx hZ e83 V83 (100 : Int32) rfl ⟨by decide, by decide⟩ 20 rfl (nB rfl) 184 rfl (hb hby at_183) ?_
 intro T84 h84 e84 W84 V84 X84
 have N84 := Fr.snoc X84 N83 ge53
 refine Go.dup X84 hx 185 rfl (hb hby at_184) rfl ?_
 refine Go.bipush X84 hx 187 rfl (hb hby at_185) (v := (21 : Int32)) (by decide) ?_
 refine Go.bipush X84 hx 189 rfl (hb hby at_187) (v := (121 : Int32)) (by decide) ?_
 refine Go.castore X84 hx hZ e84 V84 (121 : Int32) rfl ⟨by decide, by decide⟩ 21 rfl (nB rfl) 190 rfl (hb hby at_189) ?_
 intro T85 h85 e85 W85 V85 X85
 have N85 := Fr.snoc X85 N84 ge53
 refine Go.dup X85 hx 191 rfl (hb hby at_190) rfl ?_
 refine Go.bipush X85 hx 193 rfl (hb hby at_191) (v := (22 : Int32)) (by decide) ?_
 refine Go.bipush X85 hx 195 rfl (hb hby at_193) (v := (32 : Int32)) (by decide) ?_
 refine Go.castore X85 hx hZ e85 V85 (32 : Int32) rfl ⟨by decide, by decide⟩ 22 rfl (nB rfl) 196 rfl (hb hby at_195) ?_
 intro T86 h86 e86 W86 V86 X86
 have N86 := Fr.snoc X86 N85 ge53
 refine Go.dup X86 hx 197 rfl (hb hby at_196) rfl ?_
 refine Go.bipush X86 hx 199 rfl (hb hby at_197) (v := (23 : Int32)) (by decide) ?_
 refine Go.bipush X86 hx 201 rfl (hb hby at_199) (v := (116 : Int32)) (by decide) ?_
 have V87 : Arv Z h86 b52 k52 .char (28 : Int32) [.int 116, .int 104, .int 101, .int 32, .int z1, .int z2, .int 32, .int 39, .int z4, .int z5, .int 39, .int 32, .int 105, .int 115, .int 32, .int 97, .int 108, .int 114, .int 101, .int 97, .int 100, .int 121, .int 32, .int 0, .int 0, .int 0, .int 0, .int 0] (.int 0) := V86
 refine Go.castore X86 hx hZ e86 V87 (116 : Int32) rfl ⟨by decide, by decide⟩ 23 rfl (nB rfl) 202 rfl (hb hby at_201) ?_
 intro T88 h88 e88 W88 V88 X88
 have N88 := Fr.snoc X88 N86 ge53
 refine Go.dup X88 hx 203 rfl (hb hby at_202) rfl ?_
 refine Go.bipush X88 hx 205 rfl (hb hby at_203) (v := (24 : Int32)) (by decide) ?_
 refine Go.bipush X88 hx 207 rfl (hb hby at_205) (v := (97 : Int32)) (by decide) ?_
 refine Go.castore X88 hx hZ e88 V88 (97 : Int32) rfl ⟨by decide, by decide⟩ 24 rfl (nB rfl) 208 rfl (hb hby at_207) ?_
 intro T89 h89 e89 W89 V89 X89
 have N89 := Fr.snoc X89 N88 ge53
 refine Go.dup X89 hx 209 rfl (hb hby at_208) rfl ?_
 refine Go.bipush X89 hx 211 rfl (hb hby at_209) (v := (25 : Int32)) (by decide) ?_
 refine Go.bipush X89 hx 213 rfl (hb hby at_211) (v := (107 : Int32)) (by decide) ?_
 refine Go.castore X89 hx hZ e89 V89 (107 : Int32) rfl ⟨by decide, by decide⟩ 25 rfl (nB rfl) 214 rfl (hb hby at_213) ?_
 intro T90 h90 e90 W90 V90 X90
 have N90 := Fr.snoc X90 N89 ge53
 refine Go.dup X90 hx 215 rfl (hb hby at_214) rfl ?_
 refine Go.bipush X90 hx 217 rfl (hb hby at_215) (v := (26 : Int32)) (by decide) ?_
 refine Go.bipush X90 hx 219 rfl (hb hby at_217) (v := (101 : Int32)) (by decide) ?_
 refine Go.castore X90 hx hZ e90 V90 (101 : Int32) rfl ⟨by decide, by decide⟩ 26 rfl (nB rfl) 220 rfl (hb hby at_219) ?_
 intro T91 h91 e91 W91 V91 X91
 have N91 := Fr.snoc X91 N90 ge53
 refine Go.dup X91 hx 221 rfl (hb hby at_220) rfl ?_
 refine Go.bipush X91 hx 223 rfl (hb hby at_221) (v := (27 : Int32)) (by decide) ?_
 refine Go.bipush X91 hx 225 rfl (hb hby at_223) (v := (110 : Int32)) (by decide) ?_
 have V92 : Arv Z h91 b52 k52 .char (28 : Int32) [.int 116, .int 104, .int 101, .int 32, .int z1, .int z2, .int 32, .int 39, .int z4, .int z5, .int 39, .int 32, .int 105, .int 115, .int 32, .int 97, .int 108, .int 114, .int 101, .int 97, .int 100, .int 121, .int 32, .int 116, .int 97, .int 107, .int 101, .int 0] (.int 0) := V91
 refine Go.castore X91 hx hZ e91 V92 (110 : Int32) rfl ⟨by decide, by decide⟩ 27 rfl (nB rfl) 226 rfl (hb hby at_225) ?_
 intro T93 h93 e93 W93 V93 X93
 have N93 := Fr.snoc X93 N91 ge53
 refine Go.astore X93 hx 228 rfl (hb hby at_226) (Ls' := #[vI p0, vI p1, vI z1, vI z2, vI z4, vI z5, vR b7, vR b27, vR b52, uS, uS]) rfl rfl ?_
 refine Go.new X93 hx hZ hown (tw_0 hw) (tw_1 hw) (tw_2 hw) e93 (by decide) (by decide) 231 rfl (hb hby at_228) ?_
 intro T94 h94 b94 e94 E94 g94 A94 D94 X94
 have b94_coder : f0_ Z h94 b94 (.int 0) := D94 (Or.inr (tw_27 hw)) (ty := .byte) (by decide)
 have b94_value : f2_ Z h94 b94 .null := D94 (Or.inr (tw_29 hw)) (ty := (.array .byte)) (by decide)
 refine Go.dup X94 hx 232 rfl (hb hby at_231) rfl ?_
 refine Go.aload X94 hx 234 rfl (hb hby at_232) rfl rfl ?_
 have O102 := ((((((((O43.keep K51 (allS ge49 all0)).ext E52).wr W59 ge53).wr W60 ge53).wr W61 ge53).wr W63 ge53).wr W64 ge53).wr W65 ge53)
 have O110 := ((((((((O102.wr W66 ge53).wr W68 ge53).wr W69 ge53).wr W70 ge53).wr W71 ge53).wr W73 ge53).wr W74 ge53).wr W75 ge53)
 have O118 := ((((((((O110.wr W76 ge53).wr W78 ge53).wr W79 ge53).wr W80 ge53).wr W81 ge53).wr W83 ge53).wr W84 ge53).wr W85 ge53)
 have O125 := (((((((O118.wr W86 ge53).wr W88 ge53).wr W89 ge53).wr W90 ge53).wr W91 ge53).wr W93 ge53).ext E94)
 have V126 : Arv Z h93 b52 k52 .char (28 : Int32) (LL7 z1 z2 z4 z5) (.int 0) := V93
 have Kp137 := ((((((((Kp58.ext E52).wr W59 (Or.inr sz54)).wr W60 (Or.inr sz54)).wr W61 (Or.inr sz54)).wr W63 (Or.inr sz54)).wr W64 (Or.inr sz54)).wr W65 (Or.inr sz54)).wr W66 (Or.inr sz54))
 have Kp145 := ((((((((Kp137.wr W68 (Or.inr sz54)).wr W69 (Or.inr sz54)).wr W70 (Or.inr sz54)).wr W71 (Or.inr sz54)).wr W73 (Or.inr sz54)).wr W74 (Or.inr sz54)).wr W75 (Or.inr sz54)).wr W76 (Or.inr sz54))
 have Kp153 := ((((((((Kp145.wr W78 (Or.inr sz54)).wr W79 (Or.inr sz54)).wr W80 (Or.inr sz54)).wr W81 (Or.inr sz54)).wr W83 (Or.inr sz54)).wr W84 (Or.inr sz54)).wr W85 (Or.inr sz54)).wr W86 (Or.inr sz54))
 have Kp158 := (((((Kp153.wr W88 (Or.inr sz54)).wr W89 (Or.inr sz54)).wr W90 (Or.inr sz54)).wr W91 (Or.inr sz54)).wr W93 (Or.inr sz54))
 have sz129 := Nat.le_trans Kp158.1 (Nat.le_of_eq g94.symm)
 have ge128 := Nat.le_trans Z0 sz129
 refine Go.callN X94 hx hZ hown rfl (tw_4 hw) (tw_5 hw) (tw_6 hw) (by decide) (tw_6 hw) (tw_2 hw) (au_9 hw O125 G A94 b94_coder b94_value (V126.ext E94) r12 r3 r36 r6 ge128) e94 (a := b94) (argsL := [.ref b52]) (rest := [.ref b94]) 237 rfl (hml ▸ rfl) (lenOf pd_8 rfl) rfl rfl (W := 1) (nE rfl) (by decide) (hb hby at_234) ?_
 intro v159 T159 L159 q159 X159
 obtain ⟨h159, e159⟩ := hpz T159
 rw [e159] at q159
 obtain ⟨z159_0, z159_1, z159_2, b159_0, k159_0, c159_0, rfl, N159, K159, s159_0, F159_0, F159_1, F159_2, F159_3⟩ := q159
 refine Go.astore X159 hx 239 rfl (hb hby at_237) (Ls' := #[vI p0, vI p1, vI z1, vI z2, vI z4, vI z5, vR b7, vR b27, vR b52, vR b94, uS]) rfl rfl ?_
 have fk161 := ((fk19.keep K26).ext E27)
 have ne160 := Nat.ne_of_lt (Nat.lt_of_lt_of_le fk161.lt (Nat.le_of_eq g28.symm))
 have ne162 := Nat.ne_of_lt (Nat.lt_of_lt_of_le (fk19.keep K26).lt (Nat.le_of_eq g27.symm))
 have fk165 := ((((fk161.ext E28).wr W37).wr W38).keep K51)
 have ne164 := Nat.ne_of_lt (Nat.lt_of_lt_of_le fk165.lt (Nat.le_of_eq g52.symm))
 have fk167 := (((((((((((((((((((((((((((((fk165.ext E52).wr W59).wr W60).wr W61).wr W63).wr W64).wr W65).wr W66).wr W68).wr W69).wr W70).wr W71).wr W73).wr W74).wr W75).wr W76).wr W78).wr W79).wr W80).wr W81).wr W83).wr W84).wr W85).wr W86).wr W88).wr W89).wr W90).wr W91).wr W93)
 have ne166 := Nat.ne_of_lt (Nat.lt_of_lt_of_le fk167.lt (Nat.le_of_eq g94.symm))
 have fk168 := ((((((((((((((((((((((((((((((((((((F26_0.ext E27).ext E28).other W37 (Or.inl ne160)).other W38 (Or.inl ne160)).keep K51 (ninS ne162 nin0)).ext E52).other W59 (Or.inl ne164)).other W60 (Or.inl ne164)).other W61 (Or.inl ne164)).other W63 (Or.inl ne164)).other W64 (Or.inl ne164)).other W65 (Or.inl ne164)).other W66 (Or.inl ne164)).other W68 (Or.inl ne164)).other W69 (Or.inl ne164)).other W70 (Or.inl ne164)).other W71 (Or.inl ne164)).other W73 (Or.inl ne164)).other W74 (Or.inl ne164)).other W75 (Or.inl ne164)).other W76 (Or.inl ne164)).other W78 (Or.inl ne164)).other W79 (Or.inl ne164)).other W80 (Or.inl ne164)).other W81 (Or.inl ne164)).other W83 (Or.inl ne164)).other W84 (Or.inl ne164)).other W85 (Or.inl ne164)).other W86 (Or.inl ne164)).other W88 (Or.inl ne164)).other W89 (Or.inl ne164)).other W90 (Or.inl ne164)).other W91 (Or.inl ne164)).other W93 (Or.inl ne164)).ext E94).keep K159 (ninS ne166 nin0))
 have fk170 := (F26_2.ext E27)
 have ne169 := Nat.ne_of_lt (Nat.lt_of_lt_of_le fk170.lt (Nat.le_of_eq g28.symm))
 have ne171 := Nat.ne_of_lt (Nat.lt_of_lt_of_le F26_2.lt (Nat.le_of_eq g27.symm))
 have fk173 := ((((fk170.ext E28).other W37 ne169).other W38 ne169).keep K51 (ninS ne171 nin0))
 have ne172 := Nat.ne_of_lt (Nat.lt_of_lt_of_le fk173.lt (Nat.le_of_eq g52.symm))
 have fk175 := (((((((((((((((((((((((((((((fk173.ext E52).other W59 ne172).other W60 ne172).other W61 ne172).other W63 ne172).other W64 ne172).other W65 ne172).other W66 ne172).other W68 ne172).other W69 ne172).other W70 ne172).other W71 ne172).other W73 ne172).other W74 ne172).other W75 ne172).other W76 ne172).other W78 ne172).other W79 ne172).other W80 ne172).other W81 ne172).other W83 ne172).other W84 ne172).other W85 ne172).other W86 ne172).other W88 ne172).other W89 ne172).other W90 ne172).other W91 ne172).other W93 ne172)
 have fk176 := ((((((((((((((((((((((((((((((((((((F26_2.ext E27).ext E28).other W37 ne169).other W38 ne169).keep K51 (ninS ne171 nin0)).ext E52).other W59 ne172).other W60 ne172).other W61 ne172).other W63 ne172).other W64 ne172).other W65 ne172).other W66 ne172).other W68 ne172).other W69 ne172).other W70 ne172).other W71 ne172).other W73 ne172).other W74 ne172).other W75 ne172).other W76 ne172).other W78 ne172).other W79 ne172).other W80 ne172).other W81 ne172).other W83 ne172).other W84 ne172).other W85 ne172).other W86 ne172).other W88 ne172).other W89 ne172).other W90 ne172).other W91 ne172).other W93 ne172).ext E94).keep K159 (ninS (Nat.ne_of_lt (Nat.lt_of_lt_of_le fk175.lt (Nat.le_of_eq g94.symm))) nin0))
 have fk177 := ((fk167.ext E94).keep K159)
 have fk178 := ((((((((((((((((((((((((((((((((((((F26_1.ext E27).ext E28).other W37 (Or.inl ne160)).other W38 (Or.inl ne160)).keep K51 (ninS ne162 nin0)).ext E52).other W59 (Or.inl ne164)).other W60 (Or.inl ne164)).other W61 (Or.inl ne164)).other W63 (Or.inl ne164)).other W64 (Or.inl ne164)).other W65 (Or.inl ne164)).other W66 (Or.inl ne164)).other W68 (Or.inl ne164)).other W69 (Or.inl ne164)).other W70 (Or.inl ne164)).other W71 (Or.inl ne164)).other W73 (Or.inl ne164)).other W74 (Or.inl ne164)).other W75 (Or.inl ne164)).other W76 (Or.inl ne164)).other W78 (Or.inl ne164)).other W79 (Or.inl ne164)).other W80 (Or.inl ne164)).other W81 (Or.inl ne164)).other W83 (Or.inl ne164)).other W84 (Or.inl ne164)).other W85 (Or.inl ne164)).other W86 (Or.inl ne164)).other W88 (Or.inl ne164)).other W89 (Or.inl ne164)).other W90 (Or.inl ne164)).other W91 (Or.inl ne164)).other W93 (Or.inl ne164)).ext E94).keep K159 (ninS ne166 nin0))
 have C180 := (C0.trans (CHr.ext E7 C0.1))
 have C182 := (C180.trans (CHr.ext E8 C180.1))
 have fk183 := (Safe.ext E8 C180.1 (Safe.new (Nat.le_of_eq g8.symm) : Safe Z EL0 s.vm h7 b8))
 have C185 := (C182.trans (CHr.wr W13 fk183 C182.1))
 have fk186 := (Safe.wr W13 fk183 C182.1 fk183)
 have fk187 := (Safe.wr W14 fk186 C185.1 (Safe.wr W13 fk183 C182.1 (Safe.ext E8 C180.1 (Safe.ext E7 C0.1 (Safe.new (Nat.le_of_eq g7.symm) : Safe Z EL0 s.vm h0 b7)))))
 have C188 := (C185.trans (CHr.wr W14 fk186 C185.1))
 have C190 := (C188.trans (CHr.keep K26 (sfS fk187 sf0) C188.1))
 have C192 := (C190.trans (CHr.ext E27 C190.1))
 have C194 := (C192.trans (CHr.ext E28 C192.1))
 have fk195 := (Safe.ext E28 C192.1 (Safe.new (Nat.le_of_eq g28.symm) : Safe Z EL0 s.vm h27 b28))
 have C197 := (C194.trans (CHr.wr W37 fk195 C194.1))
 have fk198 := (Safe.wr W37 fk195 C194.1 fk195)
 have C200 := (C197.trans (CHr.wr W38 fk198 C197.1))
 have fk204 := (Safe.wr W38 fk198 C197.1 (Safe.wr W37 fk195 C194.1 (Safe.ext E28 C192.1 (Safe.ext E27 C190.1 (Safe.new (Nat.le_of_eq g27.symm) : Safe Z EL0 s.vm h26 b27)))))
 have C206 := (C200.trans (CHr.keep K51 (sfS fk204 sf0) C200.1))
 have C208 := (C206.trans (CHr.ext E52 C206.1))
 have fk209 := (Safe.ext E52 C206.1 (Safe.new (Nat.le_of_eq g52.symm) : Safe Z EL0 s.vm h51 b52))
 have fk210 := (Safe.wr W59 fk209 C208.1 (Safe.ext E52 C206.1 (Safe.keep K51 (sfS fk204 sf0) C200.1 (Safe.wr W38 fk198 C197.1 (Safe.wr W37 fk195 C194.1 (Safe.ext E28 C192.1 (Safe.ext E27 C190.1 (Safe.keep K26 (sfS fk187 sf0) C188.1 fk187))))))))
 have C211 := (C208.trans (CHr.wr W59 fk209 C208.1))
 have fk212 := (Safe.wr W59 fk209 C208.1 fk209)
 have C214 := (C211.trans (CHr.wr W60 fk212 C211.1))
 have fk215 := (Safe.wr W60 fk212 C211.1 fk212)
 have C217 := (C214.trans (CHr.wr W61 fk215 C214.1))
 have fk218 := (Safe.wr W61 fk215 C214.1 fk215)
 have C220 := (C217.trans (CHr.wr W63 fk218 C217.1))
 have fk221 := (Safe.wr W63 fk218 C217.1 fk218)
 have C223 := (C220.trans (CHr.wr W64 fk221 C220.1))
 have fk224 := (Safe.wr W64 fk221 C220.1 fk221)
 have C226 := (C223.trans (CHr.wr W65 fk224 C223.1))
 have fk227 := (Safe.wr W65 fk224 C223.1 fk224)
 have C229 := (C226.trans (CHr.wr W66 fk227 C226.1))
 have fk230 := (Safe.wr W66 fk227 C226.1 fk227)
 have C232 := (C229.trans (CHr.wr W68 fk230 C229.1))
 have fk233 := (Safe.wr W68 fk230 C229.1 fk230)
 have fk234 := (Safe.wr W69 fk233 C232.1 (Safe.wr W68 fk230 C229.1 (Safe.wr W66 fk227 C226.1 (Safe.wr W65 fk224 C223.1 (Safe.wr W64 fk221 C220.1 (Safe.wr W63 fk218 C217.1 (Safe.wr W61 fk215 C214.1 (Safe.wr W60 fk212 C211.1 fk210))))))))
 have C235 := (C232.trans (CHr.wr W69 fk233 C232.1))
 have fk236 := (Safe.wr W69 fk233 C232.1 fk233)
 have C238 := (C235.trans (CHr.wr W70 fk236 C235.1))
 have fk239 := (Safe.wr W70 fk236 C235.1 fk236)
 have C241 := (C238.trans (CHr.wr W71 fk239 C238.1))
 have fk242 := (Safe.wr W71 fk239 C238.1 fk239)
 have C244 := (C241.trans (CHr.wr W73 fk242 C241.1))
 have fk245 := (Safe.wr W73 fk242 C241.1 fk242)
 have C247 := (C244.trans (CHr.wr W74 fk245 C244.1))
 have fk248 := (Safe.wr W74 fk245 C244.1 fk245)
 have C250 := (C247.trans (CHr.wr W75 fk248 C247.1))
 have fk251 := (Safe.wr W75 fk248 C247.1 fk248)
 have C253 := (C250.trans (CHr.wr W76 fk251 C250.1))
 have fk254 := (Safe.wr W76 fk251 C250.1 fk251)
 have C256 := (C253.trans (CHr.wr W78 fk254 C253.1))
 have fk257 := (Safe.wr W78 fk254 C253.1 fk254)
 have fk258 := (Safe.wr W79 fk257 C256.1 (Safe.wr W78 fk254 C253.1 (Safe.wr W76 fk251 C250.1 (Safe.wr W75 fk248 C247.1 (Safe.wr W74 fk245 C244.1 (Safe.wr W73 fk242 C241.1 (Safe.wr W71 fk239 C238.1 (Safe.wr W70 fk236 C235.1 fk234))))))))
 have C259 := (C256.trans (CHr.wr W79 fk257 C256.1))
 have fk260 := (Safe.wr W79 fk257 C256.1 fk257)
 have C262 := (C259.trans (CHr.wr W80 fk260 C259.1))
 have fk263 := (Safe.wr W80 fk260 C259.1 fk260)
 have C265 := (C262.trans (CHr.wr W81 fk263 C262.1))
 have fk266 := (Safe.wr W81 fk263 C262.1 fk263)
 have C268 := (C265.trans (CHr.wr W83 fk266 C265.1))
 have fk269 := (Safe.wr W83 fk266 C265.1 fk266)
 have C271 := (C268.trans (CHr.wr W84 fk269 C268.1))
 have fk272 := (Safe.wr W84 fk269 C268.1 fk269)
 have C274 := (C271.trans (CHr.wr W85 fk272 C271.1))
 have fk275 := (Safe.wr W85 fk272 C271.1 fk272)
 have C277 := (C274.trans (CHr.wr W86 fk275 C274.1))
 have fk278 := (Safe.wr W86 fk275 C274.1 fk275)
 have C280 := (C277.trans (CHr.wr W88 fk278 C277.1))
 have fk281 := (Safe.wr W88 fk278 C277.1 fk278)
 have fk282 := (Safe.wr W89 fk281 C280.1 (Safe.wr W88 fk278 C277.1 (Safe.wr W86 fk275 C274.1 (Safe.wr W85 fk272 C271.1 (Safe.wr W84 fk269 C268.1 (Safe.wr W83 fk266 C265.1 (Safe.wr W81 fk263 C262.1 (Safe.wr W80 fk260 C259.1 fk258))))))))
 have C283 := (C280.trans (CHr.wr W89 fk281 C280.1))
 have fk284 := (Safe.wr W89 fk281 C280.1 fk281)
 have C286 := (C283.trans (CHr.wr W90 fk284 C283.1))
 have fk287 := (Safe.wr W90 fk284 C283.1 fk284)
 have C289 := (C286.trans (CHr.wr W91 fk287 C286.1))
 have fk290 := (Safe.wr W91 fk287 C286.1 fk287)
 have C292 := (C289.trans (CHr.wr W93 fk290 C289.1))
 have C294 := (C292.trans (CHr.ext E94 C292.1))
 have fk295 := (Safe.ext E94 C292.1 (Safe.new (Nat.le_of_eq g94.symm) : Safe Z EL0 s.vm h93 b94))
 have fk296 := (Safe.keep K159 (sfS fk295 sf0) C294.1 (Safe.ext E94 C292.1 (Safe.wr W93 fk290 C289.1 (Safe.wr W91 fk287 C286.1 (Safe.wr W90 fk284 C283.1 fk282)))))
 have fk304 := (Safe.wr W59 fk209 C208.1 (Safe.ext E52 C206.1 (Safe.keep K51 (sfS fk204 sf0) C200.1 (Safe.wr W38 fk198 C197.1 (Safe.wr W37 fk195 C194.1 (Safe.ext E28 C192.1 (Safe.ext E27 C190.1 (Safe.keep K26 (sfS fk187 sf0) C188.1 (Safe.new s26_0 : Safe Z EL0 s.vm h14 b26_0)))))))))
 have fk312 := (Safe.wr W69 fk233 C232.1 (Safe.wr W68 fk230 C229.1 (Safe.wr W66 fk227 C226.1 (Safe.wr W65 fk224 C223.1 (Safe.wr W64 fk221 C220.1 (Safe.wr W63 fk218 C217.1 (Safe.wr W61 fk215 C214.1 (Safe.wr W60 fk212 C211.1 fk304))))))))
 have fk320 := (Safe.wr W79 fk257 C256.1 (Safe.wr W78 fk254 C253.1 (Safe.wr W76 fk251 C250.1 (Safe.wr W75 fk248 C247.1 (Safe.wr W74 fk245 C244.1 (Safe.wr W73 fk242 C241.1 (Safe.wr W71 fk239 C238.1 (Safe.wr W70 fk236 C235.1 fk312))))))))
 have fk328 := (Safe.wr W89 fk281 C280.1 (Safe.wr W88 fk278 C277.1 (Safe.wr W86 fk275 C274.1 (Safe.wr W85 fk272 C271.1 (Safe.wr W84 fk269 C268.1 (Safe.wr W83 fk266 C265.1 (Safe.wr W81 fk263 C262.1 (Safe.wr W80 fk260 C259.1 fk320))))))))
 have fk333 := (Safe.keep K159 (sfS fk295 sf0) C294.1 (Safe.ext E94 C292.1 (Safe.wr W93 fk290 C289.1 (Safe.wr W91 fk287 C286.1 (Safe.wr W90 fk284 C283.1 fk328)))))
 have fk334 := ((((((((((((((((((((((((((((((((((((F26_3.ext E27).ext E28).wr W37).wr W38).keep K51).ext E52).wr W59).wr W60).wr W61).wr W63).wr W64).wr W65).wr W66).wr W68).wr W69).wr W70).wr W71).wr W73).wr W74).wr W75).wr W76).wr W78).wr W79).wr W80).wr W81).wr W83).wr W84).wr W85).wr W86).wr W88).wr W89).wr W90).wr W91).wr W93).ext E94).keep K159)
 have fk336 := (fk44.keep K51)
 have ne335 := Nat.ne_of_lt (Nat.lt_of_lt_of_le fk336.lt (Nat.le_of_eq g52.symm))
 have fk338 := (((((((((((((((((((((((((((((fk336.ext E52).wr W59).wr W60).wr W61).wr W63).wr W64).wr W65).wr W66).wr W68).wr W69).wr W70).wr W71).wr W73).wr W74).wr W75).wr W76).wr W78).wr W79).wr W80).wr W81).wr W83).wr W84).wr W85).wr W86).wr W88).wr W89).wr W90).wr W91).wr W93)
 have ne337 := Nat.ne_of_lt (Nat.lt_of_lt_of_le fk338.lt (Nat.le_of_eq g94.symm))
 have fk339 := (((((((((((((((((((((((((((((((F51_0.ext E52).other W59 (Or.inl ne335)).other W60 (Or.inl ne335)).other W61 (Or.inl ne335)).other W63 (Or.inl ne335)).other W64 (Or.inl ne335)).other W65 (Or.inl ne335)).other W66 (Or.inl ne335)).other W68 (Or.inl ne335)).other W69 (Or.inl ne335)).other W70 (Or.inl ne335)).other W71 (Or.inl ne335)).other W73 (Or.inl ne335)).other W74 (Or.inl ne335)).other W75 (Or.inl ne335)).other W76 (Or.inl ne335)).other W78 (Or.inl ne335)).other W79 (Or.inl ne335)).other W80 (Or.inl ne335)).other W81 (Or.inl ne335)).other W83 (Or.inl ne335)).other W84 (Or.inl ne335)).other W85 (Or.inl ne335)).other W86 (Or.inl ne335)).other W88 (Or.inl ne335)).other W89 (Or.inl ne335)).other W90 (Or.inl ne335)).other W91 (Or.inl ne335)).other W93 (Or.inl ne335)).ext E94).keep K159 (ninS ne337 nin0))
 have ne340 := Nat.ne_of_lt (Nat.lt_of_lt_of_le F51_2.lt (Nat.le_of_eq g52.symm))
 have fk342 := (((((((((((((((((((((((((((((F51_2.ext E52).other W59 ne340).other W60 ne340).other W61 ne340).other W63 ne340).other W64 ne340).other W65 ne340).other W66 ne340).other W68 ne340).other W69 ne340).other W70 ne340).other W71 ne340).other W73 ne340).other W74 ne340).other W75 ne340).other W76 ne340).other W78 ne340).other W79 ne340).other W80 ne340).other W81 ne340).other W83 ne340).other W84 ne340).other W85 ne340).other W86 ne340).other W88 ne340).other W89 ne340).other W90 ne340).other W91 ne340).other W93 ne340)
 have fk343 := (((((((((((((((((((((((((((((((F51_2.ext E52).other W59 ne340).other W60 ne340).other W61 ne340).other W63 ne340).other W64 ne340).other W65 ne340).other W66 ne340).other W68 ne340).other W69 ne340).other W70 ne340).other W71 ne340).other W73 ne340).other W74 ne340).other W75 ne340).other W76 ne340).other W78 ne340).other W79 ne340).other W80 ne340).other W81 ne340).other W83 ne340).other W84 ne340).other W85 ne340).other W86 ne340).other W88 ne340).other W89 ne340).other W90 ne340).other W91 ne340).other W93 ne340).ext E94).keep K159 (ninS (Nat.ne_of_lt (Nat.lt_of_lt_of_le fk342.lt (Nat.le_of_eq g94.symm))) nin0))
 have fk344 := ((fk338.ext E94).keep K159)
 have fk345 := (((((((((((((((((((((((((((((((F51_1.ext E52).other W59 (Or.inl ne335)).other W60 (Or.inl ne335)).other W61 (Or.inl ne335)).other W63 (Or.inl ne335)).other W64 (Or.inl ne335)).other W65 (Or.inl ne335)).other W66 (Or.inl ne335)).other W68 (Or.inl ne335)).other W69 (Or.inl ne335)).other W70 (Or.inl ne335)).other W71 (Or.inl ne335)).other W73 (Or.inl ne335)).other W74 (Or.inl ne335)).other W75 (Or.inl ne335)).other W76 (Or.inl ne335)).other W78 (Or.inl ne335)).other W79 (Or.inl ne335)).other W80 (Or.inl ne335)).other W81 (Or.inl ne335)).other W83 (Or.inl ne335)).other W84 (Or.inl ne335)).other W85 (Or.inl ne335)).other W86 (Or.inl ne335)).other W88 (Or.inl ne335)).other W89 (Or.inl ne335)).other W90 (Or.inl ne335)).other W91 (Or.inl ne335)).other W93 (Or.inl ne335)).ext E94).keep K159 (ninS ne337 nin0))
 have fk353 := (Safe.wr W65 fk224 C223.1 (Safe.wr W64 fk221 C220.1 (Safe.wr W63 fk218 C217.1 (Safe.wr W61 fk215 C214.1 (Safe.wr W60 fk212 C211.1 (Safe.wr W59 fk209 C208.1 (Safe.ext E52 C206.1 (Safe.keep K51 (sfS fk204 sf0) C200.1 fk204))))))))
 have fk361 := (Safe.wr W75 fk248 C247.1 (Safe.wr W74 fk245 C244.1 (Safe.wr W73 fk242 C241.1 (Safe.wr W71 fk239 C238.1 (Safe.wr W70 fk236 C235.1 (Safe.wr W69 fk233 C232.1 (Safe.wr W68 fk230 C229.1 (Safe.wr W66 fk227 C226.1 fk353))))))))
 have fk369 := (Safe.wr W85 fk272 C271.1 (Safe.wr W84 fk269 C268.1 (Safe.wr W83 fk266 C265.1 (Safe.wr W81 fk263 C262.1 (Safe.wr W80 fk260 C259.1 (Safe.wr W79 fk257 C256.1 (Safe.wr W78 fk254 C253.1 (Safe.wr W76 fk251 C250.1 fk361))))))))
 have fk377 := (Safe.keep K159 (sfS fk295 sf0) C294.1 (Safe.ext E94 C292.1 (Safe.wr W93 fk290 C289.1 (Safe.wr W91 fk287 C286.1 (Safe.wr W90 fk284 C283.1 (Safe.wr W89 fk281 C280.1 (Safe.wr W88 fk278 C277.1 (Safe.wr W86 fk275 C274.1 fk369))))))))
 have fk385 := (Safe.wr W65 fk224 C223.1 (Safe.wr W64 fk221 C220.1 (Safe.wr W63 fk218 C217.1 (Safe.wr W61 fk215 C214.1 (Safe.wr W60 fk212 C211.1 (Safe.wr W59 fk209 C208.1 (Safe.ext E52 C206.1 (Safe.keep K51 (sfS fk204 sf0) C200.1 (Safe.new s51_0 : Safe Z EL0 s.vm h38 b51_0)))))))))
 have fk393 := (Safe.wr W75 fk248 C247.1 (Safe.wr W74 fk245 C244.1 (Safe.wr W73 fk242 C241.1 (Safe.wr W71 fk239 C238.1 (Safe.wr W70 fk236 C235.1 (Safe.wr W69 fk233 C232.1 (Safe.wr W68 fk230 C229.1 (Safe.wr W66 fk227 C226.1 fk385))))))))
 have fk401 := (Safe.wr W85 fk272 C271.1 (Safe.wr W84 fk269 C268.1 (Safe.wr W83 fk266 C265.1 (Safe.wr W81 fk263 C262.1 (Safe.wr W80 fk260 C259.1 (Safe.wr W79 fk257 C256.1 (Safe.wr W78 fk254 C253.1 (Safe.wr W76 fk251 C250.1 fk393))))))))
 have fk409 := (Safe.keep K159 (sfS fk295 sf0) C294.1 (Safe.ext E94 C292.1 (Safe.wr W93 fk290 C289.1 (Safe.wr W91 fk287 C286.1 (Safe.wr W90 fk284 C283.1 (Safe.wr W89 fk281 C280.1 (Safe.wr W88 fk278 C277.1 (Safe.wr W86 fk275 C274.1 fk401))))))))
 have fk410 := (((((((((((((((((((((((((((((((F51_3.ext E52).wr W59).wr W60).wr W61).wr W63).wr W64).wr W65).wr W66).wr W68).wr W69).wr W70).wr W71).wr W73).wr W74).wr W75).wr W76).wr W78).wr W79).wr W80).wr W81).wr W83).wr W84).wr W85).wr W86).wr W88).wr W89).wr W90).wr W91).wr W93).ext E94).keep K159)
 have fk411 := (A94.keep K159)
 have fk412 := (Safe.keep K159 (sfS fk295 sf0) C294.1 fk295)
 have fk413 := (Safe.keep K159 (sfS fk295 sf0) C294.1 (Safe.new s159_0 : Safe Z EL0 s.vm h94 b159_0))
 have O414 := (O125.keep K159 (allS ge128 all0))
 have Kp416 := ((Kp158.ext E94).trans K159 (allS (Or.inr sz129) all0))
 have C417 := (C294.trans (CHr.keep K159 (sfS fk295 sf0) C294.1))
 have hk418 := (Nat.le_trans (Nat.le_trans (Nat.le_trans (Nat.le_trans (Nat.le_trans (Nat.le_trans (Nat.le_trans (Nat.le_trans (Nat.le_trans (Nat.le_trans (Nat.le_trans (Nat.le_trans (Nat.le_trans (Nat.le_trans (Nat.le_trans (Nat.le_trans (Nat.le_trans (Nat.le_trans (Nat.le_trans (Nat.le_trans (Nat.le_trans (Nat.le_trans (Nat.le_trans (Nat.le_trans (Nat.le_trans (Nat.le_trans (Nat.le_trans (Nat.le_trans (Nat.le_trans (Nat.le_trans (Nat.le_trans (Nat.le_trans (Nat.le_trans (Nat.le_trans (Nat.le_trans (Nat.le_trans (Nat.le_trans (Nat.le_trans (Nat.le_trans (Nat.le_trans (Nat.le_trans (Nat.le_refl _) E7.1) E8.1) (Keep.of_wr W13).1) (Keep.of_wr W14).1) K26.1) E27.1) E28.1) (Keep.of_wr W37).1) (Keep.of_wr W38).1) K51.1) E52.1) (Keep.of_wr W59).1) (Keep.of_wr W60).1) (Keep.of_wr W61).1) (Keep.of_wr W63).1) (Keep.of_wr W64).1) (Keep.of_wr W65).1) (Keep.of_wr W66).1) (Keep.of_wr W68).1) (Keep.of_wr W69).1) (Keep.of_wr W70).1) (Keep.of_wr W71).1) (Keep.of_wr W73).1) (Keep.of_wr W74).1) (Keep.of_wr W75).1) (Keep.of_wr W76).1) (Keep.of_wr W78).1) (Keep.of_wr W79).1) (Keep.of_wr W80).1) (Keep.of_wr W81).1) (Keep.of_wr W83).1) (Keep.of_wr W84).1) (Keep.of_wr W85).1) (Keep.of_wr W86).1) (Keep.of_wr W88).1) (Keep.of_wr W89).1) (Keep.of_wr W90).1) (Keep.of_wr W91).1) (Keep.of_wr W93).1) E94.1) K159.1)
 have Zn419 := Nat.le_trans Z0 Kp416.1
 rcases c26_0 with ⟨al420, rfl, rfl, rfl⟩ | ⟨al420, rfl, rfl, rfl⟩
 have r421 : 0 ≤ z1.toInt ∧ z1.toInt ≤ 255 := own_ltA_r al420 (mG 0 rfl) r12 (by decide)
 have r422 : 0 ≤ z2.toInt ∧ z2.toInt ≤ 255 := own_ltA_r al420 (mG 1 rfl) r3 (by decide)
 rcases c51_0 with ⟨al423, rfl, rfl, rfl⟩ | ⟨al423, rfl, rfl, rfl⟩
 have r424 : 0 ≤ z4.toInt ∧ z4.toInt ≤ 255 := own_ltA_r al423 (mG 0 rfl) r36 (by decide)
 have r425 : 0 ≤ z5.toInt ∧ z5.toInt ≤ 255 := own_ltA_r al423 (mG 1 rfl) r6 (by decide)
 obtain ⟨rfl, rfl, rfl⟩ := own_str_t c159_0 (own_ltA_c (own_rlit (n := 116) (by decide)) (by decide) (own_ltA_c (own_rlit (n := 104) (by decide)) (by decide) (own_ltA_c (own_rlit (n := 101) (by decide)) (by decide) (own_ltA_c (own_rlit (n := 32) (by decide)) (by decide) (own_ltA_c r421 (by decide) (own_ltA_c r422 (by decide) (own_ltA_c (own_rlit (n := 32) (by decide)) (by decide) (own_ltA_c (own_rlit (n := 39) (by decide)) (by decide) (own_ltA_c r424 (by decide) (own_ltA_c r425 (by decide) (own_ltA_c (own_rlit (n := 39) (by decide)) (by decide) (own_ltA_c (own_rlit (n := 32) (by decide)) (by decide) (own_ltA_c (own_rlit (n := 105) (by decide)) (by decide) (own_ltA_c (own_rlit (n := 115) (by decide)) (by decide) (own_ltA_c (own_rlit (n := 32) (by decide)) (by decide) (own_ltA_c (own_rlit (n := 97) (by decide)) (by decide) (own_ltA_c (own_rlit (n := 108) (by decide)) (by decide) (own_ltA_c (own_rlit (n := 114) (by decide)) (by decide) (own_ltA_c (own_rlit (n := 101) (by decide)) (by decide) (own_ltA_c (own_rlit (n := 97) (by decide)) (by decide) (own_ltA_c (own_rlit (n := 100) (by decide)) (by decide) (own_ltA_c (own_rlit (n := 121) (by decide)) (by decide) (own_ltA_c (own_rlit (n := 32) (by decide)) (by decide) (own_ltA_c (own_rlit (n := 116) (by decide)) (by decide) (own_ltA_c (own_rlit (n := 97) (by decide)) (by decide) (own_ltA_c (own_rlit (n := 107) (by decide)) (by decide) (own_ltA_c (own_rlit (n := 101) (by decide)) (by decide) (own_ltA_c (own_rlit (n := 110) (by decide)) (by decide) own_ltA_0))))))))))))))))))))))))))))
 obtain ⟨z427, hz427⟩ : ∃ y, (z1.toInt8.toInt32) = y := ⟨_, rfl⟩
 obtain ⟨z428, hz428⟩ : ∃ y, (z2.toInt8.toInt32) = y := ⟨_, rfl⟩
 have E426 : ([z1, z2] : List Int32).map own_vb = [.int z427, .int z428] := (List.append_nil _).symm.trans (own_mca hz427 (own_mca hz428 rfl))
 have U426 : Arv Z h159 b26_0 k26_0 .byte (2 : Int32) [.int z427, .int z428] (.int 0) := by rw [← E426]; exact fk176
 obtain ⟨z430, hz430⟩ : ∃ y, (z4.toInt8.toInt32) = y := ⟨_, rfl⟩
 obtain ⟨z431, hz431⟩ : ∃ y, (z5.toInt8.toInt32) = y := ⟨_, rfl⟩
 have E429 : ([z4, z5] : List Int32).map own_vb = [.int z430, .int z431] := (List.append_nil _).symm.trans (own_mca hz430 (own_mca hz431 rfl))
 have U429 : Arv Z h159 b51_0 k51_0 .byte (2 : Int32) [.int z430, .int z431] (.int 0) := by rw [← E429]; exact fk343
 have E432 : ((LL0 z1 z2 z4 z5) : List Int32).map own_vb = (LL7 z427 z428 z430 z431) := (List.append_nil _).symm.trans (own_mca (by decide) (own_mca (by decide) (own_mca (by decide) (own_mca (by decide) (own_mca hz427 (own_mca hz428 (own_mca (by decide) (own_mca (by decide) (own_mca hz430 (own_mca hz431 (own_mca (by decide) (own_mca (by decide) (own_mca (by decide) (own_mca (by decide) (own_mca (by decide) (own_mca (by decide) (own_mca (by decide) (own_mca (by decide) (own_mca (by decide) (own_mca (by decide) (own_mca (by decide) (own_mca (by decide) (own_mca (by decide) (own_mca (by decide) (own_mca (by decide) (own_mca (by decide) (own_mca (by decide) (own_mca (by decide) rfl))))))))))))))))))))))))))))
 have U432 : Arv Z h159 b159_0 k159_0 .byte (28 : Int32) (LL7 z427 z428 z430 z431) (.int 0) := by rw [← E432]; exact F159_2
 refine Go.aload X159 hx 241 rfl (hb hby at_239) rfl rfl ?_
 refine Go.aload X159 hx 243 rfl (hb hby at_241) rfl rfl ?_
 have r433 : -128 ≤ z427.toInt ∧ z427.toInt ≤ 127 := own_ri2b hz427
 have r434 : -128 ≤ z428.toInt ∧ z428.toInt ≤ 127 := own_ri2b hz428
 have r435 : -128 ≤ z430.toInt ∧ z430.toInt ≤ 127 := own_ri2b hz430
 have r436 : -128 ≤ z431.toInt ∧ z431.toInt ≤ 127 := own_ri2b hz431
 refine Go.callSW X159 hx hZ hown (tw_30 hw) (tw_31 hw) (tw_32 hw) (tw_33 hw) (by decide) (tw_33 hw) (tw_32 hw) (au_18 hw O414 G fk177 fk168 fk178 fk344 fk339 fk345 U426 U429) hKN (own_EW hw) C417.1 all0 hS0 hk418 e159 (argsL := [.ref b7, .ref b27]) (rest := []) 246 rfl (hml ▸ rfl) (lenOf pd_29 rfl) rfl rfl (W := 0) (nE rfl) (by decide) (hb hby at_243) ?_
 intro v437 T437 L437 h437 e437 q437 C437 S437 Z437 O437 X437
 obtain ⟨b437_0, b437_1, b437_2, b437_3, b437_4, k437_0, k437_1, rfl, N437, K437, s437_0, s437_2, s437_4, n437_0, n437_1, n437_2, y437_0, y437_1, y437_2, F437_0, F437_1, F437_2, F437_3, F437_4, F437_5, F437_6, F437_7, F437_8, F437_9, F437_10, F437_11, F437_12, F437_13⟩ := q437
 show Go _ _ _ _ (T437.setTop (mkF m 246 #[vI p0, vI p1, vI z1, vI z2, vI z4, vI z5, vR b7, vR b27, vR b52, vR b94, uS] [.ref b437_0]))
 refine Go.astore X437 hx 248 rfl (hb hby at_246) (Ls' := #[vI p0, vI p1, vI z1, vI z2, vI z4, vI z5, vR b7, vR b27, vR b52, vR b94, vR b437_0]) rfl rfl ?_
 refine Go.aload X437 hx 250 rfl (hb hby at_248) rfl rfl ?_
 refine Go.ifnonnullYes X437 hx 255 (hb hby at_250) (by decide) (by decide) ?_
 have C438 := (C417.trans C437)
 refine Go.ldcCH X437 hx Z437 O437 (tw_223 hw) (own_SA hw) e437 S437 (Nat.le_refl _) (own_EW hw) (mG 4 rfl) C438.1 (vs := [(.int (110 : Int32)), (.int (97 : Int32)), (.int (109 : Int32)), (.int (101 : Int32)), (.int (95 : Int32)), (.int (116 : Int32)), (.int (97 : Int32)), (.int (107 : Int32)), (.int (101 : Int32)), (.int (110 : Int32))]) (z := (10 : Int32)) (by decide) (by decide) rfl (n := 40) (by decide) (by decide) (by decide) (by decide) 257 rfl (hb hby at_255) ?_
 intro a439 T439 h439 j439 b439 k439 e439 E439 S439 i439 Z439 O439 A439 F439 G439 V439 C439 D439 X439
 refine Go.aload X439 hx 259 rfl (hb hby at_257) rfl rfl ?_
 have Zn440 := Nat.le_trans Z0 ((Kp416.trans K437 all0).ext E439).1
 have fk444 := (F437_0.ext E439)
 refine Go.callV X439 hx Z439 O439 (tw_224 hw) (tw_225 hw) (nF (mvT Z439 (tw_227 hw))) (tw_227 hw) (tw_226 hw) (by decide) (tw_228 hw) (tw_36 hw) (au_78 hw Zn440 (F437_1.ext E439)) e439 fk444 (argsL := []) (rest := [.ref a439]) 262 rfl (hml ▸ rfl) (lenOf pd_27 rfl) rfl rfl (W := 1) (nE rfl) (by decide) (hb hby at_259) ?_
 intro v445 T445 L445 q445 X445
 obtain ⟨rfl, N445, e445⟩ := q445
 show Go _ _ _ _ (T445.setTop (mkF m 262 #[vI p0, vI p1, vI z1, vI z2, vI z4, vI z5, vR b7, vR b27, vR b52, vR b94, vR b437_0] [.ref b437_1, .ref a439]))
 by_cases hsame : a439 = b437_1
 subst hsame
 refine Go.callV X445 hx Z439 O439 (tw_229 hw) (tw_230 hw) (nF (mvT Z439 (tw_232 hw))) (tw_232 hw) (tw_231 hw) (by decide) (tw_233 hw) (tw_2 hw) (au_79 hw a439 Zn440) e445 A439 (argsL := [.ref a439]) (rest := []) 265 rfl (hml ▸ rfl) (lenOf pd_30 rfl) rfl rfl (W := 0) (nE rfl) (by decide) (hb hby at_262) ?_
 intro v446 T446 L446 q446 X446
 obtain ⟨rfl, N446, e446⟩ := q446
 show Go _ _ _ _ (T446.setTop (mkF m 265 #[vI p0, vI p1, vI z1, vI z2, vI z4, vI z5, vR b7, vR b27, vR b52, vR b94, vR b437_0] [.int 1]))
 refine Go.ifNo X446 hx 268 rfl (hb hby at_265) (by decide) ?_
 refine Go.aload X446 hx 270 rfl (hb hby at_268) rfl rfl ?_
 refine Go.aload X446 hx 272 rfl (hb hby at_270) rfl rfl ?_
 refine Go.callU X446 hx Z439 O439 (tw_234 hw) (tw_235 hw) (tw_236 hw) (tw_238 hw) (tw_237 hw) (by decide) (tw_239 hw) (tw_182 hw) (au_80 hw Zn440 (F437_3.ext E439)) e446 fk444 (argsL := []) (rest := [.ref b94]) 275 rfl (hml ▸ rfl) (lenOf pd_27 rfl) rfl rfl (W := 1) (nE rfl) (by decide) (hb hby at_272) ?_
 intro v448 T448 L448 q448 X448
 obtain ⟨rfl, N448, e448⟩ := q448
 show Go _ _ _ _ (T448.setTop (mkF m 275 #[vI p0, vI p1, vI z1, vI z2, vI z4, vI z5, vR b7, vR b27, vR b52, vR b94, vR b437_0] [.ref b437_2, .ref b94]))
 refine Go.callV X448 hx Z439 O439 (tw_229 hw) (tw_230 hw) (nF (mvT Z439 (tw_232 hw))) (tw_232 hw) (tw_231 hw) (by decide) (tw_233 hw) (tw_2 hw) (au_81 hw ((O414.keep K437 all0).ext E439) G ((F159_0.keep K437 nin0).ext E439) ((F159_1.keep K437 nin0).ext E439) (F437_8.ext E439) (F437_9.ext E439) (F437_10.ext E439) ((U432.keep K437 nin0).ext E439) (F437_12.ext E439) (Nat.ne_of_lt (Nat.lt_of_lt_of_le fk411.lt s437_2))) e448 ((fk411.keep K437).ext E439) (argsL := [.ref b437_2]) (rest := []) 278 rfl (hml ▸ rfl) (lenOf pd_30 rfl) rfl rfl (W := 0) (nE rfl) (by decide) (hb hby at_275) ?_
 intro v460 T460 L460 q460 X460
 obtain ⟨rfl, N460, e460⟩ := q460
 show Go _ _ _ _ (T460.setTop (mkF m 278 #[vI p0, vI p1, vI z1, vI z2, vI z4, vI z5, vR b7, vR b27, vR b52, vR b94, vR b437_0] [.int 1]))
 refine Go.ifNo X460 hx 281 rfl (hb hby at_278) (by decide) ?_
 refine Go.iconst X460 hx 282 rfl (hb hby at_281) (v := (1 : Int32)) rfl ?_
 refine Go.goto X460 hx 286 (hb hby at_282) (by decide) (by decide) ?_
 refine Go.retNW X460 hx hlk Z439 (own_EW hw) e460 S439 i439 (C438.trans C439) (t := .boolean) hret (by simp) (hb hby at_286) (by decide) (by decide) (fun hat => ?_)
 exact ⟨rfl, (Fr.app (Fr.app (Fr.app (Fr.app (Fr.app (Fr.app N93 N159) N437) N445) N446) N448) N460)⟩
 have O463 := ((O414.keep K437 all0).ext E439)
 refine Go.callV X445 hx Z439 O439 (tw_229 hw) (tw_230 hw) (nF (mvT Z439 (tw_232 hw))) (tw_232 hw) (tw_231 hw) (by decide) (tw_233 hw) (tw_2 hw) (au_82 hw O463 G F439 G439 (F437_5.ext E439) (F437_6.ext E439) (F437_7.ext E439) V439 (F437_11.ext E439) hsame) e445 A439 (argsL := [.ref b437_1]) (rest := []) 265 rfl (hml ▸ rfl) (lenOf pd_30 rfl) rfl rfl (W := 0) (nE rfl) (by decide) (hb hby at_262) ?_
 intro v468 T468 L468 q468 X468
 obtain ⟨rfl, N468, e468⟩ := q468
 show Go _ _ _ _ (T468.setTop (mkF m 265 #[vI p0, vI p1, vI z1, vI z2, vI z4, vI z5, vR b7, vR b27, vR b52, vR b94, vR b437_0] [.int 1]))
 refine Go.ifNo X468 hx 268 rfl (hb hby at_265) (by decide) ?_
 refine Go.aload X468 hx 270 rfl (hb hby at_268) rfl rfl ?_
 refine Go.aload X468 hx 272 rfl (hb hby at_270) rfl rfl ?_
 refine Go.callU X468 hx Z439 O439 (tw_234 hw) (tw_235 hw) (tw_236 hw) (tw_238 hw) (tw_237 hw) (by decide) (tw_239 hw) (tw_182 hw) (au_80 hw Zn440 (F437_3.ext E439)) e468 fk444 (argsL := []) (rest := [.ref b94]) 275 rfl (hml ▸ rfl) (lenOf pd_27 rfl) rfl rfl (W := 1) (nE rfl) (by decide) (hb hby at_272) ?_
 intro v470 T470 L470 q470 X470
 obtain ⟨rfl, N470, e470⟩ := q470
 show Go _ _ _ _ (T470.setTop (mkF m 275 #[vI p0, vI p1, vI z1, vI z2, vI z4, vI z5, vR b7, vR b27, vR b52, vR b94, vR b437_0] [.ref b437_2, .ref b94]))
 refine Go.callV X470 hx Z439 O439 (tw_229 hw) (tw_230 hw) (nF (mvT Z439 (tw_232 hw))) (tw_232 hw) (tw_231 hw) (by decide) (tw_233 hw) (tw_2 hw) (au_81 hw O463 G ((F159_0.keep K437 nin0).ext E439) ((F159_1.keep K437 nin0).ext E439) (F437_8.ext E439) (F437_9.ext E439) (F437_10.ext E439) ((U432.keep K437 nin0).ext E439) (F437_12.ext E439) (Nat.ne_of_lt (Nat.lt_of_lt_of_le fk411.lt s437_2))) e470 ((fk411.keep K437).ext E439) (argsL := [.ref b437_2]) (rest := []) 278 rfl (hml ▸ rfl) (lenOf pd_30 rfl) rfl rfl (W := 0) (nE rfl) (by decide) (hb hby at_275) ?_
 intro v480 T480 L480 q480 X480
 obtain ⟨rfl, N480, e480⟩ := q480
 show Go _ _ _ _ (T480.setTop (mkF m 278 #[vI p0, vI p1, vI z1, vI z2, vI z4, vI z5, vR b7, vR b27, vR b52, vR b94, vR b437_0] [.int 1]))
 refine Go.ifNo X480 hx 281 rfl (hb hby at_278) (by decide) ?_
 refine Go.iconst X480 hx 282 rfl (hb hby at_281) (v := (1 : Int32)) rfl ?_
 refine Go.goto X480 hx 286 (hb hby at_282) (by decide) (by decide) ?_
 refine Go.retNW X480 hx hlk Z439 (own_EW hw) e480 S439 i439 (C438.trans C439) (t := .boolean) hret (by simp) (hb hby at_286) (by decide) (by decide) (fun hat => ?_)
 exact ⟨rfl, (Fr.app (Fr.app (Fr.app (Fr.app (Fr.app (Fr.app N93 N159) N437) N445) N468) N470) N480)⟩
 obtain ⟨rfl, rfl, rfl⟩ := own_str_f c159_0 (fun z => al423 (own_ltA_2 (mG 8 rfl) (mG 9 rfl) z))
 obtain ⟨z483, hz483⟩ : ∃ y, (z1.toInt8.toInt32) = y := ⟨_, rfl⟩
 obtain ⟨z484, hz484⟩ : ∃ y, (z2.toInt8.toInt32) = y := ⟨_, rfl⟩
 have E482 : ([z1, z2] : List Int32).map own_vb = [.int z483, .int z484] := (List.append_nil _).symm.trans (own_mca hz483 (own_mca hz484 rfl))
 have U482 : Arv Z h159 b26_0 k26_0 .byte (2 : Int32) [.int z483, .int z484] (.int 0) := by rw [← E482]; exact fk176
 obtain ⟨z486, hz486⟩ : ∃ y, (z4.toInt8.toInt32) = y := ⟨_, rfl⟩
 obtain ⟨z487, hz487⟩ : ∃ y, (own_hi z4) = y := ⟨_, rfl⟩
 obtain ⟨z488, hz488⟩ : ∃ y, (z5.toInt8.toInt32) = y := ⟨_, rfl⟩
 obtain ⟨z489, hz489⟩ : ∃ y, (own_hi z5) = y := ⟨_, rfl⟩
 have E485 : own_u16 [z4, z5] = [.int z486, .int z487, .int z488, .int z489] := (List.append_nil _).symm.trans (own_uc hz486 hz487 (own_uc hz488 hz489 rfl))
 have U485 : Arv Z h159 b51_0 k51_0 .byte (4 : Int32) [.int z486, .int z487, .int z488, .int z489] (.int 0) := by rw [← E485]; exact fk343
 have E490 : own_u16 (LL0 z1 z2 z4 z5) = (LL29 z483 z484 z486 z487 z488 z489) := (List.append_nil _).symm.trans (own_uc (by decide) (by decide) (own_uc (by decide) (by decide) (own_uc (by decide) (by decide) (own_uc (by decide) (by decide) (own_uc hz483 (own_hi0 r421 (by decide) (by decide)) (own_uc hz484 (own_hi0 r422 (by decide) (by decide)) (own_uc (by decide) (by decide) (own_uc (by decide) (by decide) (own_uc hz486 hz487 (own_uc hz488 hz489 (own_uc (by decide) (by decide) (own_uc (by decide) (by decide) (own_uc (by decide) (by decide) (own_uc (by decide) (by decide) (own_uc (by decide) (by decide) (own_uc (by decide) (by decide) (own_uc (by decide) (by decide) (own_uc (by decide) (by decide) (own_uc (by decide) (by decide) (own_uc (by decide) (by decide) (own_uc (by decide) (by decide) (own_uc (by decide) (by decide) (own_uc (by decide) (by decide) (own_uc (by decide) (by decide) (own_uc (by decide) (by decide) (own_uc (by decide) (by decide) (own_uc (by decide) (by decide) (own_uc (by decide) (by decide) rfl))))))))))))))))))))))))))))
 have U490 : Arv Z h159 b159_0 k159_0 .byte (56 : Int32) (LL29 z483 z484 z486 z487 z488 z489) (.int 0) := by rw [← E490]; exact F159_2
 refine Go.aload X159 hx 241 rfl (hb hby at_239) rfl rfl ?_
 refine Go.aload X159 hx 243 rfl (hb hby at_241) rfl rfl ?_
 have r491 : -128 ≤ z483.toInt ∧ z483.toInt ≤ 127 := own_ri2b hz483
 have r492 : -128 ≤ z484.toInt ∧ z484.toInt ≤ 127 := own_ri2b hz484
 have r493 : -128 ≤ z486.toInt ∧ z486.toInt ≤ 127 := own_ri2b hz486
 have r494 : -128 ≤ z487.toInt ∧ z487.toInt ≤ 127 := own_rhi hz487
 have r495 : -128 ≤ z488.toInt ∧ z488.toInt ≤ 127 := own_ri2b hz488
 have r496 : -128 ≤ z489.toInt ∧ z489.toInt ≤ 127 := own_rhi hz489
 refine Go.callSW X159 hx hZ hown (tw_30 hw) (tw_31 hw) (tw_32 hw) (tw_33 hw) (by decide) (tw_33 hw) (tw_32 hw) (au_84 hw O414 G fk177 fk168 fk178 fk344 fk339 fk345 U482 U485 r421 r422 hz483 hz484) hKN (own_EW hw) C417.1 all0 hS0 hk418 e159 (argsL := [.ref b7, .ref b27]) (rest := []) 246 rfl (hml ▸ rfl) (lenOf pd_29 rfl) rfl rfl (W := 0) (nE rfl) (by decide) (hb hby at_243) ?_
 intro v497 T497 L497 h497 e497 q497 C497 S497 Z497 O497 X497
 obtain ⟨b497_0, b497_1, b497_2, b497_3, b497_4, k497_0, k497_1, rfl, N497, K497, s497_0, s497_2, s497_4, n497_0, n497_1, n497_2, y497_0, y497_1, y497_2, F497_0, F497_1, F497_2, F497_3, F497_4, F497_5, F497_6, F497_7, F497_8, F497_9, F497_10, F497_11, F497_12, F497_13⟩ := q497
 show Go _ _ _ _ (T497.setTop (mkF m 246 #[vI p0, vI p1, vI z1, vI z2, vI z4, vI z5, vR b7, vR b27, vR b52, vR b94, uS] [.ref b497_0]))
 refine Go.astore X497 hx 248 rfl (hb hby at_246) (Ls' := #[vI p0, vI p1, vI z1, vI z2, vI z4, vI z5, vR b7, vR b27, vR b52, vR b94, vR b497_0]) rfl rfl ?_
 refine Go.aload X497 hx 250 rfl (hb hby at_248) rfl rfl ?_
 refine Go.ifnonnullYes X497 hx 255 (hb hby at_250) (by decide) (by decide) ?_
 have C498 := (C417.trans C497)
 refine Go.ldcCH X497 hx Z497 O497 (tw_223 hw) (own_SA hw) e497 S497 (Nat.le_refl _) (own_EW hw) (mG 4 rfl) C498.1 (vs := [(.int (110 : Int32)), (.int (97 : Int32)), (.int (109 : Int32)), (.int (101 : Int32)), (.int (95 : Int32)), (.int (116 : Int32)), (.int (97 : Int32)), (.int (107 : Int32)), (.int (101 : Int32)), (.int (110 : Int32))]) (z := (10 : Int32)) (by decide) (by decide) rfl (n := 40) (by decide) (by decide) (by decide) (by decide) 257 rfl (hb hby at_255) ?_
 intro a499 T499 h499 j499 b499 k499 e499 E499 S499 i499 Z499 O499 A499 F499 G499 V499 C499 D499 X499
 refine Go.aload X499 hx 259 rfl (hb hby at_257) rfl rfl ?_
 have Zn500 := Nat.le_trans Z0 ((Kp416.trans K497 all0).ext E499).1
 have fk504 := (F497_0.ext E499)
 refine Go.callV X499 hx Z499 O499 (tw_224 hw) (tw_225 hw) (nF (mvT Z499 (tw_227 hw))) (tw_227 hw) (tw_226 hw) (by decide) (tw_228 hw) (tw_36 hw) (au_78 hw Zn500 (F497_1.ext E499)) e499 fk504 (argsL := []) (rest := [.ref a499]) 262 rfl (hml ▸ rfl) (lenOf pd_27 rfl) rfl rfl (W := 1) (nE rfl) (by decide) (hb hby at_259) ?_
 intro v505 T505 L505 q505 X505
 obtain ⟨rfl, N505, e505⟩ := q505
 show Go _ _ _ _ (T505.setTop (mkF m 262 #[vI p0, vI p1, vI z1, vI z2, vI z4, vI z5, vR b7, vR b27, vR b52, vR b94, vR b497_0] [.ref b497_1, .ref a499]))
 by_cases hsame : a499 = b497_1
 subst hsame
 refine Go.callV X505 hx Z499 O499 (tw_229 hw) (tw_230 hw) (nF (mvT Z499 (tw_232 hw))) (tw_232 hw) (tw_231 hw) (by decide) (tw_233 hw) (tw_2 hw) (au_79 hw a499 Zn500) e505 A499 (argsL := [.ref a499]) (rest := []) 265 rfl (hml ▸ rfl) (lenOf pd_30 rfl) rfl rfl (W := 0) (nE rfl) (by decide) (hb hby at_262) ?_
 intro v506 T506 L506 q506 X506
 obtain ⟨rfl, N506, e506⟩ := q506
 show Go _ _ _ _ (T506.setTop (mkF m 265 #[vI p0, vI p1, vI z1, vI z2, vI z4, vI z5, vR b7, vR b27, vR b52, vR b94, vR b497_0] [.int 1]))
 refine Go.ifNo X506 hx 268 rfl (hb hby at_265) (by decide) ?_
 refine Go.aload X506 hx 270 rfl (hb hby at_268) rfl rfl ?_
 refine Go.aload X506 hx 272 rfl (hb hby at_270) rfl rfl ?_
 refine Go.callU X506 hx Z499 O499 (tw_234 hw) (tw_235 hw) (tw_236 hw) (tw_238 hw) (tw_237 hw) (by decide) (tw_239 hw) (tw_182 hw) (au_80 hw Zn500 (F497_3.ext E499)) e506 fk504 (argsL := []) (rest := [.ref b94]) 275 rfl (hml ▸ rfl) (lenOf pd_27 rfl) rfl rfl (W := 1) (nE rfl) (by decide) (hb hby at_272) ?_
 intro v508 T508 L508 q508 X508
 obtain ⟨rfl, N508, e508⟩ := q508
 show Go _ _ _ _ (T508.setTop (mkF m 275 #[vI p0, vI p1, vI z1, vI z2, vI z4, vI z5, vR b7, vR b27, vR b52, vR b94, vR b497_0] [.ref b497_2, .ref b94]))
 refine Go.callV X508 hx Z499 O499 (tw_229 hw) (tw_230 hw) (nF (mvT Z499 (tw_232 hw))) (tw_232 hw) (tw_231 hw) (by decide) (tw_233 hw) (tw_2 hw) (au_132 hw ((O414.keep K497 all0).ext E499) G ((F159_0.keep K497 nin0).ext E499) ((F159_1.keep K497 nin0).ext E499) (F497_8.ext E499) (F497_9.ext E499) (F497_10.ext E499) ((U490.keep K497 nin0).ext E499) (F497_12.ext E499) (Nat.ne_of_lt (Nat.lt_of_lt_of_le fk411.lt s497_2))) e508 ((fk411.keep K497).ext E499) (argsL := [.ref b497_2]) (rest := []) 278 rfl (hml ▸ rfl) (lenOf pd_30 rfl) rfl rfl (W := 0) (nE rfl) (by decide) (hb hby at_275) ?_
 intro v520 T520 L520 q520 X520
 obtain ⟨rfl, N520, e520⟩ := q520
 show Go _ _ _ _ (T520.setTop (mkF m 278 #[vI p0, vI p1, vI z1, vI z2, vI z4, vI z5, vR b7, vR b27, vR b52, vR b94, vR b497_0] [.int 1]))
 refine Go.ifNo X520 hx 281 rfl (hb hby at_278) (by decide) ?_
 refine Go.iconst X520 hx 282 rfl (hb hby at_281) (v := (1 : Int32)) rfl ?_
 refine Go.goto X520 hx 286 (hb hby at_282) (by decide) (by decide) ?_
 refine Go.retNW X520 hx hlk Z499 (own_EW hw) e520 S499 i499 (C498.trans C499) (t := .boolean) hret (by simp) (hb hby at_286) (by decide) (by decide) (fun hat => ?_)
 exact ⟨rfl, (Fr.app (Fr.app (Fr.app (Fr.app (Fr.app (Fr.app N93 N159) N497) N505) N506) N508) N520)⟩
 have O523 := ((O414.keep K497 all0).ext E499)
 refine Go.callV X505 hx Z499 O499 (tw_229 hw) (tw_230 hw) (nF (mvT Z499 (tw_232 hw))) (tw_232 hw) (tw_231 hw) (by decide) (tw_233 hw) (tw_2 hw) (au_82 hw O523 G F499 G499 (F497_5.ext E499) (F497_6.ext E499) (F497_7.ext E499) V499 (F497_11.ext E499) hsame) e505 A499 (argsL := [.ref b497_1]) (rest := []) 265 rfl (hml ▸ rfl) (lenOf pd_30 rfl) rfl rfl (W := 0) (nE rfl) (by decide) (hb hby at_262) ?_
 intro v528 T528 L528 q528 X528
 obtain ⟨rfl, N528, e528⟩ := q528
 show Go _ _ _ _ (T528.setTop (mkF m 265 #[vI p0, vI p1, vI z1, vI z2, vI z4, vI z5, vR b7, vR b27, vR b52, vR b94, vR b497_0] [.int 1]))
 refine Go.ifNo X528 hx 268 rfl (hb hby at_265) (by decide) ?_
 refine Go.aload X528 hx 270 rfl (hb hby at_268) rfl rfl ?_
 refine Go.aload X528 hx 272 rfl (hb hby at_270) rfl rfl ?_
 refine Go.callU X528 hx Z499 O499 (tw_234 hw) (tw_235 hw) (tw_236 hw) (tw_238 hw) (tw_237 hw) (by decide) (tw_239 hw) (tw_182 hw) (au_80 hw Zn500 (F497_3.ext E499)) e528 fk504 (argsL := []) (rest := [.ref b94]) 275 rfl (hml ▸ rfl) (lenOf pd_27 rfl) rfl rfl (W := 1) (nE rfl) (by decide) (hb hby at_272) ?_
 intro v530 T530 L530 q530 X530
 obtain ⟨rfl, N530, e530⟩ := q530
 show Go _ _ _ _ (T530.setTop (mkF m 275 #[vI p0, vI p1, vI z1, vI z2, vI z4, vI z5, vR b7, vR b27, vR b52, vR b94, vR b497_0] [.ref b497_2, .ref b94]))
 refine Go.callV X530 hx Z499 O499 (tw_229 hw) (tw_230 hw) (nF (mvT Z499 (tw_232 hw))) (tw_232 hw) (tw_231 hw) (by decide) (tw_233 hw) (tw_2 hw) (au_132 hw O523 G ((F159_0.keep K497 nin0).ext E499) ((F159_1.keep K497 nin0).ext E499) (F497_8.ext E499) (F497_9.ext E499) (F497_10.ext E499) ((U490.keep K497 nin0).ext E499) (F497_12.ext E499) (Nat.ne_of_lt (Nat.lt_of_lt_of_le fk411.lt s497_2))) e530 ((fk411.keep K497).ext E499) (argsL := [.ref b497_2]) (rest := []) 278 rfl (hml ▸ rfl) (lenOf pd_30 rfl) rfl rfl (W := 0) (nE rfl) (by decide) (hb hby at_275) ?_
 intro v540 T540 L540 q540 X540
 obtain ⟨rfl, N540, e540⟩ := q540
 show Go _ _ _ _ (T540.setTop (mkF m 278 #[vI p0, vI p1, vI z1, vI z2, vI z4, vI z5, vR b7, vR b27, vR b52, vR b94, vR b497_0] [.int 1]))
 refine Go.ifNo X540 hx 281 rfl (hb hby at_278) (by decide) ?_
 refine Go.iconst X540 hx 282 rfl (hb hby at_281) (v := (1 : Int32)) rfl ?_
 refine Go.goto X540 hx 286 (hb hby at_282) (by decide) (by decide) ?_
 refine Go.retNW X540 hx hlk Z499 (own_EW hw) e540 S499 i499 (C498.trans C499) (t := .boolean) hret (by simp) (hb hby at_286) (by decide) (by decide) (fun hat => ?_)
 exact ⟨rfl, (Fr.app (Fr.app (Fr.app (Fr.app (Fr.app (Fr.app N93 N159) N497) N505) N528) N530) N540)⟩
 rcases c51_0 with ⟨al542, rfl, rfl, rfl⟩ | ⟨al542, rfl, rfl, rfl⟩
 have r543 : 0 ≤ z4.toInt ∧ z4.toInt ≤ 255 := own_ltA_r al542 (mG 0 rfl) r36 (by decide)
 have r544 : 0 ≤ z5.toInt ∧ z5.toInt ≤ 255 := own_ltA_r al542 (mG 1 rfl) r6 (by decide)
 obtain ⟨rfl, rfl, rfl⟩ := own_str_f c159_0 (fun z => al420 (own_ltA_2 (mG 4 rfl) (mG 5 rfl) z))
 obtain ⟨z546, hz546⟩ : ∃ y, (z1.toInt8.toInt32) = y := ⟨_, rfl⟩
 obtain ⟨z547, hz547⟩ : ∃ y, (own_hi z1) = y := ⟨_, rfl⟩
 obtain ⟨z548, hz548⟩ : ∃ y, (z2.toInt8.toInt32) = y := ⟨_, rfl⟩
 obtain ⟨z549, hz549⟩ : ∃ y, (own_hi z2) = y := ⟨_, rfl⟩
 have E545 : own_u16 [z1, z2] = [.int z546, .int z547, .int z548, .int z549] := (List.append_nil _).symm.trans (own_uc hz546 hz547 (own_uc hz548 hz549 rfl))
 have U545 : Arv Z h159 b26_0 k26_0 .byte (4 : Int32) [.int z546, .int z547, .int z548, .int z549] (.int 0) := by rw [← E545]; exact fk176
 obtain ⟨z551, hz551⟩ : ∃ y, (z4.toInt8.toInt32) = y := ⟨_, rfl⟩
 obtain ⟨z552, hz552⟩ : ∃ y, (z5.toInt8.toInt32) = y := ⟨_, rfl⟩
 have E550 : ([z4, z5] : List Int32).map own_vb = [.int z551, .int z552] := (List.append_nil _).symm.trans (own_mca hz551 (own_mca hz552 rfl))
 have U550 : Arv Z h159 b51_0 k51_0 .byte (2 : Int32) [.int z551, .int z552] (.int 0) := by rw [← E550]; exact fk343
 have E553 : own_u16 (LL0 z1 z2 z4 z5) = (LL30 z546 z547 z548 z549 z551 z552) := (List.append_nil _).symm.trans (own_uc (by decide) (by decide) (own_uc (by decide) (by decide) (own_uc (by decide) (by decide) (own_uc (by decide) (by decide) (own_uc hz546 hz547 (own_uc hz548 hz549 (own_uc (by decide) (by decide) (own_uc (by decide) (by decide) (own_uc hz551 (own_hi0 r543 (by decide) (by decide)) (own_uc hz552 (own_hi0 r544 (by decide) (by decide)) (own_uc (by decide) (by decide) (own_uc (by decide) (by decide) (own_uc (by decide) (by decide) (own_uc (by decide) (by decide) (own_uc (by decide) (by decide) (own_uc (by decide) (by decide) (own_uc (by decide) (by decide) (own_uc (by decide) (by decide) (own_uc (by decide) (by decide) (own_uc (by decide) (by decide) (own_uc (by decide) (by decide) (own_uc (by decide) (by decide) (own_uc (by decide) (by decide) (own_uc (by decide) (by decide) (own_uc (by decide) (by decide) (own_uc (by decide) (by decide) (own_uc (by decide) (by decide) (own_uc (by decide) (by decide) rfl))))))))))))))))))))))))))))
 have U553 : Arv Z h159 b159_0 k159_0 .byte (56 : Int32) (LL30 z546 z547 z548 z549 z551 z552) (.int 0) := by rw [← E553]; exact F159_2
 refine Go.aload X159 hx 241 rfl (hb hby at_239) rfl rfl ?_
 refine Go.aload X159 hx 243 rfl (hb hby at_241) rfl rfl ?_
 have r554 : -128 ≤ z546.toInt ∧ z546.toInt ≤ 127 := own_ri2b hz546
 have r555 : -128 ≤ z547.toInt ∧ z547.toInt ≤ 127 := own_rhi hz547
 have r556 : -128 ≤ z548.toInt ∧ z548.toInt ≤ 127 := own_ri2b hz548
 have r557 : -128 ≤ z549.toInt ∧ z549.toInt ≤ 127 := own_rhi hz549
 have r558 : -128 ≤ z551.toInt ∧ z551.toInt ≤ 127 := own_ri2b hz551
 have r559 : -128 ≤ z552.toInt ∧ z552.toInt ≤ 127 := own_ri2b hz552
 refine Go.callSW X159 hx hZ hown (tw_30 hw) (tw_31 hw) (tw_32 hw) (tw_33 hw) (by decide) (tw_33 hw) (tw_32 hw) (au_134 hw O414 G fk177 fk168 fk178 fk344 fk339 fk345 U545 U550 r543 r544 hz551 hz552) hKN (own_EW hw) C417.1 all0 hS0 hk418 e159 (argsL := [.ref b7, .ref b27]) (rest := []) 246 rfl (hml ▸ rfl) (lenOf pd_29 rfl) rfl rfl (W := 0) (nE rfl) (by decide) (hb hby at_243) ?_
 intro v560 T560 L560 h560 e560 q560 C560 S560 Z560 O560 X560
 obtain ⟨b560_0, b560_1, b560_2, b560_3, b560_4, k560_0, k560_1, rfl, N560, K560, s560_0, s560_2, s560_4, n560_0, n560_1, n560_2, y560_0, y560_1, y560_2, F560_0, F560_1, F560_2, F560_3, F560_4, F560_5, F560_6, F560_7, F560_8, F560_9, F560_10, F560_11, F560_12, F560_13⟩ := q560
 show Go _ _ _ _ (T560.setTop (mkF m 246 #[vI p0, vI p1, vI z1, vI z2, vI z4, vI z5, vR b7, vR b27, vR b52, vR b94, uS] [.ref b560_0]))
 refine Go.astore X560 hx 248 rfl (hb hby at_246) (Ls' := #[vI p0, vI p1, vI z1, vI z2, vI z4, vI z5, vR b7, vR b27, vR b52, vR b94, vR b560_0]) rfl rfl ?_
 refine Go.aload X560 hx 250 rfl (hb hby at_248) rfl rfl ?_
 refine Go.ifnonnullYes X560 hx 255 (hb hby at_250) (by decide) (by decide) ?_
 have C561 := (C417.trans C560)
 refine Go.ldcCH X560 hx Z560 O560 (tw_223 hw) (own_SA hw) e560 S560 (Nat.le_refl _) (own_EW hw) (mG 4 rfl) C561.1 (vs := [(.int (110 : Int32)), (.int (97 : Int32)), (.int (109 : Int32)), (.int (101 : Int32)), (.int (95 : Int32)), (.int (116 : Int32)), (.int (97 : Int32)), (.int (107 : Int32)), (.int (101 : Int32)), (.int (110 : Int32))]) (z := (10 : Int32)) (by decide) (by decide) rfl (n := 40) (by decide) (by decide) (by decide) (by decide) 257 rfl (hb hby at_255) ?_
 intro a562 T562 h562 j562 b562 k562 e562 E562 S562 i562 Z562 O562 A562 F562 G562 V562 C562 D562 X562
 refine Go.aload X562 hx 259 rfl (hb hby at_257) rfl rfl ?_
 have Zn563 := Nat.le_trans Z0 ((Kp416.trans K560 all0).ext E562).1
 have fk567 := (F560_0.ext E562)
 refine Go.callV X562 hx Z562 O562 (tw_224 hw) (tw_225 hw) (nF (mvT Z562 (tw_227 hw))) (tw_227 hw) (tw_226 hw) (by decide) (tw_228 hw) (tw_36 hw) (au_78 hw Zn563 (F560_1.ext E562)) e562 fk567 (argsL := []) (rest := [.ref a562]) 262 rfl (hml ▸ rfl) (lenOf pd_27 rfl) rfl rfl (W := 1) (nE rfl) (by decide) (hb hby at_259) ?_
 intro v568 T568 L568 q568 X568
 obtain ⟨rfl, N568, e568⟩ := q568
 show Go _ _ _ _ (T568.setTop (mkF m 262 #[vI p0, vI p1, vI z1, vI z2, vI z4, vI z5, vR b7, vR b27, vR b52, vR b94, vR b560_0] [.ref b560_1, .ref a562]))
 by_cases hsame : a562 = b560_1
 subst hsame
 refine Go.callV X568 hx Z562 O562 (tw_229 hw) (tw_230 hw) (nF (mvT Z562 (tw_232 hw))) (tw_232 hw) (tw_231 hw) (by decide) (tw_233 hw) (tw_2 hw) (au_79 hw a562 Zn563) e568 A562 (argsL := [.ref a562]) (rest := []) 265 rfl (hml ▸ rfl) (lenOf pd_30 rfl) rfl rfl (W := 0) (nE rfl) (by decide) (hb hby at_262) ?_
 intro v569 T569 L569 q569 X569
 obtain ⟨rfl, N569, e569⟩ := q569
 show Go _ _ _ _ (T569.setTop (mkF m 265 #[vI p0, vI p1, vI z1, vI z2, vI z4, vI z5, vR b7, vR b27, vR b52, vR b94, vR b560_0] [.int 1]))
 refine Go.ifNo X569 hx 268 rfl (hb hby at_265) (by decide) ?_
 refine Go.aload X569 hx 270 rfl (hb hby at_268) rfl rfl ?_
 refine Go.aload X569 hx 272 rfl (hb hby at_270) rfl rfl ?_
 refine Go.callU X569 hx Z562 O562 (tw_234 hw) (tw_235 hw) (tw_236 hw) (tw_238 hw) (tw_237 hw) (by decide) (tw_239 hw) (tw_182 hw) (au_80 hw Zn563 (F560_3.ext E562)) e569 fk567 (argsL := []) (rest := [.ref b94]) 275 rfl (hml ▸ rfl) (lenOf pd_27 rfl) rfl rfl (W := 1) (nE rfl) (by decide) (hb hby at_272) ?_
 intro v571 T571 L571 q571 X571
 obtain ⟨rfl, N571, e571⟩ := q571
 show Go _ _ _ _ (T571.setTop (mkF m 275 #[vI p0, vI p1, vI z1, vI z2, vI z4, vI z5, vR b7, vR b27, vR b52, vR b94, vR b560_0] [.ref b560_2, .ref b94]))
 refine Go.callV X571 hx Z562 O562 (tw_229 hw) (tw_230 hw) (nF (mvT Z562 (tw_232 hw))) (tw_232 hw) (tw_231 hw) (by decide) (tw_233 hw) (tw_2 hw) (au_173 hw ((O414.keep K560 all0).ext E562) G ((F159_0.keep K560 nin0).ext E562) ((F159_1.keep K560 nin0).ext E562) (F560_8.ext E562) (F560_9.ext E562) (F560_10.ext E562) ((U553.keep K560 nin0).ext E562) (F560_12.ext E562) (Nat.ne_of_lt (Nat.lt_of_lt_of_le fk411.lt s560_2))) e571 ((fk411.keep K560).ext E562) (argsL := [.ref b560_2]) (rest := []) 278 rfl (hml ▸ rfl) (lenOf pd_30 rfl) rfl rfl (W := 0) (nE rfl) (by decide) (hb hby at_275) ?_
 intro v583 T583 L583 q583 X583
 obtain ⟨rfl, N583, e583⟩ := q583
 show Go _ _ _ _ (T583.setTop (mkF m 278 #[vI p0, vI p1, vI z1, vI z2, vI z4, vI z5, vR b7, vR b27, vR b52, vR b94, vR b560_0] [.int 1]))
 refine Go.ifNo X583 hx 281 rfl (hb hby at_278) (by decide) ?_
 refine Go.iconst X583 hx 282 rfl (hb hby at_281) (v := (1 : Int32)) rfl ?_
 refine Go.goto X583 hx 286 (hb hby at_282) (by decide) (by decide) ?_
 refine Go.retNW X583 hx hlk Z562 (own_EW hw) e583 S562 i562 (C561.trans C562) (t := .boolean) hret (by simp) (hb hby at_286) (by decide) (by decide) (fun hat => ?_)
 exact ⟨rfl, (Fr.app (Fr.app (Fr.app (Fr.app (Fr.app (Fr.app N93 N159) N560) N568) N569) N571) N583)⟩
 have O586 := ((O414.keep K560 all0).ext E562)
 refine Go.callV X568 hx Z562 O562 (tw_229 hw) (tw_230 hw) (nF (mvT Z562 (tw_232 hw))) (tw_232 hw) (tw_231 hw) (by decide) (tw_233 hw) (tw_2 hw) (au_82 hw O586 G F562 G562 (F560_5.ext E562) (F560_6.ext E562) (F560_7.ext E562) V562 (F560_11.ext E562) hsame) e568 A562 (argsL := [.ref b560_1]) (rest := []) 265 rfl (hml ▸ rfl) (lenOf pd_30 rfl) rfl rfl (W := 0) (nE rfl) (by decide) (hb hby at_262) ?_
 intro v591 T591 L591 q591 X591
 obtain ⟨rfl, N591, e591⟩ := q591
 show Go _ _ _ _ (T591.setTop (mkF m 265 #[vI p0, vI p1, vI z1, vI z2, vI z4, vI z5, vR b7, vR b27, vR b52, vR b94, vR b560_0] [.int 1]))
 refine Go.ifNo X591 hx 268 rfl (hb hby at_265) (by decide) ?_
 refine Go.aload X591 hx 270 rfl (hb hby at_268) rfl rfl ?_
 refine Go.aload X591 hx 272 rfl (hb hby at_270) rfl rfl ?_
 refine Go.callU X591 hx Z562 O562 (tw_234 hw) (tw_235 hw) (tw_236 hw) (tw_238 hw) (tw_237 hw) (by decide) (tw_239 hw) (tw_182 hw) (au_80 hw Zn563 (F560_3.ext E562)) e591 fk567 (argsL := []) (rest := [.ref b94]) 275 rfl (hml ▸ rfl) (lenOf pd_27 rfl) rfl rfl (W := 1) (nE rfl) (by decide) (hb hby at_272) ?_
 intro v593 T593 L593 q593 X593
 obtain ⟨rfl, N593, e593⟩ := q593
 show Go _ _ _ _ (T593.setTop (mkF m 275 #[vI p0, vI p1, vI z1, vI z2, vI z4, vI z5, vR b7, vR b27, vR b52, vR b94, vR b560_0] [.ref b560_2, .ref b94]))
 refine Go.callV X593 hx Z562 O562 (tw_229 hw) (tw_230 hw) (nF (mvT Z562 (tw_232 hw))) (tw_232 hw) (tw_231 hw) (by decide) (tw_233 hw) (tw_2 hw) (au_173 hw O586 G ((F159_0.keep K560 nin0).ext E562) ((F159_1.keep K560 nin0).ext E562) (F560_8.ext E562) (F560_9.ext E562) (F560_10.ext E562) ((U553.keep K560 nin0).ext E562) (F560_12.ext E562) (Nat.ne_of_lt (Nat.lt_of_lt_of_le fk411.lt s560_2))) e593 ((fk411.keep K560).ext E562) (argsL := [.ref b560_2]) (rest := []) 278 rfl (hml ▸ rfl) (lenOf pd_30 rfl) rfl rfl (W := 0) (nE rfl) (by decide) (hb hby at_275) ?_
 intro v603 T603 L603 q603 X603
 obtain ⟨rfl, N603, e603⟩ := q603
 show Go _ _ _ _ (T603.setTop (mkF m 278 #[vI p0, vI p1, vI z1, vI z2, vI z4, vI z5, vR b7, vR b27, vR b52, vR b94, vR b560_0] [.int 1]))
 refine Go.ifNo X603 hx 281 rfl (hb hby at_278) (by decide) ?_
 refine Go.iconst X603 hx 282 rfl (hb hby at_281) (v := (1 : Int32)) rfl ?_
 refine Go.goto X603 hx 286 (hb hby at_282) (by decide) (by decide) ?_
 refine Go.retNW X603 hx hlk Z562 (own_EW hw) e603 S562 i562 (C561.trans C562) (t := .boolean) hret (by simp) (hb hby at_286) (by decide) (by decide) (fun hat => ?_)
 exact ⟨rfl, (Fr.app (Fr.app (Fr.app (Fr.app (Fr.app (Fr.app N93 N159) N560) N568) N591) N593) N603)⟩
 obtain ⟨rfl, rfl, rfl⟩ := own_str_f c159_0 (fun z => al420 (own_ltA_2 (mG 4 rfl) (mG 5 rfl) z))
 obtain ⟨z606, hz606⟩ : ∃ y, (z1.toInt8.toInt32) = y := ⟨_, rfl⟩
 obtain ⟨z607, hz607⟩ : ∃ y, (own_hi z1) = y := ⟨_, rfl⟩
 obtain ⟨z608, hz608⟩ : ∃ y, (z2.toInt8.toInt32) = y := ⟨_, rfl⟩
 obtain ⟨z609, hz609⟩ : ∃ y, (own_hi z2) = y := ⟨_, rfl⟩
 have E605 : own_u16 [z1, z2] = [.int z606, .int z607, .int z608, .int z609] := (List.append_nil _).symm.trans (own_uc hz606 hz607 (own_uc hz608 hz609 rfl))
 have U605 : Arv Z h159 b26_0 k26_0 .byte (4 : Int32) [.int z606, .int z607, .int z608, .int z609] (.int 0) := by rw [← E605]; exact fk176
 obtain ⟨z611, hz611⟩ : ∃ y, (z4.toInt8.toInt32) = y := ⟨_, rfl⟩
 obtain ⟨z612, hz612⟩ : ∃ y, (own_hi z4) = y := ⟨_, rfl⟩
 obtain ⟨z613, hz613⟩ : ∃ y, (z5.toInt8.toInt32) = y := ⟨_, rfl⟩
 obtain ⟨z614, hz614⟩ : ∃ y, (own_hi z5) = y := ⟨_, rfl⟩
 have E610 : own_u16 [z4, z5] = [.int z611, .int z612, .int z613, .int z614] := (List.append_nil _).symm.trans (own_uc hz611 hz612 (own_uc hz613 hz614 rfl))
 have U610 : Arv Z h159 b51_0 k51_0 .byte (4 : Int32) [.int z611, .int z612, .int z613, .int z614] (.int 0) := by rw [← E610]; exact fk343
 have E615 : own_u16 (LL0 z1 z2 z4 z5) = (LL32 z606 z607 z608 z609 z611 z612 z613 z614) := (List.append_nil _).symm.trans (own_uc (by decide) (by decide) (own_uc (by decide) (by decide) (own_uc (by decide) (by decide) (own_uc (by decide) (by decide) (own_uc hz606 hz607 (own_uc hz608 hz609 (own_uc (by decide) (by decide) (own_uc (by decide) (by decide) (own_uc hz611 hz612 (own_uc hz613 hz614 (own_uc (by decide) (by decide) (own_uc (by decide) (by decide) (own_uc (by decide) (by decide) (own_uc (by decide) (by decide) (own_uc (by decide) (by decide) (own_uc (by decide) (by decide) (own_uc (by decide) (by decide) (own_uc (by decide) (by decide) (own_uc (by decide) (by decide) (own_uc (by decide) (by decide) (own_uc (by decide) (by decide) (own_uc (by decide) (by decide) (own_uc (by decide) (by decide) (own_uc (by decide) (by decide) (own_uc (by decide) (by decide) (own_uc (by decide) (by decide) (own_uc (by decide) (by decide) (own_uc (by decide) (by decide) rfl))))))))))))))))))))))))))))
 have U615 : Arv Z h159 b159_0 k159_0 .byte (56 : Int32) (LL32 z606 z607 z608 z609 z611 z612 z613 z614) (.int 0) := by rw [← E615]; exact F159_2
 refine Go.aload X159 hx 241 rfl (hb hby at_239) rfl rfl ?_
 refine Go.aload X159 hx 243 rfl (hb hby at_241) rfl rfl ?_
 have r616 : -128 ≤ z606.toInt ∧ z606.toInt ≤ 127 := own_ri2b hz606
 have r617 : -128 ≤ z607.toInt ∧ z607.toInt ≤ 127 := own_rhi hz607
 have r618 : -128 ≤ z608.toInt ∧ z608.toInt ≤ 127 := own_ri2b hz608
 have r619 : -128 ≤ z609.toInt ∧ z609.toInt ≤ 127 := own_rhi hz609
 have r620 : -128 ≤ z611.toInt ∧ z611.toInt ≤ 127 := own_ri2b hz611
 have r621 : -128 ≤ z612.toInt ∧ z612.toInt ≤ 127 := own_rhi hz612
 have r622 : -128 ≤ z613.toInt ∧ z613.toInt ≤ 127 := own_ri2b hz613
 have r623 : -128 ≤ z614.toInt ∧ z614.toInt ≤ 127 := own_rhi hz614
 refine Go.callSW X159 hx hZ hown (tw_30 hw) (tw_31 hw) (tw_32 hw) (tw_33 hw) (by decide) (tw_33 hw) (tw_32 hw) (au_175 hw O414 G fk177 fk168 fk178 fk344 fk339 fk345 U605 U610) hKN (own_EW hw) C417.1 all0 hS0 hk418 e159 (argsL := [.ref b7, .ref b27]) (rest := []) 246 rfl (hml ▸ rfl) (lenOf pd_29 rfl) rfl rfl (W := 0) (nE rfl) (by decide) (hb hby at_243) ?_
 intro v624 T624 L624 h624 e624 q624 C624 S624 Z624 O624 X624
 obtain ⟨b624_0, b624_1, b624_2, b624_3, b624_4, k624_0, k624_1, rfl, N624, K624, s624_0, s624_2, s624_4, n624_0, n624_1, n624_2, y624_0, y624_1, y624_2, F624_0, F624_1, F624_2, F624_3, F624_4, F624_5, F624_6, F624_7, F624_8, F624_9, F624_10, F624_11, F624_12, F624_13⟩ := q624
 show Go _ _ _ _ (T624.setTop (mkF m 246 #[vI p0, vI p1, vI z1, vI z2, vI z4, vI z5, vR b7, vR b27, vR b52, vR b94, uS] [.ref b624_0]))
 refine Go.astore X624 hx 248 rfl (hb hby at_246) (Ls' := #[vI p0, vI p1, vI z1, vI z2, vI z4, vI z5, vR b7, vR b27, vR b52, vR b94, vR b624_0]) rfl rfl ?_
 refine Go.aload X624 hx 250 rfl (hb hby at_248) rfl rfl ?_
 refine Go.ifnonnullYes X624 hx 255 (hb hby at_250) (by decide) (by decide) ?_
 have C625 := (C417.trans C624)
 refine Go.ldcCH X624 hx Z624 O624 (tw_223 hw) (own_SA hw) e624 S624 (Nat.le_refl _) (own_EW hw) (mG 4 rfl) C625.1 (vs := [(.int (110 : Int32)), (.int (97 : Int32)), (.int (109 : Int32)), (.int (101 : Int32)), (.int (95 : Int32)), (.int (116 : Int32)), (.int (97 : Int32)), (.int (107 : Int32)), (.int (101 : Int32)), (.int (110 : Int32))]) (z := (10 : Int32)) (by decide) (by decide) rfl (n := 40) (by decide) (by decide) (by decide) (by decide) 257 rfl (hb hby at_255) ?_
 intro a626 T626 h626 j626 b626 k626 e626 E626 S626 i626 Z626 O626 A626 F626 G626 V626 C626 D626 X626
 refine Go.aload X626 hx 259 rfl (hb hby at_257) rfl rfl ?_
 have Zn627 := Nat.le_trans Z0 ((Kp416.trans K624 all0).ext E626).1
 have fk631 := (F624_0.ext E626)
 refine Go.callV X626 hx Z626 O626 (tw_224 hw) (tw_225 hw) (nF (mvT Z626 (tw_227 hw))) (tw_227 hw) (tw_226 hw) (by decide) (tw_228 hw) (tw_36 hw) (au_78 hw Zn627 (F624_1.ext E626)) e626 fk631 (argsL := []) (rest := [.ref a626]) 262 rfl (hml ▸ rfl) (lenOf pd_27 rfl) rfl rfl (W := 1) (nE rfl) (by decide) (hb hby at_259) ?_
 intro v632 T632 L632 q632 X632
 obtain ⟨rfl, N632, e632⟩ := q632
 show Go _ _ _ _ (T632.setTop (mkF m 262 #[vI p0, vI p1, vI z1, vI z2, vI z4, vI z5, vR b7, vR b27, vR b52, vR b94, vR b624_0] [.ref b624_1, .ref a626]))
 by_cases hsame : a626 = b624_1
 subst hsame
 refine Go.callV X632 hx Z626 O626 (tw_229 hw) (tw_230 hw) (nF (mvT Z626 (tw_232 hw))) (tw_232 hw) (tw_231 hw) (by decide) (tw_233 hw) (tw_2 hw) (au_79 hw a626 Zn627) e632 A626 (argsL := [.ref a626]) (rest := []) 265 rfl (hml ▸ rfl) (lenOf pd_30 rfl) rfl rfl (W := 0) (nE rfl) (by decide) (hb hby at_262) ?_
 intro v633 T633 L633 q633 X633
 obtain ⟨rfl, N633, e633⟩ := q633
 show Go _ _ _ _ (T633.setTop (mkF m 265 #[vI p0, vI p1, vI z1, vI z2, vI z4, vI z5, vR b7, vR b27, vR b52, vR b94, vR b624_0] [.int 1]))
 refine Go.ifNo X633 hx 268 rfl (hb hby at_265) (by decide) ?_
 refine Go.aload X633 hx 270 rfl (hb hby at_268) rfl rfl ?_
 refine Go.aload X633 hx 272 rfl (hb hby at_270) rfl rfl ?_
 refine Go.callU X633 hx Z626 O626 (tw_234 hw) (tw_235 hw) (tw_236 hw) (tw_238 hw) (tw_237 hw) (by decide) (tw_239 hw) (tw_182 hw) (au_80 hw Zn627 (F624_3.ext E626)) e633 fk631 (argsL := []) (rest := [.ref b94]) 275 rfl (hml ▸ rfl) (lenOf pd_27 rfl) rfl rfl (W := 1) (nE rfl) (by decide) (hb hby at_272) ?_
 intro v635 T635 L635 q635 X635
 obtain ⟨rfl, N635, e635⟩ := q635
 show Go _ _ _ _ (T635.setTop (mkF m 275 #[vI p0, vI p1, vI z1, vI z2, vI z4, vI z5, vR b7, vR b27, vR b52, vR b94, vR b624_0] [.ref b624_2, .ref b94]))
 refine Go.callV X635 hx Z626 O626 (tw_229 hw) (tw_230 hw) (nF (mvT Z626 (tw_232 hw))) (tw_232 hw) (tw_231 hw) (by decide) (tw_233 hw) (tw_2 hw) (au_181 hw ((O414.keep K624 all0).ext E626) G ((F159_0.keep K624 nin0).ext E626) ((F159_1.keep K624 nin0).ext E626) (F624_8.ext E626) (F624_9.ext E626) (F624_10.ext E626) ((U615.keep K624 nin0).ext E626) (F624_12.ext E626) (Nat.ne_of_lt (Nat.lt_of_lt_of_le fk411.lt s624_2))) e635 ((fk411.keep K624).ext E626) (argsL := [.ref b624_2]) (rest := []) 278 rfl (hml ▸ rfl) (lenOf pd_30 rfl) rfl rfl (W := 0) (nE rfl) (by decide) (hb hby at_275) ?_
 intro v647 T647 L647 q647 X647
 obtain ⟨rfl, N647, e647⟩ := q647
 show Go _ _ _ _ (T647.setTop (mkF m 278 #[vI p0, vI p1, vI z1, vI z2, vI z4, vI z5, vR b7, vR b27, vR b52, vR b94, vR b624_0] [.int 1]))
 refine Go.ifNo X647 hx 281 rfl (hb hby at_278) (by decide) ?_
 refine Go.iconst X647 hx 282 rfl (hb hby at_281) (v := (1 : Int32)) rfl ?_
 refine Go.goto X647 hx 286 (hb hby at_282) (by decide) (by decide) ?_
 refine Go.retNW X647 hx hlk Z626 (own_EW hw) e647 S626 i626 (C625.trans C626) (t := .boolean) hret (by simp) (hb hby at_286) (by decide) (by decide) (fun hat => ?_)
 exact ⟨rfl, (Fr.app (Fr.app (Fr.app (Fr.app (Fr.app (Fr.app N93 N159) N624) N632) N633) N635) N647)⟩
 have O650 := ((O414.keep K624 all0).ext E626)
 refine Go.callV X632 hx Z626 O626 (tw_229 hw) (tw_230 hw) (nF (mvT Z626 (tw_232 hw))) (tw_232 hw) (tw_231 hw) (by decide) (tw_233 hw) (tw_2 hw) (au_82 hw O650 G F626 G626 (F624_5.ext E626) (F624_6.ext E626) (F624_7.ext E626) V626 (F624_11.ext E626) hsame) e632 A626 (argsL := [.ref b624_1]) (rest := []) 265 rfl (hml ▸ rfl) (lenOf pd_30 rfl) rfl rfl (W := 0) (nE rfl) (by decide) (hb hby at_262) ?_
 intro v655 T655 L655 q655 X655
 obtain ⟨rfl, N655, e655⟩ := q655
 show Go _ _ _ _ (T655.setTop (mkF m 265 #[vI p0, vI p1, vI z1, vI z2, vI z4, vI z5, vR b7, vR b27, vR b52, vR b94, vR b624_0] [.int 1]))
 refine Go.ifNo X655 hx 268 rfl (hb hby at_265) (by decide) ?_
 refine Go.aload X655 hx 270 rfl (hb hby at_268) rfl rfl ?_
 refine Go.aload X655 hx 272 rfl (hb hby at_270) rfl rfl ?_
 refine Go.callU X655 hx Z626 O626 (tw_234 hw) (tw_235 hw) (tw_236 hw) (tw_238 hw) (tw_237 hw) (by decide) (tw_239 hw) (tw_182 hw) (au_80 hw Zn627 (F624_3.ext E626)) e655 fk631 (argsL := []) (rest := [.ref b94]) 275 rfl (hml ▸ rfl) (lenOf pd_27 rfl) rfl rfl (W := 1) (nE rfl) (by decide) (hb hby at_272) ?_
 intro v657 T657 L657 q657 X657
 obtain ⟨rfl, N657, e657⟩ := q657
 show Go _ _ _ _ (T657.setTop (mkF m 275 #[vI p0, vI p1, vI z1, vI z2, vI z4, vI z5, vR b7, vR b27, vR b52, vR b94, vR b624_0] [.ref b624_2, .ref b94]))
 refine Go.callV X657 hx Z626 O626 (tw_229 hw) (tw_230 hw) (nF (mvT Z626 (tw_232 hw))) (tw_232 hw) (tw_231 hw) (by decide) (tw_233 hw) (tw_2 hw) (au_181 hw O650 G ((F159_0.keep K624 nin0).ext E626) ((F159_1.keep K624 nin0).ext E626) (F624_8.ext E626) (F624_9.ext E626) (F624_10.ext E626) ((U615.keep K624 nin0).ext E626) (F624_12.ext E626) (Nat.ne_of_lt (Nat.lt_of_lt_of_le fk411.lt s624_2))) e657 ((fk411.keep K624).ext E626) (argsL := [.ref b624_2]) (rest := []) 278 rfl (hml ▸ rfl) (lenOf pd_30 rfl) rfl rfl (W := 0) (nE rfl) (by decide) (hb hby at_275) ?_
 intro v667 T667 L667 q667 X667
 obtain ⟨rfl, N667, e667⟩ := q667
 show Go _ _ _ _ (T667.setTop (mkF m 278 #[vI p0, vI p1, vI z1, vI z2, vI z4, vI z5, vR b7, vR b27, vR b52, vR b94, vR b624_0] [.int 1]))
 refine Go.ifNo X667 hx 281 rfl (hb hby at_278) (by decide) ?_
 refine Go.iconst X667 hx 282 rfl (hb hby at_281) (v := (1 : Int32)) rfl ?_
 refine Go.goto X667 hx 286 (hb hby at_282) (by decide) (by decide) ?_
 refine Go.retNW X667 hx hlk Z626 (own_EW hw) e667 S626 i626 (C625.trans C626) (t := .boolean) hret (by simp) (hb hby at_286) (by decide) (by decide) (fun hat => ?_)
 exact ⟨rfl, (Fr.app (Fr.app (Fr.app (Fr.app (Fr.app (Fr.app N93 N159) N624) N632) N655) N657) N667)⟩
set_option maxRecDepth 65536 in
set_option maxHeartbeats 4000000 in
theorem comes_1 {Post : Tables → Env → Array Value → State → Outcome → State → Prop} (hpost : ∀ tb e args s v u, (limb_1_1.after args s (.returned v) u = true ∧ limb_1_2.after args s (.returned v) u = true ∧ True) → ReturnedEndW s (.returned v) u (Jvm.fieldLocs frame_1_writes args s ++ Jvm.arrayLocs frame_1_arrays args s ++ Jvm.staticLocs frame_1_statics s) 64 11392 → Post tb e args s (.returned v) u) :
    ArmFor flags0 classFile x code maxLocals ret World_1 tables_1 room_1 Calls_1 rest_1 Pre_1 Post := by
  intro l hfl _ _ p e ha hc hk s m args below hf hA hF happ hP
  obtain ⟨hcalls, hrest, hpre⟩ := hP
  obtain ⟨-, -, -, hnamed, -, -, -, hat⟩ := (Spec.applies_iff hf).mp happ
  obtain ⟨hg, hn⟩ := and_e (Cond.before_iff.mp (show (Jvm.Cond.and given_1 narrow_1).before args s = true from hpre))
  obtain ⟨g501, g502⟩ := and_e hg
  obtain ⟨g503, g504⟩ := and_e g502
  obtain ⟨w0, w1, rfl⟩ : ∃ w0 w1 : Value, args = #[w0, w1] := by
    have hs : args.size = 2 := by simpa [Cond.value, given_1] using g501
    obtain ⟨L⟩ := args
    match L, hs with
    | [w0, w1], _ => exact ⟨w0, w1, rfl⟩
  have hw := fun d (hd : d ∈ tables_1) => atoms_spec (ws := Jvm.Cond.code x code maxLocals ret :: tables_1) hat d (List.mem_cons_of_mem _ hd)
  have hfit : Fit s := fun {y c} hc i hi => by
    obtain ⟨ha, rfl⟩ := Array.getElem?_eq_some_iff.mp hc
    have q := List.all_eq_true.mp ((Array.all_eq_true_iff_forall_mem.mp hF) _ (Array.getElem_mem ha)) i (List.mem_range.mpr hi)
    simpa [Array.getElem?_eq_getElem hi] using q
  obtain ⟨i0, ei0⟩ := is_v g503
  obtain rfl : w0 = (.int i0) := Option.some.inj ei0
  obtain ⟨i1, ei1⟩ := is_v g504
  obtain rfl : w1 = (.int i1) := Option.some.inj ei1
  obtain ⟨hsets, hown0⟩ := atoms_of _ (rest_1_c_eq ▸ (show rest_1_c.before _ s = true from hrest))
  obtain ⟨α, ev2⟩ := is_v (Cond.before_iff.mp (hsets _ (List.mem_of_getElem? (i := 1) rfl)))
  have Sx3 : Sta s s.heap "java/lang/String" "COMPACT_STRINGS" "Z" (.int α) := Sta.start ev2 (Or.inl (Cond.before_iff.mpr (Cond.before_iff.mp (hsets _ (List.mem_of_getElem? (i := 0) rfl)))))
  have nz4 : ¬ α = (0 : Int32) := gotF (Cond.eq_ints ev2 (Term.int_eval (0))) (not_v (Cond.before_iff.mp (hsets _ (List.mem_of_getElem? (i := 2) rfl))))
  have ei5 := own_eqI (Cond.before_iff.mp (hsets _ (List.mem_of_getElem? (i := 13) rfl)))
  have Sx6 : Sta s s.heap "java/lang/Throwable" "$assertionsDisabled" "Z" (.int 1) := Sta.start ei5 (Or.inl (Cond.before_iff.mpr (Cond.before_iff.mp (hsets _ (List.mem_of_getElem? (i := 12) rfl)))))
  obtain ⟨β, ev8⟩ := arr_v (Cond.before_iff.mp (hsets _ (List.mem_of_getElem? (i := 17) rfl)))
  have Sx9 : Sta s s.heap "java/lang/Throwable" "UNASSIGNED_STACK" "[Ljava/lang/StackTraceElement;" (.ref β) := Sta.start ev8 (Or.inl (Cond.before_iff.mpr (Cond.before_iff.mp (hsets _ (List.mem_of_getElem? (i := 15) rfl)))))
  obtain ⟨clAr10, Ar10⟩ := Arr.start ev8 (Cond.before_iff.mp (hsets _ (List.mem_of_getElem? (i := 17) rfl)))
  have Ln11 := own_len ev8 Ar10 (Cond.before_iff.mp (hsets _ (List.mem_of_getElem? (i := 18) rfl)))
  obtain ⟨γ, ev13⟩ := exa_v (Cond.before_iff.mp (hsets _ (List.mem_of_getElem? (i := 22) rfl)))
  have Sx14 : Sta s s.heap "java/lang/Throwable" "SUPPRESSED_SENTINEL" "Ljava/util/List;" (.ref γ) := Sta.start ev13 (Or.inl (Cond.before_iff.mpr (Cond.before_iff.mp (hsets _ (List.mem_of_getElem? (i := 20) rfl)))))
  have Ex15 := Exa.start ev13 (Cond.before_iff.mp (hsets _ (List.mem_of_getElem? (i := 22) rfl)))
  obtain ⟨δ, ev17⟩ := arr_v (Cond.before_iff.mp (hsets _ (List.mem_of_getElem? (i := 27) rfl)))
  have Sx18 : Sta s s.heap "java/lang/Throwable" "EMPTY_THROWABLE_ARRAY" "[Ljava/lang/Throwable;" (.ref δ) := Sta.start ev17 (Or.inl (Cond.before_iff.mpr (Cond.before_iff.mp (hsets _ (List.mem_of_getElem? (i := 25) rfl)))))
  obtain ⟨clAr19, Ar19⟩ := Arr.start ev17 (Cond.before_iff.mp (hsets _ (List.mem_of_getElem? (i := 27) rfl)))
  have Ln20 := own_len ev17 Ar19 (Cond.before_iff.mp (hsets _ (List.mem_of_getElem? (i := 28) rfl)))
  have ei21 := own_eqI (Cond.before_iff.mp (hsets _ (List.mem_of_getElem? (i := 32) rfl)))
  have Sx22 : Sta s s.heap "java/lang/StringUTF16" "$assertionsDisabled" "Z" (.int 1) := Sta.start ei21 (Or.inl (Cond.before_iff.mpr (Cond.before_iff.mp (hsets _ (List.mem_of_getElem? (i := 31) rfl)))))
  have ei23 := own_eqI (Cond.before_iff.mp (hsets _ (List.mem_of_getElem? (i := 35) rfl)))
  have Sx24 : Sta s s.heap "java/lang/StringUTF16" "HI_BYTE_SHIFT" "I" (.int 0) := Sta.start ei23 (Or.inl (Cond.before_iff.mpr (Cond.before_iff.mp (hsets _ (List.mem_of_getElem? (i := 34) rfl)))))
  have ei25 := own_eqI (Cond.before_iff.mp (hsets _ (List.mem_of_getElem? (i := 38) rfl)))
  have Sx26 : Sta s s.heap "java/lang/StringUTF16" "LO_BYTE_SHIFT" "I" (.int 8) := Sta.start ei25 (Or.inl (Cond.before_iff.mpr (Cond.before_iff.mp (hsets _ (List.mem_of_getElem? (i := 37) rfl)))))
  obtain ⟨ε, ev28, rv29⟩ := isR_v (Cond.before_iff.mp (hsets _ (List.mem_of_getElem? (i := 8) rfl)))
  have Sx30 : Sta s s.heap "jdk/internal/util/Preconditions" "SIOOBE_FORMATTER" "Ljava/util/function/BiFunction;" ε := Sta.start ev28 (Or.inl (Cond.before_iff.mpr (Cond.before_iff.mp (hsets _ (List.mem_of_getElem? (i := 7) rfl)))))
  obtain ⟨ζ, hkgk31⟩ : ∃ q, clAr10.cls = q := ⟨_, rfl⟩
  have Vx32 : Arv s s.heap β ζ (.object "java/lang/StackTraceElement") (0 : Int32) [] .null := hkgk31 ▸ Arv.start hfit Ar10 Ln11.1 Ln11.2 (by decide) rfl trivial
  obtain ⟨η, hkgk33⟩ : ∃ q, clAr19.cls = q := ⟨_, rfl⟩
  have Vx34 : Arv s s.heap δ η (.object "java/lang/Throwable") (0 : Int32) [] .null := hkgk33 ▸ Arv.start hfit Ar19 Ln20.1 Ln20.2 (by decide) rfl trivial
  have G : Glob s α β γ δ ε ζ η := ⟨Sx3, Sx6, Sx9, Sx14, Ex15, Sx18, Sx22, Sx24, Sx26, Sx30, Vx32, Vx34, nz4, rv29⟩
  have hCH : CHv s EL0 s.vm s.heap := CHv.start (own_EW hw) (fun p hp => hcalls.2.2.1 p hp) (hsets _ (List.mem_of_getElem? (i := 2) rfl)) (tw_19 hw) (tw_1 hw)
  obtain ⟨n, o, h1, h2, h3, _, L, rfl, ⟨rfl, N⟩, hcr, hq⟩ := (rm0 l s _ hw i0 i1 α β γ δ ε ζ η s.heap s.heap.size (Nat.le_refl _) (Old.start s) G) tables_1 p e ha hc hk s m _ below hf ((Spec.applies_iff_loose hf).mp happ).1 ⟨rfl, State.Warmed39.refl s, rfl, hCH, fun _ hx => nomatch hx⟩ ⟨by unfold Launch.stackTraces; rw [hfl]; decide, MethodsKnown_of_tablesKnown hcalls.2.1, FramesKnown_of_framesKnown hcalls.1 hf⟩
  refine ⟨n, _, h1, h2, h3, hpost _ _ _ _ _ _ ⟨Cond.after_iff.mpr rfl, Cond.after_iff.mpr (eq_i res_at (Term.int_eval (1)) rfl), trivial⟩ ⟨hq.1, hq.2.1, hq.2.2.1, (hq.2.2.2.sift fun y hy => Or.inr (N y hy)).mono (by decide) (by decide)⟩⟩
theorem main_1_1 : Claimed_1_1 := comes_1 fun _ _ _ _ _ _ h hF => ⟨h.1, hF⟩
theorem main_1_2 : Claimed_1_2 := comes_1 fun _ _ _ _ _ _ h hF => ⟨h.2.1, hF⟩
end Jvm.Pilot.@@N@@
namespace Jvm.Pilot.@@N@@
open Jvm Jvm.ClassFile Sem Op Lib Jvm.Free Jvm.Stand Jvm.Pilot.@@N@@.Jvm.D
/-! MADE BY PROGRAM (witnessworld.py) out of the Statement's table words and the real class files: 40 classes; the members and pool entries that the words name. The judged class is class 1, her method 1. -/
namespace start1
open Jvm.ClassFile
def u (s : String) : CpInfo := .utf8 (stringToUtf16 s)
/-- a pool by its gaps: so many unusable entries, then the entry; so many at the end -/
def gap : Nat → List CpInfo → List CpInfo
  | 0, r => r
  | n + 1, r => .unusable :: gap n r
def poolList (es : List (Nat × CpInfo)) (last : Nat) : List CpInfo := es.foldr (fun e r => gap e.1 (e.2 :: r)) (gap last [])
def pool (es : List (Nat × CpInfo)) (last : Nat) : Array CpInfo := ⟨poolList es last⟩
def fileOf (pool : Array CpInfo) (this : Nat) (attrs : Array Attribute := #[]) (ms : Array MethodInfo := #[]) (fl : Nat := 33) (sup : Nat := 0) (ifs : Array Nat := #[]) (fds : Array FieldInfo := #[]) : ClassFile where
  minorVersion := 0
  majorVersion := 65
  constantPool := pool
  accessFlags := fl
  thisClass := this
  superClass := sup
  interfaces := ifs
  fields := fds
  methods := ms
  attributes := attrs
def plain (name : String) (sup : Option ClassId) : Class where
  name := name
  kind := .ordinary
  loader := none
  accessFlags := 33
  super := sup
  interfaces := #[]
  cf := none
  fields := #[]
  methods := #[]
  instanceTypes := #[]
  staticTypes := #[]
  resolved := #[]
  callSites := []
  init := .initialized
  statics := none
  mirror := none

def pool0 : Array CpInfo := pool [(5, u "<init>"), (0, u "()V"), (1, .class_ 10), (1, u "java/lang/Object")] 113

def k0c0 : Code := { maxStack := 0, maxLocals := 1, code := object_method_1_code, exceptionTable := #[], attributes := #[] }
def k0m0 : Method := { name := "<init>", desc := "()V", sig := { parameters := [], returnType := none }, accessFlags := 1, code := some k0c0 }
/-- java/lang/Object -/
def k0 : Class := { plain "java/lang/Object" none with
  accessFlags := 33
  interfaces := #[]
  cf := some (fileOf pool0 8 #[] #[{ accessFlags := 1, nameIndex := 5, descriptorIndex := 6, attributes := #[] }] 33 0 #[] #[])
  fields := #[]
  methods := #[k0m0]
  instanceTypes := #[]
  staticTypes := #[]
  resolved := Array.replicate 124 none
  statics := none }

def pool1 : Array CpInfo := pool [(2, .class_ 4), (1, u "java/lang/Object"), (0, u "<init>"), (0, u "()V"), (0, .class_ 8), (0, u "java/lang/String"), (0, .methodref 7 10), (0, .nameAndType 5 11), (0, u "([C)V"), (0, .methodref 13 14), (0, .class_ 15), (0, .nameAndType 16 17), (0, u "com/example/rollcall/rollcall/core/Names"), (0, u "taken"), (0, u "(Ljava/lang/String;Ljava/lang/String;)Lcom/example/rollcall/rollcall/core/RefusedException;"), (0, .string 19), (0, u "name_taken"), (0, .methodref 21 22), (0, .class_ 23), (0, .nameAndType 24 25), (0, u "com/example/rollcall/rollcall/core/RefusedException"), (0, u "code"), (0, u "()Ljava/lang/String;"), (0, .methodref 7 27), (0, .nameAndType 28 29), (0, u "equals"), (0, u "(Ljava/lang/Object;)Z"), (0, .methodref 21 31), (0, .nameAndType 32 25), (0, u "getMessage"), (0, .class_ 34), (0, u "com/example/rollcall/rollcall/core/NamesTakenPinLaw"), (2, u "law"), (0, u "(II)Z")] 5

def k1m0 : Method := { name := "<init>", desc := "()V", sig := { parameters := [], returnType := none }, accessFlags := 1, code := none }
def k1c1 : Code := { maxStack := 6, maxLocals := 11, code := code, exceptionTable := #[], attributes := #[] }
def k1m1 : Method := { name := "law", desc := "(II)Z", sig := { parameters := [.int, .int], returnType := some .boolean }, accessFlags := 9, code := some k1c1 }
/-- com/example/rollcall/rollcall/core/NamesTakenPinLaw -/
def k1 : Class := { plain "com/example/rollcall/rollcall/core/NamesTakenPinLaw" (some 0) with
  accessFlags := 49
  interfaces := #[]
  cf := some (fileOf pool1 33 #[] #[{ accessFlags := 1, nameIndex := 5, descriptorIndex := 6, attributes := #[] }, { accessFlags := 9, nameIndex := 37, descriptorIndex := 38, attributes := #[] }] 49 2 #[] #[])
  fields := #[]
  methods := #[k1m0, k1m1]
  instanceTypes := #[]
  staticTypes := #[]
  resolved := Array.replicate 44 none
  statics := none }

def pool2 : Array CpInfo := pool [(1, .class_ 2), (0, u "java/io/Serializable"), (0, .class_ 4), (0, u "java/lang/Object")] 2

/-- java/io/Serializable -/
def k2 : Class := { plain "java/io/Serializable" (some 0) with
  accessFlags := 1537
  interfaces := #[]
  cf := some (fileOf pool2 1 #[] #[] 1537 3 #[] #[])
  fields := #[]
  methods := #[]
  instanceTypes := #[]
  staticTypes := #[]
  resolved := Array.replicate 7 none
  statics := none }

def pool3 : Array CpInfo := pool [(1, .class_ 2), (0, u "java/lang/Comparable"), (0, .class_ 4), (0, u "java/lang/Object")] 7

/-- java/lang/Comparable -/
def k3 : Class := { plain "java/lang/Comparable" (some 0) with
  accessFlags := 1537
  interfaces := #[]
  cf := some (fileOf pool3 1 #[] #[] 1537 3 #[] #[])
  fields := #[]
  methods := #[]
  instanceTypes := #[]
  staticTypes := #[]
  resolved := Array.replicate 12 none
  statics := none }

def pool4 : Array CpInfo := pool [(2, .class_ 4), (1, u "java/lang/CharSequence"), (42, .class_ 48), (0, u "java/lang/CharSequence$1CodePointIterator"), (10, .class_ 60), (0, u "java/lang/CharSequence$1CharIterator"), (5, .class_ 67), (0, u "java/lang/Object")] 63

/-- java/lang/CharSequence -/
def k4 : Class := { plain "java/lang/CharSequence" (some 0) with
  accessFlags := 1537
  interfaces := #[]
  cf := some (fileOf pool4 2 #[.nestMembers #[47, 59]] #[] 1537 66 #[] #[])
  fields := #[]
  methods := #[]
  instanceTypes := #[]
  staticTypes := #[]
  resolved := Array.replicate 131 none
  statics := none }

def pool5 : Array CpInfo := pool [(1, .class_ 2), (0, u "java/lang/constant/Constable"), (0, .class_ 4), (0, u "java/lang/Object")] 6

/-- java/lang/constant/Constable -/
def k5 : Class := { plain "java/lang/constant/Constable" (some 0) with
  accessFlags := 1537
  interfaces := #[]
  cf := some (fileOf pool5 1 #[] #[] 1537 3 #[] #[])
  fields := #[]
  methods := #[]
  instanceTypes := #[]
  staticTypes := #[]
  resolved := Array.replicate 11 none
  statics := none }

def pool6 : Array CpInfo := pool [(1, .class_ 2), (0, u "java/lang/constant/ConstantDesc"), (0, .class_ 4), (0, u "java/lang/Object")] 32

/-- java/lang/constant/ConstantDesc -/
def k6 : Class := { plain "java/lang/constant/ConstantDesc" (some 0) with
  accessFlags := 1537
  interfaces := #[]
  cf := some (fileOf pool6 1 #[] #[] 1537 3 #[] #[])
  fields := #[]
  methods := #[]
  instanceTypes := #[]
  staticTypes := #[]
  resolved := Array.replicate 37 none
  statics := none }

def pool7 : Array CpInfo := pool [(1, .methodref 2 3), (0, .class_ 4), (0, .nameAndType 5 6), (0, u "java/lang/Object"), (0, u "<init>"), (0, u "()V"), (2, .fieldref 10 11), (0, .class_ 12), (0, .nameAndType 13 14), (0, u "java/lang/String"), (0, u "value"), (0, u "[B"), (0, .fieldref 10 16), (0, .nameAndType 17 18), (0, u "coder"), (0, u "B"), (2, u "hash"), (0, u "I"), (2, u "hashIsZero"), (0, u "Z"), (0, .methodref 10 28), (0, .nameAndType 5 29), (0, u "([CIILjava/lang/Void;)V"), (6, u "checkBoundsOffCount"), (0, u "(III)I"), (0, .fieldref 10 39), (0, .nameAndType 40 26), (0, u "COMPACT_STRINGS"), (1, .class_ 44), (1, u "java/lang/StringUTF16"), (0, u "compress"), (1, .methodref 42 48), (0, .nameAndType 49 50), (0, u "coderFromArrayLen"), (0, u "([BI)B"), (3, .methodref 55 56), (0, .class_ 57), (0, .nameAndType 58 59), (0, u "java/util/Arrays"), (0, u "copyOfRange"), (0, u "([BII)[B"), (46, .methodref 107 108), (0, .class_ 109), (0, .nameAndType 110 111), (0, u "java/lang/StringLatin1"), (0, u "inflate"), (0, u "([BI[BII)V"), (30, u "()Z"), (34, .methodref 42 178), (0, .nameAndType 45 179), (0, u "([CII)[B"), (13, .class_ 195), (1, u "java/lang/System"), (16, .methodref 193 213), (0, .nameAndType 214 215), (0, u "arraycopy"), (0, u "(Ljava/lang/Object;ILjava/lang/Object;II)V"), (118, u "()I"), (0, .methodref 10 336), (0, .nameAndType 17 337), (0, u "()B"), (2, u "()[B"), (148, .methodref 10 490), (0, .nameAndType 5 491), (0, u "(Ljava/lang/AbstractStringBuilder;Ljava/lang/Void;)V"), (1, .nameAndType 494 142), (0, u "isLatin1"), (11, .nameAndType 507 334), (0, u "length"), (24, u "getBytes"), (8, .methodref 107 542), (0, .nameAndType 543 544), (0, u "equals"), (0, u "([B[B)Z"), (4, .methodref 550 506), (0, .class_ 551), (0, u "java/lang/AbstractStringBuilder"), (0, .methodref 550 553), (0, .nameAndType 554 340), (0, u "getValue"), (18, u "(Ljava/lang/Object;)Z"), (1, .class_ 576), (0, u "java/lang/CharSequence"), (22, u "CASE_INSENSITIVE_ORDER"), (0, u "Ljava/util/Comparator;"), (220, u "([BIB)V"), (188, u "([C)V"), (36, .methodref 550 493), (0, .fieldref 550 1049), (0, .nameAndType 1050 26), (0, u "maybeLatin1"), (2, .fieldref 1054 1055), (0, .class_ 1056), (0, .nameAndType 1057 1058), (0, u "jdk/internal/util/Preconditions"), (0, u "SIOOBE_FORMATTER"), (0, u "Ljava/util/function/BiFunction;"), (5, u "(IIILjava/util/function/BiFunction;)I"), (0, .methodref 1054 1066), (0, .nameAndType 1067 1064), (0, u "checkFromIndexSize"), (33, u "serialPersistentFields"), (0, u "[Ljava/io/ObjectStreamField;"), (0, .class_ 1104), (0, u "java/lang/String$CaseInsensitiveComparator"), (1, .class_ 1107), (0, u "java/io/Serializable"), (0, .class_ 1109), (0, u "java/lang/Comparable"), (0, .class_ 1111), (0, u "java/lang/constant/Constable"), (0, .class_ 1113), (0, u "java/lang/constant/ConstantDesc"), (2, u "serialVersionUID"), (0, u "J"), (3, u "REPL"), (0, u "C"), (2, u "LATIN1"), (1, u "UTF16"), (105, u "(Ljava/lang/StringBuilder;)V")] 217

def k7m0 : Method := { name := "<init>", desc := "()V", sig := { parameters := [], returnType := none }, accessFlags := 1, code := none }
def k7c1 : Code := { maxStack := 5, maxLocals := 2, code := jdk_42_method_3_code, exceptionTable := #[], attributes := #[] }
def k7m1 : Method := { name := "<init>", desc := "([C)V", sig := { parameters := [(.array .char)], returnType := none }, accessFlags := 1, code := some k7c1 }
def k7c2 : Code := { maxStack := 3, maxLocals := 2, code := jdk_42_method_53_code, exceptionTable := #[], attributes := #[] }
def k7m2 : Method := { name := "<init>", desc := "(Ljava/lang/StringBuilder;)V", sig := { parameters := [(.object "java/lang/StringBuilder")], returnType := none }, accessFlags := 1, code := some k7c2 }
def k7c3 : Code := { maxStack := 2, maxLocals := 1, code := jdk_42_method_54_code, exceptionTable := #[], attributes := #[] }
def k7m3 : Method := { name := "length", desc := "()I", sig := { parameters := [], returnType := some .int }, accessFlags := 1, code := some k7c3 }
def k7c4 : Code := { maxStack := 2, maxLocals := 3, code := jdk_42_method_66_code, exceptionTable := #[], attributes := #[] }
def k7m4 : Method := { name := "equals", desc := "(Ljava/lang/Object;)Z", sig := { parameters := [(.object "java/lang/Object")], returnType := some .boolean }, accessFlags := 1, code := some k7c4 }
def k7c5 : Code := { maxStack := 5, maxLocals := 4, code := jdk_42_method_147_code, exceptionTable := #[], attributes := #[] }
def k7m5 : Method := { name := "getBytes", desc := "([BIB)V", sig := { parameters := [(.array .byte), .int, .byte], returnType := none }, accessFlags := 0, code := some k7c5 }
def k7c6 : Code := { maxStack := 4, maxLocals := 6, code := jdk_42_method_149_code, exceptionTable := #[], attributes := #[] }
def k7m6 : Method := { name := "<init>", desc := "([CIILjava/lang/Void;)V", sig := { parameters := [(.array .char), .int, .int, (.object "java/lang/Void")], returnType := none }, accessFlags := 2, code := some k7c6 }
def k7c7 : Code := { maxStack := 5, maxLocals := 5, code := jdk_42_method_150_code, exceptionTable := #[], attributes := #[] }
def k7m7 : Method := { name := "<init>", desc := "(Ljava/lang/AbstractStringBuilder;Ljava/lang/Void;)V", sig := { parameters := [(.object "java/lang/AbstractStringBuilder"), (.object "java/lang/Void")], returnType := none }, accessFlags := 0, code := some k7c7 }
def k7c8 : Code := { maxStack := 1, maxLocals := 1, code := jdk_42_method_152_code, exceptionTable := #[], attributes := #[] }
def k7m8 : Method := { name := "coder", desc := "()B", sig := { parameters := [], returnType := some .byte }, accessFlags := 0, code := some k7c8 }
def k7c9 : Code := { maxStack := 4, maxLocals := 3, code := jdk_42_method_157_code, exceptionTable := #[], attributes := #[] }
def k7m9 : Method := { name := "checkBoundsOffCount", desc := "(III)I", sig := { parameters := [.int, .int, .int], returnType := some .int }, accessFlags := 8, code := some k7c9 }
/-- java/lang/String -/
def k7 : Class := { plain "java/lang/String" (some 0) with
  accessFlags := 49
  interfaces := #[2, 3, 4, 5, 6]
  cf := some (fileOf pool7 10 #[.nestMembers #[1103]] #[{ accessFlags := 1, nameIndex := 5, descriptorIndex := 6, attributes := #[] }, { accessFlags := 1, nameIndex := 5, descriptorIndex := 1010, attributes := #[] }, { accessFlags := 1, nameIndex := 5, descriptorIndex := 1233, attributes := #[] }, { accessFlags := 1, nameIndex := 507, descriptorIndex := 334, attributes := #[] }, { accessFlags := 1, nameIndex := 543, descriptorIndex := 573, attributes := #[] }, { accessFlags := 0, nameIndex := 532, descriptorIndex := 821, attributes := #[] }, { accessFlags := 2, nameIndex := 5, descriptorIndex := 29, attributes := #[] }, { accessFlags := 0, nameIndex := 5, descriptorIndex := 491, attributes := #[] }, { accessFlags := 0, nameIndex := 17, descriptorIndex := 337, attributes := #[] }, { accessFlags := 8, nameIndex := 36, descriptorIndex := 37, attributes := #[] }] 49 2 #[1106, 1108, 575, 1110, 1112] #[{ accessFlags := 18, nameIndex := 13, descriptorIndex := 14, attributes := #[] }, { accessFlags := 18, nameIndex := 17, descriptorIndex := 18, attributes := #[] }, { accessFlags := 2, nameIndex := 21, descriptorIndex := 22, attributes := #[] }, { accessFlags := 2, nameIndex := 25, descriptorIndex := 26, attributes := #[] }, { accessFlags := 26, nameIndex := 1116, descriptorIndex := 1117, attributes := #[] }, { accessFlags := 24, nameIndex := 40, descriptorIndex := 26, attributes := #[] }, { accessFlags := 26, nameIndex := 1101, descriptorIndex := 1102, attributes := #[] }, { accessFlags := 26, nameIndex := 1121, descriptorIndex := 1122, attributes := #[] }, { accessFlags := 25, nameIndex := 599, descriptorIndex := 600, attributes := #[] }, { accessFlags := 24, nameIndex := 1125, descriptorIndex := 18, attributes := #[] }, { accessFlags := 24, nameIndex := 1127, descriptorIndex := 18, attributes := #[] }])
  fields := #[{ name := "value", type := (.array .byte), accessFlags := 18, slot := 0, constantValue := 0 }, { name := "coder", type := .byte, accessFlags := 18, slot := 1, constantValue := 0 }, { name := "hash", type := .int, accessFlags := 2, slot := 2, constantValue := 0 }, { name := "hashIsZero", type := .boolean, accessFlags := 2, slot := 3, constantValue := 0 }, { name := "serialVersionUID", type := .long, accessFlags := 26, slot := 0, constantValue := 0 }, { name := "COMPACT_STRINGS", type := .boolean, accessFlags := 24, slot := 1, constantValue := 0 }, { name := "serialPersistentFields", type := (.array (.object "java/io/ObjectStreamField")), accessFlags := 26, slot := 2, constantValue := 0 }, { name := "REPL", type := .char, accessFlags := 26, slot := 3, constantValue := 0 }, { name := "CASE_INSENSITIVE_ORDER", type := (.object "java/util/Comparator"), accessFlags := 25, slot := 4, constantValue := 0 }, { name := "LATIN1", type := .byte, accessFlags := 24, slot := 5, constantValue := 0 }, { name := "UTF16", type := .byte, accessFlags := 24, slot := 6, constantValue := 0 }]
  methods := #[k7m0, k7m1, k7m2, k7m3, k7m4, k7m5, k7m6, k7m7, k7m8, k7m9]
  instanceTypes := #[(.array .byte), .byte, .int, .boolean]
  staticTypes := #[.long, .boolean, (.array (.object "java/io/ObjectStreamField")), .char, (.object "java/util/Comparator"), .byte, .byte]
  resolved := Array.replicate 1451 none
  statics := some 0 }

def pool8 : Array CpInfo := pool [(3, .class_ 4), (0, u "java/lang/String"), (1, .class_ 8), (1, u "java/lang/Object"), (0, u "<init>"), (0, u "()V"), (0, .methodref 12 13), (0, .class_ 14), (0, .nameAndType 15 16), (0, u "java/lang/StringUTF16"), (0, u "newBytesLength"), (0, u "(I)I"), (3, .integer 1073741823), (23, .fieldref 12 45), (0, .nameAndType 46 47), (0, u "$assertionsDisabled"), (0, u "Z"), (0, .methodref 12 49), (0, .nameAndType 50 51), (0, u "length"), (0, u "([B)I"), (7, .fieldref 12 60), (0, .nameAndType 61 62), (0, u "HI_BYTE_SHIFT"), (0, u "I"), (0, .fieldref 12 64), (0, .nameAndType 65 62), (0, u "LO_BYTE_SHIFT"), (5, .methodref 12 72), (0, .nameAndType 73 74), (0, u "getChar"), (0, u "([BI)C"), (24, u "(II[B)V"), (7, .methodref 12 108), (0, .nameAndType 109 110), (0, u "newBytesFor"), (0, u "(I)[B"), (0, .methodref 12 112), (0, .nameAndType 113 114), (0, u "putChar"), (0, u "([BII)V"), (0, .methodref 12 116), (0, .nameAndType 117 118), (0, u "compress"), (0, u "([CI[BII)I"), (0, .methodref 12 120), (0, .nameAndType 121 122), (0, u "toBytes"), (0, u "([CII)[B"), (17, u "inflate"), (0, u "([BI[BII)V"), (31, .methodref 12 174), (0, .nameAndType 175 99), (0, u "checkBoundsOffCount"), (85, u "coderFromArrayLen"), (0, u "([BI)B"), (18, u "(III)I"), (87, .class_ 371), (1, u "java/lang/StringUTF16$LinesSpliterator"), (47, .methodref 3 420), (0, .nameAndType 175 281), (9, u "MAX_LENGTH"), (196, .class_ 628), (0, u "java/lang/StringUTF16$CodePointsSpliterator"), (0, .class_ 630), (0, u "java/lang/StringUTF16$CharsSpliterator")] 4

def k8m0 : Method := { name := "<init>", desc := "()V", sig := { parameters := [], returnType := none }, accessFlags := 0, code := none }
def k8c1 : Code := { maxStack := 1, maxLocals := 1, code := jdk_52_method_2_code, exceptionTable := #[], attributes := #[] }
def k8m1 : Method := { name := "newBytesFor", desc := "(I)[B", sig := { parameters := [.int], returnType := some (.array .byte) }, accessFlags := 9, code := some k8c1 }
def k8c2 : Code := { maxStack := 4, maxLocals := 1, code := jdk_52_method_3_code, exceptionTable := #[], attributes := #[] }
def k8m2 : Method := { name := "newBytesLength", desc := "(I)I", sig := { parameters := [.int], returnType := some .int }, accessFlags := 9, code := some k8c2 }
def k8c3 : Code := { maxStack := 4, maxLocals := 3, code := jdk_52_method_4_code, exceptionTable := #[], attributes := #[] }
def k8m3 : Method := { name := "putChar", desc := "([BII)V", sig := { parameters := [(.array .byte), .int, .int], returnType := none }, accessFlags := 8, code := some k8c3 }
def k8c4 : Code := { maxStack := 3, maxLocals := 2, code := jdk_52_method_5_code, exceptionTable := #[], attributes := #[] }
def k8m4 : Method := { name := "getChar", desc := "([BI)C", sig := { parameters := [(.array .byte), .int], returnType := some .char }, accessFlags := 8, code := some k8c4 }
def k8c5 : Code := { maxStack := 2, maxLocals := 1, code := jdk_52_method_6_code, exceptionTable := #[], attributes := #[] }
def k8m5 : Method := { name := "length", desc := "([B)I", sig := { parameters := [(.array .byte)], returnType := some .int }, accessFlags := 9, code := some k8c5 }
def k8c6 : Code := { maxStack := 4, maxLocals := 5, code := jdk_52_method_14_code, exceptionTable := #[], attributes := #[] }
def k8m6 : Method := { name := "toBytes", desc := "([CII)[B", sig := { parameters := [(.array .char), .int, .int], returnType := some (.array .byte) }, accessFlags := 9, code := some k8c6 }
def k8c7 : Code := { maxStack := 2, maxLocals := 2, code := jdk_52_method_15_code, exceptionTable := #[], attributes := #[] }
def k8m7 : Method := { name := "coderFromArrayLen", desc := "([BI)B", sig := { parameters := [(.array .byte), .int], returnType := some .byte }, accessFlags := 8, code := some k8c7 }
def k8c8 : Code := { maxStack := 5, maxLocals := 6, code := jdk_52_method_16_code, exceptionTable := #[], attributes := #[] }
def k8m8 : Method := { name := "compress", desc := "([CII)[B", sig := { parameters := [(.array .char), .int, .int], returnType := some (.array .byte) }, accessFlags := 9, code := some k8c8 }
def k8c9 : Code := { maxStack := 3, maxLocals := 7, code := jdk_52_method_21_code, exceptionTable := #[], attributes := #[] }
def k8m9 : Method := { name := "compress", desc := "([CI[BII)I", sig := { parameters := [(.array .char), .int, (.array .byte), .int, .int], returnType := some .int }, accessFlags := 9, code := some k8c9 }
def k8c10 : Code := { maxStack := 4, maxLocals := 6, code := jdk_52_method_86_code, exceptionTable := #[], attributes := #[] }
def k8m10 : Method := { name := "inflate", desc := "([BI[BII)V", sig := { parameters := [(.array .byte), .int, (.array .byte), .int, .int], returnType := none }, accessFlags := 9, code := some k8c10 }
def k8c11 : Code := { maxStack := 3, maxLocals := 3, code := jdk_52_method_94_code, exceptionTable := #[], attributes := #[] }
def k8m11 : Method := { name := "checkBoundsOffCount", desc := "(II[B)V", sig := { parameters := [.int, .int, (.array .byte)], returnType := none }, accessFlags := 9, code := some k8c11 }
/-- java/lang/StringUTF16 -/
def k8 : Class := { plain "java/lang/StringUTF16" (some 0) with
  accessFlags := 48
  interfaces := #[]
  cf := some (fileOf pool8 12 #[.nestMembers #[627, 629, 369]] #[{ accessFlags := 0, nameIndex := 9, descriptorIndex := 10, attributes := #[] }, { accessFlags := 9, nameIndex := 109, descriptorIndex := 110, attributes := #[] }, { accessFlags := 9, nameIndex := 15, descriptorIndex := 16, attributes := #[] }, { accessFlags := 8, nameIndex := 113, descriptorIndex := 114, attributes := #[] }, { accessFlags := 8, nameIndex := 73, descriptorIndex := 74, attributes := #[] }, { accessFlags := 9, nameIndex := 50, descriptorIndex := 51, attributes := #[] }, { accessFlags := 9, nameIndex := 121, descriptorIndex := 122, attributes := #[] }, { accessFlags := 8, nameIndex := 261, descriptorIndex := 262, attributes := #[] }, { accessFlags := 9, nameIndex := 117, descriptorIndex := 122, attributes := #[] }, { accessFlags := 9, nameIndex := 117, descriptorIndex := 118, attributes := #[] }, { accessFlags := 9, nameIndex := 140, descriptorIndex := 141, attributes := #[] }, { accessFlags := 9, nameIndex := 175, descriptorIndex := 99, attributes := #[] }] 48 6 #[] #[{ accessFlags := 26, nameIndex := 61, descriptorIndex := 62, attributes := #[] }, { accessFlags := 26, nameIndex := 65, descriptorIndex := 62, attributes := #[] }, { accessFlags := 24, nameIndex := 430, descriptorIndex := 62, attributes := #[] }, { accessFlags := 4120, nameIndex := 46, descriptorIndex := 47, attributes := #[] }])
  fields := #[{ name := "HI_BYTE_SHIFT", type := .int, accessFlags := 26, slot := 0, constantValue := 0 }, { name := "LO_BYTE_SHIFT", type := .int, accessFlags := 26, slot := 1, constantValue := 0 }, { name := "MAX_LENGTH", type := .int, accessFlags := 24, slot := 2, constantValue := 0 }, { name := "$assertionsDisabled", type := .boolean, accessFlags := 4120, slot := 3, constantValue := 0 }]
  methods := #[k8m0, k8m1, k8m2, k8m3, k8m4, k8m5, k8m6, k8m7, k8m8, k8m9, k8m10, k8m11]
  instanceTypes := #[]
  staticTypes := #[.int, .int, .int, .boolean]
  resolved := Array.replicate 635 none
  statics := some 1 }

def pool9 : Array CpInfo := pool [(2, .class_ 4), (0, .nameAndType 5 6), (0, u "java/lang/Object"), (0, u "<init>"), (0, u "()V"), (22, .class_ 30), (0, u "com/example/rollcall/rollcall/core/Names"), (14, .class_ 46), (0, u "com/example/rollcall/rollcall/core/RefusedException"), (2, .class_ 50), (0, u "java/lang/StringBuilder"), (0, .methodref 49 3), (2, .methodref 49 55), (0, .nameAndType 56 57), (0, u "append"), (0, u "(Ljava/lang/String;)Ljava/lang/StringBuilder;"), (9, .methodref 49 68), (0, .nameAndType 69 70), (0, u "toString"), (0, u "()Ljava/lang/String;"), (0, .methodref 45 72), (0, .nameAndType 5 73), (0, u "(Ljava/lang/String;Ljava/lang/String;)V"), (0, .string 75), (0, u "name_taken"), (0, .string 77), (0, u "the "), (0, .string 79), (0, u " '"), (0, .string 81), (0, u "' is already taken"), (25, u "MIN_LENGTH"), (0, u "I"), (2, u "MAX_LENGTH"), (7, u "taken"), (0, u "(Ljava/lang/String;Ljava/lang/String;)Lcom/example/rollcall/rollcall/core/RefusedException;")] 24

def k9m0 : Method := { name := "<init>", desc := "()V", sig := { parameters := [], returnType := none }, accessFlags := 2, code := none }
def k9c1 : Code := { maxStack := 5, maxLocals := 2, code := prog_11_method_3_code, exceptionTable := #[], attributes := #[] }
def k9m1 : Method := { name := "taken", desc := "(Ljava/lang/String;Ljava/lang/String;)Lcom/example/rollcall/rollcall/core/RefusedException;", sig := { parameters := [(.object "java/lang/String"), (.object "java/lang/String")], returnType := some (.object "com/example/rollcall/rollcall/core/RefusedException") }, accessFlags := 8, code := some k9c1 }
/-- com/example/rollcall/rollcall/core/Names -/
def k9 : Class := { plain "com/example/rollcall/rollcall/core/Names" (some 0) with
  accessFlags := 48
  interfaces := #[]
  cf := some (fileOf pool9 29 #[] #[{ accessFlags := 2, nameIndex := 5, descriptorIndex := 6, attributes := #[] }, { accessFlags := 8, nameIndex := 119, descriptorIndex := 120, attributes := #[] }] 48 2 #[] #[{ accessFlags := 24, nameIndex := 107, descriptorIndex := 108, attributes := #[] }, { accessFlags := 24, nameIndex := 111, descriptorIndex := 108, attributes := #[] }])
  fields := #[{ name := "MIN_LENGTH", type := .int, accessFlags := 24, slot := 0, constantValue := 0 }, { name := "MAX_LENGTH", type := .int, accessFlags := 24, slot := 1, constantValue := 0 }]
  methods := #[k9m0, k9m1]
  instanceTypes := #[]
  staticTypes := #[.int, .int]
  resolved := Array.replicate 145 none
  statics := none }

def pool10 : Array CpInfo := pool [(1, .methodref 2 3), (0, .class_ 4), (0, .nameAndType 5 6), (0, u "java/lang/Object"), (0, u "<init>"), (0, u "()V"), (0, .fieldref 8 9), (0, .class_ 10), (0, .nameAndType 11 12), (0, u "java/lang/Throwable"), (0, u "cause"), (0, u "Ljava/lang/Throwable;"), (0, .fieldref 8 14), (0, .nameAndType 15 16), (0, u "UNASSIGNED_STACK"), (0, u "[Ljava/lang/StackTraceElement;"), (0, .fieldref 8 18), (0, .nameAndType 19 16), (0, u "stackTrace"), (0, .fieldref 8 21), (0, .nameAndType 22 23), (0, u "SUPPRESSED_SENTINEL"), (0, u "Ljava/util/List;"), (0, .fieldref 8 25), (0, .nameAndType 26 23), (0, u "suppressedExceptions"), (0, .methodref 8 28), (0, .nameAndType 29 30), (0, u "fillInStackTrace"), (0, u "()Ljava/lang/Throwable;"), (0, .fieldref 8 32), (0, .nameAndType 33 34), (0, u "detailMessage"), (0, u "Ljava/lang/String;"), (3, u "()Ljava/lang/String;"), (2, u "getMessage"), (51, .class_ 94), (0, u "java/lang/Throwable$WrappedPrintStream"), (6, .class_ 103), (1, u "java/lang/Throwable$PrintStreamOrWriter"), (61, u "$assertionsDisabled"), (0, u "Z"), (26, .class_ 194), (0, u "java/lang/Throwable$WrappedPrintWriter"), (3, .fieldref 8 199), (0, .nameAndType 200 201), (0, u "backtrace"), (0, u "Ljava/lang/Object;"), (0, .methodref 8 203), (0, .nameAndType 29 204), (0, u "(I)Ljava/lang/Throwable;"), (6, u "depth"), (0, u "I"), (10, u "(Ljava/lang/String;)V"), (45, .class_ 271), (1, u "java/lang/Throwable$SentinelHolder"), (32, u "EMPTY_THROWABLE_ARRAY"), (0, u "[Ljava/lang/Throwable;"), (12, .class_ 319), (0, u "java/io/Serializable"), (0, u "serialVersionUID"), (0, u "J"), (5, u "NULL_CAUSE_MESSAGE"), (0, u "SELF_SUPPRESSION_MESSAGE"), (0, u "CAUSE_CAPTION"), (0, u "SUPPRESSED_CAPTION")] 73

def k10c0 : Code := { maxStack := 2, maxLocals := 1, code := jdk_78_method_1_code, exceptionTable := #[], attributes := #[] }
def k10m0 : Method := { name := "<init>", desc := "()V", sig := { parameters := [], returnType := none }, accessFlags := 1, code := some k10c0 }
def k10c1 : Code := { maxStack := 2, maxLocals := 2, code := jdk_78_method_2_code, exceptionTable := #[], attributes := #[] }
def k10m1 : Method := { name := "<init>", desc := "(Ljava/lang/String;)V", sig := { parameters := [(.object "java/lang/String")], returnType := none }, accessFlags := 1, code := some k10c1 }
def k10c2 : Code := { maxStack := 1, maxLocals := 1, code := jdk_78_method_6_code, exceptionTable := #[], attributes := #[] }
def k10m2 : Method := { name := "getMessage", desc := "()Ljava/lang/String;", sig := { parameters := [], returnType := some (.object "java/lang/String") }, accessFlags := 1, code := some k10c2 }
def k10c3 : Code := { maxStack := 2, maxLocals := 1, code := ⟨#[0x2a, 0xb4, 0x00, 0x11, 0xc7, 0x00, 0x0a, 0x2a, 0xb4, 0x00, 0xc6, 0xc6, 0x00, 0x10, 0x2a, 0x03, 0xb6, 0x00, 0xca, 0x57, 0x2a, 0xb2, 0x00, 0x0d, 0xb5, 0x00, 0x11, 0x2a, 0xb0]⟩, exceptionTable := #[], attributes := #[] }
def k10m3 : Method := { name := "fillInStackTrace", desc := "()Ljava/lang/Throwable;", sig := { parameters := [], returnType := some (.object "java/lang/Throwable") }, accessFlags := 33, code := some k10c3 }
def k10m4 : Method := { name := "fillInStackTrace", desc := "(I)Ljava/lang/Throwable;", sig := { parameters := [.int], returnType := some (.object "java/lang/Throwable") }, accessFlags := 258, code := none }
/-- java/lang/Throwable -/
def k10 : Class := { plain "java/lang/Throwable" (some 0) with
  accessFlags := 33
  interfaces := #[2]
  cf := some (fileOf pool10 8 #[.nestMembers #[193, 93, 101, 269]] #[{ accessFlags := 1, nameIndex := 5, descriptorIndex := 6, attributes := #[] }, { accessFlags := 1, nameIndex := 5, descriptorIndex := 223, attributes := #[] }, { accessFlags := 1, nameIndex := 41, descriptorIndex := 38, attributes := #[] }, { accessFlags := 33, nameIndex := 29, descriptorIndex := 30, attributes := #[] }, { accessFlags := 258, nameIndex := 29, descriptorIndex := 204, attributes := #[] }] 33 2 #[318] #[{ accessFlags := 26, nameIndex := 320, descriptorIndex := 321, attributes := #[] }, { accessFlags := 130, nameIndex := 200, descriptorIndex := 201, attributes := #[] }, { accessFlags := 2, nameIndex := 33, descriptorIndex := 34, attributes := #[] }, { accessFlags := 26, nameIndex := 15, descriptorIndex := 16, attributes := #[] }, { accessFlags := 2, nameIndex := 11, descriptorIndex := 12, attributes := #[] }, { accessFlags := 2, nameIndex := 19, descriptorIndex := 16, attributes := #[] }, { accessFlags := 130, nameIndex := 211, descriptorIndex := 212, attributes := #[] }, { accessFlags := 26, nameIndex := 22, descriptorIndex := 23, attributes := #[] }, { accessFlags := 2, nameIndex := 26, descriptorIndex := 23, attributes := #[] }, { accessFlags := 26, nameIndex := 327, descriptorIndex := 34, attributes := #[] }, { accessFlags := 26, nameIndex := 328, descriptorIndex := 34, attributes := #[] }, { accessFlags := 26, nameIndex := 329, descriptorIndex := 34, attributes := #[] }, { accessFlags := 26, nameIndex := 330, descriptorIndex := 34, attributes := #[] }, { accessFlags := 26, nameIndex := 304, descriptorIndex := 305, attributes := #[] }, { accessFlags := 4120, nameIndex := 165, descriptorIndex := 166, attributes := #[] }])
  fields := #[{ name := "serialVersionUID", type := .long, accessFlags := 26, slot := 0, constantValue := 0 }, { name := "backtrace", type := (.object "java/lang/Object"), accessFlags := 130, slot := 0, constantValue := 0 }, { name := "detailMessage", type := (.object "java/lang/String"), accessFlags := 2, slot := 1, constantValue := 0 }, { name := "UNASSIGNED_STACK", type := (.array (.object "java/lang/StackTraceElement")), accessFlags := 26, slot := 1, constantValue := 0 }, { name := "cause", type := (.object "java/lang/Throwable"), accessFlags := 2, slot := 2, constantValue := 0 }, { name := "stackTrace", type := (.array (.object "java/lang/StackTraceElement")), accessFlags := 2, slot := 3, constantValue := 0 }, { name := "depth", type := .int, accessFlags := 130, slot := 4, constantValue := 0 }, { name := "SUPPRESSED_SENTINEL", type := (.object "java/util/List"), accessFlags := 26, slot := 2, constantValue := 0 }, { name := "suppressedExceptions", type := (.object "java/util/List"), accessFlags := 2, slot := 5, constantValue := 0 }, { name := "NULL_CAUSE_MESSAGE", type := (.object "java/lang/String"), accessFlags := 26, slot := 3, constantValue := 0 }, { name := "SELF_SUPPRESSION_MESSAGE", type := (.object "java/lang/String"), accessFlags := 26, slot := 4, constantValue := 0 }, { name := "CAUSE_CAPTION", type := (.object "java/lang/String"), accessFlags := 26, slot := 5, constantValue := 0 }, { name := "SUPPRESSED_CAPTION", type := (.object "java/lang/String"), accessFlags := 26, slot := 6, constantValue := 0 }, { name := "EMPTY_THROWABLE_ARRAY", type := (.array (.object "java/lang/Throwable")), accessFlags := 26, slot := 7, constantValue := 0 }, { name := "$assertionsDisabled", type := .boolean, accessFlags := 4120, slot := 8, constantValue := 0 }]
  methods := #[k10m0, k10m1, k10m2, k10m3, k10m4]
  instanceTypes := #[(.object "java/lang/Object"), (.object "java/lang/String"), (.object "java/lang/Throwable"), (.array (.object "java/lang/StackTraceElement")), .int, (.object "java/util/List")]
  staticTypes := #[.long, (.array (.object "java/lang/StackTraceElement")), (.object "java/util/List"), (.object "java/lang/String"), (.object "java/lang/String"), (.object "java/lang/String"), (.object "java/lang/String"), (.array (.object "java/lang/Throwable")), .boolean]
  resolved := Array.replicate 404 none
  statics := some 2 }

def pool11 : Array CpInfo := pool [(2, .class_ 4), (1, u "java/lang/Throwable"), (0, u "<init>"), (0, u "()V"), (0, .methodref 2 8), (0, .nameAndType 5 9), (0, u "(Ljava/lang/String;)V"), (9, .class_ 20), (0, u "java/lang/Exception"), (0, u "serialVersionUID"), (0, u "J")] 17

def k11m0 : Method := { name := "<init>", desc := "()V", sig := { parameters := [], returnType := none }, accessFlags := 1, code := none }
def k11c1 : Code := { maxStack := 2, maxLocals := 2, code := jdk_59_method_2_code, exceptionTable := #[], attributes := #[] }
def k11m1 : Method := { name := "<init>", desc := "(Ljava/lang/String;)V", sig := { parameters := [(.object "java/lang/String")], returnType := none }, accessFlags := 1, code := some k11c1 }
/-- java/lang/Exception -/
def k11 : Class := { plain "java/lang/Exception" (some 10) with
  accessFlags := 33
  interfaces := #[]
  cf := some (fileOf pool11 19 #[] #[{ accessFlags := 1, nameIndex := 5, descriptorIndex := 6, attributes := #[] }, { accessFlags := 1, nameIndex := 5, descriptorIndex := 9, attributes := #[] }] 33 2 #[] #[{ accessFlags := 24, nameIndex := 21, descriptorIndex := 22, attributes := #[] }])
  fields := #[{ name := "serialVersionUID", type := .long, accessFlags := 24, slot := 0, constantValue := 0 }]
  methods := #[k11m0, k11m1]
  instanceTypes := #[(.object "java/lang/Object"), (.object "java/lang/String"), (.object "java/lang/Throwable"), (.array (.object "java/lang/StackTraceElement")), .int, (.object "java/util/List")]
  staticTypes := #[.long]
  resolved := Array.replicate 40 none
  statics := none }

def pool12 : Array CpInfo := pool [(1, .methodref 2 3), (0, .class_ 4), (0, .nameAndType 5 6), (0, u "java/lang/Exception"), (0, u "<init>"), (0, u "(Ljava/lang/String;)V"), (0, .fieldref 8 9), (0, .class_ 10), (0, .nameAndType 11 12), (0, u "com/example/rollcall/rollcall/core/RefusedException"), (0, u "code"), (0, u "Ljava/lang/String;"), (0, u "serialVersionUID"), (0, u "J"), (3, u "(Ljava/lang/String;Ljava/lang/String;)V"), (2, u "()Ljava/lang/String;")] 2

def k12c0 : Code := { maxStack := 2, maxLocals := 3, code := prog_15_method_1_code, exceptionTable := #[], attributes := #[] }
def k12m0 : Method := { name := "<init>", desc := "(Ljava/lang/String;Ljava/lang/String;)V", sig := { parameters := [(.object "java/lang/String"), (.object "java/lang/String")], returnType := none }, accessFlags := 0, code := some k12c0 }
def k12c1 : Code := { maxStack := 1, maxLocals := 1, code := prog_15_method_2_code, exceptionTable := #[], attributes := #[] }
def k12m1 : Method := { name := "code", desc := "()Ljava/lang/String;", sig := { parameters := [], returnType := some (.object "java/lang/String") }, accessFlags := 1, code := some k12c1 }
/-- com/example/rollcall/rollcall/core/RefusedException -/
def k12 : Class := { plain "com/example/rollcall/rollcall/core/RefusedException" (some 11) with
  accessFlags := 49
  interfaces := #[]
  cf := some (fileOf pool12 8 #[] #[{ accessFlags := 0, nameIndex := 5, descriptorIndex := 18, attributes := #[] }, { accessFlags := 1, nameIndex := 11, descriptorIndex := 21, attributes := #[] }] 49 2 #[] #[{ accessFlags := 26, nameIndex := 13, descriptorIndex := 14, attributes := #[] }, { accessFlags := 18, nameIndex := 11, descriptorIndex := 12, attributes := #[] }])
  fields := #[{ name := "serialVersionUID", type := .long, accessFlags := 26, slot := 0, constantValue := 0 }, { name := "code", type := (.object "java/lang/String"), accessFlags := 18, slot := 6, constantValue := 0 }]
  methods := #[k12m0, k12m1]
  instanceTypes := #[(.object "java/lang/Object"), (.object "java/lang/String"), (.object "java/lang/Throwable"), (.array (.object "java/lang/StackTraceElement")), .int, (.object "java/util/List"), (.object "java/lang/String")]
  staticTypes := #[.long]
  resolved := Array.replicate 24 none
  statics := none }

def pool13 : Array CpInfo := pool [(1, .class_ 2), (0, u "java/lang/Appendable"), (0, .class_ 4), (0, u "java/lang/Object")] 9

/-- java/lang/Appendable -/
def k13 : Class := { plain "java/lang/Appendable" (some 0) with
  accessFlags := 1537
  interfaces := #[]
  cf := some (fileOf pool13 1 #[] #[] 1537 3 #[] #[])
  fields := #[]
  methods := #[]
  instanceTypes := #[]
  staticTypes := #[]
  resolved := Array.replicate 14 none
  statics := none }

def pool14 : Array CpInfo := pool [(1, .class_ 2), (0, u "java/lang/String"), (0, .methodref 4 5), (0, .class_ 6), (0, .nameAndType 7 8), (0, u "java/lang/Object"), (0, u "<init>"), (0, u "()V"), (1, .class_ 12), (1, u "java/lang/AbstractStringBuilder"), (0, u "EMPTYVALUE"), (0, u "[B"), (0, .fieldref 10 16), (0, .nameAndType 17 14), (0, u "value"), (0, .fieldref 1 19), (0, .nameAndType 20 21), (0, u "COMPACT_STRINGS"), (0, u "Z"), (0, .fieldref 10 23), (0, .nameAndType 24 25), (0, u "coder"), (0, u "B"), (0, .methodref 27 28), (0, .class_ 29), (0, .nameAndType 30 31), (0, u "java/lang/StringUTF16"), (0, u "newBytesFor"), (0, u "(I)[B"), (0, .methodref 1 33), (0, .nameAndType 34 35), (0, u "length"), (0, u "()I"), (3, .integer 2147483647), (0, .methodref 1 41), (0, .nameAndType 24 42), (0, u "()B"), (2, u "append"), (0, u "(Ljava/lang/String;)Ljava/lang/AbstractStringBuilder;"), (1, .class_ 49), (0, u "java/lang/CharSequence"), (19, u "(Ljava/lang/String;)V"), (5, u "maybeLatin1"), (3, .fieldref 10 80), (0, .nameAndType 81 82), (0, u "count"), (0, u "I"), (0, .methodref 10 84), (0, .nameAndType 85 86), (0, u "isLatin1"), (0, u "()Z"), (1, .class_ 90), (1, u "java/lang/StringLatin1"), (9, .methodref 10 101), (0, .nameAndType 102 103), (0, u "ensureCapacityInternal"), (0, u "(I)V"), (0, .methodref 10 105), (0, .nameAndType 106 107), (0, u "newCapacity"), (0, u "(I)I"), (0, .methodref 109 110), (0, .class_ 111), (0, .nameAndType 112 113), (0, u "java/util/Arrays"), (0, u "copyOf"), (0, u "([BI)[B"), (0, .methodref 115 116), (0, .class_ 117), (0, .nameAndType 118 119), (0, u "jdk/internal/util/ArraysSupport"), (0, u "newLength"), (0, u "(III)I"), (5, .methodref 88 126), (0, .nameAndType 127 128), (0, u "inflate"), (0, u "([BI[BII)V"), (66, .methodref 10 196), (0, .nameAndType 127 8), (11, .methodref 10 209), (0, .nameAndType 210 211), (0, u "putStringAt"), (0, u "(ILjava/lang/String;)V"), (5, u "inflateIfNeededFor"), (2, .nameAndType 221 222), (0, u "getBytes"), (0, u "([BIB)V"), (174, .methodref 10 398), (0, .nameAndType 217 69), (0, .methodref 1 220), (3, u "()[B"), (40, .class_ 445), (0, u "java/lang/Appendable"), (106, u "getValue")] 56

def k14m0 : Method := { name := "<init>", desc := "()V", sig := { parameters := [], returnType := none }, accessFlags := 0, code := none }
def k14c1 : Code := { maxStack := 2, maxLocals := 2, code := jdk_68_method_2_code, exceptionTable := #[], attributes := #[] }
def k14m1 : Method := { name := "<init>", desc := "(I)V", sig := { parameters := [.int], returnType := none }, accessFlags := 0, code := some k14c1 }
def k14c2 : Code := { maxStack := 1, maxLocals := 1, code := jdk_68_method_6_code, exceptionTable := #[], attributes := #[] }
def k14m2 : Method := { name := "length", desc := "()I", sig := { parameters := [], returnType := some .int }, accessFlags := 1, code := some k14c2 }
def k14c3 : Code := { maxStack := 4, maxLocals := 3, code := jdk_68_method_9_code, exceptionTable := #[], attributes := #[] }
def k14m3 : Method := { name := "ensureCapacityInternal", desc := "(I)V", sig := { parameters := [.int], returnType := none }, accessFlags := 2, code := some k14c3 }
def k14c4 : Code := { maxStack := 5, maxLocals := 6, code := jdk_68_method_10_code, exceptionTable := #[], attributes := #[] }
def k14m4 : Method := { name := "newCapacity", desc := "(I)I", sig := { parameters := [.int], returnType := some .int }, accessFlags := 2, code := some k14c4 }
def k14c5 : Code := { maxStack := 5, maxLocals := 2, code := jdk_68_method_11_code, exceptionTable := #[], attributes := #[] }
def k14m5 : Method := { name := "inflate", desc := "()V", sig := { parameters := [], returnType := none }, accessFlags := 2, code := some k14c5 }
def k14c6 : Code := { maxStack := 3, maxLocals := 3, code := jdk_68_method_22_code, exceptionTable := #[], attributes := #[] }
def k14m6 : Method := { name := "append", desc := "(Ljava/lang/String;)Ljava/lang/AbstractStringBuilder;", sig := { parameters := [(.object "java/lang/String")], returnType := some (.object "java/lang/AbstractStringBuilder") }, accessFlags := 1, code := some k14c6 }
def k14c7 : Code := { maxStack := 1, maxLocals := 1, code := jdk_68_method_64_code, exceptionTable := #[], attributes := #[] }
def k14m7 : Method := { name := "getValue", desc := "()[B", sig := { parameters := [], returnType := some (.array .byte) }, accessFlags := 16, code := some k14c7 }
def k14c8 : Code := { maxStack := 1, maxLocals := 1, code := jdk_68_method_68_code, exceptionTable := #[], attributes := #[] }
def k14m8 : Method := { name := "isLatin1", desc := "()Z", sig := { parameters := [], returnType := some .boolean }, accessFlags := 16, code := some k14c8 }
def k14c9 : Code := { maxStack := 2, maxLocals := 2, code := jdk_68_method_71_code, exceptionTable := #[], attributes := #[] }
def k14m9 : Method := { name := "inflateIfNeededFor", desc := "(Ljava/lang/String;)V", sig := { parameters := [(.object "java/lang/String")], returnType := none }, accessFlags := 2, code := some k14c9 }
def k14c10 : Code := { maxStack := 4, maxLocals := 3, code := jdk_68_method_73_code, exceptionTable := #[], attributes := #[] }
def k14m10 : Method := { name := "putStringAt", desc := "(ILjava/lang/String;)V", sig := { parameters := [.int, (.object "java/lang/String")], returnType := none }, accessFlags := 2, code := some k14c10 }
/-- java/lang/AbstractStringBuilder -/
def k14 : Class := { plain "java/lang/AbstractStringBuilder" (some 0) with
  accessFlags := 1056
  interfaces := #[13, 4]
  cf := some (fileOf pool14 10 #[] #[{ accessFlags := 0, nameIndex := 7, descriptorIndex := 8, attributes := #[] }, { accessFlags := 0, nameIndex := 7, descriptorIndex := 103, attributes := #[] }, { accessFlags := 1, nameIndex := 34, descriptorIndex := 35, attributes := #[] }, { accessFlags := 2, nameIndex := 102, descriptorIndex := 103, attributes := #[] }, { accessFlags := 2, nameIndex := 106, descriptorIndex := 107, attributes := #[] }, { accessFlags := 2, nameIndex := 127, descriptorIndex := 8, attributes := #[] }, { accessFlags := 1, nameIndex := 45, descriptorIndex := 46, attributes := #[] }, { accessFlags := 16, nameIndex := 552, descriptorIndex := 403, attributes := #[] }, { accessFlags := 16, nameIndex := 85, descriptorIndex := 86, attributes := #[] }, { accessFlags := 2, nameIndex := 217, descriptorIndex := 69, attributes := #[] }, { accessFlags := 2, nameIndex := 210, descriptorIndex := 211, attributes := #[] }] 1056 4 #[444, 48] #[{ accessFlags := 0, nameIndex := 17, descriptorIndex := 14, attributes := #[] }, { accessFlags := 0, nameIndex := 24, descriptorIndex := 25, attributes := #[] }, { accessFlags := 0, nameIndex := 75, descriptorIndex := 21, attributes := #[] }, { accessFlags := 0, nameIndex := 81, descriptorIndex := 82, attributes := #[] }, { accessFlags := 26, nameIndex := 13, descriptorIndex := 14, attributes := #[] }])
  fields := #[{ name := "value", type := (.array .byte), accessFlags := 0, slot := 0, constantValue := 0 }, { name := "coder", type := .byte, accessFlags := 0, slot := 1, constantValue := 0 }, { name := "maybeLatin1", type := .boolean, accessFlags := 0, slot := 2, constantValue := 0 }, { name := "count", type := .int, accessFlags := 0, slot := 3, constantValue := 0 }, { name := "EMPTYVALUE", type := (.array .byte), accessFlags := 26, slot := 0, constantValue := 0 }]
  methods := #[k14m0, k14m1, k14m2, k14m3, k14m4, k14m5, k14m6, k14m7, k14m8, k14m9, k14m10]
  instanceTypes := #[(.array .byte), .byte, .boolean, .int]
  staticTypes := #[(.array .byte)]
  resolved := Array.replicate 609 none
  statics := none }

def pool15 : Array CpInfo := pool [(1, .methodref 2 3), (0, .class_ 4), (0, .nameAndType 5 6), (0, u "java/lang/AbstractStringBuilder"), (0, u "<init>"), (0, u "(I)V"), (11, .class_ 20), (1, u "java/lang/String"), (3, .class_ 26), (1, u "java/lang/StringBuilder"), (0, u "append"), (0, u "(Ljava/lang/String;)Ljava/lang/StringBuilder;"), (0, .methodref 2 30), (0, .nameAndType 27 31), (0, u "(Ljava/lang/String;)Ljava/lang/AbstractStringBuilder;"), (105, .methodref 18 138), (0, .nameAndType 5 139), (0, u "(Ljava/lang/StringBuilder;)V"), (5, u "()V"), (10, u "()I"), (186, .methodref 2 344), (0, .nameAndType 345 156), (0, u "length"), (3, .class_ 350), (0, u "java/lang/Appendable"), (0, .class_ 352), (0, u "java/io/Serializable"), (0, .class_ 354), (0, u "java/lang/Comparable"), (0, .class_ 356), (0, u "java/lang/CharSequence"), (0, u "serialVersionUID"), (0, u "J"), (40, u "toString"), (0, u "()Ljava/lang/String;")] 21

def k15c0 : Code := { maxStack := 2, maxLocals := 1, code := jdk_67_method_1_code, exceptionTable := #[], attributes := #[] }
def k15m0 : Method := { name := "<init>", desc := "()V", sig := { parameters := [], returnType := none }, accessFlags := 1, code := some k15c0 }
def k15c1 : Code := { maxStack := 2, maxLocals := 2, code := jdk_67_method_7_code, exceptionTable := #[], attributes := #[] }
def k15m1 : Method := { name := "append", desc := "(Ljava/lang/String;)Ljava/lang/StringBuilder;", sig := { parameters := [(.object "java/lang/String")], returnType := some (.object "java/lang/StringBuilder") }, accessFlags := 1, code := some k15c1 }
def k15c2 : Code := { maxStack := 3, maxLocals := 1, code := jdk_67_method_42_code, exceptionTable := #[], attributes := #[] }
def k15m2 : Method := { name := "toString", desc := "()Ljava/lang/String;", sig := { parameters := [], returnType := some (.object "java/lang/String") }, accessFlags := 1, code := some k15c2 }
def k15c3 : Code := { maxStack := 1, maxLocals := 1, code := jdk_67_method_93_code, exceptionTable := #[], attributes := #[] }
def k15m3 : Method := { name := "length", desc := "()I", sig := { parameters := [], returnType := some .int }, accessFlags := 4161, code := some k15c3 }
/-- java/lang/StringBuilder -/
def k15 : Class := { plain "java/lang/StringBuilder" (some 14) with
  accessFlags := 49
  interfaces := #[13, 2, 3, 4]
  cf := some (fileOf pool15 24 #[] #[{ accessFlags := 1, nameIndex := 5, descriptorIndex := 145, attributes := #[] }, { accessFlags := 1, nameIndex := 27, descriptorIndex := 28, attributes := #[] }, { accessFlags := 1, nameIndex := 399, descriptorIndex := 400, attributes := #[] }, { accessFlags := 4161, nameIndex := 345, descriptorIndex := 156, attributes := #[] }] 49 2 #[349, 351, 353, 355] #[{ accessFlags := 24, nameIndex := 357, descriptorIndex := 358, attributes := #[] }])
  fields := #[{ name := "serialVersionUID", type := .long, accessFlags := 24, slot := 0, constantValue := 0 }]
  methods := #[k15m0, k15m1, k15m2, k15m3]
  instanceTypes := #[(.array .byte), .byte, .boolean, .int]
  staticTypes := #[.long]
  resolved := Array.replicate 422 none
  statics := none }

def pool16 : Array CpInfo := pool [(2, .class_ 4), (1, u "java/lang/Object"), (0, u "<init>"), (0, u "()V"), (1, .class_ 10), (1, u "java/lang/System"), (0, u "allowSecurityManager"), (0, u "I"), (16, u "cons"), (0, u "Ljava/io/Console;"), (77, .class_ 110), (1, u "java/lang/System$CallersHolder"), (43, u "initialErrStream"), (0, u "Ljava/io/PrintStream;"), (19, u "security"), (0, u "Ljava/lang/SecurityManager;"), (31, .class_ 209), (0, u "java/lang/System$1"), (7, u "props"), (0, u "Ljava/util/Properties;"), (2, u "lineSeparator"), (0, u "Ljava/lang/String;"), (96, .class_ 321), (1, u "java/lang/System$LoggerFinder"), (5, .class_ 328), (0, u "java/lang/System$Logger"), (67, u "err"), (2, u "out"), (91, u "notSupportedJnuEncoding"), (15, u "in"), (17, u "initialIn"), (0, u "Ljava/io/InputStream;"), (35, u "bootLayer"), (0, u "Ljava/lang/ModuleLayer;"), (99, .class_ 664), (0, u "java/lang/System$2"), (9, u "NEVER"), (2, u "MAYBE"), (49, u "arraycopy"), (0, u "(Ljava/lang/Object;ILjava/lang/Object;II)V"), (72, .class_ 802), (0, u "java/lang/System$Logger$Level")] 31

def k16m0 : Method := { name := "<init>", desc := "()V", sig := { parameters := [], returnType := none }, accessFlags := 2, code := none }
def k16m1 : Method := { name := "arraycopy", desc := "(Ljava/lang/Object;ILjava/lang/Object;II)V", sig := { parameters := [(.object "java/lang/Object"), .int, (.object "java/lang/Object"), .int, .int], returnType := none }, accessFlags := 265, code := none }
/-- java/lang/System -/
def k16 : Class := { plain "java/lang/System" (some 0) with
  accessFlags := 49
  interfaces := #[]
  cf := some (fileOf pool16 8 #[.nestMembers #[319, 327, 801, 108, 663, 208]] #[{ accessFlags := 2, nameIndex := 5, descriptorIndex := 6, attributes := #[] }, { accessFlags := 265, nameIndex := 727, descriptorIndex := 728, attributes := #[] }] 49 2 #[] #[{ accessFlags := 25, nameIndex := 507, descriptorIndex := 526, attributes := #[] }, { accessFlags := 25, nameIndex := 399, descriptorIndex := 155, attributes := #[] }, { accessFlags := 25, nameIndex := 396, descriptorIndex := 155, attributes := #[] }, { accessFlags := 10, nameIndex := 525, descriptorIndex := 526, attributes := #[] }, { accessFlags := 26, nameIndex := 674, descriptorIndex := 12, attributes := #[] }, { accessFlags := 26, nameIndex := 677, descriptorIndex := 12, attributes := #[] }, { accessFlags := 10, nameIndex := 11, descriptorIndex := 12, attributes := #[] }, { accessFlags := 74, nameIndex := 175, descriptorIndex := 176, attributes := #[] }, { accessFlags := 10, nameIndex := 491, descriptorIndex := 222, attributes := #[] }, { accessFlags := 74, nameIndex := 29, descriptorIndex := 30, attributes := #[] }, { accessFlags := 74, nameIndex := 154, descriptorIndex := 155, attributes := #[] }, { accessFlags := 10, nameIndex := 217, descriptorIndex := 218, attributes := #[] }, { accessFlags := 10, nameIndex := 221, descriptorIndex := 222, attributes := #[] }, { accessFlags := 8, nameIndex := 562, descriptorIndex := 563, attributes := #[] }])
  fields := #[{ name := "in", type := (.object "java/io/InputStream"), accessFlags := 25, slot := 0, constantValue := 0 }, { name := "out", type := (.object "java/io/PrintStream"), accessFlags := 25, slot := 1, constantValue := 0 }, { name := "err", type := (.object "java/io/PrintStream"), accessFlags := 25, slot := 2, constantValue := 0 }, { name := "initialIn", type := (.object "java/io/InputStream"), accessFlags := 10, slot := 3, constantValue := 0 }, { name := "NEVER", type := .int, accessFlags := 26, slot := 4, constantValue := 0 }, { name := "MAYBE", type := .int, accessFlags := 26, slot := 5, constantValue := 0 }, { name := "allowSecurityManager", type := .int, accessFlags := 10, slot := 6, constantValue := 0 }, { name := "security", type := (.object "java/lang/SecurityManager"), accessFlags := 74, slot := 7, constantValue := 0 }, { name := "notSupportedJnuEncoding", type := (.object "java/lang/String"), accessFlags := 10, slot := 8, constantValue := 0 }, { name := "cons", type := (.object "java/io/Console"), accessFlags := 74, slot := 9, constantValue := 0 }, { name := "initialErrStream", type := (.object "java/io/PrintStream"), accessFlags := 74, slot := 10, constantValue := 0 }, { name := "props", type := (.object "java/util/Properties"), accessFlags := 10, slot := 11, constantValue := 0 }, { name := "lineSeparator", type := (.object "java/lang/String"), accessFlags := 10, slot := 12, constantValue := 0 }, { name := "bootLayer", type := (.object "java/lang/ModuleLayer"), accessFlags := 8, slot := 13, constantValue := 0 }]
  methods := #[k16m0, k16m1]
  instanceTypes := #[]
  staticTypes := #[(.object "java/io/InputStream"), (.object "java/io/PrintStream"), (.object "java/io/PrintStream"), (.object "java/io/InputStream"), .int, .int, .int, (.object "java/lang/SecurityManager"), (.object "java/lang/String"), (.object "java/io/Console"), (.object "java/io/PrintStream"), (.object "java/util/Properties"), (.object "java/lang/String"), (.object "java/lang/ModuleLayer")]
  resolved := Array.replicate 834 none
  statics := none }

def pool17 : Array CpInfo := pool [(9, u "<init>"), (6, .class_ 18), (1, u "java/lang/Object"), (0, u "()V"), (1, .class_ 23), (1, u "jdk/internal/util/ArraysSupport"), (0, u "LOG2_ARRAY_LONG_INDEX_SCALE"), (0, u "I"), (2, u "U"), (0, u "Ljdk/internal/misc/Unsafe;"), (8, u "BIG_ENDIAN"), (0, u "Z"), (8, u "LOG2_BYTE_BIT_SIZE"), (4, u "LOG2_ARRAY_INT_INDEX_SCALE"), (54, u "JLA"), (0, u "Ljdk/internal/access/JavaLangAccess;"), (11, u "LOG2_ARRAY_BOOLEAN_INDEX_SCALE"), (9, u "LOG2_ARRAY_BYTE_INDEX_SCALE"), (5, u "LOG2_ARRAY_CHAR_INDEX_SCALE"), (5, u "LOG2_ARRAY_SHORT_INDEX_SCALE"), (18, u "LOG2_ARRAY_FLOAT_INDEX_SCALE"), (24, u "LOG2_ARRAY_DOUBLE_INDEX_SCALE"), (6, .methodref 195 196), (0, .class_ 197), (0, .nameAndType 198 199), (0, u "java/lang/Math"), (0, u "max"), (0, u "(II)I"), (0, .integer 2147483639), (76, u "T_BOOLEAN"), (2, u "T_CHAR"), (1, u "T_FLOAT"), (1, u "T_DOUBLE"), (1, u "T_BYTE"), (1, u "T_SHORT"), (1, u "T_INT"), (1, u "T_LONG"), (1, u "SOFT_MAX_ARRAY_LENGTH"), (56, u "newLength"), (0, u "(III)I")] 25

def k17m0 : Method := { name := "<init>", desc := "()V", sig := { parameters := [], returnType := none }, accessFlags := 2, code := none }
def k17c1 : Code := { maxStack := 3, maxLocals := 4, code := jdk_48_method_27_code, exceptionTable := #[], attributes := #[] }
def k17m1 : Method := { name := "newLength", desc := "(III)I", sig := { parameters := [.int, .int, .int], returnType := some .int }, accessFlags := 9, code := some k17c1 }
/-- jdk/internal/util/ArraysSupport -/
def k17 : Class := { plain "jdk/internal/util/ArraysSupport" (some 0) with
  accessFlags := 33
  interfaces := #[]
  cf := some (fileOf pool17 21 #[] #[{ accessFlags := 2, nameIndex := 9, descriptorIndex := 19, attributes := #[] }, { accessFlags := 9, nameIndex := 351, descriptorIndex := 352, attributes := #[] }] 33 16 #[] #[{ accessFlags := 24, nameIndex := 28, descriptorIndex := 29, attributes := #[] }, { accessFlags := 26, nameIndex := 38, descriptorIndex := 39, attributes := #[] }, { accessFlags := 25, nameIndex := 121, descriptorIndex := 25, attributes := #[] }, { accessFlags := 25, nameIndex := 131, descriptorIndex := 25, attributes := #[] }, { accessFlags := 25, nameIndex := 137, descriptorIndex := 25, attributes := #[] }, { accessFlags := 25, nameIndex := 143, descriptorIndex := 25, attributes := #[] }, { accessFlags := 25, nameIndex := 53, descriptorIndex := 25, attributes := #[] }, { accessFlags := 25, nameIndex := 24, descriptorIndex := 25, attributes := #[] }, { accessFlags := 25, nameIndex := 162, descriptorIndex := 25, attributes := #[] }, { accessFlags := 25, nameIndex := 187, descriptorIndex := 25, attributes := #[] }, { accessFlags := 26, nameIndex := 48, descriptorIndex := 25, attributes := #[] }, { accessFlags := 25, nameIndex := 277, descriptorIndex := 25, attributes := #[] }, { accessFlags := 25, nameIndex := 280, descriptorIndex := 25, attributes := #[] }, { accessFlags := 25, nameIndex := 282, descriptorIndex := 25, attributes := #[] }, { accessFlags := 25, nameIndex := 284, descriptorIndex := 25, attributes := #[] }, { accessFlags := 25, nameIndex := 286, descriptorIndex := 25, attributes := #[] }, { accessFlags := 25, nameIndex := 288, descriptorIndex := 25, attributes := #[] }, { accessFlags := 25, nameIndex := 290, descriptorIndex := 25, attributes := #[] }, { accessFlags := 25, nameIndex := 292, descriptorIndex := 25, attributes := #[] }, { accessFlags := 26, nameIndex := 108, descriptorIndex := 109, attributes := #[] }, { accessFlags := 25, nameIndex := 294, descriptorIndex := 25, attributes := #[] }])
  fields := #[{ name := "U", type := (.object "jdk/internal/misc/Unsafe"), accessFlags := 24, slot := 0, constantValue := 0 }, { name := "BIG_ENDIAN", type := .boolean, accessFlags := 26, slot := 1, constantValue := 0 }, { name := "LOG2_ARRAY_BOOLEAN_INDEX_SCALE", type := .int, accessFlags := 25, slot := 2, constantValue := 0 }, { name := "LOG2_ARRAY_BYTE_INDEX_SCALE", type := .int, accessFlags := 25, slot := 3, constantValue := 0 }, { name := "LOG2_ARRAY_CHAR_INDEX_SCALE", type := .int, accessFlags := 25, slot := 4, constantValue := 0 }, { name := "LOG2_ARRAY_SHORT_INDEX_SCALE", type := .int, accessFlags := 25, slot := 5, constantValue := 0 }, { name := "LOG2_ARRAY_INT_INDEX_SCALE", type := .int, accessFlags := 25, slot := 6, constantValue := 0 }, { name := "LOG2_ARRAY_LONG_INDEX_SCALE", type := .int, accessFlags := 25, slot := 7, constantValue := 0 }, { name := "LOG2_ARRAY_FLOAT_INDEX_SCALE", type := .int, accessFlags := 25, slot := 8, constantValue := 0 }, { name := "LOG2_ARRAY_DOUBLE_INDEX_SCALE", type := .int, accessFlags := 25, slot := 9, constantValue := 0 }, { name := "LOG2_BYTE_BIT_SIZE", type := .int, accessFlags := 26, slot := 10, constantValue := 0 }, { name := "T_BOOLEAN", type := .int, accessFlags := 25, slot := 11, constantValue := 0 }, { name := "T_CHAR", type := .int, accessFlags := 25, slot := 12, constantValue := 0 }, { name := "T_FLOAT", type := .int, accessFlags := 25, slot := 13, constantValue := 0 }, { name := "T_DOUBLE", type := .int, accessFlags := 25, slot := 14, constantValue := 0 }, { name := "T_BYTE", type := .int, accessFlags := 25, slot := 15, constantValue := 0 }, { name := "T_SHORT", type := .int, accessFlags := 25, slot := 16, constantValue := 0 }, { name := "T_INT", type := .int, accessFlags := 25, slot := 17, constantValue := 0 }, { name := "T_LONG", type := .int, accessFlags := 25, slot := 18, constantValue := 0 }, { name := "JLA", type := (.object "jdk/internal/access/JavaLangAccess"), accessFlags := 26, slot := 19, constantValue := 0 }, { name := "SOFT_MAX_ARRAY_LENGTH", type := .int, accessFlags := 25, slot := 20, constantValue := 0 }]
  methods := #[k17m0, k17m1]
  instanceTypes := #[]
  staticTypes := #[(.object "jdk/internal/misc/Unsafe"), .boolean, .int, .int, .int, .int, .int, .int, .int, .int, .int, .int, .int, .int, .int, .int, .int, .int, .int, (.object "jdk/internal/access/JavaLangAccess"), .int]
  resolved := Array.replicate 378 none
  statics := none }

def pool18 : Array CpInfo := pool [(1, .class_ 2), (0, u "java/lang/Math"), (1, .class_ 6), (1, u "java/lang/Object"), (0, u "<init>"), (0, u "()V"), (89, .class_ 100), (1, u "java/lang/Math$RandomNumberGeneratorHolder"), (71, u "negativeZeroFloatBits"), (0, u "J"), (2, u "negativeZeroDoubleBits"), (21, u "max"), (2, u "min"), (43, u "$assertionsDisabled"), (0, u "Z"), (88, u "(II)I"), (2, u "twoToTheDoubleScaleDown"), (0, u "D"), (4, u "twoToTheDoubleScaleUp"), (9, u "E"), (3, u "PI"), (2, u "TAU"), (2, u "DEGREES_TO_RADIANS"), (0, u "RADIANS_TO_DEGREES")] 94

def k18m0 : Method := { name := "<init>", desc := "()V", sig := { parameters := [], returnType := none }, accessFlags := 2, code := none }
def k18c1 : Code := { maxStack := 2, maxLocals := 2, code := jdk_29_method_65_code, exceptionTable := #[], attributes := #[] }
def k18m1 : Method := { name := "max", desc := "(II)I", sig := { parameters := [.int, .int], returnType := some .int }, accessFlags := 9, code := some k18c1 }
def k18c2 : Code := { maxStack := 2, maxLocals := 2, code := jdk_29_method_69_code, exceptionTable := #[], attributes := #[] }
def k18m2 : Method := { name := "min", desc := "(II)I", sig := { parameters := [.int, .int], returnType := some .int }, accessFlags := 9, code := some k18c2 }
/-- java/lang/Math -/
def k18 : Class := { plain "java/lang/Math" (some 0) with
  accessFlags := 49
  interfaces := #[]
  cf := some (fileOf pool18 1 #[.nestMembers #[98]] #[{ accessFlags := 2, nameIndex := 7, descriptorIndex := 8, attributes := #[] }, { accessFlags := 9, nameIndex := 198, descriptorIndex := 335, attributes := #[] }, { accessFlags := 9, nameIndex := 201, descriptorIndex := 335, attributes := #[] }] 49 4 #[] #[{ accessFlags := 25, nameIndex := 354, descriptorIndex := 339, attributes := #[] }, { accessFlags := 25, nameIndex := 358, descriptorIndex := 339, attributes := #[] }, { accessFlags := 25, nameIndex := 361, descriptorIndex := 339, attributes := #[] }, { accessFlags := 26, nameIndex := 364, descriptorIndex := 339, attributes := #[] }, { accessFlags := 26, nameIndex := 365, descriptorIndex := 339, attributes := #[] }, { accessFlags := 26, nameIndex := 172, descriptorIndex := 173, attributes := #[] }, { accessFlags := 26, nameIndex := 176, descriptorIndex := 173, attributes := #[] }, { accessFlags := 8, nameIndex := 344, descriptorIndex := 339, attributes := #[] }, { accessFlags := 8, nameIndex := 338, descriptorIndex := 339, attributes := #[] }, { accessFlags := 4120, nameIndex := 245, descriptorIndex := 246, attributes := #[] }])
  fields := #[{ name := "E", type := .double, accessFlags := 25, slot := 0, constantValue := 0 }, { name := "PI", type := .double, accessFlags := 25, slot := 1, constantValue := 0 }, { name := "TAU", type := .double, accessFlags := 25, slot := 2, constantValue := 0 }, { name := "DEGREES_TO_RADIANS", type := .double, accessFlags := 26, slot := 3, constantValue := 0 }, { name := "RADIANS_TO_DEGREES", type := .double, accessFlags := 26, slot := 4, constantValue := 0 }, { name := "negativeZeroFloatBits", type := .long, accessFlags := 26, slot := 5, constantValue := 0 }, { name := "negativeZeroDoubleBits", type := .long, accessFlags := 26, slot := 6, constantValue := 0 }, { name := "twoToTheDoubleScaleUp", type := .double, accessFlags := 8, slot := 7, constantValue := 0 }, { name := "twoToTheDoubleScaleDown", type := .double, accessFlags := 8, slot := 8, constantValue := 0 }, { name := "$assertionsDisabled", type := .boolean, accessFlags := 4120, slot := 9, constantValue := 0 }]
  methods := #[k18m0, k18m1, k18m2]
  instanceTypes := #[]
  staticTypes := #[.double, .double, .double, .double, .double, .long, .long, .double, .double, .boolean]
  resolved := Array.replicate 460 none
  statics := none }

def pool19 : Array CpInfo := pool [(2, .class_ 4), (1, u "java/lang/Object"), (0, u "<init>"), (0, u "()V"), (7, .class_ 16), (1, u "java/util/Arrays"), (57, .class_ 76), (1, u "java/util/Arrays$NaturalOrder"), (36, .class_ 115), (1, u "java/util/Arrays$LegacyMergeSort"), (1, u "Z"), (21, u "copyOfRange"), (10, .methodref 151 152), (0, .class_ 153), (0, .nameAndType 154 155), (0, u "java/lang/System"), (0, u "arraycopy"), (0, u "(Ljava/lang/Object;ILjava/lang/Object;II)V"), (146, u "copyOf"), (1, .methodref 305 306), (0, .class_ 307), (0, .nameAndType 308 309), (0, u "java/lang/Math"), (0, u "min"), (0, u "(II)I"), (29, .methodref 14 340), (0, .nameAndType 341 342), (0, u "copyOfRangeByte"), (0, u "([BII)[B"), (0, .methodref 14 344), (0, .nameAndType 345 346), (0, u "checkLength"), (0, u "(II)V"), (28, .class_ 376), (0, u "java/util/Arrays$ArrayList"), (68, u "$assertionsDisabled"), (269, u "MIN_ARRAY_SORT_GRAN"), (0, u "I"), (2, u "INSERTIONSORT_THRESHOLD"), (149, u "([BI)[B"), (105, .class_ 976), (0, u "java/util/Arrays$ArrayItr")] 52

def k19m0 : Method := { name := "<init>", desc := "()V", sig := { parameters := [], returnType := none }, accessFlags := 2, code := none }
def k19c1 : Code := { maxStack := 6, maxLocals := 3, code := jdk_65_method_121_code, exceptionTable := #[], attributes := #[] }
def k19m1 : Method := { name := "copyOf", desc := "([BI)[B", sig := { parameters := [(.array .byte), .int], returnType := some (.array .byte) }, accessFlags := 9, code := some k19c1 }
def k19c2 : Code := { maxStack := 4, maxLocals := 2, code := jdk_65_method_131_code, exceptionTable := #[], attributes := #[] }
def k19m2 : Method := { name := "checkLength", desc := "(II)V", sig := { parameters := [.int, .int], returnType := none }, accessFlags := 10, code := some k19c2 }
def k19c3 : Code := { maxStack := 3, maxLocals := 3, code := jdk_65_method_132_code, exceptionTable := #[], attributes := #[] }
def k19m3 : Method := { name := "copyOfRange", desc := "([BII)[B", sig := { parameters := [(.array .byte), .int, .int], returnType := some (.array .byte) }, accessFlags := 9, code := some k19c3 }
def k19c4 : Code := { maxStack := 6, maxLocals := 5, code := jdk_65_method_133_code, exceptionTable := #[], attributes := #[] }
def k19m4 : Method := { name := "copyOfRangeByte", desc := "([BII)[B", sig := { parameters := [(.array .byte), .int, .int], returnType := some (.array .byte) }, accessFlags := 10, code := some k19c4 }
/-- java/util/Arrays -/
def k19 : Class := { plain "java/util/Arrays" (some 0) with
  accessFlags := 49
  interfaces := #[]
  cf := some (fileOf pool19 14 #[.nestMembers #[975, 375, 113, 74]] #[{ accessFlags := 2, nameIndex := 5, descriptorIndex := 6, attributes := #[] }, { accessFlags := 9, nameIndex := 302, descriptorIndex := 869, attributes := #[] }, { accessFlags := 10, nameIndex := 345, descriptorIndex := 346, attributes := #[] }, { accessFlags := 9, nameIndex := 139, descriptorIndex := 342, attributes := #[] }, { accessFlags := 10, nameIndex := 341, descriptorIndex := 342, attributes := #[] }] 49 2 #[] #[{ accessFlags := 26, nameIndex := 715, descriptorIndex := 716, attributes := #[] }, { accessFlags := 26, nameIndex := 719, descriptorIndex := 716, attributes := #[] }, { accessFlags := 4120, nameIndex := 445, descriptorIndex := 117, attributes := #[] }])
  fields := #[{ name := "MIN_ARRAY_SORT_GRAN", type := .int, accessFlags := 26, slot := 0, constantValue := 0 }, { name := "INSERTIONSORT_THRESHOLD", type := .int, accessFlags := 26, slot := 1, constantValue := 0 }, { name := "$assertionsDisabled", type := .boolean, accessFlags := 4120, slot := 2, constantValue := 0 }]
  methods := #[k19m0, k19m1, k19m2, k19m3, k19m4]
  instanceTypes := #[]
  staticTypes := #[.int, .int, .boolean]
  resolved := Array.replicate 1029 none
  statics := none }

def pool20 : Array CpInfo := pool [(4, .class_ 6), (1, u "java/lang/Object"), (0, u "<init>"), (0, u "()V"), (5, .class_ 16), (1, u "java/lang/StringLatin1"), (0, u "inflate"), (2, .class_ 22), (1, u "java/lang/StringUTF16"), (3, .nameAndType 17 27), (0, u "([BI[BII)V"), (93, u "$assertionsDisabled"), (0, u "Z"), (98, .class_ 223), (1, u "java/lang/StringLatin1$LinesSpliterator"), (16, .methodref 20 26), (40, u "equals"), (0, u "([B[B)Z"), (107, .class_ 391), (0, u "java/lang/StringLatin1$CharsSpliterator")] 3

def k20m0 : Method := { name := "<init>", desc := "()V", sig := { parameters := [], returnType := none }, accessFlags := 0, code := none }
def k20c1 : Code := { maxStack := 3, maxLocals := 3, code := jdk_43_method_13_code, exceptionTable := #[], attributes := #[] }
def k20m1 : Method := { name := "equals", desc := "([B[B)Z", sig := { parameters := [(.array .byte), (.array .byte)], returnType := some .boolean }, accessFlags := 9, code := some k20c1 }
def k20c2 : Code := { maxStack := 5, maxLocals := 5, code := jdk_43_method_50_code, exceptionTable := #[], attributes := #[] }
def k20m2 : Method := { name := "inflate", desc := "([BI[BII)V", sig := { parameters := [(.array .byte), .int, (.array .byte), .int, .int], returnType := none }, accessFlags := 9, code := some k20c2 }
/-- java/lang/StringLatin1 -/
def k20 : Class := { plain "java/lang/StringLatin1" (some 0) with
  accessFlags := 48
  interfaces := #[]
  cf := some (fileOf pool20 14 #[.nestMembers #[390, 221]] #[{ accessFlags := 0, nameIndex := 7, descriptorIndex := 8, attributes := #[] }, { accessFlags := 9, nameIndex := 281, descriptorIndex := 282, attributes := #[] }, { accessFlags := 9, nameIndex := 17, descriptorIndex := 27, attributes := #[] }] 48 4 #[] #[{ accessFlags := 4120, nameIndex := 121, descriptorIndex := 122, attributes := #[] }])
  fields := #[{ name := "$assertionsDisabled", type := .boolean, accessFlags := 4120, slot := 0, constantValue := 0 }]
  methods := #[k20m0, k20m1, k20m2]
  instanceTypes := #[]
  staticTypes := #[.boolean]
  resolved := Array.replicate 395 none
  statics := none }

def pool21 : Array CpInfo := pool [(2, .class_ 4), (1, u "java/lang/Object"), (0, u "<init>"), (0, u "()V"), (17, .class_ 26), (1, u "jdk/internal/util/Preconditions"), (22, u "checkFromIndexSize"), (5, .class_ 56), (0, u "jdk/internal/util/Preconditions$4"), (57, .class_ 115), (0, u "jdk/internal/util/Preconditions$1"), (7, u "SIOOBE_FORMATTER"), (0, u "Ljava/util/function/BiFunction;"), (0, .class_ 126), (0, u "jdk/internal/util/Preconditions$2"), (3, u "AIOOBE_FORMATTER"), (0, .class_ 132), (0, u "jdk/internal/util/Preconditions$3"), (3, u "IOOBE_FORMATTER"), (46, u "(IIILjava/util/function/BiFunction;)I")] 10

def k21m0 : Method := { name := "<init>", desc := "()V", sig := { parameters := [], returnType := none }, accessFlags := 1, code := none }
def k21c1 : Code := { maxStack := 4, maxLocals := 4, code := jdk_41_method_13_code, exceptionTable := #[], attributes := #[] }
def k21m1 : Method := { name := "checkFromIndexSize", desc := "(IIILjava/util/function/BiFunction;)I", sig := { parameters := [.int, .int, .int, (.object "java/util/function/BiFunction")], returnType := some .int }, accessFlags := 9, code := some k21c1 }
/-- jdk/internal/util/Preconditions -/
def k21 : Class := { plain "jdk/internal/util/Preconditions" (some 0) with
  accessFlags := 33
  interfaces := #[]
  cf := some (fileOf pool21 24 #[.nestMembers #[55, 131, 125, 114]] #[{ accessFlags := 1, nameIndex := 5, descriptorIndex := 6, attributes := #[] }, { accessFlags := 9, nameIndex := 49, descriptorIndex := 183, attributes := #[] }] 33 2 #[] #[{ accessFlags := 25, nameIndex := 123, descriptorIndex := 124, attributes := #[] }, { accessFlags := 25, nameIndex := 130, descriptorIndex := 124, attributes := #[] }, { accessFlags := 25, nameIndex := 136, descriptorIndex := 124, attributes := #[] }])
  fields := #[{ name := "SIOOBE_FORMATTER", type := (.object "java/util/function/BiFunction"), accessFlags := 25, slot := 0, constantValue := 0 }, { name := "AIOOBE_FORMATTER", type := (.object "java/util/function/BiFunction"), accessFlags := 25, slot := 1, constantValue := 0 }, { name := "IOOBE_FORMATTER", type := (.object "java/util/function/BiFunction"), accessFlags := 25, slot := 2, constantValue := 0 }]
  methods := #[k21m0, k21m1]
  instanceTypes := #[]
  staticTypes := #[(.object "java/util/function/BiFunction"), (.object "java/util/function/BiFunction"), (.object "java/util/function/BiFunction")]
  resolved := Array.replicate 194 none
  statics := some 3 }

def pool22 : Array CpInfo := pool [(2, .class_ 4), (1, u "java/lang/Object"), (0, u "<init>"), (0, u "()V"), (12, .class_ 20), (0, u "java/util/Collections"), (63, u "r"), (0, u "Ljava/util/Random;"), (80, .class_ 167), (0, u "java/util/Collections$UnmodifiableCollection"), (6, .class_ 175), (0, u "java/util/Collections$UnmodifiableSequencedCollection"), (6, .class_ 183), (0, u "java/util/Collections$UnmodifiableSet"), (6, .class_ 191), (0, u "java/util/Collections$UnmodifiableSequencedSet"), (6, .class_ 199), (0, u "java/util/Collections$UnmodifiableSortedSet"), (6, .class_ 207), (0, u "java/util/Collections$UnmodifiableNavigableSet"), (4, .class_ 213), (0, u "java/util/Collections$UnmodifiableList"), (1, .class_ 216), (0, u "java/util/Collections$UnmodifiableRandomAccessList"), (6, .class_ 224), (0, u "java/util/Collections$UnmodifiableMap"), (6, .class_ 232), (0, u "java/util/Collections$UnmodifiableSequencedMap"), (4, .class_ 238), (0, u "java/util/Collections$UnmodifiableSortedMap"), (6, .class_ 246), (0, u "java/util/Collections$UnmodifiableNavigableMap"), (3, .class_ 251), (0, u "java/util/Collections$SynchronizedCollection"), (4, .class_ 257), (0, u "java/util/Collections$SynchronizedSet"), (4, .class_ 263), (0, u "java/util/Collections$SynchronizedSortedSet"), (1, .class_ 266), (0, u "java/util/Collections$SynchronizedNavigableSet"), (1, .class_ 269), (0, u "java/util/Collections$SynchronizedRandomAccessList"), (1, .class_ 272), (0, u "java/util/Collections$SynchronizedList"), (5, .class_ 279), (0, u "java/util/Collections$SynchronizedMap"), (1, .class_ 282), (0, u "java/util/Collections$SynchronizedSortedMap"), (1, .class_ 285), (0, u "java/util/Collections$SynchronizedNavigableMap"), (1, .class_ 288), (0, u "java/util/Collections$CheckedCollection"), (11, .class_ 301), (0, u "java/util/Collections$CheckedQueue"), (3, .class_ 306), (0, u "java/util/Collections$CheckedSet"), (3, .class_ 311), (0, u "java/util/Collections$CheckedSortedSet"), (3, .class_ 316), (0, u "java/util/Collections$CheckedNavigableSet"), (3, .class_ 321), (0, u "java/util/Collections$CheckedRandomAccessList"), (3, .class_ 326), (0, u "java/util/Collections$CheckedList"), (1, .class_ 329), (0, u "java/util/Collections$CheckedMap"), (3, .class_ 334), (0, u "java/util/Collections$CheckedSortedMap"), (3, .class_ 339), (0, u "java/util/Collections$CheckedNavigableMap"), (4, .class_ 346), (1, u "java/util/Collections$EmptyIterator"), (3, .class_ 352), (1, u "java/util/Collections$EmptyListIterator"), (2, .class_ 357), (1, u "java/util/Collections$EmptyEnumeration"), (4, u "EMPTY_SET"), (0, u "Ljava/util/Set;"), (6, u "EMPTY_LIST"), (0, u "Ljava/util/List;"), (2, u "EMPTY_MAP"), (0, u "Ljava/util/Map;"), (4, .class_ 381), (0, u "java/util/Collections$SingletonSet"), (2, .class_ 385), (0, u "java/util/Collections$1"), (1, .class_ 388), (0, u "java/util/Collections$2"), (1, .class_ 391), (0, u "java/util/Collections$SingletonList"), (1, .class_ 394), (0, u "java/util/Collections$SingletonMap"), (22, .class_ 418), (0, u "java/util/Collections$CopiesList"), (4, .class_ 425), (1, u "java/util/Collections$ReverseComparator"), (8, .class_ 435), (0, u "java/util/Collections$ReverseComparator2"), (6, .class_ 443), (0, u "java/util/Collections$3"), (25, .class_ 470), (0, u "java/util/Collections$SetFromMap"), (2, .class_ 474), (0, u "java/util/Collections$SequencedSetFromMap"), (3, .class_ 479), (0, u "java/util/Collections$AsLIFOQueue"), (11, .class_ 492), (0, u "java/util/Collections$EmptySet"), (1, .class_ 495), (0, u "java/util/Collections$EmptyList"), (1, .class_ 498), (0, u "java/util/Collections$EmptyMap"), (1, u "BINARYSEARCH_THRESHOLD"), (0, u "I"), (2, u "REVERSE_THRESHOLD"), (1, u "SHUFFLE_THRESHOLD"), (1, u "FILL_THRESHOLD"), (1, u "ROTATE_THRESHOLD"), (1, u "COPY_THRESHOLD"), (1, u "REPLACEALL_THRESHOLD"), (1, u "INDEXOFSUBLIST_THRESHOLD"), (333, .class_ 851), (0, u "java/util/Collections$CheckedMap$CheckedEntrySet"), (0, .class_ 853), (0, u "java/util/Collections$CheckedMap$CheckedEntrySet$CheckedEntry"), (0, .class_ 855), (0, u "java/util/Collections$CheckedMap$CheckedEntrySet$1"), (0, .class_ 857), (0, u "java/util/Collections$CheckedList$1"), (0, .class_ 859), (0, u "java/util/Collections$CheckedCollection$1"), (0, .class_ 861), (0, u "java/util/Collections$UnmodifiableNavigableMap$EmptyNavigableMap"), (0, .class_ 863), (0, u "java/util/Collections$UnmodifiableMap$UnmodifiableEntrySet"), (0, .class_ 865), (0, u "java/util/Collections$UnmodifiableMap$UnmodifiableEntrySet$UnmodifiableEntry"), (0, .class_ 867), (0, u "java/util/Collections$UnmodifiableMap$UnmodifiableEntrySet$UnmodifiableEntrySetSpliterator"), (0, .class_ 869), (0, u "java/util/Collections$UnmodifiableMap$UnmodifiableEntrySet$1"), (0, .class_ 871), (0, u "java/util/Collections$UnmodifiableList$1"), (0, .class_ 873), (0, u "java/util/Collections$UnmodifiableNavigableSet$EmptyNavigableSet"), (0, .class_ 875), (0, u "java/util/Collections$UnmodifiableCollection$1")] 57

def k22m0 : Method := { name := "<init>", desc := "()V", sig := { parameters := [], returnType := none }, accessFlags := 2, code := none }
/-- java/util/Collections -/
def k22 : Class := { plain "java/util/Collections" (some 0) with
  accessFlags := 33
  interfaces := #[]
  cf := some (fileOf pool22 19 #[.nestMembers #[478, 473, 469, 434, 423, 417, 393, 390, 380, 497, 494, 491, 355, 350, 344, 338, 333, 328, 850, 852, 854, 320, 325, 856, 315, 310, 305, 300, 287, 858, 284, 281, 278, 268, 271, 265, 262, 256, 250, 245, 860, 237, 231, 223, 862, 864, 866, 868, 215, 212, 870, 206, 872, 198, 190, 182, 174, 166, 874, 442, 387, 384]] #[{ accessFlags := 2, nameIndex := 5, descriptorIndex := 6, attributes := #[] }] 33 2 #[] #[{ accessFlags := 26, nameIndex := 500, descriptorIndex := 501, attributes := #[] }, { accessFlags := 26, nameIndex := 504, descriptorIndex := 501, attributes := #[] }, { accessFlags := 26, nameIndex := 506, descriptorIndex := 501, attributes := #[] }, { accessFlags := 26, nameIndex := 508, descriptorIndex := 501, attributes := #[] }, { accessFlags := 26, nameIndex := 510, descriptorIndex := 501, attributes := #[] }, { accessFlags := 26, nameIndex := 512, descriptorIndex := 501, attributes := #[] }, { accessFlags := 26, nameIndex := 514, descriptorIndex := 501, attributes := #[] }, { accessFlags := 26, nameIndex := 516, descriptorIndex := 501, attributes := #[] }, { accessFlags := 10, nameIndex := 84, descriptorIndex := 85, attributes := #[] }, { accessFlags := 25, nameIndex := 362, descriptorIndex := 363, attributes := #[] }, { accessFlags := 25, nameIndex := 370, descriptorIndex := 371, attributes := #[] }, { accessFlags := 25, nameIndex := 374, descriptorIndex := 375, attributes := #[] }])
  fields := #[{ name := "BINARYSEARCH_THRESHOLD", type := .int, accessFlags := 26, slot := 0, constantValue := 0 }, { name := "REVERSE_THRESHOLD", type := .int, accessFlags := 26, slot := 1, constantValue := 0 }, { name := "SHUFFLE_THRESHOLD", type := .int, accessFlags := 26, slot := 2, constantValue := 0 }, { name := "FILL_THRESHOLD", type := .int, accessFlags := 26, slot := 3, constantValue := 0 }, { name := "ROTATE_THRESHOLD", type := .int, accessFlags := 26, slot := 4, constantValue := 0 }, { name := "COPY_THRESHOLD", type := .int, accessFlags := 26, slot := 5, constantValue := 0 }, { name := "REPLACEALL_THRESHOLD", type := .int, accessFlags := 26, slot := 6, constantValue := 0 }, { name := "INDEXOFSUBLIST_THRESHOLD", type := .int, accessFlags := 26, slot := 7, constantValue := 0 }, { name := "r", type := (.object "java/util/Random"), accessFlags := 10, slot := 8, constantValue := 0 }, { name := "EMPTY_SET", type := (.object "java/util/Set"), accessFlags := 25, slot := 9, constantValue := 0 }, { name := "EMPTY_LIST", type := (.object "java/util/List"), accessFlags := 25, slot := 10, constantValue := 0 }, { name := "EMPTY_MAP", type := (.object "java/util/Map"), accessFlags := 25, slot := 11, constantValue := 0 }]
  methods := #[k22m0]
  instanceTypes := #[]
  staticTypes := #[.int, .int, .int, .int, .int, .int, .int, .int, (.object "java/util/Random"), (.object "java/util/Set"), (.object "java/util/List"), (.object "java/util/Map")]
  resolved := Array.replicate 933 none
  statics := some 4 }

def pool23 : Array CpInfo := pool [(8, .class_ 10), (1, u "java/lang/Iterable"), (24, .class_ 36), (0, u "java/lang/Object")] 25

/-- java/lang/Iterable -/
def k23 : Class := { plain "java/lang/Iterable" (some 0) with
  accessFlags := 1537
  interfaces := #[]
  cf := some (fileOf pool23 8 #[] #[] 1537 35 #[] #[])
  fields := #[]
  methods := #[]
  instanceTypes := #[]
  staticTypes := #[]
  resolved := Array.replicate 62 none
  statics := none }

def pool24 : Array CpInfo := pool [(10, .class_ 12), (1, u "java/util/Collection"), (47, .class_ 61), (0, u "java/lang/Object"), (0, .class_ 63), (0, u "java/lang/Iterable")] 51

/-- java/util/Collection -/
def k24 : Class := { plain "java/util/Collection" (some 0) with
  accessFlags := 1537
  interfaces := #[23]
  cf := some (fileOf pool24 10 #[] #[] 1537 60 #[62] #[])
  fields := #[]
  methods := #[]
  instanceTypes := #[]
  staticTypes := #[]
  resolved := Array.replicate 115 none
  statics := none }

def pool25 : Array CpInfo := pool [(2, .class_ 4), (1, u "java/lang/Object"), (0, u "<init>"), (0, u "()V"), (1, .class_ 10), (1, u "java/util/AbstractCollection"), (66, .class_ 78), (0, u "java/util/Collection")] 81

def k25m0 : Method := { name := "<init>", desc := "()V", sig := { parameters := [], returnType := none }, accessFlags := 4, code := none }
/-- java/util/AbstractCollection -/
def k25 : Class := { plain "java/util/AbstractCollection" (some 0) with
  accessFlags := 1057
  interfaces := #[24]
  cf := some (fileOf pool25 8 #[] #[{ accessFlags := 4, nameIndex := 5, descriptorIndex := 6, attributes := #[] }] 1057 2 #[77] #[])
  fields := #[]
  methods := #[k25m0]
  instanceTypes := #[]
  staticTypes := #[]
  resolved := Array.replicate 160 none
  statics := none }

def pool26 : Array CpInfo := pool [(8, .class_ 10), (1, u "java/util/SequencedCollection"), (15, .class_ 27), (0, u "java/lang/Object"), (0, .class_ 29), (0, u "java/util/Collection")] 27

/-- java/util/SequencedCollection -/
def k26 : Class := { plain "java/util/SequencedCollection" (some 0) with
  accessFlags := 1537
  interfaces := #[24]
  cf := some (fileOf pool26 8 #[] #[] 1537 26 #[28] #[])
  fields := #[]
  methods := #[]
  instanceTypes := #[]
  staticTypes := #[]
  resolved := Array.replicate 57 none
  statics := none }

def pool27 : Array CpInfo := pool [(8, .class_ 10), (1, u "java/util/List"), (92, .class_ 104), (0, u "java/lang/Object"), (15, .class_ 121), (0, u "java/util/SequencedCollection")] 129

/-- java/util/List -/
def k27 : Class := { plain "java/util/List" (some 0) with
  accessFlags := 1537
  interfaces := #[26]
  cf := some (fileOf pool27 8 #[] #[] 1537 103 #[120] #[])
  fields := #[]
  methods := #[]
  instanceTypes := #[]
  staticTypes := #[]
  resolved := Array.replicate 251 none
  statics := none }

def pool28 : Array CpInfo := pool [(2, .class_ 4), (1, u "java/util/AbstractCollection"), (0, u "<init>"), (0, u "()V"), (1, .class_ 10), (1, u "java/util/AbstractList"), (0, u "modCount"), (0, u "I"), (64, .class_ 78), (0, u "java/util/AbstractList$Itr"), (3, .class_ 83), (0, u "java/util/AbstractList$ListItr"), (9, .class_ 94), (0, u "java/util/AbstractList$RandomAccessSubList"), (3, .class_ 99), (0, u "java/util/AbstractList$SubList"), (33, .class_ 134), (0, u "java/util/List"), (73, .class_ 209), (0, u "java/util/AbstractList$SubList$1"), (0, .class_ 211), (0, u "java/util/AbstractList$RandomAccessSpliterator")] 6

def k28m0 : Method := { name := "<init>", desc := "()V", sig := { parameters := [], returnType := none }, accessFlags := 4, code := none }
/-- java/util/AbstractList -/
def k28 : Class := { plain "java/util/AbstractList" (some 25) with
  accessFlags := 1057
  interfaces := #[27]
  cf := some (fileOf pool28 8 #[.nestMembers #[93, 98, 208, 210, 82, 77]] #[{ accessFlags := 4, nameIndex := 5, descriptorIndex := 6, attributes := #[] }] 1057 2 #[133] #[{ accessFlags := 132, nameIndex := 11, descriptorIndex := 12, attributes := #[] }])
  fields := #[{ name := "modCount", type := .int, accessFlags := 132, slot := 0, constantValue := 0 }]
  methods := #[k28m0]
  instanceTypes := #[.int]
  staticTypes := #[]
  resolved := Array.replicate 218 none
  statics := none }

def pool29 : Array CpInfo := pool [(1, .class_ 2), (0, u "java/util/RandomAccess"), (0, .class_ 4), (0, u "java/lang/Object")] 2

/-- java/util/RandomAccess -/
def k29 : Class := { plain "java/util/RandomAccess" (some 0) with
  accessFlags := 1537
  interfaces := #[]
  cf := some (fileOf pool29 1 #[] #[] 1537 3 #[] #[])
  fields := #[]
  methods := #[]
  instanceTypes := #[]
  staticTypes := #[]
  resolved := Array.replicate 7 none
  statics := none }

def pool30 : Array CpInfo := pool [(2, .class_ 4), (1, u "java/util/AbstractList"), (0, u "<init>"), (0, u "()V"), (1, .class_ 10), (1, u "java/util/Collections"), (54, .class_ 66), (0, u "java/util/Collections$EmptyList"), (0, .class_ 68), (0, u "java/util/RandomAccess"), (0, .class_ 70), (0, u "java/io/Serializable"), (0, u "serialVersionUID"), (0, u "J")] 77

def k30m0 : Method := { name := "<init>", desc := "()V", sig := { parameters := [], returnType := none }, accessFlags := 2, code := none }
/-- java/util/Collections$EmptyList -/
def k30 : Class := { plain "java/util/Collections$EmptyList" (some 28) with
  accessFlags := 32
  interfaces := #[29, 2]
  cf := some (fileOf pool30 65 #[.nestHost 8] #[{ accessFlags := 2, nameIndex := 5, descriptorIndex := 6, attributes := #[] }] 32 2 #[67, 69] #[{ accessFlags := 26, nameIndex := 71, descriptorIndex := 72, attributes := #[] }])
  fields := #[{ name := "serialVersionUID", type := .long, accessFlags := 26, slot := 0, constantValue := 0 }]
  methods := #[k30m0]
  instanceTypes := #[.int]
  staticTypes := #[.long]
  resolved := Array.replicate 150 none
  statics := none }

def pool31 : Array CpInfo := pool [(2, .class_ 4), (1, u "java/lang/StackTraceElement"), (0, u "<init>"), (2, .class_ 10), (1, u "java/lang/Object"), (0, u "()V"), (2, u "format"), (0, u "B"), (2, u "classLoaderName"), (0, u "Ljava/lang/String;"), (2, u "moduleName"), (2, u "moduleVersion"), (12, u "declaringClass"), (4, u "methodName"), (2, u "fileName"), (2, u "lineNumber"), (0, u "I"), (65, u "declaringClassObject"), (0, u "Ljava/lang/Class;"), (33, .class_ 153), (1, u "java/lang/StackTraceElement$HashedModules"), (17, .class_ 172), (0, u "java/io/Serializable"), (0, u "NATIVE_METHOD"), (1, u "UNKNOWN_SOURCE"), (2, u "BUILTIN_CLASS_LOADER"), (1, u "JDK_NON_UPGRADEABLE_MODULE"), (1, u "serialVersionUID"), (0, u "J")] 51

def k31m0 : Method := { name := "<init>", desc := "()V", sig := { parameters := [], returnType := none }, accessFlags := 2, code := none }
/-- java/lang/StackTraceElement -/
def k31 : Class := { plain "java/lang/StackTraceElement" (some 0) with
  accessFlags := 49
  interfaces := #[2]
  cf := some (fileOf pool31 2 #[.nestMembers #[151]] #[{ accessFlags := 2, nameIndex := 5, descriptorIndex := 11, attributes := #[] }] 49 8 #[171] #[{ accessFlags := 26, nameIndex := 173, descriptorIndex := 19, attributes := #[] }, { accessFlags := 26, nameIndex := 175, descriptorIndex := 19, attributes := #[] }, { accessFlags := 130, nameIndex := 116, descriptorIndex := 117, attributes := #[] }, { accessFlags := 2, nameIndex := 18, descriptorIndex := 19, attributes := #[] }, { accessFlags := 2, nameIndex := 22, descriptorIndex := 19, attributes := #[] }, { accessFlags := 2, nameIndex := 25, descriptorIndex := 19, attributes := #[] }, { accessFlags := 2, nameIndex := 38, descriptorIndex := 19, attributes := #[] }, { accessFlags := 2, nameIndex := 43, descriptorIndex := 19, attributes := #[] }, { accessFlags := 2, nameIndex := 46, descriptorIndex := 19, attributes := #[] }, { accessFlags := 2, nameIndex := 49, descriptorIndex := 50, attributes := #[] }, { accessFlags := 2, nameIndex := 14, descriptorIndex := 15, attributes := #[] }, { accessFlags := 26, nameIndex := 178, descriptorIndex := 15, attributes := #[] }, { accessFlags := 26, nameIndex := 180, descriptorIndex := 15, attributes := #[] }, { accessFlags := 26, nameIndex := 182, descriptorIndex := 183, attributes := #[] }])
  fields := #[{ name := "NATIVE_METHOD", type := (.object "java/lang/String"), accessFlags := 26, slot := 0, constantValue := 0 }, { name := "UNKNOWN_SOURCE", type := (.object "java/lang/String"), accessFlags := 26, slot := 1, constantValue := 0 }, { name := "declaringClassObject", type := (.object "java/lang/Class"), accessFlags := 130, slot := 0, constantValue := 0 }, { name := "classLoaderName", type := (.object "java/lang/String"), accessFlags := 2, slot := 1, constantValue := 0 }, { name := "moduleName", type := (.object "java/lang/String"), accessFlags := 2, slot := 2, constantValue := 0 }, { name := "moduleVersion", type := (.object "java/lang/String"), accessFlags := 2, slot := 3, constantValue := 0 }, { name := "declaringClass", type := (.object "java/lang/String"), accessFlags := 2, slot := 4, constantValue := 0 }, { name := "methodName", type := (.object "java/lang/String"), accessFlags := 2, slot := 5, constantValue := 0 }, { name := "fileName", type := (.object "java/lang/String"), accessFlags := 2, slot := 6, constantValue := 0 }, { name := "lineNumber", type := .int, accessFlags := 2, slot := 7, constantValue := 0 }, { name := "format", type := .byte, accessFlags := 2, slot := 8, constantValue := 0 }, { name := "BUILTIN_CLASS_LOADER", type := .byte, accessFlags := 26, slot := 2, constantValue := 0 }, { name := "JDK_NON_UPGRADEABLE_MODULE", type := .byte, accessFlags := 26, slot := 3, constantValue := 0 }, { name := "serialVersionUID", type := .long, accessFlags := 26, slot := 4, constantValue := 0 }]
  methods := #[k31m0]
  instanceTypes := #[(.object "java/lang/Class"), (.object "java/lang/String"), (.object "java/lang/String"), (.object "java/lang/String"), (.object "java/lang/String"), (.object "java/lang/String"), (.object "java/lang/String"), .int, .byte]
  staticTypes := #[(.object "java/lang/String"), (.object "java/lang/String"), .byte, .byte, .long]
  resolved := Array.replicate 235 none
  statics := none }

def pool32 : Array CpInfo := pool [(1, u "java/lang/Cloneable"), (0, .class_ 1), (0, u "java/lang/Object"), (0, .class_ 3)] 3

/-- java/lang/Cloneable -/
def k32 : Class := { plain "java/lang/Cloneable" (some 0) with
  accessFlags := 1537
  interfaces := #[]
  cf := some (fileOf pool32 2 #[] #[] 1537 4 #[] #[])
  fields := #[]
  methods := #[]
  instanceTypes := #[]
  staticTypes := #[]
  resolved := Array.replicate 8 none
  statics := none }

/-- the primitive byte -/
def k33 : Class := { plain "byte" none with kind := .primitive 'B', accessFlags := 0x411 }
/-- [B -/
def k34 : Class := { plain "[B" (some 0) with kind := .array 33 .byte, interfaces := #[32, 2], accessFlags := 1041 }

/-- the primitive char -/
def k35 : Class := { plain "char" none with kind := .primitive 'C', accessFlags := 0x411 }
/-- [C -/
def k36 : Class := { plain "[C" (some 0) with kind := .array 35 .char, interfaces := #[32, 2], accessFlags := 1041 }

/-- [Ljava/lang/Object; -/
def k37 : Class := { plain "[Ljava/lang/Object;" (some 0) with kind := .array 0 (.object "java/lang/Object"), interfaces := #[32, 2], accessFlags := 1041 }

/-- [Ljava/lang/StackTraceElement; -/
def k38 : Class := { plain "[Ljava/lang/StackTraceElement;" (some 0) with kind := .array 31 (.object "java/lang/StackTraceElement"), interfaces := #[32, 2], accessFlags := 1041 }

/-- [Ljava/lang/Throwable; -/
def k39 : Class := { plain "[Ljava/lang/Throwable;" (some 0) with kind := .array 10 (.object "java/lang/Throwable"), interfaces := #[32, 2], accessFlags := 1041 }

def heap : Heap := #[{ cls := 7, slots := #[.long 0, .int 1, .null, .int 0, .null, .int 0, .int 0], vm := .statics 7 },
  { cls := 8, slots := #[.int 0, .int 8, .int 0, .int 1], vm := .statics 8 },
  { cls := 10, slots := #[.long 0, .ref 5, .ref 6, .null, .null, .null, .null, .ref 7, .int 1], vm := .statics 10 },
  { cls := 21, slots := #[.null, .null, .null], vm := .statics 21 },
  { cls := 22, slots := #[.int 0, .int 0, .int 0, .int 0, .int 0, .int 0, .int 0, .int 0, .null, .null, .ref 6, .null], vm := .statics 22 },
  { cls := 38, slots := #[], vm := .none },
  { cls := 30, slots := #[.int 0], vm := .none },
  { cls := 39, slots := #[], vm := .none }]
def classes : Array Class := #[k0, k1, k2, k3, k4, k5, k6, k7, k8, k9, k10, k11, k12, k13, k14, k15, k16, k17, k18, k19, k20, k21, k22, k23, k24, k25, k26, k27, k28, k29, k30, k31, k32, k33, k34, k35, k36, k37, k38, k39]
def interned : List (Array UInt16 × Addr) := []
def slotsUsed : Nat := 36
def theMethod : MethodId := ⟨1, 1⟩
def args0 : Array Value := #[.int 5, .int 5]
def aboutOver (below : List Frame) : State where
  vm := { classes := classes, interned := interned.toArray }
  heap := heap
  slotsUsed := slotsUsed
  threads := #[{ frames := .invoking theMethod args0 :: below }]
def below0 : List Frame := [.native { method := ⟨0, 0⟩, args := #[] }]
def about1 : State := aboutOver below0
def p0 : Program := .bare "" "" ""
def e0 : Env := launch0.env 0 0 0
theorem w_frames : about1.frames = Frame.invoking theMethod args0 :: below0 := rfl
set_option maxRecDepth 65536 in
theorem w_args : argsFit about1.vm theMethod args0 = true := by decide +kernel
set_option maxRecDepth 65536 in
theorem w_heap : heapFits about1 = true := by decide +kernel
set_option maxRecDepth 65536 in
theorem w_runnable : about1.curStatus? = some .runnable := by decide +kernel
set_option maxRecDepth 65536 in
theorem w_alone : about1.alone = true := by decide +kernel
set_option maxRecDepth 65536 in
theorem w_named : about1.methodNamed? x = some theMethod := by decide +kernel
set_option maxRecDepth 65536 in
theorem w_hears : about1.hears theMethod below0 = true := by decide +kernel
set_option maxRecDepth 65536 in
theorem w_ripe : about1.ripe theMethod args0 below0 = true := by decide +kernel
theorem w_running : about1.status = .running := rfl
set_option maxRecDepth 65536 in
theorem w_room : about1.hasRoom e0.platform room_1 = true :=
  launch0.hasRoom_least _ room_1 (by decide +kernel) (by decide +kernel) (by decide +kernel) (by decide +kernel) (by decide +kernel) (by decide +kernel)
theorem allAtoms_all (ts : List Jvm.Cond) (a : Array Jvm.Value) (st : Jvm.State) : (allAtoms ts).before a st = ts.all (fun c => c.before a st) := by
  induction ts with
  | nil => rfl
  | cons c t ih =>
    show (Jvm.Cond.and c (allAtoms t)).before a st = _
    rw [Jvm.Cond.before_and, ih, List.all_cons]
def words1 : List Jvm.Cond := Jvm.Cond.code x code maxLocals ret :: tables_1
/-- a 'code' word, met by the world's own term for the bytes: nothing is compared byte by byte -/
theorem code_word {y : MethodName} {bytes : ByteArray} {mx : Nat} {rt : Option FieldType} {a : Array Value} {s : State} {m : MethodId} {meth : Method} {c : Code} (h1 : s.methodNamed? y = some m) (h2 : s.vm.method? m = some meth) (h3 : meth.code = some c) (h4 : c.code = bytes)
    (h5 : (c.maxLocals == mx && c.exceptionTable.isEmpty && decide (c.maxStack ≤ mostOperands) && decide (meth.sig.returnType = rt) && !meth.locks && decide (parseMethodDescriptor y.desc = some meth.sig)) = true) : (Jvm.Cond.code y bytes mx rt).before a s = true := by
  simp only [Bool.and_eq_true, beq_iff_eq, Bool.not_eq_true', decide_eq_true_eq] at h5
  obtain ⟨⟨⟨⟨⟨g1, g2⟩, g3⟩, g4⟩, g5⟩, g6⟩ := h5
  simp [Cond.before, Cond.holds, Cond.value, h1, h2, h3, h4, g1, g2, g3, g4, g5, g6]
def isCode : Jvm.Cond → Bool
  | .code _ _ _ _ => true
  | _ => false
theorem all_split {L : List Jvm.Cond} {P : Jvm.Cond → Bool} (h1 : L.all (fun c => isCode c || P c) = true) (h2 : ∀ c ∈ L.filter isCode, P c = true) : L.all P = true := by
  refine List.all_eq_true.mpr fun c hc => ?_
  have h := List.all_eq_true.mp h1 c hc
  rcases Bool.eq_false_or_eq_true (isCode c) with hi | hi
  · exact h2 c (List.mem_filter.mpr ⟨hc, hi⟩)
  · simpa [hi] using h
set_option maxRecDepth 65536 in
theorem w_c0 : (Jvm.Cond.code x code maxLocals ret).before args0 about1 = true := code_word (m := ⟨1, 1⟩) (meth := k1m1) (c := k1c1) (by decide +kernel) rfl rfl rfl (by decide +kernel)
set_option maxRecDepth 65536 in
theorem w_c1 : (Jvm.Cond.code ({ cls := "java/lang/String", name := "<init>", desc := "([C)V" } : Jvm.MethodName) jdk_42_method_3_code (2 : Nat) (Option.none : Option Jvm.ClassFile.FieldType)).before args0 about1 = true := code_word (m := ⟨7, 1⟩) (meth := k7m1) (c := k7c1) (by decide +kernel) rfl rfl rfl (by decide +kernel)
set_option maxRecDepth 65536 in
theorem w_c2 : (Jvm.Cond.code ({ cls := "java/lang/String", name := "<init>", desc := "([CIILjava/lang/Void;)V" } : Jvm.MethodName) jdk_42_method_149_code (6 : Nat) (Option.none : Option Jvm.ClassFile.FieldType)).before args0 about1 = true := code_word (m := ⟨7, 6⟩) (meth := k7m6) (c := k7c6) (by decide +kernel) rfl rfl rfl (by decide +kernel)
set_option maxRecDepth 65536 in
theorem w_c3 : (Jvm.Cond.code ({ cls := "java/lang/Object", name := "<init>", desc := "()V" } : Jvm.MethodName) object_method_1_code (1 : Nat) (Option.none : Option Jvm.ClassFile.FieldType)).before args0 about1 = true := code_word (m := ⟨0, 0⟩) (meth := k0m0) (c := k0c0) (by decide +kernel) rfl rfl rfl (by decide +kernel)
set_option maxRecDepth 65536 in
theorem w_c4 : (Jvm.Cond.code ({ cls := "java/lang/StringUTF16", name := "compress", desc := "([CII)[B" } : Jvm.MethodName) jdk_52_method_16_code (6 : Nat) (Option.some (Jvm.ClassFile.FieldType.array Jvm.ClassFile.FieldType.byte))).before args0 about1 = true := code_word (m := ⟨8, 8⟩) (meth := k8m8) (c := k8c8) (by decide +kernel) rfl rfl rfl (by decide +kernel)
set_option maxRecDepth 65536 in
theorem w_c5 : (Jvm.Cond.code ({ cls := "java/lang/StringUTF16", name := "compress", desc := "([CI[BII)I" } : Jvm.MethodName) jdk_52_method_21_code (7 : Nat) (Option.some Jvm.ClassFile.FieldType.int)).before args0 about1 = true := code_word (m := ⟨8, 9⟩) (meth := k8m9) (c := k8c9) (by decide +kernel) rfl rfl rfl (by decide +kernel)
set_option maxRecDepth 65536 in
theorem w_c6 : (Jvm.Cond.code ({ cls := "java/lang/StringUTF16", name := "coderFromArrayLen", desc := "([BI)B" } : Jvm.MethodName) jdk_52_method_15_code (2 : Nat) (Option.some Jvm.ClassFile.FieldType.byte)).before args0 about1 = true := code_word (m := ⟨8, 7⟩) (meth := k8m7) (c := k8c7) (by decide +kernel) rfl rfl rfl (by decide +kernel)
set_option maxRecDepth 65536 in
theorem w_c7 : (Jvm.Cond.code ({ cls := "com/example/rollcall/rollcall/core/Names", name := "taken", desc := "(Ljava/lang/String;Ljava/lang/String;)Lcom/example/rollcall/rollcall/core/RefusedException;" } : Jvm.MethodName) prog_11_method_3_code (2 : Nat) (Option.some (Jvm.ClassFile.FieldType.object "com/example/rollcall/rollcall/core/RefusedException"))).before args0 about1 = true := code_word (m := ⟨9, 1⟩) (meth := k9m1) (c := k9c1) (by decide +kernel) rfl rfl rfl (by decide +kernel)
set_option maxRecDepth 65536 in
theorem w_c8 : (Jvm.Cond.code ({ cls := "java/lang/StringBuilder", name := "<init>", desc := "()V" } : Jvm.MethodName) jdk_67_method_1_code (1 : Nat) (Option.none : Option Jvm.ClassFile.FieldType)).before args0 about1 = true := code_word (m := ⟨15, 0⟩) (meth := k15m0) (c := k15c0) (by decide +kernel) rfl rfl rfl (by decide +kernel)
set_option maxRecDepth 65536 in
theorem w_c9 : (Jvm.Cond.code ({ cls := "java/lang/AbstractStringBuilder", name := "<init>", desc := "(I)V" } : Jvm.MethodName) jdk_68_method_2_code (2 : Nat) (Option.none : Option Jvm.ClassFile.FieldType)).before args0 about1 = true := code_word (m := ⟨14, 1⟩) (meth := k14m1) (c := k14c1) (by decide +kernel) rfl rfl rfl (by decide +kernel)
set_option maxRecDepth 65536 in
theorem w_c10 : (Jvm.Cond.code ({ cls := "java/lang/StringBuilder", name := "append", desc := "(Ljava/lang/String;)Ljava/lang/StringBuilder;" } : Jvm.MethodName) jdk_67_method_7_code (2 : Nat) (Option.some (Jvm.ClassFile.FieldType.object "java/lang/StringBuilder"))).before args0 about1 = true := code_word (m := ⟨15, 1⟩) (meth := k15m1) (c := k15c1) (by decide +kernel) rfl rfl rfl (by decide +kernel)
set_option maxRecDepth 65536 in
theorem w_c11 : (Jvm.Cond.code ({ cls := "java/lang/AbstractStringBuilder", name := "append", desc := "(Ljava/lang/String;)Ljava/lang/AbstractStringBuilder;" } : Jvm.MethodName) jdk_68_method_22_code (3 : Nat) (Option.some (Jvm.ClassFile.FieldType.object "java/lang/AbstractStringBuilder"))).before args0 about1 = true := code_word (m := ⟨14, 6⟩) (meth := k14m6) (c := k14c6) (by decide +kernel) rfl rfl rfl (by decide +kernel)
set_option maxRecDepth 65536 in
theorem w_c12 : (Jvm.Cond.code ({ cls := "java/lang/String", name := "length", desc := "()I" } : Jvm.MethodName) jdk_42_method_54_code (1 : Nat) (Option.some Jvm.ClassFile.FieldType.int)).before args0 about1 = true := code_word (m := ⟨7, 3⟩) (meth := k7m3) (c := k7c3) (by decide +kernel) rfl rfl rfl (by decide +kernel)
set_option maxRecDepth 65536 in
theorem w_c13 : (Jvm.Cond.code ({ cls := "java/lang/String", name := "coder", desc := "()B" } : Jvm.MethodName) jdk_42_method_152_code (1 : Nat) (Option.some Jvm.ClassFile.FieldType.byte)).before args0 about1 = true := code_word (m := ⟨7, 8⟩) (meth := k7m8) (c := k7c8) (by decide +kernel) rfl rfl rfl (by decide +kernel)
set_option maxRecDepth 65536 in
theorem w_c14 : (Jvm.Cond.code ({ cls := "java/lang/AbstractStringBuilder", name := "ensureCapacityInternal", desc := "(I)V" } : Jvm.MethodName) jdk_68_method_9_code (3 : Nat) (Option.none : Option Jvm.ClassFile.FieldType)).before args0 about1 = true := code_word (m := ⟨14, 3⟩) (meth := k14m3) (c := k14c3) (by decide +kernel) rfl rfl rfl (by decide +kernel)
set_option maxRecDepth 65536 in
theorem w_c15 : (Jvm.Cond.code ({ cls := "java/lang/AbstractStringBuilder", name := "putStringAt", desc := "(ILjava/lang/String;)V" } : Jvm.MethodName) jdk_68_method_73_code (3 : Nat) (Option.none : Option Jvm.ClassFile.FieldType)).before args0 about1 = true := code_word (m := ⟨14, 10⟩) (meth := k14m10) (c := k14c10) (by decide +kernel) rfl rfl rfl (by decide +kernel)
set_option maxRecDepth 65536 in
theorem w_c16 : (Jvm.Cond.code ({ cls := "java/lang/AbstractStringBuilder", name := "inflateIfNeededFor", desc := "(Ljava/lang/String;)V" } : Jvm.MethodName) jdk_68_method_71_code (2 : Nat) (Option.none : Option Jvm.ClassFile.FieldType)).before args0 about1 = true := code_word (m := ⟨14, 9⟩) (meth := k14m9) (c := k14c9) (by decide +kernel) rfl rfl rfl (by decide +kernel)
set_option maxRecDepth 65536 in
theorem w_c17 : (Jvm.Cond.code ({ cls := "java/lang/String", name := "getBytes", desc := "([BIB)V" } : Jvm.MethodName) jdk_42_method_147_code (4 : Nat) (Option.none : Option Jvm.ClassFile.FieldType)).before args0 about1 = true := code_word (m := ⟨7, 5⟩) (meth := k7m5) (c := k7c5) (by decide +kernel) rfl rfl rfl (by decide +kernel)
set_option maxRecDepth 65536 in
theorem w_c18 : (Jvm.Cond.code ({ cls := "java/lang/AbstractStringBuilder", name := "newCapacity", desc := "(I)I" } : Jvm.MethodName) jdk_68_method_10_code (6 : Nat) (Option.some Jvm.ClassFile.FieldType.int)).before args0 about1 = true := code_word (m := ⟨14, 4⟩) (meth := k14m4) (c := k14c4) (by decide +kernel) rfl rfl rfl (by decide +kernel)
set_option maxRecDepth 65536 in
theorem w_c19 : (Jvm.Cond.code ({ cls := "jdk/internal/util/ArraysSupport", name := "newLength", desc := "(III)I" } : Jvm.MethodName) jdk_48_method_27_code (4 : Nat) (Option.some Jvm.ClassFile.FieldType.int)).before args0 about1 = true := code_word (m := ⟨17, 1⟩) (meth := k17m1) (c := k17c1) (by decide +kernel) rfl rfl rfl (by decide +kernel)
set_option maxRecDepth 65536 in
theorem w_c20 : (Jvm.Cond.code ({ cls := "java/lang/Math", name := "max", desc := "(II)I" } : Jvm.MethodName) jdk_29_method_65_code (2 : Nat) (Option.some Jvm.ClassFile.FieldType.int)).before args0 about1 = true := code_word (m := ⟨18, 1⟩) (meth := k18m1) (c := k18c1) (by decide +kernel) rfl rfl rfl (by decide +kernel)
set_option maxRecDepth 65536 in
theorem w_c21 : (Jvm.Cond.code ({ cls := "java/util/Arrays", name := "copyOf", desc := "([BI)[B" } : Jvm.MethodName) jdk_65_method_121_code (3 : Nat) (Option.some (Jvm.ClassFile.FieldType.array Jvm.ClassFile.FieldType.byte))).before args0 about1 = true := code_word (m := ⟨19, 1⟩) (meth := k19m1) (c := k19c1) (by decide +kernel) rfl rfl rfl (by decide +kernel)
set_option maxRecDepth 65536 in
theorem w_c22 : (Jvm.Cond.code ({ cls := "java/lang/Math", name := "min", desc := "(II)I" } : Jvm.MethodName) jdk_29_method_69_code (2 : Nat) (Option.some Jvm.ClassFile.FieldType.int)).before args0 about1 = true := code_word (m := ⟨18, 2⟩) (meth := k18m2) (c := k18c2) (by decide +kernel) rfl rfl rfl (by decide +kernel)
set_option maxRecDepth 65536 in
theorem w_c23 : (Jvm.Cond.code ({ cls := "java/lang/StringBuilder", name := "toString", desc := "()Ljava/lang/String;" } : Jvm.MethodName) jdk_67_method_42_code (1 : Nat) (Option.some (Jvm.ClassFile.FieldType.object "java/lang/String"))).before args0 about1 = true := code_word (m := ⟨15, 2⟩) (meth := k15m2) (c := k15c2) (by decide +kernel) rfl rfl rfl (by decide +kernel)
set_option maxRecDepth 65536 in
theorem w_c24 : (Jvm.Cond.code ({ cls := "java/lang/String", name := "<init>", desc := "(Ljava/lang/StringBuilder;)V" } : Jvm.MethodName) jdk_42_method_53_code (2 : Nat) (Option.none : Option Jvm.ClassFile.FieldType)).before args0 about1 = true := code_word (m := ⟨7, 2⟩) (meth := k7m2) (c := k7c2) (by decide +kernel) rfl rfl rfl (by decide +kernel)
set_option maxRecDepth 65536 in
theorem w_c25 : (Jvm.Cond.code ({ cls := "java/lang/String", name := "<init>", desc := "(Ljava/lang/AbstractStringBuilder;Ljava/lang/Void;)V" } : Jvm.MethodName) jdk_42_method_150_code (5 : Nat) (Option.none : Option Jvm.ClassFile.FieldType)).before args0 about1 = true := code_word (m := ⟨7, 7⟩) (meth := k7m7) (c := k7c7) (by decide +kernel) rfl rfl rfl (by decide +kernel)
set_option maxRecDepth 65536 in
theorem w_c26 : (Jvm.Cond.code ({ cls := "java/lang/AbstractStringBuilder", name := "getValue", desc := "()[B" } : Jvm.MethodName) jdk_68_method_64_code (1 : Nat) (Option.some (Jvm.ClassFile.FieldType.array Jvm.ClassFile.FieldType.byte))).before args0 about1 = true := code_word (m := ⟨14, 7⟩) (meth := k14m7) (c := k14c7) (by decide +kernel) rfl rfl rfl (by decide +kernel)
set_option maxRecDepth 65536 in
theorem w_c27 : (Jvm.Cond.code ({ cls := "java/lang/StringBuilder", name := "length", desc := "()I" } : Jvm.MethodName) jdk_67_method_93_code (1 : Nat) (Option.some Jvm.ClassFile.FieldType.int)).before args0 about1 = true := code_word (m := ⟨15, 3⟩) (meth := k15m3) (c := k15c3) (by decide +kernel) rfl rfl rfl (by decide +kernel)
set_option maxRecDepth 65536 in
theorem w_c28 : (Jvm.Cond.code ({ cls := "java/lang/AbstractStringBuilder", name := "length", desc := "()I" } : Jvm.MethodName) jdk_68_method_6_code (1 : Nat) (Option.some Jvm.ClassFile.FieldType.int)).before args0 about1 = true := code_word (m := ⟨14, 2⟩) (meth := k14m2) (c := k14c2) (by decide +kernel) rfl rfl rfl (by decide +kernel)
set_option maxRecDepth 65536 in
theorem w_c29 : (Jvm.Cond.code ({ cls := "java/lang/AbstractStringBuilder", name := "isLatin1", desc := "()Z" } : Jvm.MethodName) jdk_68_method_68_code (1 : Nat) (Option.some Jvm.ClassFile.FieldType.boolean)).before args0 about1 = true := code_word (m := ⟨14, 8⟩) (meth := k14m8) (c := k14c8) (by decide +kernel) rfl rfl rfl (by decide +kernel)
set_option maxRecDepth 65536 in
theorem w_c30 : (Jvm.Cond.code ({ cls := "java/util/Arrays", name := "copyOfRange", desc := "([BII)[B" } : Jvm.MethodName) jdk_65_method_132_code (3 : Nat) (Option.some (Jvm.ClassFile.FieldType.array Jvm.ClassFile.FieldType.byte))).before args0 about1 = true := code_word (m := ⟨19, 3⟩) (meth := k19m3) (c := k19c3) (by decide +kernel) rfl rfl rfl (by decide +kernel)
set_option maxRecDepth 65536 in
theorem w_c31 : (Jvm.Cond.code ({ cls := "java/util/Arrays", name := "copyOfRangeByte", desc := "([BII)[B" } : Jvm.MethodName) jdk_65_method_133_code (5 : Nat) (Option.some (Jvm.ClassFile.FieldType.array Jvm.ClassFile.FieldType.byte))).before args0 about1 = true := code_word (m := ⟨19, 4⟩) (meth := k19m4) (c := k19c4) (by decide +kernel) rfl rfl rfl (by decide +kernel)
set_option maxRecDepth 65536 in
theorem w_c32 : (Jvm.Cond.code ({ cls := "java/util/Arrays", name := "checkLength", desc := "(II)V" } : Jvm.MethodName) jdk_65_method_131_code (2 : Nat) (Option.none : Option Jvm.ClassFile.FieldType)).before args0 about1 = true := code_word (m := ⟨19, 2⟩) (meth := k19m2) (c := k19c2) (by decide +kernel) rfl rfl rfl (by decide +kernel)
set_option maxRecDepth 65536 in
theorem w_c33 : (Jvm.Cond.code ({ cls := "com/example/rollcall/rollcall/core/RefusedException", name := "<init>", desc := "(Ljava/lang/String;Ljava/lang/String;)V" } : Jvm.MethodName) prog_15_method_1_code (3 : Nat) (Option.none : Option Jvm.ClassFile.FieldType)).before args0 about1 = true := code_word (m := ⟨12, 0⟩) (meth := k12m0) (c := k12c0) (by decide +kernel) rfl rfl rfl (by decide +kernel)
set_option maxRecDepth 65536 in
theorem w_c34 : (Jvm.Cond.code ({ cls := "java/lang/Exception", name := "<init>", desc := "(Ljava/lang/String;)V" } : Jvm.MethodName) jdk_59_method_2_code (2 : Nat) (Option.none : Option Jvm.ClassFile.FieldType)).before args0 about1 = true := code_word (m := ⟨11, 1⟩) (meth := k11m1) (c := k11c1) (by decide +kernel) rfl rfl rfl (by decide +kernel)
set_option maxRecDepth 65536 in
theorem w_c35 : (Jvm.Cond.code ({ cls := "java/lang/Throwable", name := "<init>", desc := "(Ljava/lang/String;)V" } : Jvm.MethodName) jdk_78_method_2_code (2 : Nat) (Option.none : Option Jvm.ClassFile.FieldType)).before args0 about1 = true := code_word (m := ⟨10, 1⟩) (meth := k10m1) (c := k10c1) (by decide +kernel) rfl rfl rfl (by decide +kernel)
set_option maxRecDepth 65536 in
theorem w_c36 : (Jvm.Cond.code ({ cls := "java/lang/Throwable", name := "<init>", desc := "()V" } : Jvm.MethodName) jdk_78_method_1_code (1 : Nat) (Option.none : Option Jvm.ClassFile.FieldType)).before args0 about1 = true := code_word (m := ⟨10, 0⟩) (meth := k10m0) (c := k10c0) (by decide +kernel) rfl rfl rfl (by decide +kernel)
set_option maxRecDepth 65536 in
theorem w_c37 : (Jvm.Cond.code ({ cls := "com/example/rollcall/rollcall/core/RefusedException", name := "code", desc := "()Ljava/lang/String;" } : Jvm.MethodName) prog_15_method_2_code (1 : Nat) (Option.some (Jvm.ClassFile.FieldType.object "java/lang/String"))).before args0 about1 = true := code_word (m := ⟨12, 1⟩) (meth := k12m1) (c := k12c1) (by decide +kernel) rfl rfl rfl (by decide +kernel)
set_option maxRecDepth 65536 in
theorem w_c38 : (Jvm.Cond.code ({ cls := "java/lang/String", name := "equals", desc := "(Ljava/lang/Object;)Z" } : Jvm.MethodName) jdk_42_method_66_code (3 : Nat) (Option.some Jvm.ClassFile.FieldType.boolean)).before args0 about1 = true := code_word (m := ⟨7, 4⟩) (meth := k7m4) (c := k7c4) (by decide +kernel) rfl rfl rfl (by decide +kernel)
set_option maxRecDepth 65536 in
theorem w_c39 : (Jvm.Cond.code ({ cls := "java/lang/Throwable", name := "getMessage", desc := "()Ljava/lang/String;" } : Jvm.MethodName) jdk_78_method_6_code (1 : Nat) (Option.some (Jvm.ClassFile.FieldType.object "java/lang/String"))).before args0 about1 = true := code_word (m := ⟨10, 2⟩) (meth := k10m2) (c := k10c2) (by decide +kernel) rfl rfl rfl (by decide +kernel)
set_option maxRecDepth 65536 in
theorem w_c40 : (Jvm.Cond.code ({ cls := "java/lang/StringLatin1", name := "equals", desc := "([B[B)Z" } : Jvm.MethodName) jdk_43_method_13_code (3 : Nat) (Option.some Jvm.ClassFile.FieldType.boolean)).before args0 about1 = true := code_word (m := ⟨20, 1⟩) (meth := k20m1) (c := k20c1) (by decide +kernel) rfl rfl rfl (by decide +kernel)
set_option maxRecDepth 65536 in
theorem w_c41 : (Jvm.Cond.code ({ cls := "java/lang/StringUTF16", name := "toBytes", desc := "([CII)[B" } : Jvm.MethodName) jdk_52_method_14_code (5 : Nat) (Option.some (Jvm.ClassFile.FieldType.array Jvm.ClassFile.FieldType.byte))).before args0 about1 = true := code_word (m := ⟨8, 6⟩) (meth := k8m6) (c := k8c6) (by decide +kernel) rfl rfl rfl (by decide +kernel)
set_option maxRecDepth 65536 in
theorem w_c42 : (Jvm.Cond.code ({ cls := "java/lang/StringUTF16", name := "newBytesFor", desc := "(I)[B" } : Jvm.MethodName) jdk_52_method_2_code (1 : Nat) (Option.some (Jvm.ClassFile.FieldType.array Jvm.ClassFile.FieldType.byte))).before args0 about1 = true := code_word (m := ⟨8, 1⟩) (meth := k8m1) (c := k8c1) (by decide +kernel) rfl rfl rfl (by decide +kernel)
set_option maxRecDepth 65536 in
theorem w_c43 : (Jvm.Cond.code ({ cls := "java/lang/StringUTF16", name := "newBytesLength", desc := "(I)I" } : Jvm.MethodName) jdk_52_method_3_code (1 : Nat) (Option.some Jvm.ClassFile.FieldType.int)).before args0 about1 = true := code_word (m := ⟨8, 2⟩) (meth := k8m2) (c := k8c2) (by decide +kernel) rfl rfl rfl (by decide +kernel)
set_option maxRecDepth 65536 in
theorem w_c44 : (Jvm.Cond.code ({ cls := "java/lang/StringUTF16", name := "putChar", desc := "([BII)V" } : Jvm.MethodName) jdk_52_method_4_code (3 : Nat) (Option.none : Option Jvm.ClassFile.FieldType)).before args0 about1 = true := code_word (m := ⟨8, 3⟩) (meth := k8m3) (c := k8c3) (by decide +kernel) rfl rfl rfl (by decide +kernel)
set_option maxRecDepth 65536 in
theorem w_c45 : (Jvm.Cond.code ({ cls := "java/lang/StringUTF16", name := "getChar", desc := "([BI)C" } : Jvm.MethodName) jdk_52_method_5_code (2 : Nat) (Option.some Jvm.ClassFile.FieldType.char)).before args0 about1 = true := code_word (m := ⟨8, 4⟩) (meth := k8m4) (c := k8c4) (by decide +kernel) rfl rfl rfl (by decide +kernel)
set_option maxRecDepth 65536 in
theorem w_c46 : (Jvm.Cond.code ({ cls := "java/lang/AbstractStringBuilder", name := "inflate", desc := "()V" } : Jvm.MethodName) jdk_68_method_11_code (2 : Nat) (Option.none : Option Jvm.ClassFile.FieldType)).before args0 about1 = true := code_word (m := ⟨14, 5⟩) (meth := k14m5) (c := k14c5) (by decide +kernel) rfl rfl rfl (by decide +kernel)
set_option maxRecDepth 65536 in
theorem w_c47 : (Jvm.Cond.code ({ cls := "java/lang/StringLatin1", name := "inflate", desc := "([BI[BII)V" } : Jvm.MethodName) jdk_43_method_50_code (5 : Nat) (Option.none : Option Jvm.ClassFile.FieldType)).before args0 about1 = true := code_word (m := ⟨20, 2⟩) (meth := k20m2) (c := k20c2) (by decide +kernel) rfl rfl rfl (by decide +kernel)
set_option maxRecDepth 65536 in
theorem w_c48 : (Jvm.Cond.code ({ cls := "java/lang/StringUTF16", name := "inflate", desc := "([BI[BII)V" } : Jvm.MethodName) jdk_52_method_86_code (6 : Nat) (Option.none : Option Jvm.ClassFile.FieldType)).before args0 about1 = true := code_word (m := ⟨8, 10⟩) (meth := k8m10) (c := k8c10) (by decide +kernel) rfl rfl rfl (by decide +kernel)
set_option maxRecDepth 65536 in
theorem w_c49 : (Jvm.Cond.code ({ cls := "java/lang/StringUTF16", name := "checkBoundsOffCount", desc := "(II[B)V" } : Jvm.MethodName) jdk_52_method_94_code (3 : Nat) (Option.none : Option Jvm.ClassFile.FieldType)).before args0 about1 = true := code_word (m := ⟨8, 11⟩) (meth := k8m11) (c := k8c11) (by decide +kernel) rfl rfl rfl (by decide +kernel)
set_option maxRecDepth 65536 in
theorem w_c50 : (Jvm.Cond.code ({ cls := "java/lang/StringUTF16", name := "length", desc := "([B)I" } : Jvm.MethodName) jdk_52_method_6_code (1 : Nat) (Option.some Jvm.ClassFile.FieldType.int)).before args0 about1 = true := code_word (m := ⟨8, 5⟩) (meth := k8m5) (c := k8c5) (by decide +kernel) rfl rfl rfl (by decide +kernel)
set_option maxRecDepth 65536 in
theorem w_c51 : (Jvm.Cond.code ({ cls := "java/lang/String", name := "checkBoundsOffCount", desc := "(III)I" } : Jvm.MethodName) jdk_42_method_157_code (3 : Nat) (Option.some Jvm.ClassFile.FieldType.int)).before args0 about1 = true := code_word (m := ⟨7, 9⟩) (meth := k7m9) (c := k7c9) (by decide +kernel) rfl rfl rfl (by decide +kernel)
set_option maxRecDepth 65536 in
theorem w_c52 : (Jvm.Cond.code ({ cls := "jdk/internal/util/Preconditions", name := "checkFromIndexSize", desc := "(IIILjava/util/function/BiFunction;)I" } : Jvm.MethodName) jdk_41_method_13_code (4 : Nat) (Option.some Jvm.ClassFile.FieldType.int)).before args0 about1 = true := code_word (m := ⟨21, 1⟩) (meth := k21m1) (c := k21c1) (by decide +kernel) rfl rfl rfl (by decide +kernel)
def codes1 : List Jvm.Cond := [Jvm.Cond.code x code maxLocals ret, Jvm.Cond.code ({ cls := "java/lang/String", name := "<init>", desc := "([C)V" } : Jvm.MethodName) jdk_42_method_3_code (2 : Nat) (Option.none : Option Jvm.ClassFile.FieldType), Jvm.Cond.code ({ cls := "java/lang/String", name := "<init>", desc := "([CIILjava/lang/Void;)V" } : Jvm.MethodName) jdk_42_method_149_code (6 : Nat) (Option.none : Option Jvm.ClassFile.FieldType), Jvm.Cond.code ({ cls := "java/lang/Object", name := "<init>", desc := "()V" } : Jvm.MethodName) object_method_1_code (1 : Nat) (Option.none : Option Jvm.ClassFile.FieldType), Jvm.Cond.code ({ cls := "java/lang/StringUTF16", name := "compress", desc := "([CII)[B" } : Jvm.MethodName) jdk_52_method_16_code (6 : Nat) (Option.some (Jvm.ClassFile.FieldType.array Jvm.ClassFile.FieldType.byte)), Jvm.Cond.code ({ cls := "java/lang/StringUTF16", name := "compress", desc := "([CI[BII)I" } : Jvm.MethodName) jdk_52_method_21_code (7 : Nat) (Option.some Jvm.ClassFile.FieldType.int), Jvm.Cond.code ({ cls := "java/lang/StringUTF16", name := "coderFromArrayLen", desc := "([BI)B" } : Jvm.MethodName) jdk_52_method_15_code (2 : Nat) (Option.some Jvm.ClassFile.FieldType.byte), Jvm.Cond.code ({ cls := "com/example/rollcall/rollcall/core/Names", name := "taken", desc := "(Ljava/lang/String;Ljava/lang/String;)Lcom/example/rollcall/rollcall/core/RefusedException;" } : Jvm.MethodName) prog_11_method_3_code (2 : Nat) (Option.some (Jvm.ClassFile.FieldType.object "com/example/rollcall/rollcall/core/RefusedException")), Jvm.Cond.code ({ cls := "java/lang/StringBuilder", name := "<init>", desc := "()V" } : Jvm.MethodName) jdk_67_method_1_code (1 : Nat) (Option.none : Option Jvm.ClassFile.FieldType), Jvm.Cond.code ({ cls := "java/lang/AbstractStringBuilder", name := "<init>", desc := "(I)V" } : Jvm.MethodName) jdk_68_method_2_code (2 : Nat) (Option.none : Option Jvm.ClassFile.FieldType), Jvm.Cond.code ({ cls := "java/lang/StringBuilder", name := "append", desc := "(Ljava/lang/String;)Ljava/lang/StringBuilder;" } : Jvm.MethodName) jdk_67_method_7_code (2 : Nat) (Option.some (Jvm.ClassFile.FieldType.object "java/lang/StringBuilder")), Jvm.Cond.code ({ cls := "java/lang/AbstractStringBuilder", name := "append", desc := "(Ljava/lang/String;)Ljava/lang/AbstractStringBuilder;" } : Jvm.MethodName) jdk_68_method_22_code (3 : Nat) (Option.some (Jvm.ClassFile.FieldType.object "java/lang/AbstractStringBuilder")), Jvm.Cond.code ({ cls := "java/lang/String", name := "length", desc := "()I" } : Jvm.MethodName) jdk_42_method_54_code (1 : Nat) (Option.some Jvm.ClassFile.FieldType.int), Jvm.Cond.code ({ cls := "java/lang/String", name := "coder", desc := "()B" } : Jvm.MethodName) jdk_42_method_152_code (1 : Nat) (Option.some Jvm.ClassFile.FieldType.byte), Jvm.Cond.code ({ cls := "java/lang/AbstractStringBuilder", name := "ensureCapacityInternal", desc := "(I)V" } : Jvm.MethodName) jdk_68_method_9_code (3 : Nat) (Option.none : Option Jvm.ClassFile.FieldType), Jvm.Cond.code ({ cls := "java/lang/AbstractStringBuilder", name := "putStringAt", desc := "(ILjava/lang/String;)V" } : Jvm.MethodName) jdk_68_method_73_code (3 : Nat) (Option.none : Option Jvm.ClassFile.FieldType), Jvm.Cond.code ({ cls := "java/lang/AbstractStringBuilder", name := "inflateIfNeededFor", desc := "(Ljava/lang/String;)V" } : Jvm.MethodName) jdk_68_method_71_code (2 : Nat) (Option.none : Option Jvm.ClassFile.FieldType), Jvm.Cond.code ({ cls := "java/lang/String", name := "getBytes", desc := "([BIB)V" } : Jvm.MethodName) jdk_42_method_147_code (4 : Nat) (Option.none : Option Jvm.ClassFile.FieldType), Jvm.Cond.code ({ cls := "java/lang/AbstractStringBuilder", name := "newCapacity", desc := "(I)I" } : Jvm.MethodName) jdk_68_method_10_code (6 : Nat) (Option.some Jvm.ClassFile.FieldType.int), Jvm.Cond.code ({ cls := "jdk/internal/util/ArraysSupport", name := "newLength", desc := "(III)I" } : Jvm.MethodName) jdk_48_method_27_code (4 : Nat) (Option.some Jvm.ClassFile.FieldType.int), Jvm.Cond.code ({ cls := "java/lang/Math", name := "max", desc := "(II)I" } : Jvm.MethodName) jdk_29_method_65_code (2 : Nat) (Option.some Jvm.ClassFile.FieldType.int), Jvm.Cond.code ({ cls := "java/util/Arrays", name := "copyOf", desc := "([BI)[B" } : Jvm.MethodName) jdk_65_method_121_code (3 : Nat) (Option.some (Jvm.ClassFile.FieldType.array Jvm.ClassFile.FieldType.byte)), Jvm.Cond.code ({ cls := "java/lang/Math", name := "min", desc := "(II)I" } : Jvm.MethodName) jdk_29_method_69_code (2 : Nat) (Option.some Jvm.ClassFile.FieldType.int), Jvm.Cond.code ({ cls := "java/lang/StringBuilder", name := "toString", desc := "()Ljava/lang/String;" } : Jvm.MethodName) jdk_67_method_42_code (1 : Nat) (Option.some (Jvm.ClassFile.FieldType.object "java/lang/String")), Jvm.Cond.code ({ cls := "java/lang/String", name := "<init>", desc := "(Ljava/lang/StringBuilder;)V" } : Jvm.MethodName) jdk_42_method_53_code (2 : Nat) (Option.none : Option Jvm.ClassFile.FieldType), Jvm.Cond.code ({ cls := "java/lang/String", name := "<init>", desc := "(Ljava/lang/AbstractStringBuilder;Ljava/lang/Void;)V" } : Jvm.MethodName) jdk_42_method_150_code (5 : Nat) (Option.none : Option Jvm.ClassFile.FieldType), Jvm.Cond.code ({ cls := "java/lang/AbstractStringBuilder", name := "getValue", desc := "()[B" } : Jvm.MethodName) jdk_68_method_64_code (1 : Nat) (Option.some (Jvm.ClassFile.FieldType.array Jvm.ClassFile.FieldType.byte)), Jvm.Cond.code ({ cls := "java/lang/StringBuilder", name := "length", desc := "()I" } : Jvm.MethodName) jdk_67_method_93_code (1 : Nat) (Option.some Jvm.ClassFile.FieldType.int), Jvm.Cond.code ({ cls := "java/lang/AbstractStringBuilder", name := "length", desc := "()I" } : Jvm.MethodName) jdk_68_method_6_code (1 : Nat) (Option.some Jvm.ClassFile.FieldType.int), Jvm.Cond.code ({ cls := "java/lang/AbstractStringBuilder", name := "isLatin1", desc := "()Z" } : Jvm.MethodName) jdk_68_method_68_code (1 : Nat) (Option.some Jvm.ClassFile.FieldType.boolean), Jvm.Cond.code ({ cls := "java/util/Arrays", name := "copyOfRange", desc := "([BII)[B" } : Jvm.MethodName) jdk_65_method_132_code (3 : Nat) (Option.some (Jvm.ClassFile.FieldType.array Jvm.ClassFile.FieldType.byte)), Jvm.Cond.code ({ cls := "java/util/Arrays", name := "copyOfRangeByte", desc := "([BII)[B" } : Jvm.MethodName) jdk_65_method_133_code (5 : Nat) (Option.some (Jvm.ClassFile.FieldType.array Jvm.ClassFile.FieldType.byte)), Jvm.Cond.code ({ cls := "java/util/Arrays", name := "checkLength", desc := "(II)V" } : Jvm.MethodName) jdk_65_method_131_code (2 : Nat) (Option.none : Option Jvm.ClassFile.FieldType), Jvm.Cond.code ({ cls := "com/example/rollcall/rollcall/core/RefusedException", name := "<init>", desc := "(Ljava/lang/String;Ljava/lang/String;)V" } : Jvm.MethodName) prog_15_method_1_code (3 : Nat) (Option.none : Option Jvm.ClassFile.FieldType), Jvm.Cond.code ({ cls := "java/lang/Exception", name := "<init>", desc := "(Ljava/lang/String;)V" } : Jvm.MethodName) jdk_59_method_2_code (2 : Nat) (Option.none : Option Jvm.ClassFile.FieldType), Jvm.Cond.code ({ cls := "java/lang/Throwable", name := "<init>", desc := "(Ljava/lang/String;)V" } : Jvm.MethodName) jdk_78_method_2_code (2 : Nat) (Option.none : Option Jvm.ClassFile.FieldType), Jvm.Cond.code ({ cls := "java/lang/Throwable", name := "<init>", desc := "()V" } : Jvm.MethodName) jdk_78_method_1_code (1 : Nat) (Option.none : Option Jvm.ClassFile.FieldType), Jvm.Cond.code ({ cls := "com/example/rollcall/rollcall/core/RefusedException", name := "code", desc := "()Ljava/lang/String;" } : Jvm.MethodName) prog_15_method_2_code (1 : Nat) (Option.some (Jvm.ClassFile.FieldType.object "java/lang/String")), Jvm.Cond.code ({ cls := "java/lang/String", name := "equals", desc := "(Ljava/lang/Object;)Z" } : Jvm.MethodName) jdk_42_method_66_code (3 : Nat) (Option.some Jvm.ClassFile.FieldType.boolean), Jvm.Cond.code ({ cls := "java/lang/Throwable", name := "getMessage", desc := "()Ljava/lang/String;" } : Jvm.MethodName) jdk_78_method_6_code (1 : Nat) (Option.some (Jvm.ClassFile.FieldType.object "java/lang/String")), Jvm.Cond.code ({ cls := "java/lang/StringLatin1", name := "equals", desc := "([B[B)Z" } : Jvm.MethodName) jdk_43_method_13_code (3 : Nat) (Option.some Jvm.ClassFile.FieldType.boolean), Jvm.Cond.code ({ cls := "java/lang/StringUTF16", name := "toBytes", desc := "([CII)[B" } : Jvm.MethodName) jdk_52_method_14_code (5 : Nat) (Option.some (Jvm.ClassFile.FieldType.array Jvm.ClassFile.FieldType.byte)), Jvm.Cond.code ({ cls := "java/lang/StringUTF16", name := "newBytesFor", desc := "(I)[B" } : Jvm.MethodName) jdk_52_method_2_code (1 : Nat) (Option.some (Jvm.ClassFile.FieldType.array Jvm.ClassFile.FieldType.byte)), Jvm.Cond.code ({ cls := "java/lang/StringUTF16", name := "newBytesLength", desc := "(I)I" } : Jvm.MethodName) jdk_52_method_3_code (1 : Nat) (Option.some Jvm.ClassFile.FieldType.int), Jvm.Cond.code ({ cls := "java/lang/StringUTF16", name := "putChar", desc := "([BII)V" } : Jvm.MethodName) jdk_52_method_4_code (3 : Nat) (Option.none : Option Jvm.ClassFile.FieldType), Jvm.Cond.code ({ cls := "java/lang/StringUTF16", name := "getChar", desc := "([BI)C" } : Jvm.MethodName) jdk_52_method_5_code (2 : Nat) (Option.some Jvm.ClassFile.FieldType.char), Jvm.Cond.code ({ cls := "java/lang/AbstractStringBuilder", name := "inflate", desc := "()V" } : Jvm.MethodName) jdk_68_method_11_code (2 : Nat) (Option.none : Option Jvm.ClassFile.FieldType), Jvm.Cond.code ({ cls := "java/lang/StringLatin1", name := "inflate", desc := "([BI[BII)V" } : Jvm.MethodName) jdk_43_method_50_code (5 : Nat) (Option.none : Option Jvm.ClassFile.FieldType), Jvm.Cond.code ({ cls := "java/lang/StringUTF16", name := "inflate", desc := "([BI[BII)V" } : Jvm.MethodName) jdk_52_method_86_code (6 : Nat) (Option.none : Option Jvm.ClassFile.FieldType), Jvm.Cond.code ({ cls := "java/lang/StringUTF16", name := "checkBoundsOffCount", desc := "(II[B)V" } : Jvm.MethodName) jdk_52_method_94_code (3 : Nat) (Option.none : Option Jvm.ClassFile.FieldType), Jvm.Cond.code ({ cls := "java/lang/StringUTF16", name := "length", desc := "([B)I" } : Jvm.MethodName) jdk_52_method_6_code (1 : Nat) (Option.some Jvm.ClassFile.FieldType.int), Jvm.Cond.code ({ cls := "java/lang/String", name := "checkBoundsOffCount", desc := "(III)I" } : Jvm.MethodName) jdk_42_method_157_code (3 : Nat) (Option.some Jvm.ClassFile.FieldType.int), Jvm.Cond.code ({ cls := "jdk/internal/util/Preconditions", name := "checkFromIndexSize", desc := "(IIILjava/util/function/BiFunction;)I" } : Jvm.MethodName) jdk_41_method_13_code (4 : Nat) (Option.some Jvm.ClassFile.FieldType.int)]
set_option maxRecDepth 65536 in
theorem codes_eq : words1.filter isCode = codes1 := rfl
theorem w_codes : ∀ c ∈ words1.filter isCode, c.before args0 about1 = true := by
  rw [codes_eq]
  intro c hc
  simp only [codes1, List.mem_cons, List.not_mem_nil, or_false] at hc
  rcases hc with rfl | rfl | rfl | rfl | rfl | rfl | rfl | rfl | rfl | rfl | rfl | rfl | rfl | rfl | rfl | rfl | rfl | rfl | rfl | rfl | rfl | rfl | rfl | rfl | rfl | rfl | rfl | rfl | rfl | rfl | rfl | rfl | rfl | rfl | rfl | rfl | rfl | rfl | rfl | rfl | rfl | rfl | rfl | rfl | rfl | rfl | rfl | rfl | rfl | rfl | rfl | rfl | rfl
  · exact w_c0
  · exact w_c1
  · exact w_c2
  · exact w_c3
  · exact w_c4
  · exact w_c5
  · exact w_c6
  · exact w_c7
  · exact w_c8
  · exact w_c9
  · exact w_c10
  · exact w_c11
  · exact w_c12
  · exact w_c13
  · exact w_c14
  · exact w_c15
  · exact w_c16
  · exact w_c17
  · exact w_c18
  · exact w_c19
  · exact w_c20
  · exact w_c21
  · exact w_c22
  · exact w_c23
  · exact w_c24
  · exact w_c25
  · exact w_c26
  · exact w_c27
  · exact w_c28
  · exact w_c29
  · exact w_c30
  · exact w_c31
  · exact w_c32
  · exact w_c33
  · exact w_c34
  · exact w_c35
  · exact w_c36
  · exact w_c37
  · exact w_c38
  · exact w_c39
  · exact w_c40
  · exact w_c41
  · exact w_c42
  · exact w_c43
  · exact w_c44
  · exact w_c45
  · exact w_c46
  · exact w_c47
  · exact w_c48
  · exact w_c49
  · exact w_c50
  · exact w_c51
  · exact w_c52
set_option maxRecDepth 65536 in
theorem w_t1 : (words1.take 24).all (fun c => isCode c || c.before args0 about1) = true := by decide +kernel
set_option maxRecDepth 65536 in
theorem w_t2 : ((words1.drop 24).take 24).all (fun c => isCode c || c.before args0 about1) = true := by decide +kernel
set_option maxRecDepth 65536 in
theorem w_t3 : (((words1.drop 24).drop 24).take 24).all (fun c => isCode c || c.before args0 about1) = true := by decide +kernel
set_option maxRecDepth 65536 in
theorem w_t4 : ((((words1.drop 24).drop 24).drop 24).take 24).all (fun c => isCode c || c.before args0 about1) = true := by decide +kernel
set_option maxRecDepth 65536 in
theorem w_t5 : (((((words1.drop 24).drop 24).drop 24).drop 24).take 24).all (fun c => isCode c || c.before args0 about1) = true := by decide +kernel
set_option maxRecDepth 65536 in
theorem w_t6 : ((((((words1.drop 24).drop 24).drop 24).drop 24).drop 24).take 24).all (fun c => isCode c || c.before args0 about1) = true := by decide +kernel
set_option maxRecDepth 65536 in
theorem w_t7 : (((((((words1.drop 24).drop 24).drop 24).drop 24).drop 24).drop 24).take 24).all (fun c => isCode c || c.before args0 about1) = true := by decide +kernel
set_option maxRecDepth 65536 in
theorem w_t8 : ((((((((words1.drop 24).drop 24).drop 24).drop 24).drop 24).drop 24).drop 24).take 24).all (fun c => isCode c || c.before args0 about1) = true := by decide +kernel
set_option maxRecDepth 65536 in
theorem w_t9 : (((((((((words1.drop 24).drop 24).drop 24).drop 24).drop 24).drop 24).drop 24).drop 24).take 24).all (fun c => isCode c || c.before args0 about1) = true := by decide +kernel
set_option maxRecDepth 65536 in
theorem w_t10 : ((((((((((words1.drop 24).drop 24).drop 24).drop 24).drop 24).drop 24).drop 24).drop 24).drop 24).take 24).all (fun c => isCode c || c.before args0 about1) = true := by decide +kernel
set_option maxRecDepth 65536 in
theorem w_t11 : (((((((((((words1.drop 24).drop 24).drop 24).drop 24).drop 24).drop 24).drop 24).drop 24).drop 24).drop 24).take 24).all (fun c => isCode c || c.before args0 about1) = true := by decide +kernel
set_option maxRecDepth 65536 in
theorem w_t12 : ((((((((((((words1.drop 24).drop 24).drop 24).drop 24).drop 24).drop 24).drop 24).drop 24).drop 24).drop 24).drop 24).take 24).all (fun c => isCode c || c.before args0 about1) = true := by decide +kernel
set_option maxRecDepth 65536 in
theorem w_t13 : ((((((((((((words1.drop 24).drop 24).drop 24).drop 24).drop 24).drop 24).drop 24).drop 24).drop 24).drop 24).drop 24).drop 24).all (fun c => isCode c || c.before args0 about1) = true := by decide +kernel
theorem w_tables : (allAtoms (Jvm.Cond.code x code maxLocals ret :: tables_1)).before args0 about1 = true := by
  rw [allAtoms_all]
  show words1.all (fun c => c.before args0 about1) = true
  refine all_split ?_ w_codes
  rw [← List.take_append_drop 24 words1, List.all_append, w_t1, ← List.take_append_drop 24 (words1.drop 24), List.all_append, w_t2, ← List.take_append_drop 24 ((words1.drop 24).drop 24), List.all_append, w_t3, ← List.take_append_drop 24 (((words1.drop 24).drop 24).drop 24), List.all_append, w_t4, ← List.take_append_drop 24 ((((words1.drop 24).drop 24).drop 24).drop 24), List.all_append, w_t5, ← List.take_append_drop 24 (((((words1.drop 24).drop 24).drop 24).drop 24).drop 24), List.all_append, w_t6, ← List.take_append_drop 24 ((((((words1.drop 24).drop 24).drop 24).drop 24).drop 24).drop 24), List.all_append, w_t7, ← List.take_append_drop 24 (((((((words1.drop 24).drop 24).drop 24).drop 24).drop 24).drop 24).drop 24), List.all_append, w_t8, ← List.take_append_drop 24 ((((((((words1.drop 24).drop 24).drop 24).drop 24).drop 24).drop 24).drop 24).drop 24), List.all_append, w_t9, ← List.take_append_drop 24 (((((((((words1.drop 24).drop 24).drop 24).drop 24).drop 24).drop 24).drop 24).drop 24).drop 24), List.all_append, w_t10, ← List.take_append_drop 24 ((((((((((words1.drop 24).drop 24).drop 24).drop 24).drop 24).drop 24).drop 24).drop 24).drop 24).drop 24), List.all_append, w_t11, ← List.take_append_drop 24 (((((((((((words1.drop 24).drop 24).drop 24).drop 24).drop 24).drop 24).drop 24).drop 24).drop 24).drop 24).drop 24), List.all_append, w_t12, w_t13]
  rfl
set_option maxRecDepth 65536 in
theorem w_rest : rest_1_c.before args0 about1 = true := by decide +kernel
set_option maxRecDepth 65536 in
theorem w_case : (Jvm.Cond.and given_1 narrow_1).before args0 about1 = true := by decide +kernel
set_option maxRecDepth 65536 in
theorem w_consts : constsHeld consts_1 about1 := Jvm.Lit.constsHeldB_iff.mp (by decide +kernel)
theorem w_applies : (headSpec (Jvm.Cond.code x code maxLocals ret :: tables_1) room_1).applies x e0.platform about1 = true :=
  (Spec.applies_iff w_frames).mpr ⟨w_running, w_runnable, w_alone, w_named, w_hears, w_ripe, w_room, w_tables⟩
theorem atStart : AtStart classFile x code maxLocals ret World_1 tables_1 room_1 Calls_1 rest_1 Pre_1 launch0 p0 e0 about1 theMethod args0 below0 :=
  ⟨lists_1, trivial, launch0.admits_env _ _ _, launch0.least_env, fairChoices_fair.cas, fairChoices_fair.clock, w_frames, w_args, w_heap, w_applies, ⟨(by decide +kernel : framesKnown about1 = true), ⟨(by decide +kernel : tablesKnown about1 = true), ⟨w_consts, trivial⟩⟩⟩, w_rest, w_case⟩
end start1
theorem witness_1 : WitnessClaimed_1 := ⟨start1.p0, start1.e0, start1.about1, start1.theMethod, start1.args0, start1.below0, start1.atStart⟩
end Jvm.Pilot.@@N@@
