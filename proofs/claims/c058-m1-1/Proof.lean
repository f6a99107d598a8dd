
import JvmDerived
import JvmDerived.Pilot.@@N@@Statement
import JvmDerived.Pilot.@@N@@Code
set_option linter.unusedVariables false
set_option linter.unusedSimpArgs false
namespace Jvm.RoadKit
open Sem ClassFile Op Lib Jvm.Stand Jvm.Free Jvm.LawKit
section OwnGo
variable {p : Program} {l : Launch} {e : Env} {R : Room} {s : State} {m : MethodId} {args : Array Value} {below : List Frame} {meth : Method} {c : Code} {T : State} {locs : List Loc} {cells slots kc ks : Nat} {Z : State} {a0 : Array Value} {h : Heap} {Q : Option Value → Heap → List Loc → Prop} {F0 : State → Outcome → Prop}
/-- what is left of a run from T: it ends, and F0 holds of its end -/
def Go (p : Program) (e : Env) (below : List Frame) (F0 : State → Outcome → Prop) (T : State) : Prop :=
  ∃ (U : State) (o : Outcome), Steps p.tables e below T U ∧ U.status = .running ∧ Ended U below o ∧ F0 U o
def EndN (s : State) (Q : Option Value → Heap → List Loc → Prop) (kc ks : Nat) (U : State) (o : Outcome) : Prop := ∃ v L, o = .returned v ∧ Q v U.heap L ∧ FrameEnd s o U L kc ks
theorem Go.step {T' : State} (g : ∀ t, Steps p.tables e below T' t → Steps p.tables e below T t) (k : Go p e below F0 T') : Go p e below F0 T := by
  obtain ⟨U, o, h1, r⟩ := k
  exact ⟨U, o, g _ h1, r⟩
theorem Go.cast {g g' : JFrame} (q : g = g') (k : Go p e below F0 (T.setTop g')) : Go p e below F0 (T.setTop g) := by rw [q]; exact k
/-- a body's contract: from these arguments and this heap it returns, and Q holds -/
def Ctr (l : Launch) (Z : State) (y : MethodName) (bytes : ByteArray) (maxL : Nat) (ret : Option FieldType) (rm : Room) (as : Array Value) (h : Heap) (Q : Option Value → Heap → List Loc → Prop) : Prop :=
  ∀ ws : List Jvm.Cond, MetFree l y (head1 (Jvm.Cond.code y bytes maxL ret :: ws) rm) (fun a U => a = as ∧ Z.Warmed39 U.vm ∧ U.heap = h) (fun _ _ _ _ _ => True) (fun _ U o U' => ∃ v L, o = .returned v ∧ Q v U'.heap L ∧ FrameEnd U o U' L rm.cells rm.slots)
theorem Ctr.of {y : MethodName} {bytes : ByteArray} {maxL : Nat} {ret : Option FieldType} {rm : Room} {as : Array Value} (hp : plainFor y = true)
    (body : ∀ (p : Program) (e : Env) (s : State) (m : MethodId) (below : List Frame) (meth : Method) (c : Code) (T : State), p.tables.exec = Jvm.exec → Z.Warmed39 s.vm → c.code = bytes → c.maxLocals = maxL → s.vm.findClass y.cls = some m.cls → meth.name = y.name → meth.sig.returnType = ret → meth.locks = false → T.heap = h → s.heap = h → Stand p l e rm s m as below meth c T [] 0 0 →
      Go p e below (EndN s Q rm.cells rm.slots) (T.setTop (entryFrame m as maxL))) : Ctr l Z y bytes maxL ret rm as h Q := by
  intro ws
  refine MetFree.of_bodySF hp hisR ?_
  intro p e s m args below meth c s₁ Bd hml0 hP hK
  obtain ⟨rfl, hZ, hh⟩ := hP
  exact body p e s m below meth c s₁ Bd.exec hZ Bd.bytes hml0 (findClass_of_methodNamed Bd.named) (name_of_methodNamed Bd.named Bd.method).1 Bd.returns Bd.notSynchronized (by rw [← hh, Bd.state]; rfl) hh (Stand.of_body Bd)
theorem Ctr.weak {y : MethodName} {bytes : ByteArray} {maxL : Nat} {ret : Option FieldType} {rm : Room} {as : Array Value} {Q' : Option Value → Heap → List Loc → Prop} (k : Ctr l Z y bytes maxL ret rm as h Q) (q : ∀ v h L, Q v h L → Q' v h L) : Ctr l Z y bytes maxL ret rm as h Q' := by
  intro ws p e ha hc hk s m args below hf happ hP hK
  obtain ⟨n, o, h1, h2, h3, v, L, h4, h5, h6⟩ := k ws p e ha hc hk s m args below hf happ hP hK
  exact ⟨n, o, h1, h2, h3, v, L, h4, q _ _ _ h5, h6⟩
theorem Go.ret0 (X : Stand p l e R s m args below meth c T locs cells slots) (hx : p.tables.exec = Jvm.exec) (hlk : meth.locks = false) (hret : meth.sig.returnType = none) {pc : Nat} {Ls : Array Slot} (hd : decode c.code pc = .ok (.return_, 1)) (hc : cells ≤ kc) (hs : slots ≤ ks) (q : Q none T.heap locs) : Go p e below (EndN s Q kc ks) (T.setTop (mkF m pc Ls [])) := by
  obtain ⟨fs, hr, hrun, hended, hW, hsame⟩ := X.leave (v := none) (fun _ => rfl) hlk
  exact ⟨_, _, X.returnOut hx hret hd hr, hrun, hended, _, _, rfl, q, ⟨_, rfl⟩, hW, hsame.mono hc hs⟩
theorem Go.retV (X : Stand p l e R s m args below meth c T locs cells slots) (hx : p.tables.exec = Jvm.exec) (hlk : meth.locks = false) {t : FieldType} (hret : meth.sig.returnType = some t) {pc : Nat} {Ls : Array Slot} {v : Value} {i : Instr} {rest : List Value} (hn : narrow t v = v)
    (hi : (i = .ireturn ∧ (t = .int ∨ t = .boolean ∨ t = .byte ∨ t = .char ∨ t = .short) ∧ ∃ z, v = .int z) ∨ (i = .lreturn ∧ t = .long ∧ ∃ z, v = .long z) ∨ (i = .dreturn ∧ t = .double ∧ ∃ z, v = .double z) ∨ (i = .freturn ∧ t = .float ∧ ∃ z, v = .float z) ∨ (i = .areturn ∧ t.isReference = true ∧ v.isRef = true))
    (hd : decode c.code pc = .ok (i, 1)) (hc : cells ≤ kc) (hs : slots ≤ ks) (q : Q (some v) T.heap locs) : Go p e below (EndN s Q kc ks) (T.setTop (mkF m pc Ls (v :: rest))) := by
  obtain ⟨fs, hr, hrun, hended, hW, hsame⟩ := X.leave (v := some v) (fun h => by rw [hret] at h; cases h) hlk
  exact ⟨_, _, retOut X hx hret hn hi hd hr, hrun, hended, _, _, rfl, q, ⟨_, rfl⟩, hW, hsame.mono hc hs⟩
theorem Go.retI (X : Stand p l e R s m args below meth c T locs cells slots) (hx : p.tables.exec = Jvm.exec) (hlk : meth.locks = false) (hret : meth.sig.returnType = some .int) {pc : Nat} {Ls : Array Slot} {z : Int32} {rest : List Value} (hd : decode c.code pc = .ok (.ireturn, 1)) (hc : cells ≤ kc) (hs : slots ≤ ks) (q : Q (some (.int z)) T.heap locs) : Go p e below (EndN s Q kc ks) (T.setTop (mkF m pc Ls (.int z :: rest))) :=
  Go.retV X hx hlk hret rfl (Or.inl ⟨rfl, Or.inl rfl, _, rfl⟩) hd hc hs q
theorem Go.retR (X : Stand p l e R s m args below meth c T locs cells slots) (hx : p.tables.exec = Jvm.exec) (hlk : meth.locks = false) {t : FieldType} (hret : meth.sig.returnType = some t) (ht : t.isReference = true) {pc : Nat} {Ls : Array Slot} {v : Value} (hv : v.isRef = true) {rest : List Value} (hd : decode c.code pc = .ok (.areturn, 1)) (hc : cells ≤ kc) (hs : slots ≤ ks) (q : Q (some v) T.heap locs) : Go p e below (EndN s Q kc ks) (T.setTop (mkF m pc Ls (v :: rest))) :=
  Go.retV X hx hlk hret (by rcases ref_cases hv with rfl | ⟨z, rfl⟩ <;> cases t <;> simp [FieldType.isReference] at ht <;> rfl) (Or.inr (Or.inr (Or.inr (Or.inr ⟨rfl, ht, hv⟩)))) hd hc hs q
theorem Go.retN (X : Stand p l e R s m args below meth c T locs cells slots) (hx : p.tables.exec = Jvm.exec) (hlk : meth.locks = false) {t : FieldType} (hret : meth.sig.returnType = some t) (ht : t = .boolean ∨ t = .byte ∨ t = .char ∨ t = .short) {pc : Nat} {Ls : Array Slot} {z : Int32} {rest : List Value} (hd : decode c.code pc = .ok (.ireturn, 1)) (hc : cells ≤ kc) (hs : slots ≤ ks) (q : Q (some (.int (nar t z))) T.heap locs) : Go p e below (EndN s Q kc ks) (T.setTop (mkF m pc Ls (.int z :: rest))) := by
  obtain ⟨fs, hr, hrun, hended, hW, hsame⟩ := X.leave (v := some (.int (nar t z))) (fun h => by rw [hret] at h; cases h) hlk
  exact ⟨_, _, Jvm.RoadKit.retN X hx hret ht hd hr, hrun, hended, _, _, rfl, q, ⟨_, rfl⟩, hW, hsame.mono hc hs⟩
theorem Go.iloadN (X : Stand p l e R s m args below meth c T locs cells slots) (hx : p.tables.exec = Jvm.exec) {pc : Nat} (pc' : Nat) {Ls : Array Slot} {st : List Value} {k : Fin 4} {v : Int32} (hp : pc' = pc + 1) (hd : decode c.code pc = .ok (.iload_n k, 1)) (hl : Ls[k.val]? = some (.val (.int v))) (k : Go p e below F0 (T.setTop (mkF m pc' Ls (.int v :: st)))) : Go p e below F0 (T.setTop (mkF m pc Ls st)) := by
  subst hp
  exact Go.step (fun t kt => XS.iloadN X.here hx (g := mkF m pc Ls _) rfl hd hl kt) k
theorem Go.iload (X : Stand p l e R s m args below meth c T locs cells slots) (hx : p.tables.exec = Jvm.exec) {pc : Nat} (pc' : Nat) {Ls : Array Slot} {st : List Value} {k : Nat} {v : Int32} (hp : pc' = pc + 2) (hd : decode c.code pc = .ok (.iload k, 2)) (hl : Ls[k]? = some (.val (.int v))) (k : Go p e below F0 (T.setTop (mkF m pc' Ls (.int v :: st)))) : Go p e below F0 (T.setTop (mkF m pc Ls st)) := by
  subst hp
  exact Go.step (fun t kt => XS.iload X.here hx (g := mkF m pc Ls _) rfl hd hl kt) k
theorem Go.aloadN (X : Stand p l e R s m args below meth c T locs cells slots) (hx : p.tables.exec = Jvm.exec) {pc : Nat} (pc' : Nat) {Ls : Array Slot} {st : List Value} {k : Fin 4} {v : Value} (hp : pc' = pc + 1) (hd : decode c.code pc = .ok (.aload_n k, 1)) (hl : Ls[k.val]? = some (.val v)) (hv : v.isRef = true) (k : Go p e below F0 (T.setTop (mkF m pc' Ls (v :: st)))) : Go p e below F0 (T.setTop (mkF m pc Ls st)) := by
  subst hp
  exact Go.step (fun t kt => XS.aloadN X.here hx (g := mkF m pc Ls _) rfl hd hl hv kt) k
theorem Go.aload (X : Stand p l e R s m args below meth c T locs cells slots) (hx : p.tables.exec = Jvm.exec) {pc : Nat} (pc' : Nat) {Ls : Array Slot} {st : List Value} {k : Nat} {v : Value} (hp : pc' = pc + 2) (hd : decode c.code pc = .ok (.aload k, 2)) (hl : Ls[k]? = some (.val v)) (hv : v.isRef = true) (k : Go p e below F0 (T.setTop (mkF m pc' Ls (v :: st)))) : Go p e below F0 (T.setTop (mkF m pc Ls st)) := by
  subst hp
  exact Go.step (fun t kt => XS.aload X.here hx (g := mkF m pc Ls _) rfl hd hl hv kt) k
theorem Go.iconst (X : Stand p l e R s m args below meth c T locs cells slots) (hx : p.tables.exec = Jvm.exec) {pc : Nat} (pc' : Nat) {Ls : Array Slot} {st : List Value} {i : Int} {v : Int32} (hp : pc' = pc + 1) (hd : decode c.code pc = .ok (.iconst i, 1)) (hv : Int32.ofInt i = v) (k : Go p e below F0 (T.setTop (mkF m pc' Ls (.int v :: st)))) : Go p e below F0 (T.setTop (mkF m pc Ls st)) := by
  subst hp
  exact Go.step (fun t kt => XS.iconst X.here hx (g := mkF m pc Ls _) rfl hd (by rw [hv]; exact kt)) k
theorem Go.bipush (X : Stand p l e R s m args below meth c T locs cells slots) (hx : p.tables.exec = Jvm.exec) {pc : Nat} (pc' : Nat) {Ls : Array Slot} {st : List Value} {i : Int} {v : Int32} (hp : pc' = pc + 2) (hd : decode c.code pc = .ok (.bipush i, 2)) (hv : (Int8.ofInt i).toInt32 = v) (k : Go p e below F0 (T.setTop (mkF m pc' Ls (.int v :: st)))) : Go p e below F0 (T.setTop (mkF m pc Ls st)) := by
  subst hp
  exact Go.step (fun t kt => XS.bipush X.here hx (g := mkF m pc Ls _) rfl hd (by rw [hv]; exact kt)) k
theorem Go.sipush (X : Stand p l e R s m args below meth c T locs cells slots) (hx : p.tables.exec = Jvm.exec) {pc : Nat} (pc' : Nat) {Ls : Array Slot} {st : List Value} {i : Int} {v : Int32} (hp : pc' = pc + 3) (hd : decode c.code pc = .ok (.sipush i, 3)) (hv : (Int16.ofInt i).toInt32 = v) (k : Go p e below F0 (T.setTop (mkF m pc' Ls (.int v :: st)))) : Go p e below F0 (T.setTop (mkF m pc Ls st)) := by
  subst hp
  exact Go.step (fun t kt => XS.sipush X.here hx (g := mkF m pc Ls _) rfl hd (by rw [hv]; exact kt)) k
theorem Go.anull (X : Stand p l e R s m args below meth c T locs cells slots) (hx : p.tables.exec = Jvm.exec) {pc : Nat} (pc' : Nat) {Ls : Array Slot} {st : List Value} (hp : pc' = pc + 1) (hd : decode c.code pc = .ok (.aconst_null, 1))  (k : Go p e below F0 (T.setTop (mkF m pc' Ls (.null :: st)))) : Go p e below F0 (T.setTop (mkF m pc Ls st)) := by
  subst hp
  exact Go.step (fun t kt => XS.aconstNull X.here hx (g := mkF m pc Ls _) rfl hd kt) k
theorem Go.iadd (X : Stand p l e R s m args below meth c T locs cells slots) (hx : p.tables.exec = Jvm.exec) {pc : Nat} (pc' : Nat) {Ls : Array Slot} {x y : Int32} {rest : List Value} (hp : pc' = pc + 1) (hd : decode c.code pc = .ok (.iadd, 1))  (k : Go p e below F0 (T.setTop (mkF m pc' Ls (.int (x + y) :: rest)))) : Go p e below F0 (T.setTop (mkF m pc Ls (.int y :: .int x :: rest))) := by
  subst hp
  exact Go.step (fun t kt => XS.iadd X.here hx (g := mkF m pc Ls _) rfl hd rfl kt) k
theorem Go.isub (X : Stand p l e R s m args below meth c T locs cells slots) (hx : p.tables.exec = Jvm.exec) {pc : Nat} (pc' : Nat) {Ls : Array Slot} {x y : Int32} {rest : List Value} (hp : pc' = pc + 1) (hd : decode c.code pc = .ok (.isub, 1))  (k : Go p e below F0 (T.setTop (mkF m pc' Ls (.int (x - y) :: rest)))) : Go p e below F0 (T.setTop (mkF m pc Ls (.int y :: .int x :: rest))) := by
  subst hp
  exact Go.step (fun t kt => XS.isub X.here hx (g := mkF m pc Ls _) rfl hd rfl kt) k
theorem Go.imul (X : Stand p l e R s m args below meth c T locs cells slots) (hx : p.tables.exec = Jvm.exec) {pc : Nat} (pc' : Nat) {Ls : Array Slot} {x y : Int32} {rest : List Value} (hp : pc' = pc + 1) (hd : decode c.code pc = .ok (.imul, 1))  (k : Go p e below F0 (T.setTop (mkF m pc' Ls (.int (x * y) :: rest)))) : Go p e below F0 (T.setTop (mkF m pc Ls (.int y :: .int x :: rest))) := by
  subst hp
  exact Go.step (fun t kt => XS.imul X.here hx (g := mkF m pc Ls _) rfl hd rfl kt) k
theorem Go.iand (X : Stand p l e R s m args below meth c T locs cells slots) (hx : p.tables.exec = Jvm.exec) {pc : Nat} (pc' : Nat) {Ls : Array Slot} {x y : Int32} {rest : List Value} (hp : pc' = pc + 1) (hd : decode c.code pc = .ok (.iand, 1))  (k : Go p e below F0 (T.setTop (mkF m pc' Ls (.int (x &&& y) :: rest)))) : Go p e below F0 (T.setTop (mkF m pc Ls (.int y :: .int x :: rest))) := by
  subst hp
  exact Go.step (fun t kt => XS.iand X.here hx (g := mkF m pc Ls _) rfl hd rfl kt) k
theorem Go.ior (X : Stand p l e R s m args below meth c T locs cells slots) (hx : p.tables.exec = Jvm.exec) {pc : Nat} (pc' : Nat) {Ls : Array Slot} {x y : Int32} {rest : List Value} (hp : pc' = pc + 1) (hd : decode c.code pc = .ok (.ior, 1))  (k : Go p e below F0 (T.setTop (mkF m pc' Ls (.int (x ||| y) :: rest)))) : Go p e below F0 (T.setTop (mkF m pc Ls (.int y :: .int x :: rest))) := by
  subst hp
  exact Go.step (fun t kt => XT.ior X.here hx (g := mkF m pc Ls _) rfl hd rfl kt) k
theorem Go.ixor (X : Stand p l e R s m args below meth c T locs cells slots) (hx : p.tables.exec = Jvm.exec) {pc : Nat} (pc' : Nat) {Ls : Array Slot} {x y : Int32} {rest : List Value} (hp : pc' = pc + 1) (hd : decode c.code pc = .ok (.ixor, 1))  (k : Go p e below F0 (T.setTop (mkF m pc' Ls (.int (x ^^^ y) :: rest)))) : Go p e below F0 (T.setTop (mkF m pc Ls (.int y :: .int x :: rest))) := by
  subst hp
  exact Go.step (fun t kt => XT.ixor X.here hx (g := mkF m pc Ls _) rfl hd rfl kt) k
theorem Go.ishr (X : Stand p l e R s m args below meth c T locs cells slots) (hx : p.tables.exec = Jvm.exec) {pc : Nat} (pc' : Nat) {Ls : Array Slot} {x y : Int32} {rest : List Value} (hp : pc' = pc + 1) (hd : decode c.code pc = .ok (.ishr, 1))  (k : Go p e below F0 (T.setTop (mkF m pc' Ls (.int (x >>> (y &&& 31)) :: rest)))) : Go p e below F0 (T.setTop (mkF m pc Ls (.int y :: .int x :: rest))) := by
  subst hp
  exact Go.step (fun t kt => XT.ishr X.here hx (g := mkF m pc Ls _) rfl hd rfl kt) k
theorem Go.iushr (X : Stand p l e R s m args below meth c T locs cells slots) (hx : p.tables.exec = Jvm.exec) {pc : Nat} (pc' : Nat) {Ls : Array Slot} {x y : Int32} {rest : List Value} (hp : pc' = pc + 1) (hd : decode c.code pc = .ok (.iushr, 1))  (k : Go p e below F0 (T.setTop (mkF m pc' Ls (.int ((x.toUInt32 >>> (y &&& 31).toUInt32).toInt32) :: rest)))) : Go p e below F0 (T.setTop (mkF m pc Ls (.int y :: .int x :: rest))) := by
  subst hp
  exact Go.step (fun t kt => XT.iushr X.here hx (g := mkF m pc Ls _) rfl hd rfl kt) k
theorem Go.i2b (X : Stand p l e R s m args below meth c T locs cells slots) (hx : p.tables.exec = Jvm.exec) {pc : Nat} (pc' : Nat) {Ls : Array Slot} {x : Int32} {rest : List Value} (hp : pc' = pc + 1) (hd : decode c.code pc = .ok (.i2b, 1))  (k : Go p e below F0 (T.setTop (mkF m pc' Ls (.int (x.toInt8.toInt32) :: rest)))) : Go p e below F0 (T.setTop (mkF m pc Ls (.int x :: rest))) := by
  subst hp
  exact Go.step (fun t kt => XT.i2b X.here hx (g := mkF m pc Ls _) rfl hd rfl kt) k
theorem Go.i2c (X : Stand p l e R s m args below meth c T locs cells slots) (hx : p.tables.exec = Jvm.exec) {pc : Nat} (pc' : Nat) {Ls : Array Slot} {x : Int32} {rest : List Value} (hp : pc' = pc + 1) (hd : decode c.code pc = .ok (.i2c, 1))  (k : Go p e below F0 (T.setTop (mkF m pc' Ls (.int (x.toUInt32.toUInt16.toUInt32.toInt32) :: rest)))) : Go p e below F0 (T.setTop (mkF m pc Ls (.int x :: rest))) := by
  subst hp
  exact Go.step (fun t kt => XT.i2c X.here hx (g := mkF m pc Ls _) rfl hd rfl kt) k
theorem Go.dup (X : Stand p l e R s m args below meth c T locs cells slots) (hx : p.tables.exec = Jvm.exec) {pc : Nat} (pc' : Nat) {Ls : Array Slot} {x : Value} {rest : List Value} (hp : pc' = pc + 1) (hd : decode c.code pc = .ok (.dup, 1)) (hc : x.category = 1) (k : Go p e below F0 (T.setTop (mkF m pc' Ls (x :: x :: rest)))) : Go p e below F0 (T.setTop (mkF m pc Ls (x :: rest))) := by
  subst hp
  exact Go.step (fun t kt => XS.dup X.here hx (g := mkF m pc Ls _) rfl hd rfl hc kt) k
theorem Go.dupX1 (X : Stand p l e R s m args below meth c T locs cells slots) (hx : p.tables.exec = Jvm.exec) {pc : Nat} (pc' : Nat) {Ls : Array Slot} {x y : Value} {rest : List Value} (hp : pc' = pc + 1) (hd : decode c.code pc = .ok (.dup_x1, 1)) (hc : x.category = 1) (hc' : y.category = 1) (k : Go p e below F0 (T.setTop (mkF m pc' Ls (x :: y :: x :: rest)))) : Go p e below F0 (T.setTop (mkF m pc Ls (x :: y :: rest))) := by
  subst hp
  exact Go.step (fun t kt => XT.dupX1 X.here hx (g := mkF m pc Ls _) rfl hd rfl hc hc' kt) k
theorem Go.pop (X : Stand p l e R s m args below meth c T locs cells slots) (hx : p.tables.exec = Jvm.exec) {pc : Nat} (pc' : Nat) {Ls : Array Slot} {x : Value} {rest : List Value} (hp : pc' = pc + 1) (hd : decode c.code pc = .ok (.pop, 1)) (hc : x.category = 1) (k : Go p e below F0 (T.setTop (mkF m pc' Ls rest))) : Go p e below F0 (T.setTop (mkF m pc Ls (x :: rest))) := by
  subst hp
  exact Go.step (fun t kt => XT.pop X.here hx (g := mkF m pc Ls _) rfl hd rfl hc kt) k
theorem Go.istoreN (X : Stand p l e R s m args below meth c T locs cells slots) (hx : p.tables.exec = Jvm.exec) {pc : Nat} (pc' : Nat) {Ls : Array Slot} {k : Fin 4} {x : Int32} {rest : List Value} {Ls' : Array Slot} (hp : pc' = pc + 1) (hd : decode c.code pc = .ok (.istore_n k, 1)) (hl : storeLocals Ls k.val (.int x) = some Ls') (k : Go p e below F0 (T.setTop (mkF m pc' Ls' rest))) : Go p e below F0 (T.setTop (mkF m pc Ls (.int x :: rest))) := by
  subst hp
  exact Go.step (fun t kt => XS.istoreN X.here hx (g := mkF m pc Ls _) rfl hd rfl hl kt) k
theorem Go.istore (X : Stand p l e R s m args below meth c T locs cells slots) (hx : p.tables.exec = Jvm.exec) {pc : Nat} (pc' : Nat) {Ls : Array Slot} {k : Nat} {x : Int32} {rest : List Value} {Ls' : Array Slot} (hp : pc' = pc + 2) (hd : decode c.code pc = .ok (.istore k, 2)) (hl : storeLocals Ls k (.int x) = some Ls') (k : Go p e below F0 (T.setTop (mkF m pc' Ls' rest))) : Go p e below F0 (T.setTop (mkF m pc Ls (.int x :: rest))) := by
  subst hp
  exact Go.step (fun t kt => XS.istore X.here hx (g := mkF m pc Ls _) rfl hd rfl hl kt) k
theorem Go.astoreN (X : Stand p l e R s m args below meth c T locs cells slots) (hx : p.tables.exec = Jvm.exec) {pc : Nat} (pc' : Nat) {Ls : Array Slot} {k : Fin 4} {x : Value} {rest : List Value} {Ls' : Array Slot} (hp : pc' = pc + 1) (hd : decode c.code pc = .ok (.astore_n k, 1)) (hv : x.isRef = true) (hl : storeLocals Ls k.val x = some Ls') (k : Go p e below F0 (T.setTop (mkF m pc' Ls' rest))) : Go p e below F0 (T.setTop (mkF m pc Ls (x :: rest))) := by
  subst hp
  exact Go.step (fun t kt => XS.astoreN X.here hx (g := mkF m pc Ls _) rfl hd rfl hv hl kt) k
theorem Go.astore (X : Stand p l e R s m args below meth c T locs cells slots) (hx : p.tables.exec = Jvm.exec) {pc : Nat} (pc' : Nat) {Ls : Array Slot} {k : Nat} {x : Value} {rest : List Value} {Ls' : Array Slot} (hp : pc' = pc + 2) (hd : decode c.code pc = .ok (.astore k, 2)) (hv : x.isRef = true) (hl : storeLocals Ls k x = some Ls') (k : Go p e below F0 (T.setTop (mkF m pc' Ls' rest))) : Go p e below F0 (T.setTop (mkF m pc Ls (x :: rest))) := by
  subst hp
  exact Go.step (fun t kt => XS.astore X.here hx (g := mkF m pc Ls _) rfl hd rfl hv hl kt) k
theorem Go.iinc (X : Stand p l e R s m args below meth c T locs cells slots) (hx : p.tables.exec = Jvm.exec) {pc : Nat} (pc' : Nat) {Ls : Array Slot} {st : List Value} {k : Nat} {cst : Int} {x y : Int32} {Ls' : Array Slot} (hp : pc' = pc + 3) (hd : decode c.code pc = .ok (.iinc k cst, 3)) (hl : Ls[k]? = some (.val (.int x))) (hy : x + Int32.ofInt cst = y) (hl' : storeLocals Ls k (.int y) = some Ls') (k : Go p e below F0 (T.setTop (mkF m pc' Ls' st))) : Go p e below F0 (T.setTop (mkF m pc Ls st)) := by
  subst hp
  exact Go.step (fun t kt => XS.iinc X.here hx (g := mkF m pc Ls _) rfl hd hl (by rw [hy]; exact hl') kt) k
theorem Go.goto (X : Stand p l e R s m args below meth c T locs cells slots) (hx : p.tables.exec = Jvm.exec) {pc : Nat} (pc' : Nat) {Ls : Array Slot} {o : Int} {st : List Value} (hd : decode c.code pc = .ok (.goto o, 3))  (ho : 0 ≤ (pc : Int) + o) (hp : ((pc : Int) + o).toNat = pc') (k : Go p e below F0 (T.setTop (mkF m pc' Ls st))) : Go p e below F0 (T.setTop (mkF m pc Ls st)) :=
  Go.step (fun t kt => XS.goto X.here hx (g := mkF m pc Ls _) rfl rfl hd ho hp kt) k
theorem Go.ifYes (X : Stand p l e R s m args below meth c T locs cells slots) (hx : p.tables.exec = Jvm.exec) {pc : Nat} (pc' : Nat) {Ls : Array Slot} {o : Int} {cd : ClassFile.Cond} {x : Int32} {rest : List Value} (hd : decode c.code pc = .ok (.ifCond cd o, 3)) (hc : if_icmp.holds cd x 0 = true) (ho : 0 ≤ (pc : Int) + o) (hp : ((pc : Int) + o).toNat = pc') (k : Go p e below F0 (T.setTop (mkF m pc' Ls rest))) : Go p e below F0 (T.setTop (mkF m pc Ls (.int x :: rest))) :=
  Go.step (fun t kt => XS.ifYes X.here hx (g := mkF m pc Ls _) rfl rfl hd rfl ((if0 _ _).trans hc) ho hp kt) k
theorem Go.icmpYes (X : Stand p l e R s m args below meth c T locs cells slots) (hx : p.tables.exec = Jvm.exec) {pc : Nat} (pc' : Nat) {Ls : Array Slot} {o : Int} {cd : ClassFile.Cond} {x y : Int32} {rest : List Value} (hd : decode c.code pc = .ok (.if_icmp cd o, 3)) (hc : if_icmp.holds cd x y = true) (ho : 0 ≤ (pc : Int) + o) (hp : ((pc : Int) + o).toNat = pc') (k : Go p e below F0 (T.setTop (mkF m pc' Ls rest))) : Go p e below F0 (T.setTop (mkF m pc Ls (.int y :: .int x :: rest))) :=
  Go.step (fun t kt => XS.icmpYes X.here hx (g := mkF m pc Ls _) rfl rfl hd rfl hc ho hp kt) k
theorem Go.ifNo (X : Stand p l e R s m args below meth c T locs cells slots) (hx : p.tables.exec = Jvm.exec) {pc : Nat} (pc' : Nat) {Ls : Array Slot} {o : Int} {cd : ClassFile.Cond} {x : Int32} {rest : List Value} (hp : pc' = pc + 3) (hd : decode c.code pc = .ok (.ifCond cd o, 3)) (hc : if_icmp.holds cd x 0 = false) (k : Go p e below F0 (T.setTop (mkF m pc' Ls rest))) : Go p e below F0 (T.setTop (mkF m pc Ls (.int x :: rest))) := by
  subst hp
  exact Go.step (fun t kt => XS.ifNo X.here hx (g := mkF m pc Ls _) rfl hd rfl ((if0 _ _).trans hc) kt) k
theorem Go.icmpNo (X : Stand p l e R s m args below meth c T locs cells slots) (hx : p.tables.exec = Jvm.exec) {pc : Nat} (pc' : Nat) {Ls : Array Slot} {o : Int} {cd : ClassFile.Cond} {x y : Int32} {rest : List Value} (hp : pc' = pc + 3) (hd : decode c.code pc = .ok (.if_icmp cd o, 3)) (hc : if_icmp.holds cd x y = false) (k : Go p e below F0 (T.setTop (mkF m pc' Ls rest))) : Go p e below F0 (T.setTop (mkF m pc Ls (.int y :: .int x :: rest))) := by
  subst hp
  exact Go.step (fun t kt => XS.icmpNo X.here hx (g := mkF m pc Ls _) rfl hd rfl hc kt) k
theorem Go.acmp (X : Stand p l e R s m args below meth c T locs cells slots) (hx : p.tables.exec = Jvm.exec) {pc : Nat} (pc' : Nat) {Ls : Array Slot} {cd : ACond} {x y : Value} {rest : List Value} {o : Int} {same : Bool} (hd : decode c.code pc = .ok (.if_acmp cd o, 3)) (h1 : x.isRef = true) (h2 : y.isRef = true) (hq : decide (x = y) = same) (ho : 0 ≤ (pc : Int) + o) (hp : pc' = if acV cd same = true then ((pc : Int) + o).toNat else pc + 3) (k : Go p e below F0 (T.setTop (mkF m pc' Ls rest))) : Go p e below F0 (T.setTop (mkF m pc Ls (y :: x :: rest))) :=
  Go.step (fun t kt => Jvm.RoadKit.acmp (g := mkF m pc Ls _) X hx rfl h1 h2 rfl hd rfl hq ho hp kt) k
theorem Go.getF (X : Stand p l e R s m args below meth c T locs cells slots) (hx : p.tables.exec = Jvm.exec) (hZ : Z.Warmed39 s.vm) {own : String} {index : Nat} (hown : s.vm.findClass own = some m.cls) {R0 O n d host : String} (wl : (Jvm.Cond.fieldLink own index R0 n d).before a0 Z = true ∨ (Jvm.Cond.fieldLinkNest own index R0 n d host).before a0 Z = true) (via : Via Z R0 O n d) (eT : T.heap = h) {a : Addr} {v : Value} (F : Fld Z h a O n d v) {pc : Nat} (pc' : Nat) {Ls : Array Slot} {rest : List Value} (hp : pc' = pc + 3) (hd : decode c.code pc = .ok (.getfield index, 3))
    (k : ∀ T', T'.heap = h → Stand p l e R s m args below meth c T' locs cells slots → Go p e below F0 (T'.setTop (mkF m pc' Ls (v :: rest)))) : Go p e below F0 (T.setTop (mkF m pc Ls (.ref a :: rest))) := by
  subst hp
  obtain ⟨T', X', e', st⟩ := Jvm.RoadKit.getF X hx hZ hown wl via eT F (g := mkF m pc Ls (.ref a :: rest)) rfl rfl hd
  exact Go.step st (k T' e' X')
theorem Go.getS (X : Stand p l e R s m args below meth c T locs cells slots) (hx : p.tables.exec = Jvm.exec) (hZ : Z.Warmed39 s.vm) {own : String} {index : Nat} (hown : s.vm.findClass own = some m.cls) {R0 O n d host : String} (wl : (Jvm.Cond.fieldLink own index R0 n d).before a0 Z = true ∨ (Jvm.Cond.fieldLinkNest own index R0 n d host).before a0 Z = true) (via : Via Z R0 O n d) (eT : T.heap = h) {v : Value} (F : Sta Z h O n d v) {pc : Nat} (pc' : Nat) {Ls : Array Slot} {rest : List Value} (hp : pc' = pc + 3) (hd : decode c.code pc = .ok (.getstatic index, 3))
    (k : ∀ T', T'.heap = h → Stand p l e R s m args below meth c T' locs cells slots → Go p e below F0 (T'.setTop (mkF m pc' Ls (v :: rest)))) : Go p e below F0 (T.setTop (mkF m pc Ls rest)) := by
  subst hp
  obtain ⟨T', X', e', st⟩ := Jvm.RoadKit.getS2 X hx hZ hown wl via eT F (g := mkF m pc Ls rest) rfl hd
  exact Go.step st (k T' e' X')
theorem Go.putF (X : Stand p l e R s m args below meth c T locs cells slots) (hx : p.tables.exec = Jvm.exec) (hZ : Z.Warmed39 s.vm) {own : String} {index : Nat} (hown : s.vm.findClass own = some m.cls) {R0 O n d host C : String} {kk : Nat} {ty : FieldType} (wl : (Jvm.Cond.fieldLink own index R0 n d).before a0 Z = true ∨ (Jvm.Cond.fieldLinkNest own index R0 n d host).before a0 Z = true) (via : Via Z R0 O n d) (eT : T.heap = h) {a : Addr} {v old : Value} (F : Fld Z h a O n d old) (E : Exa Z h a C) (L : (Jvm.Cond.lays C O n d).before a0 Z = true ∨ ((Jvm.Cond.laysFinal C O n d).before a0 Z = true ∧ own = O ∧ meth.name = "<init>")) (wi : (Jvm.Cond.instantiable C kk).before a0 Z = true) (hty : parseFieldDescriptor d = some ty) (hn : narrow ty v = v) (hf : fits ty v = true) {pc : Nat} (pc' : Nat) {Ls : Array Slot} {rest : List Value} (hp : pc' = pc + 3) (hd : decode c.code pc = .ok (.putfield index, 3))
    (k : ∀ T' h', T'.heap = h' → Wr h h' a (slotOf Z O n d) v → Fld Z h' a O n d v → Stand p l e R s m args below meth c T' (locs ++ [⟨a, slotOf Z O n d⟩]) cells slots → Go p e below F0 (T'.setTop (mkF m pc' Ls rest))) : Go p e below F0 (T.setTop (mkF m pc Ls (v :: .ref a :: rest))) := by
  subst hp
  obtain ⟨T', h', X', e', W, st⟩ := Jvm.RoadKit.putF X hx hZ hown wl via eT F E L wi hty hn hf (g := mkF m pc Ls (v :: .ref a :: rest)) rfl rfl hd
  exact Go.step st (k T' h' e' W (F.same W) X')
theorem Go.putFN (X : Stand p l e R s m args below meth c T locs cells slots) (hx : p.tables.exec = Jvm.exec) (hZ : Z.Warmed39 s.vm) {own : String} {index : Nat} (hown : s.vm.findClass own = some m.cls) {R0 O n d C : String} {kk : Nat} {ty : FieldType} (wl : (Jvm.Cond.fieldLink own index R0 n d).before a0 Z = true) (via : Via Z R0 O n d) (eT : T.heap = h) {a : Addr} {v v' old : Value} (F : Fld Z h a O n d old) (E : Exa Z h a C) (L : (Jvm.Cond.lays C O n d).before a0 Z = true ∨ ((Jvm.Cond.laysFinal C O n d).before a0 Z = true ∧ own = O ∧ meth.name = "<init>")) (wi : (Jvm.Cond.instantiable C kk).before a0 Z = true) (hty : parseFieldDescriptor d = some ty) (hn : narrow ty v = v') (hf : fits ty v' = true) {pc : Nat} (pc' : Nat) {Ls : Array Slot} {rest : List Value} (hp : pc' = pc + 3) (hd : decode c.code pc = .ok (.putfield index, 3))
    (k : ∀ T' h', T'.heap = h' → Wr h h' a (slotOf Z O n d) v' → Fld Z h' a O n d v' → Stand p l e R s m args below meth c T' (locs ++ [⟨a, slotOf Z O n d⟩]) cells slots → Go p e below F0 (T'.setTop (mkF m pc' Ls rest))) : Go p e below F0 (T.setTop (mkF m pc Ls (v :: .ref a :: rest))) := by
  subst hp
  obtain ⟨T', h', X', e', W, st⟩ := Jvm.RoadKit.putFN X hx hZ hown wl via eT F E L wi hty hn hf (g := mkF m pc Ls (v :: .ref a :: rest)) rfl rfl hd
  exact Go.step st (k T' h' e' W (F.same W) X')
theorem Go.new (X : Stand p l e R s m args below meth c T locs cells slots) (hx : p.tables.exec = Jvm.exec) (hZ : Z.Warmed39 s.vm) {own : String} {index : Nat} (hown : s.vm.findClass own = some m.cls) {C : String} {n : Nat} (wl : (Jvm.Cond.classLink own index C).before a0 Z = true) (wi : (Jvm.Cond.instantiable C n).before a0 Z = true) (wz : (Jvm.Cond.initialized C).before a0 Z = true) (eT : T.heap = h) (hc : cells + 1 ≤ R.cells) (hl : slots + n ≤ R.slots) {pc : Nat} (pc' : Nat) {Ls : Array Slot} {rest : List Value} (hp : pc' = pc + 3) (hd : decode c.code pc = .ok (.new index, 3))
    (k : ∀ T' h' a, T'.heap = h' → Ext h h' → a = h.size → Exa Z h' a C → (∀ {O nm d : String} {ty : FieldType}, Laid Z a0 C O nm d → parseFieldDescriptor d = some ty → Fld Z h' a O nm d (defaultValue ty)) → Stand p l e R s m args below meth c T' locs (cells + 1) (slots + n) → Go p e below F0 (T'.setTop (mkF m pc' Ls (.ref a :: rest)))) : Go p e below F0 (T.setTop (mkF m pc Ls rest)) := by
  subst hp
  obtain ⟨T', h', X', e', E, A, D, -, st⟩ := newO X hx hZ hown wl wi wz eT (g := mkF m pc Ls rest) rfl hd hc hl
  exact Go.step st (k T' h' h.size e' E rfl A D X')
theorem Go.newarray (X : Stand p l e R s m args below meth c T locs cells slots) (hx : p.tables.exec = Jvm.exec) (hZ : Z.Warmed39 s.vm) {aty : ArrayType} {ty : FieldType} (hty : newarray.typeOf aty = ty) (wa : (Jvm.Cond.arrayClass ty).before a0 Z = true) (eT : T.heap = h) {n : Int32} (hn : ¬ n < 0) {cap : Nat} (hcap : n.toNatClampNeg ≤ cap) (hb : cap * 8 ≤ 536870912) (hc : cells + 1 ≤ R.cells) (hl : slots + cap ≤ R.slots) {ad : String} (had : "[" ++ ty.toString = ad) (N : Nat) {pc : Nat} (pc' : Nat) {Ls : Array Slot} {rest : List Value} (hp : pc' = pc + 2) (hd : decode c.code pc = .ok (.newarray aty, 2))
    (k : ∀ T' h' a kk, T'.heap = h' → Ext h h' → a = h.size → Arv Z h' a kk ty n (List.replicate N (defaultValue ty)) (defaultValue ty) → Exa Z h' a ad → Stand p l e R s m args below meth c T' locs (cells + 1) (slots + cap) → Go p e below F0 (T'.setTop (mkF m pc' Ls (.ref a :: rest)))) : Go p e below F0 (T.setTop (mkF m pc Ls (.int n :: rest))) := by
  subst hp hty
  obtain ⟨T', h', cA, X', e', E, A, Ex, st⟩ := newPE X hx hZ wa eT (g := mkF m pc Ls (.int n :: rest)) rfl hd rfl hn hcap hb hc hl had
  exact Go.step st (k T' h' h.size cA e' E rfl ((Arv.new A hn).pad (pad_rep [] _ N)) Ex X')
theorem Go.castore (X : Stand p l e R s m args below meth c T locs cells slots) (hx : p.tables.exec = Jvm.exec) (hZ : Z.Warmed39 s.vm) (eT : T.heap = h) {a : Addr} {kk : ClassId} {z : Int32} {vs : List Value} {dv : Value} (V : Arv Z h a kk .char z vs dv) {j : Int32} {x : Int32} (x' : Int32) (hn : nar .char x = x') (hj : ¬ j < 0 ∧ j < z) (i : Nat) (hi : j.toNatClampNeg = i) (hl : i < vs.length) {pc : Nat} (pc' : Nat) {Ls : Array Slot} {rest : List Value} (hp : pc' = pc + 1) (hd : decode c.code pc = .ok (.castore, 1))
    (k : ∀ T' h', T'.heap = h' → Wr h h' a j.toNatClampNeg (.int x') → Arv Z h' a kk .char z (vs.set i (.int x')) dv → Stand p l e R s m args below meth c T' (locs ++ [⟨a, j.toNatClampNeg⟩]) cells slots → Go p e below F0 (T'.setTop (mkF m pc' Ls rest))) : Go p e below F0 (T.setTop (mkF m pc Ls (.int x :: .int j :: .ref a :: rest))) := by
  subst hp hn
  obtain ⟨cl, A, q1, S, q3, H, G⟩ := V
  obtain ⟨T', h', X', e', W, st⟩ := stC X hx hZ eT A (j := j) (x := x) (inb_of S hj) (g := mkF m pc Ls (.int x :: .int j :: .ref a :: rest)) rfl rfl hd
  exact Go.step st (k T' h' e' W (Arv.set A q1 S q3 H G (fits_nar_char x) W i hi hl) X')
theorem Go.bastore (X : Stand p l e R s m args below meth c T locs cells slots) (hx : p.tables.exec = Jvm.exec) (hZ : Z.Warmed39 s.vm) (eT : T.heap = h) {a : Addr} {kk : ClassId} {z : Int32} {vs : List Value} {dv : Value} (V : Arv Z h a kk .byte z vs dv) {j : Int32} {x : Int32} (x' : Int32) (hn : nar .byte x = x') (hj : ¬ j < 0 ∧ j < z) (i : Nat) (hi : j.toNatClampNeg = i) (hl : i < vs.length) {pc : Nat} (pc' : Nat) {Ls : Array Slot} {rest : List Value} (hp : pc' = pc + 1) (hd : decode c.code pc = .ok (.bastore, 1))
    (k : ∀ T' h', T'.heap = h' → Wr h h' a j.toNatClampNeg (.int x') → Arv Z h' a kk .byte z (vs.set i (.int x')) dv → Stand p l e R s m args below meth c T' (locs ++ [⟨a, j.toNatClampNeg⟩]) cells slots → Go p e below F0 (T'.setTop (mkF m pc' Ls rest))) : Go p e below F0 (T.setTop (mkF m pc Ls (.int x :: .int j :: .ref a :: rest))) := by
  subst hp hn
  obtain ⟨cl, A, q1, S, q3, H, G⟩ := V
  obtain ⟨T', h', X', e', W, st⟩ := stB X hx hZ eT A (j := j) (x := x) (inb_of S hj) (g := mkF m pc Ls (.int x :: .int j :: .ref a :: rest)) rfl rfl hd
  exact Go.step st (k T' h' e' W (Arv.set A q1 S q3 H G (fits_nar_byte x) W i hi hl) X')
theorem Go.caload (X : Stand p l e R s m args below meth c T locs cells slots) (hx : p.tables.exec = Jvm.exec) (hZ : Z.Warmed39 s.vm) (eT : T.heap = h) {a : Addr} {kk : ClassId} {z : Int32} {vs : List Value} {dv : Value} (V : Arv Z h a kk .char z vs dv) {j : Int32} {v : Value} (hj : ¬ j < 0 ∧ j < z) (hv : vs.getD j.toNatClampNeg dv = v) {pc : Nat} (pc' : Nat) {Ls : Array Slot} {rest : List Value} (hp : pc' = pc + 1) (hd : decode c.code pc = .ok (.caload, 1)) (k : Go p e below F0 (T.setTop (mkF m pc' Ls (v :: rest)))) : Go p e below F0 (T.setTop (mkF m pc Ls (.int j :: .ref a :: rest))) := by
  subst hp
  obtain ⟨cl, A, q1, S, q3, H, G⟩ := V
  exact Go.step (fun t kt => X.caload hx (j := j) (v := v) (by rw [eT]; exact A.1) (State.isArrayOf_alike hZ.alike A.2.1) A.2.2 (inb_of S hj) (H.at (inb_of S hj) hv) (g := mkF m pc Ls (.int j :: .ref a :: rest)) rfl rfl hd t kt) k
theorem Go.baload (X : Stand p l e R s m args below meth c T locs cells slots) (hx : p.tables.exec = Jvm.exec) (hZ : Z.Warmed39 s.vm) (eT : T.heap = h) {a : Addr} {kk : ClassId} {z : Int32} {vs : List Value} {dv : Value} (V : Arv Z h a kk .byte z vs dv) {j : Int32} {v : Value} (hj : ¬ j < 0 ∧ j < z) (hv : vs.getD j.toNatClampNeg dv = v) {pc : Nat} (pc' : Nat) {Ls : Array Slot} {rest : List Value} (hp : pc' = pc + 1) (hd : decode c.code pc = .ok (.baload, 1)) (k : Go p e below F0 (T.setTop (mkF m pc' Ls (v :: rest)))) : Go p e below F0 (T.setTop (mkF m pc Ls (.int j :: .ref a :: rest))) := by
  subst hp
  obtain ⟨cl, A, q1, S, q3, H, G⟩ := V
  exact Go.step (fun t kt => X.baloadBytes hx (j := j) (v := v) (by rw [eT]; exact A.1) (State.isArrayOf_alike hZ.alike A.2.1) A.2.2 (inb_of S hj) (H.at (inb_of S hj) hv) (g := mkF m pc Ls (.int j :: .ref a :: rest)) rfl rfl hd t kt) k
theorem Go.arraylength (X : Stand p l e R s m args below meth c T locs cells slots) (hx : p.tables.exec = Jvm.exec) (hZ : Z.Warmed39 s.vm) (eT : T.heap = h) {a : Addr} {kk : ClassId} {ty : FieldType} {z : Int32} {vs : List Value} {dv : Value} (V : Arv Z h a kk ty z vs dv) {pc : Nat} (pc' : Nat) {Ls : Array Slot} {rest : List Value} (hp : pc' = pc + 1) (hd : decode c.code pc = .ok (.arraylength, 1)) (k : Go p e below F0 (T.setTop (mkF m pc' Ls (.int z :: rest)))) : Go p e below F0 (T.setTop (mkF m pc Ls (.ref a :: rest))) := by
  subst hp
  obtain ⟨cl, A, q1, S, q3, H, G⟩ := V
  refine Go.step (fun t kt => X.arraylength hx (by rw [eT]; exact A.1) (State.isArrayOf_alike hZ.alike A.2.1) (g := mkF m pc Ls (.ref a :: rest)) rfl rfl hd t kt) ?_
  rw [len_of S q3]
  exact k
theorem Go.castY (X : Stand p l e R s m args below meth c T locs cells slots) (hx : p.tables.exec = Jvm.exec) (hZ : Z.Warmed39 s.vm) {own : String} {index : Nat} (hown : s.vm.findClass own = some m.cls) {K : String} (wl : (Jvm.Cond.classLink own index K).before a0 Z = true) (eT : T.heap = h) {a : Addr} (F : Ins Z h a K true) {pc : Nat} (pc' : Nat) {Ls : Array Slot} {rest : List Value} (hp : pc' = pc + 3) (hd : decode c.code pc = .ok (.checkcast index, 3))
    (k : ∀ T', T'.heap = h → Stand p l e R s m args below meth c T' locs cells slots → Go p e below F0 (T'.setTop (mkF m pc' Ls (.ref a :: rest)))) : Go p e below F0 (T.setTop (mkF m pc Ls (.ref a :: rest))) := by
  subst hp
  obtain ⟨T', X', e', st⟩ := Jvm.RoadKit.castY X hx hZ hown wl eT F (g := mkF m pc Ls (.ref a :: rest)) rfl rfl hd
  exact Go.step st (k T' e' X')
theorem Go.instY (X : Stand p l e R s m args below meth c T locs cells slots) (hx : p.tables.exec = Jvm.exec) (hZ : Z.Warmed39 s.vm) {own : String} {index : Nat} (hown : s.vm.findClass own = some m.cls) {K : String} (wl : (Jvm.Cond.classLink own index K).before a0 Z = true) (eT : T.heap = h) {a : Addr} (F : Ins Z h a K true) {pc : Nat} (pc' : Nat) {Ls : Array Slot} {rest : List Value} (hp : pc' = pc + 3) (hd : decode c.code pc = .ok (.instanceof index, 3))
    (k : ∀ T', T'.heap = h → Stand p l e R s m args below meth c T' locs cells slots → Go p e below F0 (T'.setTop (mkF m pc' Ls (.int 1 :: rest)))) : Go p e below F0 (T.setTop (mkF m pc Ls (.ref a :: rest))) := by
  subst hp
  obtain ⟨T', X', e', st⟩ := Jvm.RoadKit.instY X hx hZ hown wl eT F (g := mkF m pc Ls (.ref a :: rest)) rfl rfl hd
  exact Go.step st (k T' e' X')
theorem Go.initO (X : Stand p l e R s m args below meth c T locs cells slots) (hx : p.tables.exec = Jvm.exec) (hZ : Z.Warmed39 s.vm) {own : String} {index : Nat} (hown : s.vm.findClass own = some m.cls) (w1 : (Jvm.Cond.methodLink own index Lib.objectInit).before a0 Z = true) (w2 : (Jvm.Cond.instanceMethod Lib.objectInit).before a0 Z = true) (w3 : (Jvm.Cond.code Lib.objectInit ⟨#[0xb1]⟩ 1 none).before a0 Z = true) (eT : T.heap = h) {a : Addr} (hf : 1 ≤ R.frames) {W : Nat} {pc : Nat} (pc' : Nat) {Ls : Array Slot} {rest : List Value} (hsz : Ls.size = c.maxLocals) (hW : (rest.map fun v => v.category).sum ≤ W) (hl : W + 12 ≤ R.locals) (hp : pc' = pc + 3) (hd : decode c.code pc = .ok (.invokespecial index, 3))
    (k : ∀ T', T'.heap = h → Stand p l e R s m args below meth c T' locs cells slots → Go p e below F0 (T'.setTop (mkF m pc' Ls rest))) : Go p e below F0 (T.setTop (mkF m pc Ls (.ref a :: rest))) := by
  subst hp
  obtain ⟨T', X', e', st⟩ := Jvm.RoadKit.initO X hx hZ hown w1 w2 w3 eT (g := mkF m pc Ls (.ref a :: rest)) rfl hsz rfl hd hf (W := W) (by show 2 * 0 + _ ≤ _; rw [Nat.mul_zero, Nat.zero_add]; exact hW) hl
  exact Go.step st (k T' e' X')
theorem own_nf {C : String} {x z y : MethodName} (ws : (Jvm.Cond.selects C x z).before args s = true) (hz : z.cls = y.cls) : NotFace s y := fun r0 h0 => by
  obtain ⟨c2, r2, m2, q1, q2, q3, q4, kP, hkP, hkPi⟩ := Cond.selects_spec ws
  have hc1 := findClass_of_methodNamed h0
  have hc2 := findClass_of_methodNamed q3
  rw [hz] at hc2
  have e := Option.some.inj (hc1.symm.trans hc2)
  exact ⟨kP, by rw [e]; exact hkP, hkPi⟩
theorem own_sameself {C : String} {x z y : MethodName} (ws : (Jvm.Cond.selects C x z).before args s = true) (hz : z.cls = y.cls) (hinst : (Jvm.Cond.instanceMethod y).before args s = true) (hy : y.cls ≠ "java/lang/invoke/MethodHandle" ∧ y.cls ≠ "java/lang/invoke/VarHandle") : (Jvm.Cond.sameMethod y.cls y.cls y.name y.desc).before args s = true := by
  obtain ⟨c, r, m, h1, h2, h3, h4, kP, h5, h6⟩ := Cond.selects_spec ws
  obtain ⟨mk, methM, hnamed, hmethM, -, -⟩ := Cond.instanceMethod_spec hinst
  have hfound : s.methodFound? y.cls y.name y.desc = some mk := State.methodFound?_of_named hnamed hy
  have hc : s.vm.findClass y.cls = some m.cls := hz ▸ findClass_of_methodNamed h3
  have hn2 : s.methodNamed? ⟨y.cls, y.name, y.desc⟩ = some mk := hnamed
  simp only [Cond.before, Cond.holds, Cond.value, hc, hfound, hn2]
  simp [h5, h6]
theorem own_selfsel {C : String} {y : MethodName} (ws : (Jvm.Cond.selects C y y).before args s = true) (hpriv : s.PrivateAt y) (hinst : (Jvm.Cond.instanceMethod y).before args s = true) (hy : y.cls ≠ "java/lang/invoke/MethodHandle" ∧ y.cls ≠ "java/lang/invoke/VarHandle") : (Jvm.Cond.selects y.cls y y).before args s = true := by
  obtain ⟨c, r, m, h1, h2, h3, h4, kP, h5, h6⟩ := Cond.selects_spec ws
  exact Jvm.Stand.selects_self_of_private (findClass_of_methodNamed h3) h5 h6 hpriv hinst hy
theorem Go.callSB (X : Stand p l e R s m args below meth c T locs cells slots) (hx : p.tables.exec = Jvm.exec) (hZ : Z.Warmed39 s.vm) {own : String} {index : Nat} (hown : s.vm.findClass own = some m.cls) {y : MethodName} {bytes : ByteArray} {maxL : Nat} {ret : Option FieldType} (w1 : (Jvm.Cond.methodLink own index y).before a0 Z = true) (w2 : (Jvm.Cond.static y).before a0 Z = true) (w3 : (Jvm.Cond.initialized y.cls).before a0 Z = true) (w4 : (Jvm.Cond.code y bytes maxL ret).before a0 Z = true) (hy : y.cls ≠ "java/lang/invoke/MethodHandle" ∧ y.cls ≠ "java/lang/invoke/VarHandle") {W : Nat} {Pre : Pt → Array Value → Prop} {Post : Pt → Array Value → Option Value → Pt → Prop} (hK : Back l R p e below s args y 3 W Pre Post) (eT : T.heap = h)  {pc : Nat} (pc' : Nat) {Ls : Array Slot} {stk argsL rest : List Value} (hp : pc' = pc + 3) (hsz : Ls.size = c.maxLocals) (hlen : ∀ sig, parseMethodDescriptor y.desc = some sig → argsL.length = sig.parameters.length) (hst : stk = argsL.reverse ++ rest) (hW : (rest.map fun v => v.category).sum ≤ W) (hd : decode c.code pc = .ok (.invokestatic index, 3)) (hpre : ∀ vm₁, s.WarmedH vm₁ → Pre ⟨T.setVm vm₁, locs, cells, slots⟩ argsL.toArray)
    (k : ∀ (v : Option Value) (vm₁ : Vm) (T' : State) (locs' : List Loc) (cells' slots' : Nat), Stand p l e R s m args below meth c T' locs' cells' slots' → Post ⟨T.setVm vm₁, locs, cells, slots⟩ argsL.toArray v ⟨T', locs', cells', slots'⟩ → Go p e below F0 (T'.setTop (mkF m pc' Ls (v.toList ++ rest)))) : Go p e below F0 (T.setTop (mkF m pc Ls stk)) := by
  subst hp
  obtain ⟨v, vm₁, ⟨T', L', c', n'⟩, -, X', hP, st⟩ := Jvm.LawKit.callS X hx hown (mvT hZ w1) (mvT hZ w2) (mvT hZ w3) (mvT hZ w4) hy hK (g := mkF m pc Ls stk) rfl hsz hlen hst (by show 2 * 0 + _ ≤ _; rw [Nat.mul_zero, Nat.zero_add]; exact hW) hd hpre
  exact Go.step st (k v vm₁ T' L' c' n' X' hP)
theorem Go.callS (X : Stand p l e R s m args below meth c T locs cells slots) (hx : p.tables.exec = Jvm.exec) (hZ : Z.Warmed39 s.vm) {own : String} {index : Nat} (hown : s.vm.findClass own = some m.cls) {y : MethodName} {bytes : ByteArray} {maxL : Nat} {ret : Option FieldType} (w1 : (Jvm.Cond.methodLink own index y).before a0 Z = true) (w2 : (Jvm.Cond.static y).before a0 Z = true) (w3 : (Jvm.Cond.initialized y.cls).before a0 Z = true) (w4 : (Jvm.Cond.code y bytes maxL ret).before a0 Z = true) (hy : y.cls ≠ "java/lang/invoke/MethodHandle" ∧ y.cls ≠ "java/lang/invoke/VarHandle") {rm : Room} {Qc : Option Value → Heap → List Loc → Prop}  (wc : (Jvm.Cond.code y bytes maxL ret).before a0 Z = true) (wz : (Jvm.Cond.initialized y.cls).before a0 Z = true) {as : Array Value} (hC : Ctr l Z y bytes maxL ret rm as h Qc) (eT : T.heap = h)  {pc : Nat} (pc' : Nat) {Ls : Array Slot} {stk argsL rest : List Value} (hp : pc' = pc + 3) (hsz : Ls.size = c.maxLocals) (hlen : ∀ sig, parseMethodDescriptor y.desc = some sig → argsL.length = sig.parameters.length) (hst : stk = argsL.reverse ++ rest) (has : argsL.toArray = as) {W : Nat} (hW : (rest.map fun v => v.category).sum ≤ W) (hf : rm.frames + 1 ≤ R.frames) (hl : W + (maxL + 11) + rm.locals ≤ R.locals) (hc : cells + rm.cells ≤ R.cells) (hs : slots + rm.slots ≤ R.slots) (hd : decode c.code pc = .ok (.invokestatic index, 3))
    (k : ∀ (v : Option Value) (T' : State) (L : List Loc), Qc v T'.heap L → Stand p l e R s m args below meth c T' (locs ++ L) (cells + rm.cells) (slots + rm.slots) → Go p e below F0 (T'.setTop (mkF m pc' Ls (v.toList ++ rest)))) : Go p e below F0 (T.setTop (mkF m pc Ls stk)) :=
  Go.callSB X hx hZ hown w1 w2 w3 w4 hy (backOf (W := W) (hC []) hZ wc wz hf hl) eT  pc' hp hsz hlen hst hW hd (fun _ _ => ⟨has, eT, hc, hs⟩) (fun v vm₁ T' locs' cells' slots' X' ⟨L, hq, h1, h2, h3⟩ => by
    try dsimp only at h1 h2 h3
    subst h1 h2 h3
    exact k v T' L hq X')
theorem Go.callVB (X : Stand p l e R s m args below meth c T locs cells slots) (hx : p.tables.exec = Jvm.exec) (hZ : Z.Warmed39 s.vm) {own : String} {index : Nat} (hown : s.vm.findClass own = some m.cls) {x y : MethodName} {C : String} (w1 : (Jvm.Cond.methodLink own index x).before a0 Z = true) (w2 : (Jvm.Cond.declares x).before a0 Z = true) (nf : NotFace s x) (w3 : (Jvm.Cond.selects C x y).before a0 Z = true) (w4 : (Jvm.Cond.instanceMethod y).before a0 Z = true) (hy : x.cls ≠ "java/lang/invoke/MethodHandle" ∧ x.cls ≠ "java/lang/invoke/VarHandle") {W : Nat} {Pre : Pt → Array Value → Prop} {Post : Pt → Array Value → Option Value → Pt → Prop} (hK : Back l R p e below s args y 3 W Pre Post) (eT : T.heap = h) {a : Addr} (F : Exa Z h a C) {pc : Nat} (pc' : Nat) {Ls : Array Slot} {stk argsL rest : List Value} (hp : pc' = pc + 3) (hsz : Ls.size = c.maxLocals) (hlen : ∀ sig, parseMethodDescriptor x.desc = some sig → argsL.length = sig.parameters.length) (hst : stk = argsL.reverse ++ .ref a :: rest) (hW : (rest.map fun v => v.category).sum ≤ W) (hd : decode c.code pc = .ok (.invokevirtual index, 3)) (hpre : ∀ vm₁, s.WarmedH vm₁ → Pre ⟨T.setVm vm₁, locs, cells, slots⟩ (.ref a :: argsL).toArray)
    (k : ∀ (v : Option Value) (vm₁ : Vm) (T' : State) (locs' : List Loc) (cells' slots' : Nat), Stand p l e R s m args below meth c T' locs' cells' slots' → Post ⟨T.setVm vm₁, locs, cells, slots⟩ (.ref a :: argsL).toArray v ⟨T', locs', cells', slots'⟩ → Go p e below F0 (T'.setTop (mkF m pc' Ls (v.toList ++ rest)))) : Go p e below F0 (T.setTop (mkF m pc Ls stk)) := by
  subst hp
  obtain ⟨cB, kB, q1, q2, q3⟩ := isOf hZ eT F
  obtain ⟨v, vm₁, ⟨T', L', c', n'⟩, -, X', hP, st⟩ := X.virtualBack hx (y := x) (z := y) hown (mvT hZ w1) (mvT hZ w2) nf (mvT hZ w3) (mvT hZ w4) hy hK q1 q3 (g := mkF m pc Ls stk) rfl hsz (Steps.refl _) hlen hst (by show 2 * 0 + _ ≤ _; rw [Nat.mul_zero, Nat.zero_add]; exact hW) hd hpre
  exact Go.step (fun t kt => st.trans kt) (k v vm₁ T' L' c' n' X' hP)
theorem Go.callV (X : Stand p l e R s m args below meth c T locs cells slots) (hx : p.tables.exec = Jvm.exec) (hZ : Z.Warmed39 s.vm) {own : String} {index : Nat} (hown : s.vm.findClass own = some m.cls) {x y : MethodName} {C : String} (w1 : (Jvm.Cond.methodLink own index x).before a0 Z = true) (w2 : (Jvm.Cond.declares x).before a0 Z = true) (nf : NotFace s x) (w3 : (Jvm.Cond.selects C x y).before a0 Z = true) (w4 : (Jvm.Cond.instanceMethod y).before a0 Z = true) (hy : x.cls ≠ "java/lang/invoke/MethodHandle" ∧ x.cls ≠ "java/lang/invoke/VarHandle") {bytes : ByteArray} {maxL : Nat} {ret : Option FieldType} {rm : Room} {Qc : Option Value → Heap → List Loc → Prop}  (wc : (Jvm.Cond.code y bytes maxL ret).before a0 Z = true) (wz : (Jvm.Cond.initialized y.cls).before a0 Z = true) {as : Array Value} (hC : Ctr l Z y bytes maxL ret rm as h Qc) (eT : T.heap = h) {a : Addr} (F : Exa Z h a C) {pc : Nat} (pc' : Nat) {Ls : Array Slot} {stk argsL rest : List Value} (hp : pc' = pc + 3) (hsz : Ls.size = c.maxLocals) (hlen : ∀ sig, parseMethodDescriptor x.desc = some sig → argsL.length = sig.parameters.length) (hst : stk = argsL.reverse ++ .ref a :: rest) (has : (.ref a :: argsL).toArray = as) {W : Nat} (hW : (rest.map fun v => v.category).sum ≤ W) (hf : rm.frames + 1 ≤ R.frames) (hl : W + (maxL + 11) + rm.locals ≤ R.locals) (hc : cells + rm.cells ≤ R.cells) (hs : slots + rm.slots ≤ R.slots) (hd : decode c.code pc = .ok (.invokevirtual index, 3))
    (k : ∀ (v : Option Value) (T' : State) (L : List Loc), Qc v T'.heap L → Stand p l e R s m args below meth c T' (locs ++ L) (cells + rm.cells) (slots + rm.slots) → Go p e below F0 (T'.setTop (mkF m pc' Ls (v.toList ++ rest)))) : Go p e below F0 (T.setTop (mkF m pc Ls stk)) :=
  Go.callVB X hx hZ hown w1 w2 nf w3 w4 hy (backOf (W := W) (hC []) hZ wc wz hf hl) eT F pc' hp hsz hlen hst hW hd (fun _ _ => ⟨has, eT, hc, hs⟩) (fun v vm₁ T' locs' cells' slots' X' ⟨L, hq, h1, h2, h3⟩ => by
    try dsimp only at h1 h2 h3
    subst h1 h2 h3
    exact k v T' L hq X')
theorem Go.callNB (X : Stand p l e R s m args below meth c T locs cells slots) (hx : p.tables.exec = Jvm.exec) (hZ : Z.Warmed39 s.vm) {own : String} {index : Nat} (hown : s.vm.findClass own = some m.cls) {y : MethodName} {bytes : ByteArray} {maxL : Nat} (hn : y.name = "<init>") (w1 : (Jvm.Cond.methodLink own index y).before a0 Z = true) (w2 : (Jvm.Cond.instanceMethod y).before a0 Z = true) (w4 : (Jvm.Cond.code y bytes maxL none).before a0 Z = true) (hy : y.cls ≠ "java/lang/invoke/MethodHandle" ∧ y.cls ≠ "java/lang/invoke/VarHandle") {W : Nat} {Pre : Pt → Array Value → Prop} {Post : Pt → Array Value → Option Value → Pt → Prop} (hK : Back l R p e below s args y 3 W Pre Post) (eT : T.heap = h) {a : Addr} {pc : Nat} (pc' : Nat) {Ls : Array Slot} {stk argsL rest : List Value} (hp : pc' = pc + 3) (hsz : Ls.size = c.maxLocals) (hlen : ∀ sig, parseMethodDescriptor y.desc = some sig → argsL.length = sig.parameters.length) (hst : stk = argsL.reverse ++ .ref a :: rest) (hW : (rest.map fun v => v.category).sum ≤ W) (hd : decode c.code pc = .ok (.invokespecial index, 3)) (hpre : ∀ vm₁, s.WarmedH vm₁ → Pre ⟨T.setVm vm₁, locs, cells, slots⟩ (.ref a :: argsL).toArray)
    (k : ∀ (v : Option Value) (vm₁ : Vm) (T' : State) (locs' : List Loc) (cells' slots' : Nat), Stand p l e R s m args below meth c T' locs' cells' slots' → Post ⟨T.setVm vm₁, locs, cells, slots⟩ (.ref a :: argsL).toArray v ⟨T', locs', cells', slots'⟩ → Go p e below F0 (T'.setTop (mkF m pc' Ls (v.toList ++ rest)))) : Go p e below F0 (T.setTop (mkF m pc Ls stk)) := by
  subst hp
  obtain ⟨v, vm₁, ⟨T', L', c', n'⟩, -, X', hP, st⟩ := X.specialBack hx (y := y) hn hown (mvT hZ w1) (mvT hZ w2) (mvT hZ w4) hy hK (g := mkF m pc Ls stk) rfl hsz (Steps.refl _) (a := a) hlen hst (by show 2 * 0 + _ ≤ _; rw [Nat.mul_zero, Nat.zero_add]; exact hW) hd hpre
  exact Go.step (fun t kt => st.trans kt) (k v vm₁ T' L' c' n' X' hP)
theorem Go.callN (X : Stand p l e R s m args below meth c T locs cells slots) (hx : p.tables.exec = Jvm.exec) (hZ : Z.Warmed39 s.vm) {own : String} {index : Nat} (hown : s.vm.findClass own = some m.cls) {y : MethodName} {bytes : ByteArray} {maxL : Nat} (hn : y.name = "<init>") (w1 : (Jvm.Cond.methodLink own index y).before a0 Z = true) (w2 : (Jvm.Cond.instanceMethod y).before a0 Z = true) (w4 : (Jvm.Cond.code y bytes maxL none).before a0 Z = true) (hy : y.cls ≠ "java/lang/invoke/MethodHandle" ∧ y.cls ≠ "java/lang/invoke/VarHandle") {rm : Room} {Qc : Option Value → Heap → List Loc → Prop}  (wc : (Jvm.Cond.code y bytes maxL none).before a0 Z = true) (wz : (Jvm.Cond.initialized y.cls).before a0 Z = true) {as : Array Value} (hC : Ctr l Z y bytes maxL none rm as h Qc) (eT : T.heap = h) {a : Addr} {pc : Nat} (pc' : Nat) {Ls : Array Slot} {stk argsL rest : List Value} (hp : pc' = pc + 3) (hsz : Ls.size = c.maxLocals) (hlen : ∀ sig, parseMethodDescriptor y.desc = some sig → argsL.length = sig.parameters.length) (hst : stk = argsL.reverse ++ .ref a :: rest) (has : (.ref a :: argsL).toArray = as) {W : Nat} (hW : (rest.map fun v => v.category).sum ≤ W) (hf : rm.frames + 1 ≤ R.frames) (hl : W + (maxL + 11) + rm.locals ≤ R.locals) (hc : cells + rm.cells ≤ R.cells) (hs : slots + rm.slots ≤ R.slots) (hd : decode c.code pc = .ok (.invokespecial index, 3))
    (k : ∀ (v : Option Value) (T' : State) (L : List Loc), Qc v T'.heap L → Stand p l e R s m args below meth c T' (locs ++ L) (cells + rm.cells) (slots + rm.slots) → Go p e below F0 (T'.setTop (mkF m pc' Ls (v.toList ++ rest)))) : Go p e below F0 (T.setTop (mkF m pc Ls stk)) :=
  Go.callNB X hx hZ hown hn w1 w2 w4 hy (backOf (W := W) (hC []) hZ wc wz hf hl) eT  pc' hp hsz hlen hst hW hd (fun _ _ => ⟨has, eT, hc, hs⟩) (fun v vm₁ T' locs' cells' slots' X' ⟨L, hq, h1, h2, h3⟩ => by
    try dsimp only at h1 h2 h3
    subst h1 h2 h3
    exact k v T' L hq X')
theorem Go.callPB (X : Stand p l e R s m args below meth c T locs cells slots) (hx : p.tables.exec = Jvm.exec) (hZ : Z.Warmed39 s.vm) {own : String} {index : Nat} (hown : s.vm.findClass own = some m.cls) {y : MethodName} {bytes : ByteArray} {maxL : Nat} {ret : Option FieldType} {C : String} (w1 : (Jvm.Cond.methodLink own index y).before a0 Z = true) (w2 : (Jvm.Cond.instanceMethod y).before a0 Z = true) (w3 : (Jvm.Cond.selects C y y).before a0 Z = true) (w4 : (Jvm.Cond.privateMethod y).before a0 Z = true) (w5 : (Jvm.Cond.code y bytes maxL ret).before a0 Z = true) (hy : y.cls ≠ "java/lang/invoke/MethodHandle" ∧ y.cls ≠ "java/lang/invoke/VarHandle") {W : Nat} {Pre : Pt → Array Value → Prop} {Post : Pt → Array Value → Option Value → Pt → Prop} (hK : Back l R p e below s args y 3 W Pre Post) (eT : T.heap = h) {a : Addr} (F : Exa Z h a C) {pc : Nat} (pc' : Nat) {Ls : Array Slot} {stk argsL rest : List Value} (hp : pc' = pc + 3) (hsz : Ls.size = c.maxLocals) (hlen : ∀ sig, parseMethodDescriptor y.desc = some sig → argsL.length = sig.parameters.length) (hst : stk = argsL.reverse ++ .ref a :: rest) (hW : (rest.map fun v => v.category).sum ≤ W) (hd : decode c.code pc = .ok (.invokevirtual index, 3)) (hpre : ∀ vm₁, s.WarmedH vm₁ → Pre ⟨T.setVm vm₁, locs, cells, slots⟩ (.ref a :: argsL).toArray)
    (k : ∀ (v : Option Value) (vm₁ : Vm) (T' : State) (locs' : List Loc) (cells' slots' : Nat), Stand p l e R s m args below meth c T' locs' cells' slots' → Post ⟨T.setVm vm₁, locs, cells, slots⟩ (.ref a :: argsL).toArray v ⟨T', locs', cells', slots'⟩ → Go p e below F0 (T'.setTop (mkF m pc' Ls (v.toList ++ rest)))) : Go p e below F0 (T.setTop (mkF m pc Ls stk)) := by
  subst hp
  obtain ⟨cB, q1, q2⟩ := F.cell
  obtain ⟨v, vm₁, ⟨T', L', c', n'⟩, -, X', hP, st⟩ := X.privateBack hx (y := y) hown (mvT hZ w1) (mvT hZ w2) (own_selfsel (mvT hZ w3) (Cond.privateMethod_at (mvP hZ w4 (args := #[]))) (mvT hZ w2) hy) (Cond.privateMethod_at (mvP hZ w4 (args := #[]))) (mvT hZ w5) hy hK (g := mkF m pc Ls stk) rfl hsz (Steps.refl _) (a := a) (by rw [eT]; exact q1) q2 hlen hst (by show 2 * 0 + _ ≤ _; rw [Nat.mul_zero, Nat.zero_add]; exact hW) hd hpre
  exact Go.step (fun t kt => st.trans kt) (k v vm₁ T' L' c' n' X' hP)
theorem Go.callP (X : Stand p l e R s m args below meth c T locs cells slots) (hx : p.tables.exec = Jvm.exec) (hZ : Z.Warmed39 s.vm) {own : String} {index : Nat} (hown : s.vm.findClass own = some m.cls) {y : MethodName} {bytes : ByteArray} {maxL : Nat} {ret : Option FieldType} {C : String} (w1 : (Jvm.Cond.methodLink own index y).before a0 Z = true) (w2 : (Jvm.Cond.instanceMethod y).before a0 Z = true) (w3 : (Jvm.Cond.selects C y y).before a0 Z = true) (w4 : (Jvm.Cond.privateMethod y).before a0 Z = true) (w5 : (Jvm.Cond.code y bytes maxL ret).before a0 Z = true) (hy : y.cls ≠ "java/lang/invoke/MethodHandle" ∧ y.cls ≠ "java/lang/invoke/VarHandle") {rm : Room} {Qc : Option Value → Heap → List Loc → Prop}  (wc : (Jvm.Cond.code y bytes maxL ret).before a0 Z = true) (wz : (Jvm.Cond.initialized y.cls).before a0 Z = true) {as : Array Value} (hC : Ctr l Z y bytes maxL ret rm as h Qc) (eT : T.heap = h) {a : Addr} (F : Exa Z h a C) {pc : Nat} (pc' : Nat) {Ls : Array Slot} {stk argsL rest : List Value} (hp : pc' = pc + 3) (hsz : Ls.size = c.maxLocals) (hlen : ∀ sig, parseMethodDescriptor y.desc = some sig → argsL.length = sig.parameters.length) (hst : stk = argsL.reverse ++ .ref a :: rest) (has : (.ref a :: argsL).toArray = as) {W : Nat} (hW : (rest.map fun v => v.category).sum ≤ W) (hf : rm.frames + 1 ≤ R.frames) (hl : W + (maxL + 11) + rm.locals ≤ R.locals) (hc : cells + rm.cells ≤ R.cells) (hs : slots + rm.slots ≤ R.slots) (hd : decode c.code pc = .ok (.invokevirtual index, 3))
    (k : ∀ (v : Option Value) (T' : State) (L : List Loc), Qc v T'.heap L → Stand p l e R s m args below meth c T' (locs ++ L) (cells + rm.cells) (slots + rm.slots) → Go p e below F0 (T'.setTop (mkF m pc' Ls (v.toList ++ rest)))) : Go p e below F0 (T.setTop (mkF m pc Ls stk)) :=
  Go.callPB X hx hZ hown w1 w2 w3 w4 w5 hy (backOf (W := W) (hC []) hZ wc wz hf hl) eT F pc' hp hsz hlen hst hW hd (fun _ _ => ⟨has, eT, hc, hs⟩) (fun v vm₁ T' locs' cells' slots' X' ⟨L, hq, h1, h2, h3⟩ => by
    try dsimp only at h1 h2 h3
    subst h1 h2 h3
    exact k v T' L hq X')
theorem Go.callUpB (X : Stand p l e R s m args below meth c T locs cells slots) (hx : p.tables.exec = Jvm.exec) (hZ : Z.Warmed39 s.vm) {own : String} {index : Nat} (hown : s.vm.findClass own = some m.cls) {y : MethodName} {bytes : ByteArray} {maxL : Nat} {ret : Option FieldType} {C : String} (w1 : (Jvm.Cond.methodLink own index y).before a0 Z = true) (w2 : (Jvm.Cond.sameMethod y.cls y.cls y.name y.desc).before a0 Z = true) (w3 : (Jvm.Cond.instanceMethod y).before a0 Z = true) (w4 : (Jvm.Cond.superclass own y.cls).before a0 Z = true) (hn : y.name ≠ "<init>") (w5 : (Jvm.Cond.code y bytes maxL ret).before a0 Z = true) {W : Nat} {Pre : Pt → Array Value → Prop} {Post : Pt → Array Value → Option Value → Pt → Prop} (hK : Back l R p e below s args y 3 W Pre Post) (eT : T.heap = h) {a : Addr} (F : Exa Z h a C) {pc : Nat} (pc' : Nat) {Ls : Array Slot} {stk argsL rest : List Value} (hp : pc' = pc + 3) (hsz : Ls.size = c.maxLocals) (hlen : ∀ sig, parseMethodDescriptor y.desc = some sig → argsL.length = sig.parameters.length) (hst : stk = argsL.reverse ++ .ref a :: rest) (hW : (rest.map fun v => v.category).sum ≤ W) (hd : decode c.code pc = .ok (.invokespecial index, 3)) (hpre : ∀ vm₁, s.WarmedH vm₁ → Pre ⟨T.setVm vm₁, locs, cells, slots⟩ (.ref a :: argsL).toArray)
    (k : ∀ (v : Option Value) (vm₁ : Vm) (T' : State) (locs' : List Loc) (cells' slots' : Nat), Stand p l e R s m args below meth c T' locs' cells' slots' → Post ⟨T.setVm vm₁, locs, cells, slots⟩ (.ref a :: argsL).toArray v ⟨T', locs', cells', slots'⟩ → Go p e below F0 (T'.setTop (mkF m pc' Ls (v.toList ++ rest)))) : Go p e below F0 (T.setTop (mkF m pc Ls stk)) := by
  subst hp
  obtain ⟨v, vm₁, ⟨T', L', c', n'⟩, -, X', hP, st⟩ := superBack X hx hZ (y := y) hown w1 w2 w3 w4 hn hK eT (Ins.self F) (g := mkF m pc Ls stk) rfl hsz w5 hlen hst (by show 2 * 0 + _ ≤ _; rw [Nat.mul_zero, Nat.zero_add]; exact hW) hd hpre
  exact Go.step (fun t kt => st.trans kt) (k v vm₁ T' L' c' n' X' hP)
theorem Go.callUp (X : Stand p l e R s m args below meth c T locs cells slots) (hx : p.tables.exec = Jvm.exec) (hZ : Z.Warmed39 s.vm) {own : String} {index : Nat} (hown : s.vm.findClass own = some m.cls) {y : MethodName} {bytes : ByteArray} {maxL : Nat} {ret : Option FieldType} {C : String} (w1 : (Jvm.Cond.methodLink own index y).before a0 Z = true) (w2 : (Jvm.Cond.sameMethod y.cls y.cls y.name y.desc).before a0 Z = true) (w3 : (Jvm.Cond.instanceMethod y).before a0 Z = true) (w4 : (Jvm.Cond.superclass own y.cls).before a0 Z = true) (hn : y.name ≠ "<init>") (w5 : (Jvm.Cond.code y bytes maxL ret).before a0 Z = true) {rm : Room} {Qc : Option Value → Heap → List Loc → Prop}  (wc : (Jvm.Cond.code y bytes maxL ret).before a0 Z = true) (wz : (Jvm.Cond.initialized y.cls).before a0 Z = true) {as : Array Value} (hC : Ctr l Z y bytes maxL ret rm as h Qc) (eT : T.heap = h) {a : Addr} (F : Exa Z h a C) {pc : Nat} (pc' : Nat) {Ls : Array Slot} {stk argsL rest : List Value} (hp : pc' = pc + 3) (hsz : Ls.size = c.maxLocals) (hlen : ∀ sig, parseMethodDescriptor y.desc = some sig → argsL.length = sig.parameters.length) (hst : stk = argsL.reverse ++ .ref a :: rest) (has : (.ref a :: argsL).toArray = as) {W : Nat} (hW : (rest.map fun v => v.category).sum ≤ W) (hf : rm.frames + 1 ≤ R.frames) (hl : W + (maxL + 11) + rm.locals ≤ R.locals) (hc : cells + rm.cells ≤ R.cells) (hs : slots + rm.slots ≤ R.slots) (hd : decode c.code pc = .ok (.invokespecial index, 3))
    (k : ∀ (v : Option Value) (T' : State) (L : List Loc), Qc v T'.heap L → Stand p l e R s m args below meth c T' (locs ++ L) (cells + rm.cells) (slots + rm.slots) → Go p e below F0 (T'.setTop (mkF m pc' Ls (v.toList ++ rest)))) : Go p e below F0 (T.setTop (mkF m pc Ls stk)) :=
  Go.callUpB X hx hZ hown w1 w2 w3 w4 hn w5 (backOf (W := W) (hC []) hZ wc wz hf hl) eT F pc' hp hsz hlen hst hW hd (fun _ _ => ⟨has, eT, hc, hs⟩) (fun v vm₁ T' locs' cells' slots' X' ⟨L, hq, h1, h2, h3⟩ => by
    try dsimp only at h1 h2 h3
    subst h1 h2 h3
    exact k v T' L hq X')
theorem own_NSroot {O K : String} {n : Nat} (wo : (Jvm.Cond.noSuperclass O).before a0 Z = true) (wk : (Jvm.Cond.instantiable K n).before a0 Z = true) (hn : O ≠ K) : NS Z O K := by
  obtain ⟨c, k, h1, h2, h3, -, -⟩ := Cond.noSuperclass_spec wo
  obtain ⟨t, kt, g1, -⟩ := Cond.instantiable_spec wk
  have ne := ids_ne h1 g1 hn
  refine ⟨c, t, h1, g1, fun fuel => ?_⟩
  cases fuel with
  | zero => rfl
  | succ f => simp [Vm.isSubclassAux, ne, h2, h3]
theorem own_NSno {C S K : String} {n : Nat} (wc : (Jvm.Cond.superclass C S).before a0 Z = true) (wk : (Jvm.Cond.instantiable K n).before a0 Z = true) (ns : NS Z C K) (hn : C ≠ K) : ∃ c t, Z.vm.findClass C = some c ∧ Z.vm.findClass K = some t ∧ Z.vm.assignable c t = false := by
  obtain ⟨c, t, h0, g0, n3⟩ := ns
  obtain ⟨q, k, kp, h1, h2, h3, h4, h5, -, h7⟩ := Cond.superclass_spec h0 wc
  obtain ⟨t', kt, g1, g2, g3, g4, -⟩ := Cond.instantiable_spec wk
  cases g0.symm.trans g1
  have ne := ids_ne h0 g0 hn
  have g5 : kt.isInterface = false := by cases hq : kt.isInterface <;> simp [hq] at g4 ⊢
  refine ⟨c, t, h0, g0, ?_⟩
  show Z.vm.assignableAux (255 + 1) c t = false
  simp [Vm.assignableAux, ne, h2, g2, h5, g3, g5, Vm.isSubclass, n3]
theorem Go.instN (X : Stand p l e R s m args below meth c T locs cells slots) (hx : p.tables.exec = Jvm.exec) (hZ : Z.Warmed39 s.vm) {own : String} {index : Nat} (hown : s.vm.findClass own = some m.cls) {K C : String} (wl : (Jvm.Cond.classLink own index K).before a0 Z = true) (eT : T.heap = h) {a : Addr} (E : Exa Z h a C) (F : ∃ c t, Z.vm.findClass C = some c ∧ Z.vm.findClass K = some t ∧ Z.vm.assignable c t = false) {pc : Nat} (pc' : Nat) {Ls : Array Slot} {rest : List Value} (hp : pc' = pc + 3) (hd : decode c.code pc = .ok (.instanceof index, 3))
    (k : ∀ T', T'.heap = h → Stand p l e R s m args below meth c T' locs cells slots → Go p e below F0 (T'.setTop (mkF m pc' Ls (.int 0 :: rest)))) : Go p e below F0 (T.setTop (mkF m pc Ls (.ref a :: rest))) := by
  subst hp
  obtain ⟨T', X', e', st⟩ := Jvm.RoadKit.instNo X hx hZ hown wl eT E F (g := mkF m pc Ls (.ref a :: rest)) rfl rfl hd
  exact Go.step st (k T' e' X')
theorem Arv.of_arh {a : Addr} {kk : ClassId} {ty : FieldType} {z : Int32} {vs : List Value} {dv : Value} (F : Arh Z h a kk ty z [] vs dv) : Arv Z h a kk ty z vs dv := by
  obtain ⟨cl, A, q1, S, q3, H, G⟩ := F
  exact ⟨cl, A, q1, S, q3, H, G⟩
theorem Go.clone (X : Stand p l e R s m args below meth c T locs cells slots) (hx : p.tables.exec = Jvm.exec) (hZ : Z.Warmed39 s.vm) {own : String} {index : Nat} (hown : s.vm.findClass own = some m.cls) {ad : String} (w1 : (Jvm.Cond.methodLink own index ⟨ad, "clone", "()Ljava/lang/Object;"⟩).before a0 Z = true) (w2 : (Jvm.Cond.sameMethod ad "java/lang/Object" "clone" "()Ljava/lang/Object;").before a0 Z = true) (w3 : (Jvm.Cond.native ⟨"java/lang/Object", "clone", "()Ljava/lang/Object;"⟩).before a0 Z = true) (w4 : (Jvm.Cond.instanceMethod ⟨"java/lang/Object", "clone", "()Ljava/lang/Object;"⟩).before a0 Z = true) (w5 : (Jvm.Cond.selects ad ⟨ad, "clone", "()Ljava/lang/Object;"⟩ ⟨"java/lang/Object", "clone", "()Ljava/lang/Object;"⟩).before a0 Z = true) (w6 : (Jvm.Cond.castable ad "java/lang/Cloneable").before a0 Z = true) (eT : T.heap = h) {a : Addr} {kk : ClassId} {ty : FieldType} {z : Int32} {vs : List Value} {dv : Value} (V : Arv Z h a kk ty z vs dv) (E : Exa Z h a ad) {W cap : Nat} {pc : Nat} (pc' : Nat) {Ls : Array Slot} {rest : List Value} (hf : 1 ≤ R.frames) (hsz : Ls.size = c.maxLocals) (hW : (rest.map fun v => v.category).sum ≤ W) (hl : W + 14 ≤ R.locals) (hcap : z.toNatClampNeg ≤ cap) (hc : cells + 1 ≤ R.cells) (hsl : slots + cap ≤ R.slots) (hp : pc' = pc + 3) (hd : decode c.code pc = .ok (.invokevirtual index, 3))
    (k : ∀ T' h' b, T'.heap = h' → Ext h h' → b = h.size → Arv Z h' b kk ty z vs dv → Exa Z h' b ad → Stand p l e R s m args below meth c T' locs (cells + 1) (slots + cap) → Go p e below F0 (T'.setTop (mkF m pc' Ls (.ref b :: rest)))) : Go p e below F0 (T.setTop (mkF m pc Ls (.ref a :: rest))) := by
  subst hp
  obtain ⟨T', h', X', e', E', V', A', st⟩ := cloneH X hx hZ hown w1 w2 w3 w4 w5 w6 eT V.arh E (g := mkF m pc Ls (.ref a :: rest)) rfl hsz rfl hd hf (W := W) (by show 2 * 0 + _ ≤ _; rw [Nat.mul_zero, Nat.zero_add]; exact hW) hl hcap hc hsl
  exact Go.step st (k T' h' h.size e' E' rfl (Arv.of_arh V') A' X')
end OwnGo
end Jvm.RoadKit
namespace Jvm.RoadKit
open Sem ClassFile Op Lib Jvm.Stand Jvm.Free Jvm.LawKit
section OwnWide
variable {p : Program} {l : Launch} {e : Env} {R : Room} {s : State} {m : MethodId} {args : Array Value} {below : List Frame} {meth : Method} {c : Code} {T : State} {locs : List Loc} {cells slots kc ks : Nat} {Z : State} {a0 : Array Value} {h : Heap} {Q : Option Value → Heap → List Loc → Prop} {F0 : State → Outcome → Prop} {EL : List (String × Nat)} {vm0 : Vm} {sf : List Addr} {QW : Option Value → Vm → Heap → List Loc → Prop}
/-- the wide end: constants may have been resolved meanwhile -/
def EndW (Z : State) (EL : List (String × Nat)) (s : State) (QW : Option Value → Vm → Heap → List Loc → Prop) (kc ks : Nat) (U : State) (o : Outcome) : Prop :=
  ∃ v L, o = .returned v ∧ QW v U.vm U.heap L ∧ CHr Z EL s.vm s.heap U.vm U.heap ∧ ReturnedEndW s o U L kc ks
def CtrW (l : Launch) (Z : State) (EL : List (String × Nat)) (y : MethodName) (bytes : ByteArray) (maxL : Nat) (ret : Option FieldType) (rm : Room) (as : Array Value) (h : Heap) (sf : List Addr) (QW : Option Value → Vm → Heap → List Loc → Prop) : Prop :=
  ∀ ws : List Jvm.Cond, MetFree l y (head1 (Jvm.Cond.code y bytes maxL ret :: ws) rm) (fun a U => a = as ∧ Z.Warmed39 U.vm ∧ U.heap = h ∧ CHv Z EL U.vm h ∧ ∀ x ∈ sf, Safe Z EL U.vm h x) (fun _ _ _ _ _ => True) (fun _ U o U' => EndW Z EL U QW rm.cells rm.slots U' o)
theorem since0 (s : State) (n : Nat) : s.Since s.vm n := State.WarmedH.since (State.WarmedH.refl s) n
theorem CtrW.of {y : MethodName} {bytes : ByteArray} {maxL : Nat} {ret : Option FieldType} {rm : Room} {as : Array Value} (hp : plainFor y = true)
    (body : ∀ (p : Program) (e : Env) (s : State) (m : MethodId) (below : List Frame) (meth : Method) (c : Code) (T : State), p.tables.exec = Jvm.exec → Z.Warmed39 s.vm → c.code = bytes → c.maxLocals = maxL → s.vm.findClass y.cls = some m.cls → meth.name = y.name → meth.sig.returnType = ret → meth.locks = false → T.heap = h → s.heap = h → s.Since s.vm h.size → CHr Z EL s.vm s.heap s.vm h → (∀ x ∈ sf, Safe Z EL s.vm h x) → Stand p l e rm (s.setVm s.vm) m as below meth c T [] 0 0 →
      Go p e below (EndW Z EL s QW rm.cells rm.slots) (T.setTop (entryFrame m as maxL))) : CtrW l Z EL y bytes maxL ret rm as h sf QW := by
  intro ws
  refine MetFree.of_bodySF hp hisR ?_
  intro p e s m args below meth c s₁ Bd hml0 hP hK
  obtain ⟨rfl, hZ, hh, hC, hs⟩ := hP
  exact body p e s m below meth c s₁ Bd.exec hZ Bd.bytes hml0 (findClass_of_methodNamed Bd.named) (name_of_methodNamed Bd.named Bd.method).1 Bd.returns Bd.notSynchronized (by rw [← hh, Bd.state]; rfl) hh (since0 s _) (by rw [hh]; exact CHr.refl hC) hs (Stand.of_body Bd)
theorem Go.endW (X : Stand p l e R (s.setVm vm0) m args below meth c T locs cells slots) (hx : p.tables.exec = Jvm.exec) {v : Option Value} (hv : meth.sig.returnType = none → v = none) (hlk : meth.locks = false) (hc : cells ≤ kc) (hs : slots ≤ ks) (hZ : Z.Warmed39 vm0) (hEL : EW Z a0 EL) (eT : T.heap = h) {k0 : Nat} (hS : s.Since vm0 k0) (hk : k0 ≤ h.size) (hC : CHr Z EL s.vm s.heap vm0 h) (q : CHr Z EL vm0 h T.vm h → QW v T.vm h locs) {g : JFrame}
    (st : ∀ fs, (∀ (f : JFrame) (acts : List Action), f.method = m → f.locked = none → f.entered = [] → (doReturn e (T.setTop f) acts v).1 = T.setFrames fs) → Steps p.tables e below (T.setTop g) (T.setFrames fs)) : Go p e below (EndW Z EL s QW kc ks) (T.setTop g) := by
  obtain ⟨fs, hr, hrun, hended, hE⟩ := X.leaveW hS (by rw [eT]; exact hk) (v := v) hv hlk
  have hat := CHv.at X hZ hEL hC.1
  refine ⟨_, _, st fs hr, hrun, hended, v, locs, rfl, ?_, ?_, hE.1, hE.2.1, hE.2.2.1, hE.2.2.2.mono hc hs⟩
  · show QW v T.vm T.heap locs
    rw [eT]; exact q hat
  · show CHr Z EL s.vm s.heap T.vm T.heap
    rw [eT]; exact hC.trans hat
theorem Go.ret0W (X : Stand p l e R (s.setVm vm0) m args below meth c T locs cells slots) (hx : p.tables.exec = Jvm.exec) (hlk : meth.locks = false) (hZ : Z.Warmed39 vm0) (hEL : EW Z a0 EL) (eT : T.heap = h) {k0 : Nat} (hS : s.Since vm0 k0) (hk : k0 ≤ h.size) (hC : CHr Z EL s.vm s.heap vm0 h) (hret : meth.sig.returnType = none) {pc : Nat} {Ls : Array Slot} (hd : decode c.code pc = .ok (.return_, 1)) (hc : cells ≤ kc) (hs : slots ≤ ks) (q : CHr Z EL vm0 h T.vm h → QW none T.vm h locs) : Go p e below (EndW Z EL s QW kc ks) (T.setTop (mkF m pc Ls [])) :=
  Go.endW X hx (fun _ => rfl) hlk hc hs hZ hEL eT hS hk hC q (fun fs hr => X.returnOut hx hret hd hr)
theorem Go.retNW (X : Stand p l e R (s.setVm vm0) m args below meth c T locs cells slots) (hx : p.tables.exec = Jvm.exec) (hlk : meth.locks = false) (hZ : Z.Warmed39 vm0) (hEL : EW Z a0 EL) (eT : T.heap = h) {k0 : Nat} (hS : s.Since vm0 k0) (hk : k0 ≤ h.size) (hC : CHr Z EL s.vm s.heap vm0 h) {t : FieldType} (hret : meth.sig.returnType = some t) (ht : t = .boolean ∨ t = .byte ∨ t = .char ∨ t = .short) {pc : Nat} {Ls : Array Slot} {z : Int32} {rest : List Value} (hd : decode c.code pc = .ok (.ireturn, 1)) (hc : cells ≤ kc) (hs : slots ≤ ks) (q : CHr Z EL vm0 h T.vm h → QW (some (.int (nar t z))) T.vm h locs) : Go p e below (EndW Z EL s QW kc ks) (T.setTop (mkF m pc Ls (.int z :: rest))) :=
  Go.endW X hx (fun h => by rw [hret] at h; cases h) hlk hc hs hZ hEL eT hS hk hC q (fun fs hr => Jvm.RoadKit.retN X hx hret ht hd hr)
theorem Go.retRW (X : Stand p l e R (s.setVm vm0) m args below meth c T locs cells slots) (hx : p.tables.exec = Jvm.exec) (hlk : meth.locks = false) (hZ : Z.Warmed39 vm0) (hEL : EW Z a0 EL) (eT : T.heap = h) {k0 : Nat} (hS : s.Since vm0 k0) (hk : k0 ≤ h.size) (hC : CHr Z EL s.vm s.heap vm0 h) {t : FieldType} (hret : meth.sig.returnType = some t) (ht : t.isReference = true) {pc : Nat} {Ls : Array Slot} {v : Value} (hv : v.isRef = true) {rest : List Value} (hd : decode c.code pc = .ok (.areturn, 1)) (hc : cells ≤ kc) (hs : slots ≤ ks) (q : CHr Z EL vm0 h T.vm h → QW (some v) T.vm h locs) : Go p e below (EndW Z EL s QW kc ks) (T.setTop (mkF m pc Ls (v :: rest))) :=
  Go.endW X hx (fun h => by rw [hret] at h; cases h) hlk hc hs hZ hEL eT hS hk hC q (fun fs hr => retOut X hx hret (by rcases ref_cases hv with rfl | ⟨z, rfl⟩ <;> cases t <;> simp [FieldType.isReference] at ht <;> rfl) (Or.inr (Or.inr (Or.inr (Or.inr ⟨rfl, ht, hv⟩)))) hd hr)
theorem CtrW.back {y : MethodName} {bytes : ByteArray} {maxL : Nat} {ret : Option FieldType} {rm : Room} {len W : Nat} {as : Array Value} (hM : CtrW l Z EL y bytes maxL ret rm as h sf QW)
    (hZ : Z.Warmed39 vm0) (wc : (Jvm.Cond.code y bytes maxL ret).before a0 Z = true) (wz : (Jvm.Cond.initialized y.cls).before a0 Z = true) (hf : rm.frames + 1 ≤ R.frames) (hl : W + (maxL + 11) + rm.locals ≤ R.locals) (hEL : EW Z a0 EL) (H : CHv Z EL vm0 h) (hsf : ∀ x ∈ sf, x < h.size ∧ Safe Z EL vm0 h x) :
    BackS l R p e below (s.setVm vm0) args y len W (fun A a => a = as ∧ A.U.heap = h ∧ A.cells + rm.cells ≤ R.cells ∧ A.slots + rm.slots ≤ R.slots)
      (fun A _ v B => ∃ L, QW v B.U.vm B.U.heap L ∧ B.locs = A.locs ++ L ∧ B.cells = A.cells + rm.cells ∧ B.slots = A.slots + rm.slots ∧ CHr Z EL vm0 h B.U.vm B.U.heap) :=
  BackS.of_freeW (bytes := bytes) (maxL := maxL) (ret := ret) (E := fun _ first o t L k n => k = rm.cells ∧ n = rm.slots ∧ (∃ v, o = .returned v ∧ QW v t.vm t.heap L) ∧ CHr Z EL first.vm first.heap t.vm t.heap) (hM []) hf hl
    (fun m meth c A a Y hp => have hU : Z.Warmed39 A.U.vm := wtrans (s := s.setVm vm0) hZ Y.warmed
      ⟨by show (Jvm.Cond.and _ .tt).before a A.U = true; rw [Cond.before_and, mv hU wc]; rfl, mv hU wc, mv hU wz, hp.2.2.1, hp.2.2.2⟩)
    (fun m meth c A a g mk Y hp => have hA := CHv.at Y hZ hEL H
      ⟨hp.1, wtrans (s := s.setVm vm0) hZ Y.warmed, hp.2.1, hA.1, fun x hx => hA.safe (hsf x hx).1 (hsf x hx).2⟩) (fun _ _ _ _ _ _ _ _ _ => trivial)
    (fun _ _ _ _ ⟨v, L, h1, h2, h3, h4⟩ => ⟨L, _, _, h4, rfl, rfl, ⟨v, h1, h2⟩, h3⟩)
    (fun m meth c A a g mk v t L k n Y hp _ _ ⟨e1, e2, ⟨v', e3, e4⟩, e5⟩ => by
      cases e3; subst e1 e2
      refine ⟨L, e4, rfl, rfl, rfl, (CHv.at Y hZ hEL H).trans ?_⟩
      rw [← hp.2.1]; exact e5)
theorem Go.callSW (X : Stand p l e R (s.setVm vm0) m args below meth c T locs cells slots) (hx : p.tables.exec = Jvm.exec) (hZ : Z.Warmed39 vm0) {own : String} {index : Nat} (hown : vm0.findClass own = some m.cls) {y : MethodName} {bytes : ByteArray} {maxL : Nat} {ret : Option FieldType} {rm : Room} (w1 : (Jvm.Cond.methodLink own index y).before a0 Z = true) (w2 : (Jvm.Cond.static y).before a0 Z = true) (w3 : (Jvm.Cond.initialized y.cls).before a0 Z = true) (w4 : (Jvm.Cond.code y bytes maxL ret).before a0 Z = true) (hy : y.cls ≠ "java/lang/invoke/MethodHandle" ∧ y.cls ≠ "java/lang/invoke/VarHandle") (wc : (Jvm.Cond.code y bytes maxL ret).before a0 Z = true) (wz : (Jvm.Cond.initialized y.cls).before a0 Z = true) {as : Array Value} (hM : CtrW l Z EL y bytes maxL ret rm as h sf QW) (hEL : EW Z a0 EL) (H : CHv Z EL vm0 h) (hsf : ∀ x ∈ sf, x < h.size ∧ Safe Z EL vm0 h x) {k0 : Nat} (hS : s.Since vm0 k0) (hk : k0 ≤ h.size) (eT : T.heap = h)  {pc : Nat} (pc' : Nat) {Ls : Array Slot} {stk argsL rest : List Value} (hp : pc' = pc + 3) (hsz : Ls.size = c.maxLocals) (hlen : ∀ sig, parseMethodDescriptor y.desc = some sig → argsL.length = sig.parameters.length) (hst : stk = argsL.reverse ++ rest) (has : argsL.toArray = as) {W : Nat} (hW : (rest.map fun v => v.category).sum ≤ W) (hf : rm.frames + 1 ≤ R.frames) (hl : W + (maxL + 11) + rm.locals ≤ R.locals) (hc : cells + rm.cells ≤ R.cells) (hs : slots + rm.slots ≤ R.slots) (hd : decode c.code pc = .ok (.invokestatic index, 3))
    (k : ∀ (v : Option Value) (T' : State) (L : List Loc) (h' : Heap), T'.heap = h' → QW v T'.vm h' L → CHr Z EL vm0 h T'.vm h' → s.Since T'.vm h'.size → Z.Warmed39 T'.vm → T'.vm.findClass own = some m.cls → Stand p l e R (s.setVm T'.vm) m args below meth c T' (locs ++ L) (cells + rm.cells) (slots + rm.slots) → Go p e below F0 (T'.setTop (mkF m pc' Ls (v.toList ++ rest)))) : Go p e below F0 (T.setTop (mkF m pc Ls stk)) := by
  subst hp
  obtain ⟨v, vm₁, ⟨T', L', c', n'⟩, -, X', h2, hg, ⟨L, hq, h1, h3, h4, h5⟩, st⟩ := callSS X hx hown (mvT (s := s.setVm vm0) hZ w1) (mvT (s := s.setVm vm0) hZ w2) (mvT (s := s.setVm vm0) hZ w3) (mvT (s := s.setVm vm0) hZ w4) hy (hM.back (W := W) hZ wc wz hf hl hEL H hsf) (g := mkF m pc Ls stk) rfl hsz hlen hst (by show 2 * 0 + _ ≤ _; rw [Nat.mul_zero, Nat.zero_add]; exact hW) hd (fun _ _ => ⟨has, eT, hc, hs⟩)
  obtain ⟨X2, hS2, hZ2, hown2⟩ := rebS hS (by rw [eT]; exact hk) X' h2 hg hZ hown
  try dsimp only at h1 h3 h4
  subst h1 h3 h4
  exact Go.step (fun t kt => st.trans kt) (k v T' L T'.heap rfl hq h5 hS2 hZ2 hown2 X2)
theorem Go.callNW (X : Stand p l e R (s.setVm vm0) m args below meth c T locs cells slots) (hx : p.tables.exec = Jvm.exec) (hZ : Z.Warmed39 vm0) {own : String} {index : Nat} (hown : vm0.findClass own = some m.cls) {y : MethodName} {bytes : ByteArray} {maxL : Nat} {rm : Room} (hn : y.name = "<init>") (w1 : (Jvm.Cond.methodLink own index y).before a0 Z = true) (w2 : (Jvm.Cond.instanceMethod y).before a0 Z = true) (w4 : (Jvm.Cond.code y bytes maxL none).before a0 Z = true) (hy : y.cls ≠ "java/lang/invoke/MethodHandle" ∧ y.cls ≠ "java/lang/invoke/VarHandle") (wc : (Jvm.Cond.code y bytes maxL none).before a0 Z = true) (wz : (Jvm.Cond.initialized y.cls).before a0 Z = true) {as : Array Value} (hM : CtrW l Z EL y bytes maxL none rm as h sf QW) (hEL : EW Z a0 EL) (H : CHv Z EL vm0 h) (hsf : ∀ x ∈ sf, x < h.size ∧ Safe Z EL vm0 h x) {k0 : Nat} (hS : s.Since vm0 k0) (hk : k0 ≤ h.size) (eT : T.heap = h) {a : Addr} {pc : Nat} (pc' : Nat) {Ls : Array Slot} {stk argsL rest : List Value} (hp : pc' = pc + 3) (hsz : Ls.size = c.maxLocals) (hlen : ∀ sig, parseMethodDescriptor y.desc = some sig → argsL.length = sig.parameters.length) (hst : stk = argsL.reverse ++ .ref a :: rest) (has : (.ref a :: argsL).toArray = as) {W : Nat} (hW : (rest.map fun v => v.category).sum ≤ W) (hf : rm.frames + 1 ≤ R.frames) (hl : W + (maxL + 11) + rm.locals ≤ R.locals) (hc : cells + rm.cells ≤ R.cells) (hs : slots + rm.slots ≤ R.slots) (hd : decode c.code pc = .ok (.invokespecial index, 3))
    (k : ∀ (v : Option Value) (T' : State) (L : List Loc) (h' : Heap), T'.heap = h' → QW v T'.vm h' L → CHr Z EL vm0 h T'.vm h' → s.Since T'.vm h'.size → Z.Warmed39 T'.vm → T'.vm.findClass own = some m.cls → Stand p l e R (s.setVm T'.vm) m args below meth c T' (locs ++ L) (cells + rm.cells) (slots + rm.slots) → Go p e below F0 (T'.setTop (mkF m pc' Ls (v.toList ++ rest)))) : Go p e below F0 (T.setTop (mkF m pc Ls stk)) := by
  subst hp
  obtain ⟨v, vm₁, ⟨T', L', c', n'⟩, -, X', h2, hg, ⟨L, hq, h1, h3, h4, h5⟩, st⟩ := X.specialBackS hx (y := y) hn hown (mvT (s := s.setVm vm0) hZ w1) (mvT (s := s.setVm vm0) hZ w2) (mvT (s := s.setVm vm0) hZ w4) hy (hM.back (W := W) hZ wc wz hf hl hEL H hsf) (g := mkF m pc Ls stk) rfl hsz (Steps.refl _) (a := a) hlen hst (by show 2 * 0 + _ ≤ _; rw [Nat.mul_zero, Nat.zero_add]; exact hW) hd (fun _ _ => ⟨has, eT, hc, hs⟩)
  obtain ⟨X2, hS2, hZ2, hown2⟩ := rebS hS (by rw [eT]; exact hk) X' h2 hg hZ hown
  try dsimp only at h1 h3 h4
  subst h1 h3 h4
  exact Go.step (fun t kt => st.trans kt) (k v T' L T'.heap rfl hq h5 hS2 hZ2 hown2 X2)
theorem Go.ldcCH (X : Stand p l e R (s.setVm vm0) m args below meth c T locs cells slots) (hx : p.tables.exec = Jvm.exec) (hZ : Z.Warmed39 vm0) {own text : String} {index : Nat} (hown : vm0.findClass own = some m.cls) (wl : (Jvm.Cond.stringLink own index text).before a0 Z = true) (wS : ∀ a ∈ Bundle.stringAtoms, a.before a0 Z = true) (eT : T.heap = h) {k0 : Nat} (hS : s.Since vm0 k0) (hk : k0 ≤ h.size) (hEL : EW Z a0 EL) (hmem : (own, index) ∈ EL) (H : CHv Z EL vm0 h) {vs : List Value} {z : Int32} (ht : (∀ c ∈ text.toList, c.toNat < 256) ∧ text.toList.map (fun c => Value.int (Jvm.Lit.byteI c.toNat.toUInt16)) = vs) (hz : ¬ z < 0) (hl : z.toNatClampNeg = vs.length) {n : Nat} (hn : 4 * text.toList.length ≤ n) (hbig : n ≤ 536870912) (hc : cells + 2 ≤ R.cells) (hl' : slots + (n + 4) ≤ R.slots) {pc : Nat} (pc' : Nat) {Ls : Array Slot} {rest : List Value} (hp : pc' = pc + 2) (hd : decode c.code pc = .ok (.ldc index, 2))
    (k : ∀ (a : Addr) (T' : State) (h' : Heap) (k1 : Nat) (b : Addr) (kk : ClassId), T'.heap = h' → Ext h h' → s.Since T'.vm k1 → k1 ≤ h'.size → Z.Warmed39 T'.vm → T'.vm.findClass own = some m.cls → Exa Z h' a "java/lang/String" → Fld Z h' a "java/lang/String" "coder" "B" (.int 0) → Fld Z h' a "java/lang/String" "value" "[B" (.ref b) → Arv Z h' b kk .byte z vs (.int 0) → CHr Z EL vm0 h T'.vm h' → (∀ x, Safe Z EL T'.vm h' x → x ≠ a ∧ x ≠ b) → Stand p l e R (s.setVm T'.vm) m args below meth c T' locs (cells + 2) (slots + (n + 4)) → Go p e below F0 (T'.setTop (mkF m pc' Ls (.ref a :: rest)))) : Go p e below F0 (T.setTop (mkF m pc Ls rest)) := by
  subst hp
  obtain ⟨a, T', h', k1, b, kk, X', e', E, hS', hk', hZ', hown', F1, F2, F3, F4, -, -, C, -, hne, st⟩ := Jvm.RoadKit.ldcCH X hx hZ hown wl wS eT hS hk hEL hmem H ht hz hl (g := mkF m pc Ls rest) rfl hd hn hbig hc hl'
  exact Go.step st (k a T' h' k1 b kk e' E hS' hk' hZ' hown' F1 F2 F3 F4 C hne X')
end OwnWide
end Jvm.RoadKit
namespace Jvm.Pilot.@@N@@
open Jvm Jvm.ClassFile Sem Op Lib Jvm.Free Jvm.Stand Jvm.LawKit Jvm.RoadKit Bundle Jvm.Pilot.@@N@@.Jvm.D
theorem tw_0 {Z : State} {a0 : Array Value} (hw : ∀ d ∈ tables_1, d.before a0 Z = true) : (Jvm.Cond.methodLink "com/example/dirbound/dirbound/ldap/HostPortEqualsPinLaw" (7 : Nat) ({ cls := "com/example/dirbound/dirbound/ldap/HostPortEqualsPinLaw", name := "ch", desc := "(II)C" } : Jvm.MethodName)).before a0 Z = true := hw _ (List.mem_of_getElem? (i := 0) rfl)
theorem tw_1 {Z : State} {a0 : Array Value} (hw : ∀ d ∈ tables_1, d.before a0 Z = true) : (Jvm.Cond.static ({ cls := "com/example/dirbound/dirbound/ldap/HostPortEqualsPinLaw", name := "ch", desc := "(II)C" } : Jvm.MethodName)).before a0 Z = true := hw _ (List.mem_of_getElem? (i := 1) rfl)
theorem tw_2 {Z : State} {a0 : Array Value} (hw : ∀ d ∈ tables_1, d.before a0 Z = true) : (Jvm.Cond.initialized "com/example/dirbound/dirbound/ldap/HostPortEqualsPinLaw").before a0 Z = true := hw _ (List.mem_of_getElem? (i := 2) rfl)
theorem tw_3 {Z : State} {a0 : Array Value} (hw : ∀ d ∈ tables_1, d.before a0 Z = true) : (Jvm.Cond.code ({ cls := "com/example/dirbound/dirbound/ldap/HostPortEqualsPinLaw", name := "ch", desc := "(II)C" } : Jvm.MethodName) method_3_code (2 : Nat) (Option.some Jvm.ClassFile.FieldType.char)).before a0 Z = true := hw _ (List.mem_of_getElem? (i := 3) rfl)
theorem tw_4 {Z : State} {a0 : Array Value} (hw : ∀ d ∈ tables_1, d.before a0 Z = true) : (Jvm.Cond.methodLink "com/example/dirbound/dirbound/ldap/HostPortEqualsPinLaw" (13 : Nat) ({ cls := "com/example/dirbound/dirbound/ldap/HostPortEqualsPinLaw", name := "pick", desc := "(CCI)C" } : Jvm.MethodName)).before a0 Z = true := hw _ (List.mem_of_getElem? (i := 4) rfl)
theorem tw_5 {Z : State} {a0 : Array Value} (hw : ∀ d ∈ tables_1, d.before a0 Z = true) : (Jvm.Cond.static ({ cls := "com/example/dirbound/dirbound/ldap/HostPortEqualsPinLaw", name := "pick", desc := "(CCI)C" } : Jvm.MethodName)).before a0 Z = true := hw _ (List.mem_of_getElem? (i := 5) rfl)
theorem tw_6 {Z : State} {a0 : Array Value} (hw : ∀ d ∈ tables_1, d.before a0 Z = true) : (Jvm.Cond.code ({ cls := "com/example/dirbound/dirbound/ldap/HostPortEqualsPinLaw", name := "pick", desc := "(CCI)C" } : Jvm.MethodName) method_4_code (3 : Nat) (Option.some Jvm.ClassFile.FieldType.char)).before a0 Z = true := hw _ (List.mem_of_getElem? (i := 6) rfl)
theorem tw_7 {Z : State} {a0 : Array Value} (hw : ∀ d ∈ tables_1, d.before a0 Z = true) : (Jvm.Cond.methodLink "com/example/dirbound/dirbound/ldap/HostPortEqualsPinLaw" (17 : Nat) ({ cls := "com/example/dirbound/dirbound/ldap/HostPortEqualsPinLaw", name := "mk", desc := "(ICCC)Ljava/lang/String;" } : Jvm.MethodName)).before a0 Z = true := hw _ (List.mem_of_getElem? (i := 7) rfl)
theorem tw_8 {Z : State} {a0 : Array Value} (hw : ∀ d ∈ tables_1, d.before a0 Z = true) : (Jvm.Cond.static ({ cls := "com/example/dirbound/dirbound/ldap/HostPortEqualsPinLaw", name := "mk", desc := "(ICCC)Ljava/lang/String;" } : Jvm.MethodName)).before a0 Z = true := hw _ (List.mem_of_getElem? (i := 8) rfl)
theorem tw_9 {Z : State} {a0 : Array Value} (hw : ∀ d ∈ tables_1, d.before a0 Z = true) : (Jvm.Cond.code ({ cls := "com/example/dirbound/dirbound/ldap/HostPortEqualsPinLaw", name := "mk", desc := "(ICCC)Ljava/lang/String;" } : Jvm.MethodName) method_6_code (4 : Nat) (Option.some (Jvm.ClassFile.FieldType.object "java/lang/String"))).before a0 Z = true := hw _ (List.mem_of_getElem? (i := 9) rfl)
theorem tw_10 {Z : State} {a0 : Array Value} (hw : ∀ d ∈ tables_1, d.before a0 Z = true) : (Jvm.Cond.classLink "com/example/dirbound/dirbound/ldap/HostPortEqualsPinLaw" (34 : Nat) "java/lang/String").before a0 Z = true := hw _ (List.mem_of_getElem? (i := 10) rfl)
theorem tw_11 {Z : State} {a0 : Array Value} (hw : ∀ d ∈ tables_1, d.before a0 Z = true) : (Jvm.Cond.instantiable "java/lang/String" (4 : Nat)).before a0 Z = true := hw _ (List.mem_of_getElem? (i := 11) rfl)
theorem tw_12 {Z : State} {a0 : Array Value} (hw : ∀ d ∈ tables_1, d.before a0 Z = true) : (Jvm.Cond.initialized "java/lang/String").before a0 Z = true := hw _ (List.mem_of_getElem? (i := 12) rfl)
theorem tw_13 {Z : State} {a0 : Array Value} (hw : ∀ d ∈ tables_1, d.before a0 Z = true) : (Jvm.Cond.arrayClass Jvm.ClassFile.FieldType.char).before a0 Z = true := hw _ (List.mem_of_getElem? (i := 13) rfl)
theorem tw_14 {Z : State} {a0 : Array Value} (hw : ∀ d ∈ tables_1, d.before a0 Z = true) : (Jvm.Cond.methodLink "com/example/dirbound/dirbound/ldap/HostPortEqualsPinLaw" (36 : Nat) ({ cls := "java/lang/String", name := "<init>", desc := "([C)V" } : Jvm.MethodName)).before a0 Z = true := hw _ (List.mem_of_getElem? (i := 14) rfl)
theorem tw_15 {Z : State} {a0 : Array Value} (hw : ∀ d ∈ tables_1, d.before a0 Z = true) : (Jvm.Cond.instanceMethod ({ cls := "java/lang/String", name := "<init>", desc := "([C)V" } : Jvm.MethodName)).before a0 Z = true := hw _ (List.mem_of_getElem? (i := 15) rfl)
theorem tw_16 {Z : State} {a0 : Array Value} (hw : ∀ d ∈ tables_1, d.before a0 Z = true) : (Jvm.Cond.code ({ cls := "java/lang/String", name := "<init>", desc := "([C)V" } : Jvm.MethodName) jdk_42_method_3_code (2 : Nat) (Option.none : Option Jvm.ClassFile.FieldType)).before a0 Z = true := hw _ (List.mem_of_getElem? (i := 16) rfl)
theorem tw_17 {Z : State} {a0 : Array Value} (hw : ∀ d ∈ tables_1, d.before a0 Z = true) : (Jvm.Cond.methodLink "java/lang/String" (27 : Nat) ({ cls := "java/lang/String", name := "<init>", desc := "([CIILjava/lang/Void;)V" } : Jvm.MethodName)).before a0 Z = true := hw _ (List.mem_of_getElem? (i := 17) rfl)
theorem tw_18 {Z : State} {a0 : Array Value} (hw : ∀ d ∈ tables_1, d.before a0 Z = true) : (Jvm.Cond.instanceMethod ({ cls := "java/lang/String", name := "<init>", desc := "([CIILjava/lang/Void;)V" } : Jvm.MethodName)).before a0 Z = true := hw _ (List.mem_of_getElem? (i := 18) rfl)
theorem tw_20 {Z : State} {a0 : Array Value} (hw : ∀ d ∈ tables_1, d.before a0 Z = true) : (Jvm.Cond.code ({ cls := "java/lang/String", name := "<init>", desc := "([CIILjava/lang/Void;)V" } : Jvm.MethodName) jdk_42_method_149_code (6 : Nat) (Option.none : Option Jvm.ClassFile.FieldType)).before a0 Z = true := hw _ (List.mem_of_getElem? (i := 20) rfl)
theorem tw_21 {Z : State} {a0 : Array Value} (hw : ∀ d ∈ tables_1, d.before a0 Z = true) : (Jvm.Cond.methodLink "java/lang/String" (1 : Nat) ({ cls := "java/lang/Object", name := "<init>", desc := "()V" } : Jvm.MethodName)).before a0 Z = true := hw _ (List.mem_of_getElem? (i := 21) rfl)
theorem tw_22 {Z : State} {a0 : Array Value} (hw : ∀ d ∈ tables_1, d.before a0 Z = true) : (Jvm.Cond.instanceMethod ({ cls := "java/lang/Object", name := "<init>", desc := "()V" } : Jvm.MethodName)).before a0 Z = true := hw _ (List.mem_of_getElem? (i := 22) rfl)
theorem tw_23 {Z : State} {a0 : Array Value} (hw : ∀ d ∈ tables_1, d.before a0 Z = true) : (Jvm.Cond.code ({ cls := "java/lang/Object", name := "<init>", desc := "()V" } : Jvm.MethodName) object_method_1_code (1 : Nat) (Option.none : Option Jvm.ClassFile.FieldType)).before a0 Z = true := hw _ (List.mem_of_getElem? (i := 23) rfl)
theorem tw_24 {Z : State} {a0 : Array Value} (hw : ∀ d ∈ tables_1, d.before a0 Z = true) : (Jvm.Cond.stringLink "java/lang/String" (7 : Nat) "").before a0 Z = true := hw _ (List.mem_of_getElem? (i := 24) rfl)
theorem tw_25 {Z : State} {a0 : Array Value} (hw : ∀ d ∈ tables_1, d.before a0 Z = true) : (Jvm.Cond.arrayClass Jvm.ClassFile.FieldType.byte).before a0 Z = true := hw _ (List.mem_of_getElem? (i := 25) rfl)
theorem tw_26 {Z : State} {a0 : Array Value} (hw : ∀ d ∈ tables_1, d.before a0 Z = true) : (Jvm.Cond.laysFinal "java/lang/String" "java/lang/String" "value" "[B").before a0 Z = true := hw _ (List.mem_of_getElem? (i := 26) rfl)
theorem tw_27 {Z : State} {a0 : Array Value} (hw : ∀ d ∈ tables_1, d.before a0 Z = true) : (Jvm.Cond.laysFinal "java/lang/String" "java/lang/String" "coder" "B").before a0 Z = true := hw _ (List.mem_of_getElem? (i := 27) rfl)
theorem tw_30 {Z : State} {a0 : Array Value} (hw : ∀ d ∈ tables_1, d.before a0 Z = true) : (Jvm.Cond.fieldLink "java/lang/String" (9 : Nat) "java/lang/String" "value" "[B").before a0 Z = true := hw _ (List.mem_of_getElem? (i := 30) rfl)
theorem tw_31 {Z : State} {a0 : Array Value} (hw : ∀ d ∈ tables_1, d.before a0 Z = true) : (Jvm.Cond.fieldLink "java/lang/String" (15 : Nat) "java/lang/String" "coder" "B").before a0 Z = true := hw _ (List.mem_of_getElem? (i := 31) rfl)
theorem tw_32 {Z : State} {a0 : Array Value} (hw : ∀ d ∈ tables_1, d.before a0 Z = true) : (Jvm.Cond.classLink "com/example/dirbound/dirbound/ldap/HostPortEqualsPinLaw" (21 : Nat) "com/example/dirbound/dirbound/ldap/HostPort").before a0 Z = true := hw _ (List.mem_of_getElem? (i := 32) rfl)
theorem tw_33 {Z : State} {a0 : Array Value} (hw : ∀ d ∈ tables_1, d.before a0 Z = true) : (Jvm.Cond.instantiable "com/example/dirbound/dirbound/ldap/HostPort" (3 : Nat)).before a0 Z = true := hw _ (List.mem_of_getElem? (i := 33) rfl)
theorem tw_34 {Z : State} {a0 : Array Value} (hw : ∀ d ∈ tables_1, d.before a0 Z = true) : (Jvm.Cond.initialized "com/example/dirbound/dirbound/ldap/HostPort").before a0 Z = true := hw _ (List.mem_of_getElem? (i := 34) rfl)
theorem tw_35 {Z : State} {a0 : Array Value} (hw : ∀ d ∈ tables_1, d.before a0 Z = true) : (Jvm.Cond.methodLink "com/example/dirbound/dirbound/ldap/HostPortEqualsPinLaw" (23 : Nat) ({ cls := "com/example/dirbound/dirbound/ldap/HostPort", name := "<init>", desc := "(Ljava/lang/String;I)V" } : Jvm.MethodName)).before a0 Z = true := hw _ (List.mem_of_getElem? (i := 35) rfl)
theorem tw_36 {Z : State} {a0 : Array Value} (hw : ∀ d ∈ tables_1, d.before a0 Z = true) : (Jvm.Cond.instanceMethod ({ cls := "com/example/dirbound/dirbound/ldap/HostPort", name := "<init>", desc := "(Ljava/lang/String;I)V" } : Jvm.MethodName)).before a0 Z = true := hw _ (List.mem_of_getElem? (i := 36) rfl)
theorem tw_37 {Z : State} {a0 : Array Value} (hw : ∀ d ∈ tables_1, d.before a0 Z = true) : (Jvm.Cond.code ({ cls := "com/example/dirbound/dirbound/ldap/HostPort", name := "<init>", desc := "(Ljava/lang/String;I)V" } : Jvm.MethodName) prog_48_method_1_code (3 : Nat) (Option.none : Option Jvm.ClassFile.FieldType)).before a0 Z = true := hw _ (List.mem_of_getElem? (i := 37) rfl)
theorem tw_38 {Z : State} {a0 : Array Value} (hw : ∀ d ∈ tables_1, d.before a0 Z = true) : (Jvm.Cond.methodLink "com/example/dirbound/dirbound/ldap/HostPort" (1 : Nat) ({ cls := "java/lang/Object", name := "<init>", desc := "()V" } : Jvm.MethodName)).before a0 Z = true := hw _ (List.mem_of_getElem? (i := 38) rfl)
theorem tw_39 {Z : State} {a0 : Array Value} (hw : ∀ d ∈ tables_1, d.before a0 Z = true) : (Jvm.Cond.fieldLink "com/example/dirbound/dirbound/ldap/HostPort" (7 : Nat) "com/example/dirbound/dirbound/ldap/HostPort" "host" "Ljava/lang/String;").before a0 Z = true := hw _ (List.mem_of_getElem? (i := 39) rfl)
theorem tw_40 {Z : State} {a0 : Array Value} (hw : ∀ d ∈ tables_1, d.before a0 Z = true) : (Jvm.Cond.laysFinal "com/example/dirbound/dirbound/ldap/HostPort" "com/example/dirbound/dirbound/ldap/HostPort" "host" "Ljava/lang/String;").before a0 Z = true := hw _ (List.mem_of_getElem? (i := 40) rfl)
theorem tw_41 {Z : State} {a0 : Array Value} (hw : ∀ d ∈ tables_1, d.before a0 Z = true) : (Jvm.Cond.methodLink "com/example/dirbound/dirbound/ldap/HostPort" (13 : Nat) ({ cls := "com/example/dirbound/dirbound/ldap/HostPort", name := "folded", desc := "(Ljava/lang/String;)Ljava/lang/String;" } : Jvm.MethodName)).before a0 Z = true := hw _ (List.mem_of_getElem? (i := 41) rfl)
theorem tw_42 {Z : State} {a0 : Array Value} (hw : ∀ d ∈ tables_1, d.before a0 Z = true) : (Jvm.Cond.static ({ cls := "com/example/dirbound/dirbound/ldap/HostPort", name := "folded", desc := "(Ljava/lang/String;)Ljava/lang/String;" } : Jvm.MethodName)).before a0 Z = true := hw _ (List.mem_of_getElem? (i := 42) rfl)
theorem tw_43 {Z : State} {a0 : Array Value} (hw : ∀ d ∈ tables_1, d.before a0 Z = true) : (Jvm.Cond.code ({ cls := "com/example/dirbound/dirbound/ldap/HostPort", name := "folded", desc := "(Ljava/lang/String;)Ljava/lang/String;" } : Jvm.MethodName) prog_48_method_11_code (4 : Nat) (Option.some (Jvm.ClassFile.FieldType.object "java/lang/String"))).before a0 Z = true := hw _ (List.mem_of_getElem? (i := 43) rfl)
theorem tw_44 {Z : State} {a0 : Array Value} (hw : ∀ d ∈ tables_1, d.before a0 Z = true) : (Jvm.Cond.classLink "com/example/dirbound/dirbound/ldap/HostPort" (123 : Nat) "java/lang/StringBuilder").before a0 Z = true := hw _ (List.mem_of_getElem? (i := 44) rfl)
theorem tw_45 {Z : State} {a0 : Array Value} (hw : ∀ d ∈ tables_1, d.before a0 Z = true) : (Jvm.Cond.instantiable "java/lang/StringBuilder" (4 : Nat)).before a0 Z = true := hw _ (List.mem_of_getElem? (i := 45) rfl)
theorem tw_46 {Z : State} {a0 : Array Value} (hw : ∀ d ∈ tables_1, d.before a0 Z = true) : (Jvm.Cond.initialized "java/lang/StringBuilder").before a0 Z = true := hw _ (List.mem_of_getElem? (i := 46) rfl)
theorem tw_47 {Z : State} {a0 : Array Value} (hw : ∀ d ∈ tables_1, d.before a0 Z = true) : (Jvm.Cond.methodLink "com/example/dirbound/dirbound/ldap/HostPort" (23 : Nat) ({ cls := "java/lang/String", name := "length", desc := "()I" } : Jvm.MethodName)).before a0 Z = true := hw _ (List.mem_of_getElem? (i := 47) rfl)
theorem tw_48 {Z : State} {a0 : Array Value} (hw : ∀ d ∈ tables_1, d.before a0 Z = true) : (Jvm.Cond.declares ({ cls := "java/lang/String", name := "length", desc := "()I" } : Jvm.MethodName)).before a0 Z = true := hw _ (List.mem_of_getElem? (i := 48) rfl)
theorem tw_49 {Z : State} {a0 : Array Value} (hw : ∀ d ∈ tables_1, d.before a0 Z = true) : (Jvm.Cond.instanceMethod ({ cls := "java/lang/String", name := "length", desc := "()I" } : Jvm.MethodName)).before a0 Z = true := hw _ (List.mem_of_getElem? (i := 49) rfl)
theorem tw_50 {Z : State} {a0 : Array Value} (hw : ∀ d ∈ tables_1, d.before a0 Z = true) : (Jvm.Cond.selects "java/lang/String" ({ cls := "java/lang/String", name := "length", desc := "()I" } : Jvm.MethodName) ({ cls := "java/lang/String", name := "length", desc := "()I" } : Jvm.MethodName)).before a0 Z = true := hw _ (List.mem_of_getElem? (i := 50) rfl)
theorem tw_51 {Z : State} {a0 : Array Value} (hw : ∀ d ∈ tables_1, d.before a0 Z = true) : (Jvm.Cond.code ({ cls := "java/lang/String", name := "length", desc := "()I" } : Jvm.MethodName) jdk_42_method_54_code (1 : Nat) (Option.some Jvm.ClassFile.FieldType.int)).before a0 Z = true := hw _ (List.mem_of_getElem? (i := 51) rfl)
theorem tw_52 {Z : State} {a0 : Array Value} (hw : ∀ d ∈ tables_1, d.before a0 Z = true) : (Jvm.Cond.methodLink "java/lang/String" (335 : Nat) ({ cls := "java/lang/String", name := "coder", desc := "()B" } : Jvm.MethodName)).before a0 Z = true := hw _ (List.mem_of_getElem? (i := 52) rfl)
theorem tw_53 {Z : State} {a0 : Array Value} (hw : ∀ d ∈ tables_1, d.before a0 Z = true) : (Jvm.Cond.declares ({ cls := "java/lang/String", name := "coder", desc := "()B" } : Jvm.MethodName)).before a0 Z = true := hw _ (List.mem_of_getElem? (i := 53) rfl)
theorem tw_54 {Z : State} {a0 : Array Value} (hw : ∀ d ∈ tables_1, d.before a0 Z = true) : (Jvm.Cond.instanceMethod ({ cls := "java/lang/String", name := "coder", desc := "()B" } : Jvm.MethodName)).before a0 Z = true := hw _ (List.mem_of_getElem? (i := 54) rfl)
theorem tw_55 {Z : State} {a0 : Array Value} (hw : ∀ d ∈ tables_1, d.before a0 Z = true) : (Jvm.Cond.selects "java/lang/String" ({ cls := "java/lang/String", name := "coder", desc := "()B" } : Jvm.MethodName) ({ cls := "java/lang/String", name := "coder", desc := "()B" } : Jvm.MethodName)).before a0 Z = true := hw _ (List.mem_of_getElem? (i := 55) rfl)
theorem tw_56 {Z : State} {a0 : Array Value} (hw : ∀ d ∈ tables_1, d.before a0 Z = true) : (Jvm.Cond.code ({ cls := "java/lang/String", name := "coder", desc := "()B" } : Jvm.MethodName) jdk_42_method_152_code (1 : Nat) (Option.some Jvm.ClassFile.FieldType.byte)).before a0 Z = true := hw _ (List.mem_of_getElem? (i := 56) rfl)
theorem tw_57 {Z : State} {a0 : Array Value} (hw : ∀ d ∈ tables_1, d.before a0 Z = true) : (Jvm.Cond.fieldLink "java/lang/String" (38 : Nat) "java/lang/String" "COMPACT_STRINGS" "Z").before a0 Z = true := hw _ (List.mem_of_getElem? (i := 57) rfl)
theorem tw_58 {Z : State} {a0 : Array Value} (hw : ∀ d ∈ tables_1, d.before a0 Z = true) : (Jvm.Cond.methodLink "com/example/dirbound/dirbound/ldap/HostPort" (125 : Nat) ({ cls := "java/lang/StringBuilder", name := "<init>", desc := "(I)V" } : Jvm.MethodName)).before a0 Z = true := hw _ (List.mem_of_getElem? (i := 58) rfl)
theorem tw_59 {Z : State} {a0 : Array Value} (hw : ∀ d ∈ tables_1, d.before a0 Z = true) : (Jvm.Cond.instanceMethod ({ cls := "java/lang/StringBuilder", name := "<init>", desc := "(I)V" } : Jvm.MethodName)).before a0 Z = true := hw _ (List.mem_of_getElem? (i := 59) rfl)
theorem tw_60 {Z : State} {a0 : Array Value} (hw : ∀ d ∈ tables_1, d.before a0 Z = true) : (Jvm.Cond.code ({ cls := "java/lang/StringBuilder", name := "<init>", desc := "(I)V" } : Jvm.MethodName) jdk_67_method_2_code (2 : Nat) (Option.none : Option Jvm.ClassFile.FieldType)).before a0 Z = true := hw _ (List.mem_of_getElem? (i := 60) rfl)
theorem tw_61 {Z : State} {a0 : Array Value} (hw : ∀ d ∈ tables_1, d.before a0 Z = true) : (Jvm.Cond.methodLink "java/lang/StringBuilder" (1 : Nat) ({ cls := "java/lang/AbstractStringBuilder", name := "<init>", desc := "(I)V" } : Jvm.MethodName)).before a0 Z = true := hw _ (List.mem_of_getElem? (i := 61) rfl)
theorem tw_62 {Z : State} {a0 : Array Value} (hw : ∀ d ∈ tables_1, d.before a0 Z = true) : (Jvm.Cond.instanceMethod ({ cls := "java/lang/AbstractStringBuilder", name := "<init>", desc := "(I)V" } : Jvm.MethodName)).before a0 Z = true := hw _ (List.mem_of_getElem? (i := 62) rfl)
theorem tw_65 {Z : State} {a0 : Array Value} (hw : ∀ d ∈ tables_1, d.before a0 Z = true) : (Jvm.Cond.initialized "java/lang/AbstractStringBuilder").before a0 Z = true := hw _ (List.mem_of_getElem? (i := 65) rfl)
theorem tw_66 {Z : State} {a0 : Array Value} (hw : ∀ d ∈ tables_1, d.before a0 Z = true) : (Jvm.Cond.code ({ cls := "java/lang/AbstractStringBuilder", name := "<init>", desc := "(I)V" } : Jvm.MethodName) jdk_68_method_2_code (2 : Nat) (Option.none : Option Jvm.ClassFile.FieldType)).before a0 Z = true := hw _ (List.mem_of_getElem? (i := 66) rfl)
theorem tw_67 {Z : State} {a0 : Array Value} (hw : ∀ d ∈ tables_1, d.before a0 Z = true) : (Jvm.Cond.methodLink "java/lang/AbstractStringBuilder" (3 : Nat) ({ cls := "java/lang/Object", name := "<init>", desc := "()V" } : Jvm.MethodName)).before a0 Z = true := hw _ (List.mem_of_getElem? (i := 67) rfl)
theorem tw_68 {Z : State} {a0 : Array Value} (hw : ∀ d ∈ tables_1, d.before a0 Z = true) : (Jvm.Cond.fieldLink "java/lang/AbstractStringBuilder" (18 : Nat) "java/lang/String" "COMPACT_STRINGS" "Z").before a0 Z = true := hw _ (List.mem_of_getElem? (i := 68) rfl)
theorem tw_69 {Z : State} {a0 : Array Value} (hw : ∀ d ∈ tables_1, d.before a0 Z = true) : (Jvm.Cond.fieldLink "java/lang/AbstractStringBuilder" (15 : Nat) "java/lang/AbstractStringBuilder" "value" "[B").before a0 Z = true := hw _ (List.mem_of_getElem? (i := 69) rfl)
theorem tw_70 {Z : State} {a0 : Array Value} (hw : ∀ d ∈ tables_1, d.before a0 Z = true) : (Jvm.Cond.lays "java/lang/StringBuilder" "java/lang/AbstractStringBuilder" "value" "[B").before a0 Z = true := hw _ (List.mem_of_getElem? (i := 70) rfl)
theorem tw_71 {Z : State} {a0 : Array Value} (hw : ∀ d ∈ tables_1, d.before a0 Z = true) : (Jvm.Cond.fieldLink "java/lang/AbstractStringBuilder" (22 : Nat) "java/lang/AbstractStringBuilder" "coder" "B").before a0 Z = true := hw _ (List.mem_of_getElem? (i := 71) rfl)
theorem tw_72 {Z : State} {a0 : Array Value} (hw : ∀ d ∈ tables_1, d.before a0 Z = true) : (Jvm.Cond.lays "java/lang/StringBuilder" "java/lang/AbstractStringBuilder" "coder" "B").before a0 Z = true := hw _ (List.mem_of_getElem? (i := 72) rfl)
theorem tw_73 {Z : State} {a0 : Array Value} (hw : ∀ d ∈ tables_1, d.before a0 Z = true) : (Jvm.Cond.methodLink "com/example/dirbound/dirbound/ldap/HostPort" (132 : Nat) ({ cls := "java/lang/StringBuilder", name := "toString", desc := "()Ljava/lang/String;" } : Jvm.MethodName)).before a0 Z = true := hw _ (List.mem_of_getElem? (i := 73) rfl)
theorem tw_74 {Z : State} {a0 : Array Value} (hw : ∀ d ∈ tables_1, d.before a0 Z = true) : (Jvm.Cond.declares ({ cls := "java/lang/StringBuilder", name := "toString", desc := "()Ljava/lang/String;" } : Jvm.MethodName)).before a0 Z = true := hw _ (List.mem_of_getElem? (i := 74) rfl)
theorem tw_75 {Z : State} {a0 : Array Value} (hw : ∀ d ∈ tables_1, d.before a0 Z = true) : (Jvm.Cond.instanceMethod ({ cls := "java/lang/StringBuilder", name := "toString", desc := "()Ljava/lang/String;" } : Jvm.MethodName)).before a0 Z = true := hw _ (List.mem_of_getElem? (i := 75) rfl)
theorem tw_76 {Z : State} {a0 : Array Value} (hw : ∀ d ∈ tables_1, d.before a0 Z = true) : (Jvm.Cond.selects "java/lang/StringBuilder" ({ cls := "java/lang/StringBuilder", name := "toString", desc := "()Ljava/lang/String;" } : Jvm.MethodName) ({ cls := "java/lang/StringBuilder", name := "toString", desc := "()Ljava/lang/String;" } : Jvm.MethodName)).before a0 Z = true := hw _ (List.mem_of_getElem? (i := 76) rfl)
theorem tw_77 {Z : State} {a0 : Array Value} (hw : ∀ d ∈ tables_1, d.before a0 Z = true) : (Jvm.Cond.code ({ cls := "java/lang/StringBuilder", name := "toString", desc := "()Ljava/lang/String;" } : Jvm.MethodName) jdk_67_method_42_code (1 : Nat) (Option.some (Jvm.ClassFile.FieldType.object "java/lang/String"))).before a0 Z = true := hw _ (List.mem_of_getElem? (i := 77) rfl)
theorem tw_78 {Z : State} {a0 : Array Value} (hw : ∀ d ∈ tables_1, d.before a0 Z = true) : (Jvm.Cond.classLink "java/lang/StringBuilder" (18 : Nat) "java/lang/String").before a0 Z = true := hw _ (List.mem_of_getElem? (i := 78) rfl)
theorem tw_79 {Z : State} {a0 : Array Value} (hw : ∀ d ∈ tables_1, d.before a0 Z = true) : (Jvm.Cond.methodLink "java/lang/StringBuilder" (137 : Nat) ({ cls := "java/lang/String", name := "<init>", desc := "(Ljava/lang/StringBuilder;)V" } : Jvm.MethodName)).before a0 Z = true := hw _ (List.mem_of_getElem? (i := 79) rfl)
theorem tw_80 {Z : State} {a0 : Array Value} (hw : ∀ d ∈ tables_1, d.before a0 Z = true) : (Jvm.Cond.instanceMethod ({ cls := "java/lang/String", name := "<init>", desc := "(Ljava/lang/StringBuilder;)V" } : Jvm.MethodName)).before a0 Z = true := hw _ (List.mem_of_getElem? (i := 80) rfl)
theorem tw_81 {Z : State} {a0 : Array Value} (hw : ∀ d ∈ tables_1, d.before a0 Z = true) : (Jvm.Cond.code ({ cls := "java/lang/String", name := "<init>", desc := "(Ljava/lang/StringBuilder;)V" } : Jvm.MethodName) jdk_42_method_53_code (2 : Nat) (Option.none : Option Jvm.ClassFile.FieldType)).before a0 Z = true := hw _ (List.mem_of_getElem? (i := 81) rfl)
theorem tw_82 {Z : State} {a0 : Array Value} (hw : ∀ d ∈ tables_1, d.before a0 Z = true) : (Jvm.Cond.methodLink "java/lang/String" (489 : Nat) ({ cls := "java/lang/String", name := "<init>", desc := "(Ljava/lang/AbstractStringBuilder;Ljava/lang/Void;)V" } : Jvm.MethodName)).before a0 Z = true := hw _ (List.mem_of_getElem? (i := 82) rfl)
theorem tw_83 {Z : State} {a0 : Array Value} (hw : ∀ d ∈ tables_1, d.before a0 Z = true) : (Jvm.Cond.instanceMethod ({ cls := "java/lang/String", name := "<init>", desc := "(Ljava/lang/AbstractStringBuilder;Ljava/lang/Void;)V" } : Jvm.MethodName)).before a0 Z = true := hw _ (List.mem_of_getElem? (i := 83) rfl)
theorem tw_84 {Z : State} {a0 : Array Value} (hw : ∀ d ∈ tables_1, d.before a0 Z = true) : (Jvm.Cond.code ({ cls := "java/lang/String", name := "<init>", desc := "(Ljava/lang/AbstractStringBuilder;Ljava/lang/Void;)V" } : Jvm.MethodName) jdk_42_method_150_code (5 : Nat) (Option.none : Option Jvm.ClassFile.FieldType)).before a0 Z = true := hw _ (List.mem_of_getElem? (i := 84) rfl)
theorem tw_85 {Z : State} {a0 : Array Value} (hw : ∀ d ∈ tables_1, d.before a0 Z = true) : (Jvm.Cond.methodLink "java/lang/String" (552 : Nat) ({ cls := "java/lang/AbstractStringBuilder", name := "getValue", desc := "()[B" } : Jvm.MethodName)).before a0 Z = true := hw _ (List.mem_of_getElem? (i := 85) rfl)
theorem tw_86 {Z : State} {a0 : Array Value} (hw : ∀ d ∈ tables_1, d.before a0 Z = true) : (Jvm.Cond.declares ({ cls := "java/lang/AbstractStringBuilder", name := "getValue", desc := "()[B" } : Jvm.MethodName)).before a0 Z = true := hw _ (List.mem_of_getElem? (i := 86) rfl)
theorem tw_87 {Z : State} {a0 : Array Value} (hw : ∀ d ∈ tables_1, d.before a0 Z = true) : (Jvm.Cond.instanceMethod ({ cls := "java/lang/AbstractStringBuilder", name := "getValue", desc := "()[B" } : Jvm.MethodName)).before a0 Z = true := hw _ (List.mem_of_getElem? (i := 87) rfl)
theorem tw_88 {Z : State} {a0 : Array Value} (hw : ∀ d ∈ tables_1, d.before a0 Z = true) : (Jvm.Cond.selects "java/lang/StringBuilder" ({ cls := "java/lang/AbstractStringBuilder", name := "getValue", desc := "()[B" } : Jvm.MethodName) ({ cls := "java/lang/AbstractStringBuilder", name := "getValue", desc := "()[B" } : Jvm.MethodName)).before a0 Z = true := hw _ (List.mem_of_getElem? (i := 88) rfl)
theorem tw_89 {Z : State} {a0 : Array Value} (hw : ∀ d ∈ tables_1, d.before a0 Z = true) : (Jvm.Cond.code ({ cls := "java/lang/AbstractStringBuilder", name := "getValue", desc := "()[B" } : Jvm.MethodName) jdk_68_method_64_code (1 : Nat) (Option.some (Jvm.ClassFile.FieldType.array Jvm.ClassFile.FieldType.byte))).before a0 Z = true := hw _ (List.mem_of_getElem? (i := 89) rfl)
theorem tw_90 {Z : State} {a0 : Array Value} (hw : ∀ d ∈ tables_1, d.before a0 Z = true) : (Jvm.Cond.methodLink "java/lang/String" (549 : Nat) ({ cls := "java/lang/AbstractStringBuilder", name := "length", desc := "()I" } : Jvm.MethodName)).before a0 Z = true := hw _ (List.mem_of_getElem? (i := 90) rfl)
theorem tw_91 {Z : State} {a0 : Array Value} (hw : ∀ d ∈ tables_1, d.before a0 Z = true) : (Jvm.Cond.declares ({ cls := "java/lang/AbstractStringBuilder", name := "length", desc := "()I" } : Jvm.MethodName)).before a0 Z = true := hw _ (List.mem_of_getElem? (i := 91) rfl)
theorem tw_92 {Z : State} {a0 : Array Value} (hw : ∀ d ∈ tables_1, d.before a0 Z = true) : (Jvm.Cond.instanceMethod ({ cls := "java/lang/AbstractStringBuilder", name := "length", desc := "()I" } : Jvm.MethodName)).before a0 Z = true := hw _ (List.mem_of_getElem? (i := 92) rfl)
theorem tw_93 {Z : State} {a0 : Array Value} (hw : ∀ d ∈ tables_1, d.before a0 Z = true) : (Jvm.Cond.selects "java/lang/StringBuilder" ({ cls := "java/lang/AbstractStringBuilder", name := "length", desc := "()I" } : Jvm.MethodName) ({ cls := "java/lang/StringBuilder", name := "length", desc := "()I" } : Jvm.MethodName)).before a0 Z = true := hw _ (List.mem_of_getElem? (i := 93) rfl)
theorem tw_94 {Z : State} {a0 : Array Value} (hw : ∀ d ∈ tables_1, d.before a0 Z = true) : (Jvm.Cond.instanceMethod ({ cls := "java/lang/StringBuilder", name := "length", desc := "()I" } : Jvm.MethodName)).before a0 Z = true := hw _ (List.mem_of_getElem? (i := 94) rfl)
theorem tw_95 {Z : State} {a0 : Array Value} (hw : ∀ d ∈ tables_1, d.before a0 Z = true) : (Jvm.Cond.code ({ cls := "java/lang/StringBuilder", name := "length", desc := "()I" } : Jvm.MethodName) jdk_67_method_93_code (1 : Nat) (Option.some Jvm.ClassFile.FieldType.int)).before a0 Z = true := hw _ (List.mem_of_getElem? (i := 95) rfl)
theorem tw_96 {Z : State} {a0 : Array Value} (hw : ∀ d ∈ tables_1, d.before a0 Z = true) : (Jvm.Cond.methodLink "java/lang/StringBuilder" (343 : Nat) ({ cls := "java/lang/AbstractStringBuilder", name := "length", desc := "()I" } : Jvm.MethodName)).before a0 Z = true := hw _ (List.mem_of_getElem? (i := 96) rfl)
theorem tw_97 {Z : State} {a0 : Array Value} (hw : ∀ d ∈ tables_1, d.before a0 Z = true) : (Jvm.Cond.superclass "java/lang/StringBuilder" "java/lang/AbstractStringBuilder").before a0 Z = true := hw _ (List.mem_of_getElem? (i := 97) rfl)
theorem tw_98 {Z : State} {a0 : Array Value} (hw : ∀ d ∈ tables_1, d.before a0 Z = true) : (Jvm.Cond.code ({ cls := "java/lang/AbstractStringBuilder", name := "length", desc := "()I" } : Jvm.MethodName) jdk_68_method_6_code (1 : Nat) (Option.some Jvm.ClassFile.FieldType.int)).before a0 Z = true := hw _ (List.mem_of_getElem? (i := 98) rfl)
theorem tw_99 {Z : State} {a0 : Array Value} (hw : ∀ d ∈ tables_1, d.before a0 Z = true) : (Jvm.Cond.fieldLink "java/lang/AbstractStringBuilder" (79 : Nat) "java/lang/AbstractStringBuilder" "count" "I").before a0 Z = true := hw _ (List.mem_of_getElem? (i := 99) rfl)
theorem tw_100 {Z : State} {a0 : Array Value} (hw : ∀ d ∈ tables_1, d.before a0 Z = true) : (Jvm.Cond.lays "java/lang/StringBuilder" "java/lang/AbstractStringBuilder" "count" "I").before a0 Z = true := hw _ (List.mem_of_getElem? (i := 100) rfl)
theorem tw_101 {Z : State} {a0 : Array Value} (hw : ∀ d ∈ tables_1, d.before a0 Z = true) : (Jvm.Cond.methodLink "java/lang/String" (1047 : Nat) ({ cls := "java/lang/AbstractStringBuilder", name := "isLatin1", desc := "()Z" } : Jvm.MethodName)).before a0 Z = true := hw _ (List.mem_of_getElem? (i := 101) rfl)
theorem tw_102 {Z : State} {a0 : Array Value} (hw : ∀ d ∈ tables_1, d.before a0 Z = true) : (Jvm.Cond.declares ({ cls := "java/lang/AbstractStringBuilder", name := "isLatin1", desc := "()Z" } : Jvm.MethodName)).before a0 Z = true := hw _ (List.mem_of_getElem? (i := 102) rfl)
theorem tw_103 {Z : State} {a0 : Array Value} (hw : ∀ d ∈ tables_1, d.before a0 Z = true) : (Jvm.Cond.instanceMethod ({ cls := "java/lang/AbstractStringBuilder", name := "isLatin1", desc := "()Z" } : Jvm.MethodName)).before a0 Z = true := hw _ (List.mem_of_getElem? (i := 103) rfl)
theorem tw_104 {Z : State} {a0 : Array Value} (hw : ∀ d ∈ tables_1, d.before a0 Z = true) : (Jvm.Cond.selects "java/lang/StringBuilder" ({ cls := "java/lang/AbstractStringBuilder", name := "isLatin1", desc := "()Z" } : Jvm.MethodName) ({ cls := "java/lang/AbstractStringBuilder", name := "isLatin1", desc := "()Z" } : Jvm.MethodName)).before a0 Z = true := hw _ (List.mem_of_getElem? (i := 104) rfl)
theorem tw_105 {Z : State} {a0 : Array Value} (hw : ∀ d ∈ tables_1, d.before a0 Z = true) : (Jvm.Cond.code ({ cls := "java/lang/AbstractStringBuilder", name := "isLatin1", desc := "()Z" } : Jvm.MethodName) jdk_68_method_68_code (1 : Nat) (Option.some Jvm.ClassFile.FieldType.boolean)).before a0 Z = true := hw _ (List.mem_of_getElem? (i := 105) rfl)
theorem tw_106 {Z : State} {a0 : Array Value} (hw : ∀ d ∈ tables_1, d.before a0 Z = true) : (Jvm.Cond.methodLink "java/lang/String" (54 : Nat) ({ cls := "java/util/Arrays", name := "copyOfRange", desc := "([BII)[B" } : Jvm.MethodName)).before a0 Z = true := hw _ (List.mem_of_getElem? (i := 106) rfl)
theorem tw_107 {Z : State} {a0 : Array Value} (hw : ∀ d ∈ tables_1, d.before a0 Z = true) : (Jvm.Cond.static ({ cls := "java/util/Arrays", name := "copyOfRange", desc := "([BII)[B" } : Jvm.MethodName)).before a0 Z = true := hw _ (List.mem_of_getElem? (i := 107) rfl)
theorem tw_108 {Z : State} {a0 : Array Value} (hw : ∀ d ∈ tables_1, d.before a0 Z = true) : (Jvm.Cond.initialized "java/util/Arrays").before a0 Z = true := hw _ (List.mem_of_getElem? (i := 108) rfl)
theorem tw_109 {Z : State} {a0 : Array Value} (hw : ∀ d ∈ tables_1, d.before a0 Z = true) : (Jvm.Cond.code ({ cls := "java/util/Arrays", name := "copyOfRange", desc := "([BII)[B" } : Jvm.MethodName) jdk_65_method_132_code (3 : Nat) (Option.some (Jvm.ClassFile.FieldType.array Jvm.ClassFile.FieldType.byte))).before a0 Z = true := hw _ (List.mem_of_getElem? (i := 109) rfl)
theorem tw_110 {Z : State} {a0 : Array Value} (hw : ∀ d ∈ tables_1, d.before a0 Z = true) : (Jvm.Cond.methodLink "java/util/Arrays" (310 : Nat) ({ cls := "[B", name := "clone", desc := "()Ljava/lang/Object;" } : Jvm.MethodName)).before a0 Z = true := hw _ (List.mem_of_getElem? (i := 110) rfl)
theorem tw_111 {Z : State} {a0 : Array Value} (hw : ∀ d ∈ tables_1, d.before a0 Z = true) : (Jvm.Cond.sameMethod "[B" "java/lang/Object" "clone" "()Ljava/lang/Object;").before a0 Z = true := hw _ (List.mem_of_getElem? (i := 111) rfl)
theorem tw_113 {Z : State} {a0 : Array Value} (hw : ∀ d ∈ tables_1, d.before a0 Z = true) : (Jvm.Cond.instanceMethod ({ cls := "java/lang/Object", name := "clone", desc := "()Ljava/lang/Object;" } : Jvm.MethodName)).before a0 Z = true := hw _ (List.mem_of_getElem? (i := 113) rfl)
theorem tw_114 {Z : State} {a0 : Array Value} (hw : ∀ d ∈ tables_1, d.before a0 Z = true) : (Jvm.Cond.selects "[B" ({ cls := "[B", name := "clone", desc := "()Ljava/lang/Object;" } : Jvm.MethodName) ({ cls := "java/lang/Object", name := "clone", desc := "()Ljava/lang/Object;" } : Jvm.MethodName)).before a0 Z = true := hw _ (List.mem_of_getElem? (i := 114) rfl)
theorem tw_115 {Z : State} {a0 : Array Value} (hw : ∀ d ∈ tables_1, d.before a0 Z = true) : (Jvm.Cond.native ({ cls := "java/lang/Object", name := "clone", desc := "()Ljava/lang/Object;" } : Jvm.MethodName)).before a0 Z = true := hw _ (List.mem_of_getElem? (i := 115) rfl)
theorem tw_116 {Z : State} {a0 : Array Value} (hw : ∀ d ∈ tables_1, d.before a0 Z = true) : (Jvm.Cond.castable "[B" "java/lang/Cloneable").before a0 Z = true := hw _ (List.mem_of_getElem? (i := 116) rfl)
theorem tw_117 {Z : State} {a0 : Array Value} (hw : ∀ d ∈ tables_1, d.before a0 Z = true) : (Jvm.Cond.classLink "java/util/Arrays" (311 : Nat) "[B").before a0 Z = true := hw _ (List.mem_of_getElem? (i := 117) rfl)
theorem tw_119 {Z : State} {a0 : Array Value} (hw : ∀ d ∈ tables_1, d.before a0 Z = true) : (Jvm.Cond.fieldLink "com/example/dirbound/dirbound/ldap/HostPort" (17 : Nat) "com/example/dirbound/dirbound/ldap/HostPort" "folded" "Ljava/lang/String;").before a0 Z = true := hw _ (List.mem_of_getElem? (i := 119) rfl)
theorem tw_120 {Z : State} {a0 : Array Value} (hw : ∀ d ∈ tables_1, d.before a0 Z = true) : (Jvm.Cond.laysFinal "com/example/dirbound/dirbound/ldap/HostPort" "com/example/dirbound/dirbound/ldap/HostPort" "folded" "Ljava/lang/String;").before a0 Z = true := hw _ (List.mem_of_getElem? (i := 120) rfl)
theorem tw_121 {Z : State} {a0 : Array Value} (hw : ∀ d ∈ tables_1, d.before a0 Z = true) : (Jvm.Cond.fieldLink "com/example/dirbound/dirbound/ldap/HostPort" (19 : Nat) "com/example/dirbound/dirbound/ldap/HostPort" "port" "I").before a0 Z = true := hw _ (List.mem_of_getElem? (i := 121) rfl)
theorem tw_122 {Z : State} {a0 : Array Value} (hw : ∀ d ∈ tables_1, d.before a0 Z = true) : (Jvm.Cond.laysFinal "com/example/dirbound/dirbound/ldap/HostPort" "com/example/dirbound/dirbound/ldap/HostPort" "port" "I").before a0 Z = true := hw _ (List.mem_of_getElem? (i := 122) rfl)
theorem tw_123 {Z : State} {a0 : Array Value} (hw : ∀ d ∈ tables_1, d.before a0 Z = true) : (Jvm.Cond.methodLink "com/example/dirbound/dirbound/ldap/HostPortEqualsPinLaw" (30 : Nat) ({ cls := "com/example/dirbound/dirbound/ldap/HostPort", name := "equals", desc := "(Ljava/lang/Object;)Z" } : Jvm.MethodName)).before a0 Z = true := hw _ (List.mem_of_getElem? (i := 123) rfl)
theorem tw_124 {Z : State} {a0 : Array Value} (hw : ∀ d ∈ tables_1, d.before a0 Z = true) : (Jvm.Cond.declares ({ cls := "com/example/dirbound/dirbound/ldap/HostPort", name := "equals", desc := "(Ljava/lang/Object;)Z" } : Jvm.MethodName)).before a0 Z = true := hw _ (List.mem_of_getElem? (i := 124) rfl)
theorem tw_125 {Z : State} {a0 : Array Value} (hw : ∀ d ∈ tables_1, d.before a0 Z = true) : (Jvm.Cond.instanceMethod ({ cls := "com/example/dirbound/dirbound/ldap/HostPort", name := "equals", desc := "(Ljava/lang/Object;)Z" } : Jvm.MethodName)).before a0 Z = true := hw _ (List.mem_of_getElem? (i := 125) rfl)
theorem tw_126 {Z : State} {a0 : Array Value} (hw : ∀ d ∈ tables_1, d.before a0 Z = true) : (Jvm.Cond.selects "com/example/dirbound/dirbound/ldap/HostPort" ({ cls := "com/example/dirbound/dirbound/ldap/HostPort", name := "equals", desc := "(Ljava/lang/Object;)Z" } : Jvm.MethodName) ({ cls := "com/example/dirbound/dirbound/ldap/HostPort", name := "equals", desc := "(Ljava/lang/Object;)Z" } : Jvm.MethodName)).before a0 Z = true := hw _ (List.mem_of_getElem? (i := 126) rfl)
theorem tw_127 {Z : State} {a0 : Array Value} (hw : ∀ d ∈ tables_1, d.before a0 Z = true) : (Jvm.Cond.code ({ cls := "com/example/dirbound/dirbound/ldap/HostPort", name := "equals", desc := "(Ljava/lang/Object;)Z" } : Jvm.MethodName) prog_48_method_9_code (3 : Nat) (Option.some Jvm.ClassFile.FieldType.boolean)).before a0 Z = true := hw _ (List.mem_of_getElem? (i := 127) rfl)
theorem tw_128 {Z : State} {a0 : Array Value} (hw : ∀ d ∈ tables_1, d.before a0 Z = true) : (Jvm.Cond.classLink "com/example/dirbound/dirbound/ldap/HostPort" (8 : Nat) "com/example/dirbound/dirbound/ldap/HostPort").before a0 Z = true := hw _ (List.mem_of_getElem? (i := 128) rfl)
theorem tw_130 {Z : State} {a0 : Array Value} (hw : ∀ d ∈ tables_1, d.before a0 Z = true) : (Jvm.Cond.methodLink "com/example/dirbound/dirbound/ldap/HostPort" (71 : Nat) ({ cls := "java/lang/String", name := "equals", desc := "(Ljava/lang/Object;)Z" } : Jvm.MethodName)).before a0 Z = true := hw _ (List.mem_of_getElem? (i := 130) rfl)
theorem tw_131 {Z : State} {a0 : Array Value} (hw : ∀ d ∈ tables_1, d.before a0 Z = true) : (Jvm.Cond.declares ({ cls := "java/lang/String", name := "equals", desc := "(Ljava/lang/Object;)Z" } : Jvm.MethodName)).before a0 Z = true := hw _ (List.mem_of_getElem? (i := 131) rfl)
theorem tw_132 {Z : State} {a0 : Array Value} (hw : ∀ d ∈ tables_1, d.before a0 Z = true) : (Jvm.Cond.instanceMethod ({ cls := "java/lang/String", name := "equals", desc := "(Ljava/lang/Object;)Z" } : Jvm.MethodName)).before a0 Z = true := hw _ (List.mem_of_getElem? (i := 132) rfl)
theorem tw_133 {Z : State} {a0 : Array Value} (hw : ∀ d ∈ tables_1, d.before a0 Z = true) : (Jvm.Cond.selects "java/lang/String" ({ cls := "java/lang/String", name := "equals", desc := "(Ljava/lang/Object;)Z" } : Jvm.MethodName) ({ cls := "java/lang/String", name := "equals", desc := "(Ljava/lang/Object;)Z" } : Jvm.MethodName)).before a0 Z = true := hw _ (List.mem_of_getElem? (i := 133) rfl)
theorem tw_134 {Z : State} {a0 : Array Value} (hw : ∀ d ∈ tables_1, d.before a0 Z = true) : (Jvm.Cond.code ({ cls := "java/lang/String", name := "equals", desc := "(Ljava/lang/Object;)Z" } : Jvm.MethodName) jdk_42_method_66_code (3 : Nat) (Option.some Jvm.ClassFile.FieldType.boolean)).before a0 Z = true := hw _ (List.mem_of_getElem? (i := 134) rfl)
theorem tw_135 {Z : State} {a0 : Array Value} (hw : ∀ d ∈ tables_1, d.before a0 Z = true) : (Jvm.Cond.superclass "java/lang/String" "java/lang/Object").before a0 Z = true := hw _ (List.mem_of_getElem? (i := 135) rfl)
theorem tw_136 {Z : State} {a0 : Array Value} (hw : ∀ d ∈ tables_1, d.before a0 Z = true) : (Jvm.Cond.noSuperclass "java/lang/Object").before a0 Z = true := hw _ (List.mem_of_getElem? (i := 136) rfl)
theorem tw_137 {Z : State} {a0 : Array Value} (hw : ∀ d ∈ tables_1, d.before a0 Z = true) : (Jvm.Cond.methodLink "java/lang/String" (177 : Nat) ({ cls := "java/lang/StringUTF16", name := "compress", desc := "([CII)[B" } : Jvm.MethodName)).before a0 Z = true := hw _ (List.mem_of_getElem? (i := 137) rfl)
theorem tw_138 {Z : State} {a0 : Array Value} (hw : ∀ d ∈ tables_1, d.before a0 Z = true) : (Jvm.Cond.static ({ cls := "java/lang/StringUTF16", name := "compress", desc := "([CII)[B" } : Jvm.MethodName)).before a0 Z = true := hw _ (List.mem_of_getElem? (i := 138) rfl)
theorem tw_139 {Z : State} {a0 : Array Value} (hw : ∀ d ∈ tables_1, d.before a0 Z = true) : (Jvm.Cond.initialized "java/lang/StringUTF16").before a0 Z = true := hw _ (List.mem_of_getElem? (i := 139) rfl)
theorem tw_140 {Z : State} {a0 : Array Value} (hw : ∀ d ∈ tables_1, d.before a0 Z = true) : (Jvm.Cond.code ({ cls := "java/lang/StringUTF16", name := "compress", desc := "([CII)[B" } : Jvm.MethodName) jdk_52_method_16_code (6 : Nat) (Option.some (Jvm.ClassFile.FieldType.array Jvm.ClassFile.FieldType.byte))).before a0 Z = true := hw _ (List.mem_of_getElem? (i := 140) rfl)
theorem tw_141 {Z : State} {a0 : Array Value} (hw : ∀ d ∈ tables_1, d.before a0 Z = true) : (Jvm.Cond.methodLink "java/lang/StringUTF16" (115 : Nat) ({ cls := "java/lang/StringUTF16", name := "compress", desc := "([CI[BII)I" } : Jvm.MethodName)).before a0 Z = true := hw _ (List.mem_of_getElem? (i := 141) rfl)
theorem tw_142 {Z : State} {a0 : Array Value} (hw : ∀ d ∈ tables_1, d.before a0 Z = true) : (Jvm.Cond.static ({ cls := "java/lang/StringUTF16", name := "compress", desc := "([CI[BII)I" } : Jvm.MethodName)).before a0 Z = true := hw _ (List.mem_of_getElem? (i := 142) rfl)
theorem tw_143 {Z : State} {a0 : Array Value} (hw : ∀ d ∈ tables_1, d.before a0 Z = true) : (Jvm.Cond.code ({ cls := "java/lang/StringUTF16", name := "compress", desc := "([CI[BII)I" } : Jvm.MethodName) jdk_52_method_21_code (7 : Nat) (Option.some Jvm.ClassFile.FieldType.int)).before a0 Z = true := hw _ (List.mem_of_getElem? (i := 143) rfl)
theorem tw_144 {Z : State} {a0 : Array Value} (hw : ∀ d ∈ tables_1, d.before a0 Z = true) : (Jvm.Cond.methodLink "java/lang/String" (47 : Nat) ({ cls := "java/lang/StringUTF16", name := "coderFromArrayLen", desc := "([BI)B" } : Jvm.MethodName)).before a0 Z = true := hw _ (List.mem_of_getElem? (i := 144) rfl)
theorem tw_145 {Z : State} {a0 : Array Value} (hw : ∀ d ∈ tables_1, d.before a0 Z = true) : (Jvm.Cond.static ({ cls := "java/lang/StringUTF16", name := "coderFromArrayLen", desc := "([BI)B" } : Jvm.MethodName)).before a0 Z = true := hw _ (List.mem_of_getElem? (i := 145) rfl)
theorem tw_146 {Z : State} {a0 : Array Value} (hw : ∀ d ∈ tables_1, d.before a0 Z = true) : (Jvm.Cond.code ({ cls := "java/lang/StringUTF16", name := "coderFromArrayLen", desc := "([BI)B" } : Jvm.MethodName) jdk_52_method_15_code (2 : Nat) (Option.some Jvm.ClassFile.FieldType.byte)).before a0 Z = true := hw _ (List.mem_of_getElem? (i := 146) rfl)
theorem tw_147 {Z : State} {a0 : Array Value} (hw : ∀ d ∈ tables_1, d.before a0 Z = true) : (Jvm.Cond.methodLink "com/example/dirbound/dirbound/ldap/HostPortEqualsPinLaw" (39 : Nat) ({ cls := "java/lang/String", name := "valueOf", desc := "(C)Ljava/lang/String;" } : Jvm.MethodName)).before a0 Z = true := hw _ (List.mem_of_getElem? (i := 147) rfl)
theorem tw_148 {Z : State} {a0 : Array Value} (hw : ∀ d ∈ tables_1, d.before a0 Z = true) : (Jvm.Cond.static ({ cls := "java/lang/String", name := "valueOf", desc := "(C)Ljava/lang/String;" } : Jvm.MethodName)).before a0 Z = true := hw _ (List.mem_of_getElem? (i := 148) rfl)
theorem tw_149 {Z : State} {a0 : Array Value} (hw : ∀ d ∈ tables_1, d.before a0 Z = true) : (Jvm.Cond.code ({ cls := "java/lang/String", name := "valueOf", desc := "(C)Ljava/lang/String;" } : Jvm.MethodName) jdk_42_method_139_code (1 : Nat) (Option.some (Jvm.ClassFile.FieldType.object "java/lang/String"))).before a0 Z = true := hw _ (List.mem_of_getElem? (i := 149) rfl)
theorem tw_150 {Z : State} {a0 : Array Value} (hw : ∀ d ∈ tables_1, d.before a0 Z = true) : (Jvm.Cond.methodLink "java/lang/String" (1015 : Nat) ({ cls := "java/lang/StringLatin1", name := "canEncode", desc := "(C)Z" } : Jvm.MethodName)).before a0 Z = true := hw _ (List.mem_of_getElem? (i := 150) rfl)
theorem tw_151 {Z : State} {a0 : Array Value} (hw : ∀ d ∈ tables_1, d.before a0 Z = true) : (Jvm.Cond.static ({ cls := "java/lang/StringLatin1", name := "canEncode", desc := "(C)Z" } : Jvm.MethodName)).before a0 Z = true := hw _ (List.mem_of_getElem? (i := 151) rfl)
theorem tw_152 {Z : State} {a0 : Array Value} (hw : ∀ d ∈ tables_1, d.before a0 Z = true) : (Jvm.Cond.initialized "java/lang/StringLatin1").before a0 Z = true := hw _ (List.mem_of_getElem? (i := 152) rfl)
theorem tw_153 {Z : State} {a0 : Array Value} (hw : ∀ d ∈ tables_1, d.before a0 Z = true) : (Jvm.Cond.code ({ cls := "java/lang/StringLatin1", name := "canEncode", desc := "(C)Z" } : Jvm.MethodName) jdk_43_method_3_code (1 : Nat) (Option.some Jvm.ClassFile.FieldType.boolean)).before a0 Z = true := hw _ (List.mem_of_getElem? (i := 153) rfl)
theorem tw_154 {Z : State} {a0 : Array Value} (hw : ∀ d ∈ tables_1, d.before a0 Z = true) : (Jvm.Cond.classLink "java/lang/String" (10 : Nat) "java/lang/String").before a0 Z = true := hw _ (List.mem_of_getElem? (i := 154) rfl)
theorem tw_155 {Z : State} {a0 : Array Value} (hw : ∀ d ∈ tables_1, d.before a0 Z = true) : (Jvm.Cond.methodLink "java/lang/String" (1018 : Nat) ({ cls := "java/lang/StringLatin1", name := "toBytes", desc := "(C)[B" } : Jvm.MethodName)).before a0 Z = true := hw _ (List.mem_of_getElem? (i := 155) rfl)
theorem tw_156 {Z : State} {a0 : Array Value} (hw : ∀ d ∈ tables_1, d.before a0 Z = true) : (Jvm.Cond.static ({ cls := "java/lang/StringLatin1", name := "toBytes", desc := "(C)[B" } : Jvm.MethodName)).before a0 Z = true := hw _ (List.mem_of_getElem? (i := 156) rfl)
theorem tw_157 {Z : State} {a0 : Array Value} (hw : ∀ d ∈ tables_1, d.before a0 Z = true) : (Jvm.Cond.code ({ cls := "java/lang/StringLatin1", name := "toBytes", desc := "(C)[B" } : Jvm.MethodName) jdk_43_method_46_code (1 : Nat) (Option.some (Jvm.ClassFile.FieldType.array Jvm.ClassFile.FieldType.byte))).before a0 Z = true := hw _ (List.mem_of_getElem? (i := 157) rfl)
theorem tw_158 {Z : State} {a0 : Array Value} (hw : ∀ d ∈ tables_1, d.before a0 Z = true) : (Jvm.Cond.methodLink "java/lang/String" (209 : Nat) ({ cls := "java/lang/String", name := "<init>", desc := "([BB)V" } : Jvm.MethodName)).before a0 Z = true := hw _ (List.mem_of_getElem? (i := 158) rfl)
theorem tw_159 {Z : State} {a0 : Array Value} (hw : ∀ d ∈ tables_1, d.before a0 Z = true) : (Jvm.Cond.instanceMethod ({ cls := "java/lang/String", name := "<init>", desc := "([BB)V" } : Jvm.MethodName)).before a0 Z = true := hw _ (List.mem_of_getElem? (i := 159) rfl)
theorem tw_160 {Z : State} {a0 : Array Value} (hw : ∀ d ∈ tables_1, d.before a0 Z = true) : (Jvm.Cond.code ({ cls := "java/lang/String", name := "<init>", desc := "([BB)V" } : Jvm.MethodName) jdk_42_method_151_code (3 : Nat) (Option.none : Option Jvm.ClassFile.FieldType)).before a0 Z = true := hw _ (List.mem_of_getElem? (i := 160) rfl)
theorem tw_161 {Z : State} {a0 : Array Value} (hw : ∀ d ∈ tables_1, d.before a0 Z = true) : (Jvm.Cond.methodLink "com/example/dirbound/dirbound/ldap/HostPort" (42 : Nat) ({ cls := "java/lang/String", name := "charAt", desc := "(I)C" } : Jvm.MethodName)).before a0 Z = true := hw _ (List.mem_of_getElem? (i := 161) rfl)
theorem tw_162 {Z : State} {a0 : Array Value} (hw : ∀ d ∈ tables_1, d.before a0 Z = true) : (Jvm.Cond.declares ({ cls := "java/lang/String", name := "charAt", desc := "(I)C" } : Jvm.MethodName)).before a0 Z = true := hw _ (List.mem_of_getElem? (i := 162) rfl)
theorem tw_163 {Z : State} {a0 : Array Value} (hw : ∀ d ∈ tables_1, d.before a0 Z = true) : (Jvm.Cond.instanceMethod ({ cls := "java/lang/String", name := "charAt", desc := "(I)C" } : Jvm.MethodName)).before a0 Z = true := hw _ (List.mem_of_getElem? (i := 163) rfl)
theorem tw_164 {Z : State} {a0 : Array Value} (hw : ∀ d ∈ tables_1, d.before a0 Z = true) : (Jvm.Cond.selects "java/lang/String" ({ cls := "java/lang/String", name := "charAt", desc := "(I)C" } : Jvm.MethodName) ({ cls := "java/lang/String", name := "charAt", desc := "(I)C" } : Jvm.MethodName)).before a0 Z = true := hw _ (List.mem_of_getElem? (i := 164) rfl)
theorem tw_165 {Z : State} {a0 : Array Value} (hw : ∀ d ∈ tables_1, d.before a0 Z = true) : (Jvm.Cond.code ({ cls := "java/lang/String", name := "charAt", desc := "(I)C" } : Jvm.MethodName) jdk_42_method_56_code (2 : Nat) (Option.some Jvm.ClassFile.FieldType.char)).before a0 Z = true := hw _ (List.mem_of_getElem? (i := 165) rfl)
theorem tw_166 {Z : State} {a0 : Array Value} (hw : ∀ d ∈ tables_1, d.before a0 Z = true) : (Jvm.Cond.methodLink "java/lang/String" (492 : Nat) ({ cls := "java/lang/String", name := "isLatin1", desc := "()Z" } : Jvm.MethodName)).before a0 Z = true := hw _ (List.mem_of_getElem? (i := 166) rfl)
theorem tw_167 {Z : State} {a0 : Array Value} (hw : ∀ d ∈ tables_1, d.before a0 Z = true) : (Jvm.Cond.declares ({ cls := "java/lang/String", name := "isLatin1", desc := "()Z" } : Jvm.MethodName)).before a0 Z = true := hw _ (List.mem_of_getElem? (i := 167) rfl)
theorem tw_168 {Z : State} {a0 : Array Value} (hw : ∀ d ∈ tables_1, d.before a0 Z = true) : (Jvm.Cond.instanceMethod ({ cls := "java/lang/String", name := "isLatin1", desc := "()Z" } : Jvm.MethodName)).before a0 Z = true := hw _ (List.mem_of_getElem? (i := 168) rfl)
theorem tw_169 {Z : State} {a0 : Array Value} (hw : ∀ d ∈ tables_1, d.before a0 Z = true) : (Jvm.Cond.selects "java/lang/String" ({ cls := "java/lang/String", name := "isLatin1", desc := "()Z" } : Jvm.MethodName) ({ cls := "java/lang/String", name := "isLatin1", desc := "()Z" } : Jvm.MethodName)).before a0 Z = true := hw _ (List.mem_of_getElem? (i := 169) rfl)
theorem tw_170 {Z : State} {a0 : Array Value} (hw : ∀ d ∈ tables_1, d.before a0 Z = true) : (Jvm.Cond.code ({ cls := "java/lang/String", name := "isLatin1", desc := "()Z" } : Jvm.MethodName) jdk_42_method_154_code (1 : Nat) (Option.some Jvm.ClassFile.FieldType.boolean)).before a0 Z = true := hw _ (List.mem_of_getElem? (i := 170) rfl)
theorem tw_171 {Z : State} {a0 : Array Value} (hw : ∀ d ∈ tables_1, d.before a0 Z = true) : (Jvm.Cond.methodLink "java/lang/String" (495 : Nat) ({ cls := "java/lang/StringLatin1", name := "charAt", desc := "([BI)C" } : Jvm.MethodName)).before a0 Z = true := hw _ (List.mem_of_getElem? (i := 171) rfl)
theorem tw_172 {Z : State} {a0 : Array Value} (hw : ∀ d ∈ tables_1, d.before a0 Z = true) : (Jvm.Cond.static ({ cls := "java/lang/StringLatin1", name := "charAt", desc := "([BI)C" } : Jvm.MethodName)).before a0 Z = true := hw _ (List.mem_of_getElem? (i := 172) rfl)
theorem tw_173 {Z : State} {a0 : Array Value} (hw : ∀ d ∈ tables_1, d.before a0 Z = true) : (Jvm.Cond.code ({ cls := "java/lang/StringLatin1", name := "charAt", desc := "([BI)C" } : Jvm.MethodName) jdk_43_method_2_code (2 : Nat) (Option.some Jvm.ClassFile.FieldType.char)).before a0 Z = true := hw _ (List.mem_of_getElem? (i := 173) rfl)
theorem tw_174 {Z : State} {a0 : Array Value} (hw : ∀ d ∈ tables_1, d.before a0 Z = true) : (Jvm.Cond.methodLink "java/lang/StringLatin1" (9 : Nat) ({ cls := "java/lang/String", name := "checkIndex", desc := "(II)V" } : Jvm.MethodName)).before a0 Z = true := hw _ (List.mem_of_getElem? (i := 174) rfl)
theorem tw_175 {Z : State} {a0 : Array Value} (hw : ∀ d ∈ tables_1, d.before a0 Z = true) : (Jvm.Cond.static ({ cls := "java/lang/String", name := "checkIndex", desc := "(II)V" } : Jvm.MethodName)).before a0 Z = true := hw _ (List.mem_of_getElem? (i := 175) rfl)
theorem tw_176 {Z : State} {a0 : Array Value} (hw : ∀ d ∈ tables_1, d.before a0 Z = true) : (Jvm.Cond.code ({ cls := "java/lang/String", name := "checkIndex", desc := "(II)V" } : Jvm.MethodName) jdk_42_method_155_code (2 : Nat) (Option.none : Option Jvm.ClassFile.FieldType)).before a0 Z = true := hw _ (List.mem_of_getElem? (i := 176) rfl)
theorem tw_177 {Z : State} {a0 : Array Value} (hw : ∀ d ∈ tables_1, d.before a0 Z = true) : (Jvm.Cond.fieldLink "java/lang/String" (1053 : Nat) "jdk/internal/util/Preconditions" "SIOOBE_FORMATTER" "Ljava/util/function/BiFunction;").before a0 Z = true := hw _ (List.mem_of_getElem? (i := 177) rfl)
theorem tw_178 {Z : State} {a0 : Array Value} (hw : ∀ d ∈ tables_1, d.before a0 Z = true) : (Jvm.Cond.initialized "jdk/internal/util/Preconditions").before a0 Z = true := hw _ (List.mem_of_getElem? (i := 178) rfl)
theorem tw_179 {Z : State} {a0 : Array Value} (hw : ∀ d ∈ tables_1, d.before a0 Z = true) : (Jvm.Cond.methodLink "java/lang/String" (1059 : Nat) ({ cls := "jdk/internal/util/Preconditions", name := "checkIndex", desc := "(IILjava/util/function/BiFunction;)I" } : Jvm.MethodName)).before a0 Z = true := hw _ (List.mem_of_getElem? (i := 179) rfl)
theorem tw_180 {Z : State} {a0 : Array Value} (hw : ∀ d ∈ tables_1, d.before a0 Z = true) : (Jvm.Cond.static ({ cls := "jdk/internal/util/Preconditions", name := "checkIndex", desc := "(IILjava/util/function/BiFunction;)I" } : Jvm.MethodName)).before a0 Z = true := hw _ (List.mem_of_getElem? (i := 180) rfl)
theorem tw_181 {Z : State} {a0 : Array Value} (hw : ∀ d ∈ tables_1, d.before a0 Z = true) : (Jvm.Cond.code ({ cls := "jdk/internal/util/Preconditions", name := "checkIndex", desc := "(IILjava/util/function/BiFunction;)I" } : Jvm.MethodName) jdk_41_method_11_code (3 : Nat) (Option.some Jvm.ClassFile.FieldType.int)).before a0 Z = true := hw _ (List.mem_of_getElem? (i := 181) rfl)
theorem tw_182 {Z : State} {a0 : Array Value} (hw : ∀ d ∈ tables_1, d.before a0 Z = true) : (Jvm.Cond.methodLink "com/example/dirbound/dirbound/ldap/HostPort" (128 : Nat) ({ cls := "java/lang/StringBuilder", name := "append", desc := "(C)Ljava/lang/StringBuilder;" } : Jvm.MethodName)).before a0 Z = true := hw _ (List.mem_of_getElem? (i := 182) rfl)
theorem tw_183 {Z : State} {a0 : Array Value} (hw : ∀ d ∈ tables_1, d.before a0 Z = true) : (Jvm.Cond.declares ({ cls := "java/lang/StringBuilder", name := "append", desc := "(C)Ljava/lang/StringBuilder;" } : Jvm.MethodName)).before a0 Z = true := hw _ (List.mem_of_getElem? (i := 183) rfl)
theorem tw_184 {Z : State} {a0 : Array Value} (hw : ∀ d ∈ tables_1, d.before a0 Z = true) : (Jvm.Cond.instanceMethod ({ cls := "java/lang/StringBuilder", name := "append", desc := "(C)Ljava/lang/StringBuilder;" } : Jvm.MethodName)).before a0 Z = true := hw _ (List.mem_of_getElem? (i := 184) rfl)
theorem tw_185 {Z : State} {a0 : Array Value} (hw : ∀ d ∈ tables_1, d.before a0 Z = true) : (Jvm.Cond.selects "java/lang/StringBuilder" ({ cls := "java/lang/StringBuilder", name := "append", desc := "(C)Ljava/lang/StringBuilder;" } : Jvm.MethodName) ({ cls := "java/lang/StringBuilder", name := "append", desc := "(C)Ljava/lang/StringBuilder;" } : Jvm.MethodName)).before a0 Z = true := hw _ (List.mem_of_getElem? (i := 185) rfl)
theorem tw_186 {Z : State} {a0 : Array Value} (hw : ∀ d ∈ tables_1, d.before a0 Z = true) : (Jvm.Cond.code ({ cls := "java/lang/StringBuilder", name := "append", desc := "(C)Ljava/lang/StringBuilder;" } : Jvm.MethodName) jdk_67_method_14_code (2 : Nat) (Option.some (Jvm.ClassFile.FieldType.object "java/lang/StringBuilder"))).before a0 Z = true := hw _ (List.mem_of_getElem? (i := 186) rfl)
theorem tw_187 {Z : State} {a0 : Array Value} (hw : ∀ d ∈ tables_1, d.before a0 Z = true) : (Jvm.Cond.methodLink "java/lang/StringBuilder" (50 : Nat) ({ cls := "java/lang/AbstractStringBuilder", name := "append", desc := "(C)Ljava/lang/AbstractStringBuilder;" } : Jvm.MethodName)).before a0 Z = true := hw _ (List.mem_of_getElem? (i := 187) rfl)
theorem tw_188 {Z : State} {a0 : Array Value} (hw : ∀ d ∈ tables_1, d.before a0 Z = true) : (Jvm.Cond.instanceMethod ({ cls := "java/lang/AbstractStringBuilder", name := "append", desc := "(C)Ljava/lang/AbstractStringBuilder;" } : Jvm.MethodName)).before a0 Z = true := hw _ (List.mem_of_getElem? (i := 188) rfl)
theorem tw_190 {Z : State} {a0 : Array Value} (hw : ∀ d ∈ tables_1, d.before a0 Z = true) : (Jvm.Cond.code ({ cls := "java/lang/AbstractStringBuilder", name := "append", desc := "(C)Ljava/lang/AbstractStringBuilder;" } : Jvm.MethodName) jdk_68_method_31_code (2 : Nat) (Option.some (Jvm.ClassFile.FieldType.object "java/lang/AbstractStringBuilder"))).before a0 Z = true := hw _ (List.mem_of_getElem? (i := 190) rfl)
theorem tw_191 {Z : State} {a0 : Array Value} (hw : ∀ d ∈ tables_1, d.before a0 Z = true) : (Jvm.Cond.methodLink "java/lang/AbstractStringBuilder" (100 : Nat) ({ cls := "java/lang/AbstractStringBuilder", name := "ensureCapacityInternal", desc := "(I)V" } : Jvm.MethodName)).before a0 Z = true := hw _ (List.mem_of_getElem? (i := 191) rfl)
theorem tw_192 {Z : State} {a0 : Array Value} (hw : ∀ d ∈ tables_1, d.before a0 Z = true) : (Jvm.Cond.instanceMethod ({ cls := "java/lang/AbstractStringBuilder", name := "ensureCapacityInternal", desc := "(I)V" } : Jvm.MethodName)).before a0 Z = true := hw _ (List.mem_of_getElem? (i := 192) rfl)
theorem tw_193 {Z : State} {a0 : Array Value} (hw : ∀ d ∈ tables_1, d.before a0 Z = true) : (Jvm.Cond.privateMethod ({ cls := "java/lang/AbstractStringBuilder", name := "ensureCapacityInternal", desc := "(I)V" } : Jvm.MethodName)).before a0 Z = true := hw _ (List.mem_of_getElem? (i := 193) rfl)
theorem tw_194 {Z : State} {a0 : Array Value} (hw : ∀ d ∈ tables_1, d.before a0 Z = true) : (Jvm.Cond.selects "java/lang/StringBuilder" ({ cls := "java/lang/AbstractStringBuilder", name := "ensureCapacityInternal", desc := "(I)V" } : Jvm.MethodName) ({ cls := "java/lang/AbstractStringBuilder", name := "ensureCapacityInternal", desc := "(I)V" } : Jvm.MethodName)).before a0 Z = true := hw _ (List.mem_of_getElem? (i := 194) rfl)
theorem tw_195 {Z : State} {a0 : Array Value} (hw : ∀ d ∈ tables_1, d.before a0 Z = true) : (Jvm.Cond.code ({ cls := "java/lang/AbstractStringBuilder", name := "ensureCapacityInternal", desc := "(I)V" } : Jvm.MethodName) jdk_68_method_9_code (3 : Nat) (Option.none : Option Jvm.ClassFile.FieldType)).before a0 Z = true := hw _ (List.mem_of_getElem? (i := 195) rfl)
theorem tw_196 {Z : State} {a0 : Array Value} (hw : ∀ d ∈ tables_1, d.before a0 Z = true) : (Jvm.Cond.methodLink "java/lang/AbstractStringBuilder" (83 : Nat) ({ cls := "java/lang/AbstractStringBuilder", name := "isLatin1", desc := "()Z" } : Jvm.MethodName)).before a0 Z = true := hw _ (List.mem_of_getElem? (i := 196) rfl)
theorem tw_197 {Z : State} {a0 : Array Value} (hw : ∀ d ∈ tables_1, d.before a0 Z = true) : (Jvm.Cond.methodLink "java/lang/AbstractStringBuilder" (191 : Nat) ({ cls := "java/lang/StringLatin1", name := "canEncode", desc := "(C)Z" } : Jvm.MethodName)).before a0 Z = true := hw _ (List.mem_of_getElem? (i := 197) rfl)
theorem tw_198 {Z : State} {a0 : Array Value} (hw : ∀ d ∈ tables_1, d.before a0 Z = true) : (Jvm.Cond.methodLink "com/example/dirbound/dirbound/ldap/HostPortEqualsPinLaw" (26 : Nat) ({ cls := "com/example/dirbound/dirbound/ldap/HostPortEqualsPinLaw", name := "same", desc := "(CC)Z" } : Jvm.MethodName)).before a0 Z = true := hw _ (List.mem_of_getElem? (i := 198) rfl)
theorem tw_199 {Z : State} {a0 : Array Value} (hw : ∀ d ∈ tables_1, d.before a0 Z = true) : (Jvm.Cond.static ({ cls := "com/example/dirbound/dirbound/ldap/HostPortEqualsPinLaw", name := "same", desc := "(CC)Z" } : Jvm.MethodName)).before a0 Z = true := hw _ (List.mem_of_getElem? (i := 199) rfl)
theorem tw_200 {Z : State} {a0 : Array Value} (hw : ∀ d ∈ tables_1, d.before a0 Z = true) : (Jvm.Cond.code ({ cls := "com/example/dirbound/dirbound/ldap/HostPortEqualsPinLaw", name := "same", desc := "(CC)Z" } : Jvm.MethodName) method_5_code (3 : Nat) (Option.some Jvm.ClassFile.FieldType.boolean)).before a0 Z = true := hw _ (List.mem_of_getElem? (i := 200) rfl)
theorem tw_201 {Z : State} {a0 : Array Value} (hw : ∀ d ∈ tables_1, d.before a0 Z = true) : (Jvm.Cond.methodLink "java/lang/String" (541 : Nat) ({ cls := "java/lang/StringLatin1", name := "equals", desc := "([B[B)Z" } : Jvm.MethodName)).before a0 Z = true := hw _ (List.mem_of_getElem? (i := 201) rfl)
theorem tw_202 {Z : State} {a0 : Array Value} (hw : ∀ d ∈ tables_1, d.before a0 Z = true) : (Jvm.Cond.static ({ cls := "java/lang/StringLatin1", name := "equals", desc := "([B[B)Z" } : Jvm.MethodName)).before a0 Z = true := hw _ (List.mem_of_getElem? (i := 202) rfl)
theorem tw_203 {Z : State} {a0 : Array Value} (hw : ∀ d ∈ tables_1, d.before a0 Z = true) : (Jvm.Cond.code ({ cls := "java/lang/StringLatin1", name := "equals", desc := "([B[B)Z" } : Jvm.MethodName) jdk_43_method_13_code (3 : Nat) (Option.some Jvm.ClassFile.FieldType.boolean)).before a0 Z = true := hw _ (List.mem_of_getElem? (i := 203) rfl)
section OwnStart
variable {args : Array Value} {first s : State} {o : Option Outcome} {idx : List Nat} {t : Term}
end OwnStart

section OwnAuto
theorem own_rlit {k : Int32} {n : Int} (h : k.toInt = n) : n ≤ k.toInt ∧ k.toInt ≤ n := by omega
theorem own_rw {x : Int32} {a b c d : Int} (h : a ≤ x.toInt ∧ x.toInt ≤ b) (h1 : c ≤ a) (h2 : b ≤ d) : c ≤ x.toInt ∧ x.toInt ≤ d := by omega
theorem own_rand {x m z : Int32} {k : Int} (h : (x &&& m) = z) (hm : 0 ≤ m.toInt ∧ m.toInt = k) : 0 ≤ z.toInt ∧ z.toInt ≤ k := by subst h; have := c_and x m hm.1; omega
theorem own_ri2b {x z : Int32} (h : (x.toInt8.toInt32) = z) : -128 ≤ z.toInt ∧ z.toInt ≤ 127 := by subst h; have := c_i2b x; omega
theorem own_rushr {x q z : Int32} {k : Nat} {B : Int} (h : ((x.toUInt32 >>> (q &&& 31).toUInt32).toInt32) = z) (hk : q.toBitVec.toNat % 32 = k) (h0 : 0 < k) (hB : (4294967295 : Int) / ((2 ^ k : Nat) : Int) ≤ B) : 0 ≤ z.toInt ∧ z.toInt ≤ B := by
  subst h
  rw [c_iushr x q k hk h0]
  have h1 : 0 ≤ x.toInt % 4294967296 := Int.emod_nonneg _ (by decide)
  have h2 : x.toInt % 4294967296 ≤ 4294967295 := by have := Int.emod_lt_of_pos x.toInt (by decide : (0 : Int) < 4294967296); omega
  have hp : (0 : Int) < ((2 ^ k : Nat) : Int) := Int.ofNat_lt.mpr (Nat.two_pow_pos k)
  exact ⟨Int.ediv_nonneg h1 (Int.le_of_lt hp), Int.le_trans (Int.ediv_le_ediv hp h2) hB⟩
theorem own_radd {x y z : Int32} {a b c d lo hi : Int} (h : (x + y) = z) (hx : a ≤ x.toInt ∧ x.toInt ≤ b) (hy : c ≤ y.toInt ∧ y.toInt ≤ d) (h1 : lo = a + c ∧ -2147483648 ≤ lo) (h2 : hi = b + d ∧ hi < 2147483648) : lo ≤ z.toInt ∧ z.toInt ≤ hi := by
  subst h; have e := c_iadd x y; have r := rng32 (x + y); omega
theorem own_rsub {x y z : Int32} {a b c d lo hi : Int} (h : (x - y) = z) (hx : a ≤ x.toInt ∧ x.toInt ≤ b) (hy : c ≤ y.toInt ∧ y.toInt ≤ d) (h1 : lo = a - d ∧ -2147483648 ≤ lo) (h2 : hi = b - c ∧ hi < 2147483648) : lo ≤ z.toInt ∧ z.toInt ≤ hi := by
  subst h; have e := c_isub x y; have r := rng32 (x - y); omega
theorem own_bv {x : Int32} (h : 0 ≤ x.toInt ∧ x.toInt ≤ 255) : x.toBitVec.toNat < 2 ^ 8 := by
  have e : x.toInt = x.toBitVec.toInt := rfl
  rw [e, BitVec.toInt_eq_toNat_cond] at h
  split at h
  · omega
  · omega
theorem own_bvi {x : Int32} (h : x.toBitVec.toNat < 2 ^ 8) : 0 ≤ x.toInt ∧ x.toInt ≤ 255 := by
  have e : x.toInt = x.toBitVec.toInt := rfl
  rw [e, BitVec.toInt_eq_toNat_cond]
  split
  · omega
  · omega
theorem own_rxor {x y z : Int32} (h : (x ^^^ y) = z) (hx : 0 ≤ x.toInt ∧ x.toInt ≤ 255) (hy : 0 ≤ y.toInt ∧ y.toInt ≤ 255) : 0 ≤ z.toInt ∧ z.toInt ≤ 255 := by
  subst h
  apply own_bvi
  show (x.toBitVec ^^^ y.toBitVec).toNat < 2 ^ 8
  rw [BitVec.toNat_xor]
  exact Nat.xor_lt_two_pow (own_bv hx) (own_bv hy)
theorem own_ror {x y z : Int32} (h : (x ||| y) = z) (hx : 0 ≤ x.toInt ∧ x.toInt ≤ 255) (hy : 0 ≤ y.toInt ∧ y.toInt ≤ 255) : 0 ≤ z.toInt ∧ z.toInt ≤ 255 := by
  subst h
  apply own_bvi
  show (x.toBitVec ||| y.toBitVec).toNat < 2 ^ 8
  rw [BitVec.toNat_or]
  exact Nat.or_lt_two_pow (own_bv hx) (own_bv hy)
theorem own_i2c_id {x : Int32} {a b : Int} (hr : a ≤ x.toInt ∧ x.toInt ≤ b) (ha : 0 ≤ a) (hb : b ≤ 65535) : (x.toUInt32.toUInt16.toUInt32.toInt32) = x := by apply Int32.toInt_inj.mp; have := c_i2c x; omega
theorem own_i2b_id {x : Int32} {a b : Int} (hr : a ≤ x.toInt ∧ x.toInt ≤ b) (ha : -128 ≤ a) (hb : b ≤ 127) : (x.toInt8.toInt32) = x := by apply Int32.toInt_inj.mp; have := c_i2b x; omega
theorem own_byte_back {c b : Int32} {lo hi : Int} (h : (c.toInt8.toInt32) = b) (hr : lo ≤ c.toInt ∧ c.toInt ≤ hi) (h1 : 0 ≤ lo) (h2 : hi ≤ 255) : (b &&& (255 : Int32)) = c := by
  subst h
  apply Int32.toInt_inj.mp
  rw [c_mask _ (255 : Int32) 8 (by decide) (by decide)]
  have e := c_i2b c
  have e2 : ((2 ^ 8 : Nat) : Int) = 256 := by decide
  rw [e2]; omega
theorem own_nar_byte {x : Int32} {a b : Int} (hr : a ≤ x.toInt ∧ x.toInt ≤ b) (ha : -128 ≤ a) (hb : b ≤ 127) : nar .byte x = x := own_i2b_id hr ha hb
theorem own_nar_char {x : Int32} {a b : Int} (hr : a ≤ x.toInt ∧ x.toInt ≤ b) (ha : 0 ≤ a) (hb : b ≤ 65535) : nar .char x = x := own_i2c_id hr ha hb
theorem own_nlt_r {x y : Int32} {a b c d : Int} (hx : a ≤ x.toInt ∧ x.toInt ≤ b) (hy : c ≤ y.toInt ∧ y.toInt ≤ d) (h : d ≤ a) : ¬ x < y := by rw [Int32.lt_iff_toInt_lt]; omega
theorem own_lat_ne {c d b e : Int32} {l1 h1 l2 h2 : Int} (hb : c.toInt8.toInt32 = b) (he : d.toInt8.toInt32 = e) (rc : l1 ≤ c.toInt ∧ c.toInt ≤ h1) (rd : l2 ≤ d.toInt ∧ d.toInt ≤ h2) (hh : 0 ≤ l1 ∧ h1 ≤ 255 ∧ 0 ≤ l2 ∧ h2 ≤ 255) (h : ¬ c = d) : ¬ b = e := fun q => h (by
  subst hb he
  apply Int32.toInt_inj.mp
  have q' := congrArg Int32.toInt q
  have e1 := c_i2b c; have e2 := c_i2b d
  omega)
end OwnAuto

def EL0 : List (String × Nat) := [("java/lang/String", 7)]
theorem own_EW {Z : State} {a0 : Array Value} (hw : ∀ d ∈ tables_1, d.before a0 Z = true) : EW Z a0 EL0 := (EW.cons (tw_24 hw) (by decide) EW.nil)
theorem own_SA {Z : State} {a0 : Array Value} (hw : ∀ d ∈ tables_1, d.before a0 Z = true) : ∀ a ∈ Bundle.stringAtoms, a.before a0 Z = true := fun a ha => hw a ((by decide +kernel : ∀ w ∈ Bundle.stringAtoms, w ∈ tables_1) a ha)
def Glob (Z : State) (gz1 : Int32) (gv5 : Value) : Prop := Sta Z Z.heap "java/lang/String" "COMPACT_STRINGS" "Z" (.int gz1) ∧ Sta Z Z.heap "jdk/internal/util/Preconditions" "SIOOBE_FORMATTER" "Ljava/util/function/BiFunction;" gv5 ∧ ¬ gz1 = (0 : Int32) ∧ gv5.isRef = true
def own_fold (c : Int32) : Int32 := if c < 65 then c else if 90 < c then c else c - 65 + 97
theorem own_fold_lt {c : Int32} (h : c < 65) : own_fold c = c := by unfold own_fold; rw [if_pos h]
theorem own_fold_gt {c : Int32} (h1 : ¬ c < 65) (h2 : 90 < c) : own_fold c = c := by unfold own_fold; rw [if_neg h1, if_pos h2]
theorem own_fold_up {c z1 z2 : Int32} (h1 : ¬ c < 65) (h2 : ¬ 90 < c) (e1 : c - 65 = z1) (e2 : z1 + 97 = z2) : own_fold c = z2 := by unfold own_fold; rw [if_neg h1, if_neg h2, e1, e2]
theorem own_256 {P : Int32 → Prop} (h : ∀ n : Fin 256, P (Int32.ofNat n.val)) {c : Int32} (r : 0 ≤ c.toInt ∧ c.toInt ≤ 255) : P c := by
  have q := h ⟨c.toInt.toNat, by omega⟩
  have e : Int32.ofNat c.toInt.toNat = c := by
    rw [← Int32.toInt_inj, Int32.toInt_ofNat_of_lt (by omega)]; omega
  simpa only [e] using q
theorem own_rfold {c f : Int32} (h : own_fold c = f) (r : 0 ≤ c.toInt ∧ c.toInt ≤ 255) : 0 ≤ f.toInt ∧ f.toInt ≤ 255 := by
  subst h; exact own_256 (P := fun c => 0 ≤ (own_fold c).toInt ∧ (own_fold c).toInt ≤ 255) (by decide +kernel) r
theorem own_fold_mate {c d : Int32} (rc : 0 ≤ c.toInt ∧ c.toInt ≤ 255) (rd : 0 ≤ d.toInt ∧ d.toInt ≤ 255) (h : own_fold c = own_fold d) (hn : ¬ c = d) : c ^^^ d = 32 ∧ ¬ (c ||| 32) < 97 ∧ ¬ 122 < (c ||| 32) := by
  have e1 := own_256 (P := fun c => own_fold c = c ∨ (¬ c < 65 ∧ ¬ 90 < c ∧ own_fold c = c - 65 + 97)) (by decide +kernel) rc
  have e2 := own_256 (P := fun c => own_fold c = c ∨ (¬ c < 65 ∧ ¬ 90 < c ∧ own_fold c = c - 65 + 97)) (by decide +kernel) rd
  rcases e1 with e1 | ⟨a1, b1, e1⟩ <;> rcases e2 with e2 | ⟨a2, b2, e2⟩
  · exact absurd (e1.symm.trans (h.trans e2)) hn
  · have g : c = d - 65 + 97 := e1.symm.trans (h.trans e2)
    subst g
    exact own_256 (P := fun d => ¬ d < 65 → ¬ 90 < d → (d - 65 + 97) ^^^ d = 32 ∧ ¬ ((d - 65 + 97) ||| 32) < 97 ∧ ¬ 122 < ((d - 65 + 97) ||| 32)) (by decide +kernel) rd a2 b2
  · have g : d = c - 65 + 97 := e2.symm.trans (h.symm.trans e1)
    subst g
    exact own_256 (P := fun c => ¬ c < 65 → ¬ 90 < c → c ^^^ (c - 65 + 97) = 32 ∧ ¬ (c ||| 32) < 97 ∧ ¬ 122 < (c ||| 32)) (by decide +kernel) rc a1 b1
  · have g : c - 65 + 97 = d - 65 + 97 := e1.symm.trans (h.trans e2)
    exact absurd (own_256 (P := fun c => ∀ d, (0 ≤ d.toInt ∧ d.toInt ≤ 255) → c - 65 + 97 = d - 65 + 97 → c = d) (fun n d _ q => by
      have q' : (Int32.ofNat n.val - 65 + 97) - 97 + 65 = (d - 65 + 97) - 97 + 65 := by rw [q]
      simpa only [Int32.add_sub_cancel, Int32.sub_add_cancel] using q') rc d rd g) hn
theorem own_fold_case {c d : Int32} (rc : 0 ≤ c.toInt ∧ c.toInt ≤ 255) (hx : c ^^^ d = 32) (h1 : ¬ (c ||| 32) < 97) (h2 : ¬ 122 < (c ||| 32)) : own_fold c = own_fold d := by
  have e : d = c ^^^ 32 := by rw [← hx, ← Int32.xor_assoc, Int32.xor_self, Int32.zero_xor]
  subst e
  exact own_256 (P := fun c => ¬ (c ||| 32) < 97 → ¬ 122 < (c ||| 32) → own_fold c = own_fold (c ^^^ 32)) (by decide +kernel) rc h1 h2

theorem own_getDI' (l : List Int32) (n : Nat) (d : Int32) : (l.map Value.int).getD n (.int d) = .int (l.getD n d) := by
  induction l generalizing n with
  | nil => rfl
  | cons a r ih => cases n with
    | zero => rfl
    | succ k => exact ih k
theorem own_ofN {i : Nat} (h : i < 2 ^ 31) : (Int32.ofNat i).toInt = i := Int32.toInt_ofNat_of_lt h
theorem own_ofN0 {i : Nat} (h : i < 2 ^ 31) : ¬ Int32.ofNat i < 0 := by rw [Int32.lt_iff_toInt_lt, own_ofN h]; show ¬ (i : Int) < 0; omega
theorem own_ofNc {i : Nat} (h : i < 2 ^ 31) : (Int32.ofNat i).toNatClampNeg = i := by
  have q := nat_of (own_ofN0 h); rw [own_ofN h] at q; omega
theorem own_ofNlt {i : Nat} {z : Int32} (h : i < 2 ^ 31) (q : (i : Int) < z.toInt) : Int32.ofNat i < z := by rw [Int32.lt_iff_toInt_lt, own_ofN h]; exact q
theorem own_ofNge {i : Nat} {z : Int32} (h : i < 2 ^ 31) (q : z.toInt ≤ (i : Int)) : ¬ Int32.ofNat i < z := by rw [Int32.lt_iff_toInt_lt, own_ofN h]; omega
theorem own_ofNs (i : Nat) : Int32.ofNat i + Int32.ofInt 1 = Int32.ofNat (i + 1) := by rw [Int32.ofNat_add]; rfl
theorem own_ltN {z : Int32} {n : Nat} (h : z.toInt = n) : n < 2 ^ 31 := by have := rng32 z; omega
theorem own_takeS {us vs : List Int32} {i : Nat} (h1 : i < us.length) (h2 : i < vs.length) (ht : us.take i = vs.take i) (he : us.getD i 0 = vs.getD i 0) : us.take (i + 1) = vs.take (i + 1) := by
  rw [List.take_succ, List.take_succ, ht]
  simp only [List.getD_eq_getElem?_getD, List.getElem?_eq_getElem h1, List.getElem?_eq_getElem h2, Option.getD_some] at he
  rw [List.getElem?_eq_getElem h1, List.getElem?_eq_getElem h2, he]
theorem own_lc {α : Type} {a b : α} {x y : List α} (h : a = b) (q : x = y) : a :: x = b :: y := by rw [h, q]
theorem own_l1 {α : Type} {a b : α} {x y : List α} (h : ¬ a = b) : ¬ a :: x = b :: y := fun q => h (List.cons.inj q).1
theorem own_l2 {α : Type} {a b : α} {x y : List α} (h : ¬ x = y) : ¬ a :: x = b :: y := fun q => h (List.cons.inj q).2
def own_b (c : Int32) : Int32 := c.toInt8.toInt32
def own_vb (c : Int32) : Value := .int c.toInt8.toInt32
def own_lat (cs : List Int32) : Prop := cs.length ≤ 3 ∧ ∀ c ∈ cs, 0 ≤ c.toInt ∧ c.toInt ≤ 255
theorem own_lat_0 : own_lat [] := ⟨by decide, fun c h => nomatch h⟩
theorem own_lat_1 {a : Int32} (ra : 0 ≤ a.toInt ∧ a.toInt ≤ 255) : own_lat [a] := ⟨by simp, fun c h => by rcases List.mem_singleton.mp h with rfl; exact ra⟩
theorem own_lat_2 {a b : Int32} (ra : 0 ≤ a.toInt ∧ a.toInt ≤ 255) (rb : 0 ≤ b.toInt ∧ b.toInt ≤ 255) : own_lat [a, b] := ⟨by simp, fun c h => by
  rcases List.mem_cons.mp h with rfl | h
  · exact ra
  · rcases List.mem_singleton.mp h with rfl; exact rb⟩
theorem own_lat_3 {a b d : Int32} (ra : 0 ≤ a.toInt ∧ a.toInt ≤ 255) (rb : 0 ≤ b.toInt ∧ b.toInt ≤ 255) (rd : 0 ≤ d.toInt ∧ d.toInt ≤ 255) : own_lat [a, b, d] := ⟨by simp, fun c h => by
  rcases List.mem_cons.mp h with rfl | h
  · exact ra
  · rcases List.mem_cons.mp h with rfl | h
    · exact rb
    · rcases List.mem_singleton.mp h with rfl; exact rd⟩
theorem own_zlit {z : Int32} {n : Nat} {k : Int32} (h : z.toInt = n) (e : k.toInt = n) : z = k := Int32.toInt_inj.mp (h.trans e.symm)
theorem own_lat_cases {cs : List Int32} {z : Int32} (h : own_lat cs) (hz : z.toInt = cs.length) : (cs = [] ∧ z = 0) ∨ (∃ a, cs = [a] ∧ z = 1 ∧ (0 ≤ a.toInt ∧ a.toInt ≤ 255)) ∨ (∃ a b, cs = [a, b] ∧ z = 2 ∧ (0 ≤ a.toInt ∧ a.toInt ≤ 255) ∧ (0 ≤ b.toInt ∧ b.toInt ≤ 255)) ∨ (∃ a b c, cs = [a, b, c] ∧ z = 3 ∧ (0 ≤ a.toInt ∧ a.toInt ≤ 255) ∧ (0 ≤ b.toInt ∧ b.toInt ≤ 255) ∧ (0 ≤ c.toInt ∧ c.toInt ≤ 255)) := by
  match cs, h, hz with
  | [], h, hz => exact Or.inl ⟨rfl, own_zlit hz rfl⟩
  | [a], h, hz => exact Or.inr (Or.inl ⟨a, rfl, own_zlit hz rfl, h.2 a (by simp)⟩)
  | [a, b], h, hz => exact Or.inr (Or.inr (Or.inl ⟨a, b, rfl, own_zlit hz rfl, h.2 a (by simp), h.2 b (by simp)⟩))
  | [a, b, c], h, hz => exact Or.inr (Or.inr (Or.inr ⟨a, b, c, rfl, own_zlit hz rfl, h.2 a (by simp), h.2 b (by simp), h.2 c (by simp)⟩))
  | a :: b :: c :: d :: r, h, hz => exact absurd h.1 (by simp)
theorem own_b_inj : ∀ {cs ds : List Int32}, (∀ c ∈ cs, 0 ≤ c.toInt ∧ c.toInt ≤ 255) → (∀ c ∈ ds, 0 ≤ c.toInt ∧ c.toInt ≤ 255) → cs.map own_b = ds.map own_b → cs = ds
  | [], [], _, _, _ => rfl
  | [], _ :: _, _, _, h => by simp at h
  | _ :: _, [], _, _, h => by simp at h
  | a :: x, b :: y, ha, hb, h => by
    simp only [List.map_cons, List.cons.injEq] at h
    have e1 : a = b := by
      by_cases q : a = b
      · exact q
      · exact absurd h.1 (own_lat_ne rfl rfl (ha a (by simp)) (hb b (by simp)) (by decide) q)
    have e2 := own_b_inj (fun c hc => ha c (List.mem_cons_of_mem _ hc)) (fun c hc => hb c (List.mem_cons_of_mem _ hc)) h.2
    rw [e1, e2]
theorem own_mapvb (cs : List Int32) : cs.map own_vb = (cs.map own_b).map Value.int := by rw [List.map_map]; rfl
theorem own_cs_0_3 {z : Int32} (h : 0 ≤ z.toInt ∧ z.toInt ≤ 3) : z = (0 : Int32) ∨ z = (1 : Int32) ∨ z = (2 : Int32) ∨ z = (3 : Int32) := by
  have q : z.toInt = 0 ∨ z.toInt = 1 ∨ z.toInt = 2 ∨ z.toInt = 3 := by omega
  rcases q with h | h | h | h <;> simp [← Int32.toInt_inj, h]
def own_l3 (n a b c : Int32) : List Int32 := if n = 0 then [] else if n = 1 then [a] else if n = 2 then [a, b] else [a, b, c]
theorem own_l3_0 {a b c : Int32} : own_l3 0 a b c = [] := by unfold own_l3; rw [if_pos rfl]
theorem own_l3_1 {a b c : Int32} : own_l3 1 a b c = [a] := by unfold own_l3; rw [if_neg (by decide), if_pos rfl]
theorem own_l3_2 {a b c : Int32} : own_l3 2 a b c = [a, b] := by unfold own_l3; rw [if_neg (by decide), if_neg (by decide), if_pos rfl]
theorem own_l3_3 {a b c : Int32} : own_l3 3 a b c = [a, b, c] := by unfold own_l3; rw [if_neg (by decide), if_neg (by decide), if_neg (by decide)]
theorem own_l3_len {n a b c : Int32} (r : 0 ≤ n.toInt ∧ n.toInt ≤ 3) : ((own_l3 n a b c).length : Int) = n.toInt := by
  rcases own_cs_0_3 r with rfl | rfl | rfl | rfl
  · rw [own_l3_0]; rfl
  · rw [own_l3_1]; rfl
  · rw [own_l3_2]; rfl
  · rw [own_l3_3]; rfl
theorem own_ds_len {n k a b c a' b' c' : Int32} {u v cs ds : List Int32} (h1 : own_l3 n a b c = cs) (h2 : cs.map own_fold = u) (h3 : own_l3 k a' b' c' = ds) (h4 : ds.map own_fold = v) (rn : 0 ≤ n.toInt ∧ n.toInt ≤ 3) (rk : 0 ≤ k.toInt ∧ k.toInt ≤ 3) (hne : ¬ n = k) : ¬ u = v := by
  intro q
  have e := congrArg List.length q
  rw [← h2, ← h4, List.length_map, List.length_map, ← h1, ← h3] at e
  have e1 := own_l3_len (a := a) (b := b) (c := c) rn
  have e2 := own_l3_len (a := a') (b := b') (c := c') rk
  exact hne (Int32.toInt_inj.mp (by omega))
theorem own_ds0 {a b c : Int32} {u cs : List Int32} (h1 : own_l3 0 a b c = cs) (h2 : cs.map own_fold = u) : u = [] := by rw [← h2, ← h1, own_l3_0]; rfl
theorem own_ds1 {a b c f : Int32} {u cs : List Int32} (h1 : own_l3 1 a b c = cs) (h2 : cs.map own_fold = u) (e0 : own_fold a = f) : u = [f] := by rw [← h2, ← h1, own_l3_1, ← e0]; rfl
theorem own_ds2 {a b c f g : Int32} {u cs : List Int32} (h1 : own_l3 2 a b c = cs) (h2 : cs.map own_fold = u) (e0 : own_fold a = f) (e1 : own_fold b = g) : u = [f, g] := by rw [← h2, ← h1, own_l3_2, ← e0, ← e1]; rfl
theorem own_ds3 {a b c f g k : Int32} {u cs : List Int32} (h1 : own_l3 3 a b c = cs) (h2 : cs.map own_fold = u) (e0 : own_fold a = f) (e1 : own_fold b = g) (e2 : own_fold c = k) : u = [f, g, k] := by rw [← h2, ← h1, own_l3_3, ← e0, ← e1, ← e2]; rfl
theorem d1_0 : decode method_3_code 0 = .ok (.iload_n 0, 1) := by decide +kernel
theorem d1_1 : decode method_3_code 1 = .ok (.bipush 8, 2) := by decide +kernel
theorem d1_3 : decode method_3_code 3 = .ok (.iload_n 1, 1) := by decide +kernel
theorem d1_4 : decode method_3_code 4 = .ok (.imul, 1) := by decide +kernel
theorem d1_5 : decode method_3_code 5 = .ok (.iushr, 1) := by decide +kernel
theorem d1_6 : decode method_3_code 6 = .ok (.sipush 255, 3) := by decide +kernel
theorem d1_9 : decode method_3_code 9 = .ok (.iand, 1) := by decide +kernel
theorem d1_10 : decode method_3_code 10 = .ok (.i2c, 1) := by decide +kernel
theorem d1_11 : decode method_3_code 11 = .ok (.ireturn, 1) := by decide +kernel
theorem ef_1_II (m : MethodId) (x0 : Int32) (x1 : Int32) : entryFrame m #[(.int x0), (.int x1)] 2 = mkF m 0 #[.val (.int x0), .val (.int x1)] [] := by first | (simp [entryFrame, mkF, argsToLocals, Value.category]; done) | rfl
theorem pn_c0 : plainName "com/example/dirbound/dirbound/ldap/HostPortEqualsPinLaw" = true := by first | (simp [plainName, overriddenIn]; done) | decide +kernel
-- com/example/dirbound/dirbound/ldap/HostPortEqualsPinLaw.ch
set_option maxRecDepth 65536 in
set_option maxHeartbeats 4000000 in
theorem au_1 (l : Launch) (Z : State) (a0 : Array Value) (hw : ∀ d ∈ tables_1, d.before a0 Z = true) (p0 : Int32) (h0 : Heap) (n0 : Nat) (Z0 : n0 ≤ h0.size) :
    Ctr l Z (⟨"com/example/dirbound/dirbound/ldap/HostPortEqualsPinLaw", "ch", "(II)C"⟩ : MethodName) method_3_code 2 (some .char) ({ frames := 0, cells := 0, slots := 0, locals := 0 } : Room) #[(.int p0), (.int 0)] h0 (fun v h L => ∃ (y0 : Int32) (y1 : Int32), ((p0.toUInt32 >>> ((0 : Int32) &&& 31).toUInt32).toInt32) = y1 ∧ (y1 &&& (255 : Int32)) = y0 ∧ v = some (.int y0) ∧ Fr n0 L ∧ h = h0) := by
  refine Ctr.of (plainFor_of_name pn_c0) ?_
  intro p e s m below meth c T0 hx hZ hby hml hown hnm hret hlk e0 es X0
  refine Go.cast (ef_1_II m p0 (0 : Int32)) ?_
  generalize hFF : EndN s _ _ _ = FF
  refine Go.iloadN X0 hx (pc' := 1) rfl (hb hby d1_0) rfl ?_
  refine Go.bipush X0 hx (pc' := 3) rfl (hb hby d1_1) (v := (8 : Int32)) (by decide) ?_
  refine Go.iloadN X0 hx (pc' := 4) rfl (hb hby d1_3) rfl ?_
  refine Go.imul X0 hx (pc' := 5) rfl (hb hby d1_4) ?_
  rw [show ((8 : Int32) * (0 : Int32)) = (0 : Int32) from by decide]
  refine Go.iushr X0 hx (pc' := 6) rfl (hb hby d1_5) ?_
  generalize hz1 : ((p0.toUInt32 >>> ((0 : Int32) &&& 31).toUInt32).toInt32) = z1
  refine Go.sipush X0 hx (pc' := 9) rfl (hb hby d1_6) (v := (255 : Int32)) (by decide) ?_
  refine Go.iand X0 hx (pc' := 10) rfl (hb hby d1_9) ?_
  generalize hz2 : (z1 &&& (255 : Int32)) = z2
  refine Go.i2c X0 hx (pc' := 11) rfl (hb hby d1_10) ?_
  have r3 : 0 ≤ z2.toInt ∧ z2.toInt ≤ 255 := own_rand hz2 (by decide)
  rw [show (z2.toUInt32.toUInt16.toUInt32.toInt32) = z2 from (own_i2c_id r3 (by decide) (by decide))]
  subst hFF
  refine Go.retN X0 hx hlk (t := .char) hret (by simp) (hb hby d1_11) (by decide) (by decide) ?_
  rw [e0]
  exact ⟨z2, z1, hz1, hz2, (congrArg (fun z => some (Value.int z)) (own_nar_char r3 (by decide) (by decide))), (Fr.nil n0), rfl⟩
theorem pd_0 : parseMethodDescriptor "(II)C" = some ⟨[.int, .int], some .char⟩ := by decide +kernel
-- com/example/dirbound/dirbound/ldap/HostPortEqualsPinLaw.ch
set_option maxRecDepth 65536 in
set_option maxHeartbeats 4000000 in
theorem au_2 (l : Launch) (Z : State) (a0 : Array Value) (hw : ∀ d ∈ tables_1, d.before a0 Z = true) (p0 : Int32) (h0 : Heap) (n0 : Nat) (Z0 : n0 ≤ h0.size) :
    Ctr l Z (⟨"com/example/dirbound/dirbound/ldap/HostPortEqualsPinLaw", "ch", "(II)C"⟩ : MethodName) method_3_code 2 (some .char) ({ frames := 0, cells := 0, slots := 0, locals := 0 } : Room) #[(.int p0), (.int 1)] h0 (fun v h L => ∃ (y0 : Int32) (y1 : Int32), ((p0.toUInt32 >>> ((8 : Int32) &&& 31).toUInt32).toInt32) = y1 ∧ (y1 &&& (255 : Int32)) = y0 ∧ v = some (.int y0) ∧ Fr n0 L ∧ h = h0) := by
  refine Ctr.of (plainFor_of_name pn_c0) ?_
  intro p e s m below meth c T0 hx hZ hby hml hown hnm hret hlk e0 es X0
  refine Go.cast (ef_1_II m p0 (1 : Int32)) ?_
  generalize hFF : EndN s _ _ _ = FF
  refine Go.iloadN X0 hx (pc' := 1) rfl (hb hby d1_0) rfl ?_
  refine Go.bipush X0 hx (pc' := 3) rfl (hb hby d1_1) (v := (8 : Int32)) (by decide) ?_
  refine Go.iloadN X0 hx (pc' := 4) rfl (hb hby d1_3) rfl ?_
  refine Go.imul X0 hx (pc' := 5) rfl (hb hby d1_4) ?_
  rw [show ((8 : Int32) * (1 : Int32)) = (8 : Int32) from by decide]
  refine Go.iushr X0 hx (pc' := 6) rfl (hb hby d1_5) ?_
  generalize hz1 : ((p0.toUInt32 >>> ((8 : Int32) &&& 31).toUInt32).toInt32) = z1
  refine Go.sipush X0 hx (pc' := 9) rfl (hb hby d1_6) (v := (255 : Int32)) (by decide) ?_
  refine Go.iand X0 hx (pc' := 10) rfl (hb hby d1_9) ?_
  have r2 : 0 ≤ z1.toInt ∧ z1.toInt ≤ 16777215 := own_rushr hz1 (k := 8) (by decide) (by decide) (by decide)
  generalize hz3 : (z1 &&& (255 : Int32)) = z3
  refine Go.i2c X0 hx (pc' := 11) rfl (hb hby d1_10) ?_
  have r4 : 0 ≤ z3.toInt ∧ z3.toInt ≤ 255 := own_rand hz3 (by decide)
  rw [show (z3.toUInt32.toUInt16.toUInt32.toInt32) = z3 from (own_i2c_id r4 (by decide) (by decide))]
  subst hFF
  refine Go.retN X0 hx hlk (t := .char) hret (by simp) (hb hby d1_11) (by decide) (by decide) ?_
  rw [e0]
  exact ⟨z3, z1, hz1, hz3, (congrArg (fun z => some (Value.int z)) (own_nar_char r4 (by decide) (by decide))), (Fr.nil n0), rfl⟩
-- com/example/dirbound/dirbound/ldap/HostPortEqualsPinLaw.ch
set_option maxRecDepth 65536 in
set_option maxHeartbeats 4000000 in
theorem au_3 (l : Launch) (Z : State) (a0 : Array Value) (hw : ∀ d ∈ tables_1, d.before a0 Z = true) (p0 : Int32) (h0 : Heap) (n0 : Nat) (Z0 : n0 ≤ h0.size) :
    Ctr l Z (⟨"com/example/dirbound/dirbound/ldap/HostPortEqualsPinLaw", "ch", "(II)C"⟩ : MethodName) method_3_code 2 (some .char) ({ frames := 0, cells := 0, slots := 0, locals := 0 } : Room) #[(.int p0), (.int 2)] h0 (fun v h L => ∃ (y0 : Int32) (y1 : Int32), ((p0.toUInt32 >>> ((16 : Int32) &&& 31).toUInt32).toInt32) = y1 ∧ (y1 &&& (255 : Int32)) = y0 ∧ v = some (.int y0) ∧ Fr n0 L ∧ h = h0) := by
  refine Ctr.of (plainFor_of_name pn_c0) ?_
  intro p e s m below meth c T0 hx hZ hby hml hown hnm hret hlk e0 es X0
  refine Go.cast (ef_1_II m p0 (2 : Int32)) ?_
  generalize hFF : EndN s _ _ _ = FF
  refine Go.iloadN X0 hx (pc' := 1) rfl (hb hby d1_0) rfl ?_
  refine Go.bipush X0 hx (pc' := 3) rfl (hb hby d1_1) (v := (8 : Int32)) (by decide) ?_
  refine Go.iloadN X0 hx (pc' := 4) rfl (hb hby d1_3) rfl ?_
  refine Go.imul X0 hx (pc' := 5) rfl (hb hby d1_4) ?_
  rw [show ((8 : Int32) * (2 : Int32)) = (16 : Int32) from by decide]
  refine Go.iushr X0 hx (pc' := 6) rfl (hb hby d1_5) ?_
  generalize hz1 : ((p0.toUInt32 >>> ((16 : Int32) &&& 31).toUInt32).toInt32) = z1
  refine Go.sipush X0 hx (pc' := 9) rfl (hb hby d1_6) (v := (255 : Int32)) (by decide) ?_
  refine Go.iand X0 hx (pc' := 10) rfl (hb hby d1_9) ?_
  have r2 : 0 ≤ z1.toInt ∧ z1.toInt ≤ 65535 := own_rushr hz1 (k := 16) (by decide) (by decide) (by decide)
  generalize hz3 : (z1 &&& (255 : Int32)) = z3
  refine Go.i2c X0 hx (pc' := 11) rfl (hb hby d1_10) ?_
  have r4 : 0 ≤ z3.toInt ∧ z3.toInt ≤ 255 := own_rand hz3 (by decide)
  rw [show (z3.toUInt32.toUInt16.toUInt32.toInt32) = z3 from (own_i2c_id r4 (by decide) (by decide))]
  subst hFF
  refine Go.retN X0 hx hlk (t := .char) hret (by simp) (hb hby d1_11) (by decide) (by decide) ?_
  rw [e0]
  exact ⟨z3, z1, hz1, hz3, (congrArg (fun z => some (Value.int z)) (own_nar_char r4 (by decide) (by decide))), (Fr.nil n0), rfl⟩
theorem d2_0 : decode method_4_code 0 = .ok (.iload_n 2, 1) := by decide +kernel
theorem d2_1 : decode method_4_code 1 = .ok (.ifCond .ne 5, 3) := by decide +kernel
theorem d2_4 : decode method_4_code 4 = .ok (.iload_n 0, 1) := by decide +kernel
theorem d2_5 : decode method_4_code 5 = .ok (.ireturn, 1) := by decide +kernel
theorem d2_6 : decode method_4_code 6 = .ok (.iload_n 2, 1) := by decide +kernel
theorem d2_7 : decode method_4_code 7 = .ok (.iconst 1, 1) := by decide +kernel
theorem d2_8 : decode method_4_code 8 = .ok (.if_icmp .ne 9, 3) := by decide +kernel
theorem d2_11 : decode method_4_code 11 = .ok (.iload_n 0, 1) := by decide +kernel
theorem d2_12 : decode method_4_code 12 = .ok (.bipush 32, 2) := by decide +kernel
theorem d2_14 : decode method_4_code 14 = .ok (.ixor, 1) := by decide +kernel
theorem d2_15 : decode method_4_code 15 = .ok (.i2c, 1) := by decide +kernel
theorem d2_16 : decode method_4_code 16 = .ok (.ireturn, 1) := by decide +kernel
theorem d2_17 : decode method_4_code 17 = .ok (.iload_n 1, 1) := by decide +kernel
theorem d2_18 : decode method_4_code 18 = .ok (.ireturn, 1) := by decide +kernel
theorem ef_2_III (m : MethodId) (x0 : Int32) (x1 : Int32) (x2 : Int32) : entryFrame m #[(.int x0), (.int x1), (.int x2)] 3 = mkF m 0 #[.val (.int x0), .val (.int x1), .val (.int x2)] [] := by first | (simp [entryFrame, mkF, argsToLocals, Value.category]; done) | rfl
-- com/example/dirbound/dirbound/ldap/HostPortEqualsPinLaw.pick
set_option maxRecDepth 65536 in
set_option maxHeartbeats 4000000 in
theorem au_4 (l : Launch) (Z : State) (a0 : Array Value) (hw : ∀ d ∈ tables_1, d.before a0 Z = true) (p0 : Int32) (p1 : Int32) (p2 : Int32) (h0 : Heap) (n0 : Nat) (Z0 : n0 ≤ h0.size) (R_p0 : 0 ≤ p0.toInt ∧ p0.toInt ≤ 255) (R_p1 : 0 ≤ p1.toInt ∧ p1.toInt ≤ 255) :
    Ctr l Z (⟨"com/example/dirbound/dirbound/ldap/HostPortEqualsPinLaw", "pick", "(CCI)C"⟩ : MethodName) method_4_code 3 (some .char) ({ frames := 0, cells := 0, slots := 0, locals := 0 } : Room) #[(.int p0), (.int p1), (.int p2)] h0 (fun v h L => ∃ cz : Int32, (0 ≤ cz.toInt ∧ cz.toInt ≤ 255) ∧ v = some (.int cz) ∧ Fr n0 L ∧ h = h0) := by
  refine Ctr.of (plainFor_of_name pn_c0) ?_
  intro p e s m below meth c T0 hx hZ hby hml hown hnm hret hlk e0 es X0
  refine Go.cast (ef_2_III m p0 p1 p2) ?_
  generalize hFF : EndN s _ _ _ = FF
  refine Go.iloadN X0 hx (pc' := 1) rfl (hb hby d2_0) rfl ?_
  by_cases hc1 : p2 = (0 : Int32)
  · refine Go.ifNo X0 hx (pc' := 4) rfl (hb hby d2_1) (teq hc1).2 ?_
    refine Go.iloadN X0 hx (pc' := 5) rfl (hb hby d2_4) rfl ?_
    subst hFF
    refine Go.retN X0 hx hlk (t := .char) hret (by simp) (hb hby d2_5) (by decide) (by decide) ?_
    rw [e0]
    exact ⟨p0, (own_rw R_p0 (by decide) (by decide)), (congrArg (fun z => some (Value.int z)) (own_nar_char R_p0 (by decide) (by decide))), (Fr.nil n0), rfl⟩
  · refine Go.ifYes X0 hx (pc' := 6) (hb hby d2_1) (feq hc1).2 (by decide) (by decide) ?_
    refine Go.iloadN X0 hx (pc' := 7) rfl (hb hby d2_6) rfl ?_
    refine Go.iconst X0 hx (pc' := 8) rfl (hb hby d2_7) (v := (1 : Int32)) rfl ?_
    by_cases hc2 : p2 = (1 : Int32)
    · refine Go.icmpNo X0 hx (pc' := 11) rfl (hb hby d2_8) (teq hc2).2 ?_
      refine Go.iloadN X0 hx (pc' := 12) rfl (hb hby d2_11) rfl ?_
      refine Go.bipush X0 hx (pc' := 14) rfl (hb hby d2_12) (v := (32 : Int32)) (by decide) ?_
      refine Go.ixor X0 hx (pc' := 15) rfl (hb hby d2_14) ?_
      generalize hz3 : (p0 ^^^ (32 : Int32)) = z3
      refine Go.i2c X0 hx (pc' := 16) rfl (hb hby d2_15) ?_
      have r4 : 0 ≤ z3.toInt ∧ z3.toInt ≤ 255 := own_rxor hz3 (own_rw R_p0 (by decide) (by decide)) (own_rw (own_rlit (n := 32) (by decide)) (by decide) (by decide))
      rw [show (z3.toUInt32.toUInt16.toUInt32.toInt32) = z3 from (own_i2c_id r4 (by decide) (by decide))]
      subst hFF
      refine Go.retN X0 hx hlk (t := .char) hret (by simp) (hb hby d2_16) (by decide) (by decide) ?_
      rw [e0]
      exact ⟨z3, (own_rw r4 (by decide) (by decide)), (congrArg (fun z => some (Value.int z)) (own_nar_char r4 (by decide) (by decide))), (Fr.nil n0), rfl⟩
    · refine Go.icmpYes X0 hx (pc' := 17) (hb hby d2_8) (feq hc2).2 (by decide) (by decide) ?_
      refine Go.iloadN X0 hx (pc' := 18) rfl (hb hby d2_17) rfl ?_
      subst hFF
      refine Go.retN X0 hx hlk (t := .char) hret (by simp) (hb hby d2_18) (by decide) (by decide) ?_
      rw [e0]
      exact ⟨p1, (own_rw R_p1 (by decide) (by decide)), (congrArg (fun z => some (Value.int z)) (own_nar_char R_p1 (by decide) (by decide))), (Fr.nil n0), rfl⟩
theorem pd_1 : parseMethodDescriptor "(CCI)C" = some ⟨[.char, .char, .int], some .char⟩ := by decide +kernel
theorem d3_0 : decode method_6_code 0 = .ok (.iload_n 0, 1) := by decide +kernel
theorem d3_1 : decode method_6_code 1 = .ok (.ifCond .ne 14, 3) := by decide +kernel
theorem d3_4 : decode method_6_code 4 = .ok (.new 34, 3) := by decide +kernel
theorem d3_7 : decode method_6_code 7 = .ok (.dup, 1) := by decide +kernel
theorem d3_8 : decode method_6_code 8 = .ok (.iconst 0, 1) := by decide +kernel
theorem d3_9 : decode method_6_code 9 = .ok (.newarray .char, 2) := by decide +kernel
theorem d4_0 : decode jdk_42_method_3_code 0 = .ok (.aload_n 0, 1) := by decide +kernel
theorem d4_1 : decode jdk_42_method_3_code 1 = .ok (.aload_n 1, 1) := by decide +kernel
theorem d4_2 : decode jdk_42_method_3_code 2 = .ok (.iconst 0, 1) := by decide +kernel
theorem d4_3 : decode jdk_42_method_3_code 3 = .ok (.aload_n 1, 1) := by decide +kernel
theorem d4_4 : decode jdk_42_method_3_code 4 = .ok (.arraylength, 1) := by decide +kernel
theorem d4_5 : decode jdk_42_method_3_code 5 = .ok (.aconst_null, 1) := by decide +kernel
theorem d5_0 : decode jdk_42_method_149_code 0 = .ok (.aload_n 0, 1) := by decide +kernel
theorem d5_1 : decode jdk_42_method_149_code 1 = .ok (.invokespecial 1, 3) := by decide +kernel
theorem d5_4 : decode jdk_42_method_149_code 4 = .ok (.iload_n 3, 1) := by decide +kernel
theorem d5_5 : decode jdk_42_method_149_code 5 = .ok (.ifCond .ne 22, 3) := by decide +kernel
theorem d5_8 : decode jdk_42_method_149_code 8 = .ok (.aload_n 0, 1) := by decide +kernel
theorem d5_9 : decode jdk_42_method_149_code 9 = .ok (.ldc 7, 2) := by decide +kernel
theorem d5_11 : decode jdk_42_method_149_code 11 = .ok (.getfield 9, 3) := by decide +kernel
theorem d5_14 : decode jdk_42_method_149_code 14 = .ok (.putfield 9, 3) := by decide +kernel
theorem d5_17 : decode jdk_42_method_149_code 17 = .ok (.aload_n 0, 1) := by decide +kernel
theorem d5_18 : decode jdk_42_method_149_code 18 = .ok (.ldc 7, 2) := by decide +kernel
theorem d5_20 : decode jdk_42_method_149_code 20 = .ok (.getfield 15, 3) := by decide +kernel
theorem d5_23 : decode jdk_42_method_149_code 23 = .ok (.putfield 15, 3) := by decide +kernel
theorem d5_26 : decode jdk_42_method_149_code 26 = .ok (.return_, 1) := by decide +kernel
theorem ef_5_RRIIN (m : MethodId) (x0 : Addr) (x1 : Addr) (x2 : Int32) (x3 : Int32)  : entryFrame m #[(.ref x0), (.ref x1), (.int x2), (.int x3), .null] 6 = mkF m 0 #[.val (.ref x0), .val (.ref x1), .val (.int x2), .val (.int x3), .val .null, .unset] [] := by first | (simp [entryFrame, mkF, argsToLocals, Value.category]; done) | rfl
theorem pn_c1 : plainName "java/lang/String" = true := by first | (simp [plainName, overriddenIn]; done) | decide +kernel
-- java/lang/String.init
set_option maxRecDepth 65536 in
set_option maxHeartbeats 4000000 in
theorem au_8 (l : Launch) (Z : State) (a0 : Array Value) (hw : ∀ d ∈ tables_1, d.before a0 Z = true) (x0 : Addr) (x1 : Addr) (gz1 : Int32) (gv5 : Value) (h0 : Heap) (n0 : Nat) (Z0 : n0 ≤ h0.size) (G : Glob Z gz1 gv5) (P0 : Exa Z h0 x0 "java/lang/String") (P1 : Fld Z h0 x0 "java/lang/String" "coder" "B" (.int 0)) (P2 : Fld Z h0 x0 "java/lang/String" "value" "[B" .null) (g_x0 : n0 ≤ x0) :
    CtrW l Z EL0 (⟨"java/lang/String", "<init>", "([CIILjava/lang/Void;)V"⟩ : MethodName) jdk_42_method_149_code 6 none ({ frames := 1, cells := 4, slots := 8, locals := 12 } : Room) #[(.ref x0), (.ref x1), (.int 0), (.int 0), .null] h0 [x0] (fun v vm h L => ∃ (y0 : Addr) (y1 : ClassId), v = none ∧ Fr n0 L ∧ Keep h0 h [x0] ∧ Exa Z h x0 "java/lang/String" ∧ Fld Z h x0 "java/lang/String" "coder" "B" (.int 0) ∧ Fld Z h x0 "java/lang/String" "value" "[B" (.ref y0) ∧ Arv Z h y0 y1 .byte (0 : Int32) [] (.int (0 : Int32))) := by
  refine CtrW.of (plainFor_of_name pn_c1) ?_
  intro p e s m below meth c T0 hx hZ hby hml hown hnm hret hlk e0 es hS0 C0 hsf X0
  have G' := G
  obtain ⟨-, -, G2, -⟩ := G'
  refine Go.cast (ef_5_RRIIN m x0 x1 (0 : Int32) (0 : Int32)) ?_
  generalize hFF : EndW Z EL0 s _ _ _ = FF
  refine Go.aloadN X0 hx (pc' := 1) rfl (hb hby d5_0) rfl rfl ?_
  refine Go.initO X0 hx hZ hown (tw_21 hw) (tw_22 hw) (tw_23 hw) e0 (by decide) (W := 0) (by rw [hml]; rfl) (Nat.le_of_eq rfl) (by decide) (pc' := 4) rfl (hb hby d5_1) ?_
  intro T1 e1 X1
  refine Go.iloadN X1 hx (pc' := 5) rfl (hb hby d5_4) rfl ?_
  refine Go.ifNo X1 hx (pc' := 8) rfl (hb hby d5_5) (by decide) ?_
  refine Go.aloadN X1 hx (pc' := 9) rfl (hb hby d5_8) rfl rfl ?_
  refine Go.ldcCH X1 hx hZ hown (tw_24 hw) (own_SA hw) e1 hS0 (Nat.le_refl _) (own_EW hw) (List.mem_of_getElem? (i := 0) rfl) C0.1 (vs := []) (z := (0 : Int32)) (by decide) (by decide) rfl (n := 0) (by decide) (by decide) (by decide) (by decide) (pc' := 11) rfl (hb hby d5_9) ?_
  intro a2 T2 h2 j2 b2 k2 e2 E2 S2 i2 Z2 O2 A2 F2 G2 V2 C2 D2 X2
  refine Go.getF X2 hx Z2 O2 (host := "") (Or.inl (tw_30 hw)) Via.refl e2 G2 (pc' := 14) rfl (hb hby d5_11) ?_
  intro T3 e3 X3
  have fk4 : Fld Z h2 x0 "java/lang/String" "value" "[B" .null := (P2.ext E2)
  have fk5 : Exa Z h2 x0 "java/lang/String" := (P0.ext E2)
  refine Go.putF X3 hx Z2 O2 (host := "") (Or.inl (tw_30 hw)) Via.refl e3 fk4 fk5 (Or.inr ⟨(tw_26 hw), rfl, hnm⟩) (tw_11 hw) (ty := (.array .byte)) (by decide) rfl rfl (pc' := 17) rfl (hb hby d5_14) ?_
  intro T6 h6 e6 W6 F6 X6
  have N6 := Fr.snoc X6 (Fr.nil n0) g_x0
  refine Go.aloadN X6 hx (pc' := 18) rfl (hb hby d5_17) rfl rfl ?_
  have C7 : CHr Z EL0 s.vm s.heap T2.vm h2 := (C0.trans C2)
  have fk8 : Safe Z EL0 T2.vm h2 x0 := (C2.safe P0.lt (hsf _ (List.mem_of_getElem? (i := 0) rfl)))
  have C9 : CHr Z EL0 s.vm s.heap T2.vm h6 := (C7.trans (CHr.wr W6 fk8 C7.1))
  have hk10 := (Nat.le_trans i2 (Keep.of_wr W6).1)
  refine Go.ldcCH X6 hx Z2 O2 (tw_24 hw) (own_SA hw) e6 S2 hk10 (own_EW hw) (List.mem_of_getElem? (i := 0) rfl) C9.1 (vs := []) (z := (0 : Int32)) (by decide) (by decide) rfl (n := 0) (by decide) (by decide) (by decide) (by decide) (pc' := 20) rfl (hb hby d5_18) ?_
  intro a11 T11 h11 j11 b11 k11 e11 E11 S11 i11 Z11 O11 A11 F11 G11 V11 C11 D11 X11
  refine Go.getF X11 hx Z11 O11 (host := "") (Or.inl (tw_31 hw)) Via.refl e11 F11 (pc' := 23) rfl (hb hby d5_20) ?_
  intro T12 e12 X12
  have fk13 : Fld Z h11 x0 "java/lang/String" "coder" "B" (.int 0) := (((P1.ext E2).other W6 (Or.inr (slot_ne (Or.inr (tw_27 hw)) (Or.inr (tw_26 hw)) (by decide) (t := .byte) (t' := (.array .byte)) (by decide) (by decide)))).ext E11)
  have fk14 : Exa Z h11 x0 "java/lang/String" := ((fk5.wr W6).ext E11)
  refine Go.putFN X12 hx Z11 O11 (tw_31 hw) Via.refl e12 fk13 fk14 (Or.inr ⟨(tw_27 hw), rfl, hnm⟩) (tw_11 hw) (ty := .byte) (v' := (.int 0)) (by decide) (by decide) (by decide) (pc' := 26) rfl (hb hby d5_23) ?_
  intro T15 h15 e15 W15 F15 X15
  have N15 := Fr.snoc X15 N6 g_x0
  subst hFF
  have C16 : CHr Z EL0 s.vm s.heap T11.vm h11 := (C9.trans C11)
  have fk17 : Safe Z EL0 T2.vm h6 x0 := (Safe.wr W6 fk8 C7.1 fk8)
  have fk18 : Exa Z h6 x0 "java/lang/String" := (fk5.wr W6)
  have fk19 : Safe Z EL0 T11.vm h11 x0 := (C11.safe fk18.lt fk17)
  have C20 : CHr Z EL0 s.vm s.heap T11.vm h15 := (C16.trans (CHr.wr W15 fk19 C16.1))
  have hk21 := (Nat.le_trans i11 (Keep.of_wr W15).1)
  refine Go.ret0W X15 hx hlk Z11 (own_EW hw) e15 S11 hk21 C20 hret (hb hby d5_26) (by decide) (by decide) (fun hat => ?_)
  have fk22 : Exa Z h15 x0 "java/lang/String" := (fk14.wr W15)
  have fk23 : Fld Z h15 x0 "java/lang/String" "value" "[B" (.ref b2) := ((F6.ext E11).other W15 (Or.inr (slot_ne (Or.inr (tw_26 hw)) (Or.inr (tw_27 hw)) (by decide) (t := (.array .byte)) (t' := .byte) (by decide) (by decide))))
  have fk24 := (((V2.other W6 (Ne.symm (D2 x0 fk8).2)).ext E11).other W15 (Ne.symm (D2 x0 fk8).2))
  have Kp25 : Keep h0 h2 [x0] := ((Keep.refl h0 [x0]).ext E2)
  have Kp26 : Keep h0 h6 [x0] := (Kp25.wr W6 (Or.inl (List.mem_of_getElem? (i := 0) rfl)))
  have Kp27 : Keep h0 h11 [x0] := (Kp26.ext E11)
  have Kp28 : Keep h0 h15 [x0] := (Kp27.wr W15 (Or.inl (List.mem_of_getElem? (i := 0) rfl)))
  exact ⟨b2, k2, rfl, N15, Kp28, fk22, F15, fk23, fk24⟩
theorem pd_2 : parseMethodDescriptor "([CIILjava/lang/Void;)V" = some ⟨[(.array .char), .int, .int, (.object "java/lang/Void")], none⟩ := by decide +kernel
theorem d4_6 : decode jdk_42_method_3_code 6 = .ok (.invokespecial 27, 3) := by decide +kernel
theorem d4_9 : decode jdk_42_method_3_code 9 = .ok (.return_, 1) := by decide +kernel
theorem ef_4_RR (m : MethodId) (x0 : Addr) (x1 : Addr) : entryFrame m #[(.ref x0), (.ref x1)] 2 = mkF m 0 #[.val (.ref x0), .val (.ref x1)] [] := by first | (simp [entryFrame, mkF, argsToLocals, Value.category]; done) | rfl
-- java/lang/String.init
set_option maxRecDepth 65536 in
set_option maxHeartbeats 4000000 in
theorem au_9 (l : Launch) (Z : State) (a0 : Array Value) (hw : ∀ d ∈ tables_1, d.before a0 Z = true) (x0 : Addr) (x1 : Addr) (kk0 : ClassId) (gz1 : Int32) (gv5 : Value) (h0 : Heap) (n0 : Nat) (Z0 : n0 ≤ h0.size) (G : Glob Z gz1 gv5) (P0 : Exa Z h0 x0 "java/lang/String") (P1 : Fld Z h0 x0 "java/lang/String" "coder" "B" (.int 0)) (P2 : Fld Z h0 x0 "java/lang/String" "value" "[B" .null) (P3 : Arv Z h0 x1 kk0 .char (0 : Int32) [] (.int 0)) (g_x0 : n0 ≤ x0) :
    CtrW l Z EL0 (⟨"java/lang/String", "<init>", "([C)V"⟩ : MethodName) jdk_42_method_3_code 2 none ({ frames := 2, cells := 4, slots := 8, locals := 29 } : Room) #[(.ref x0), (.ref x1)] h0 [x0] (fun v vm h L => ∃ (y0 : Addr) (y1 : ClassId), v = none ∧ Fr n0 L ∧ Keep h0 h [x0] ∧ Exa Z h x0 "java/lang/String" ∧ Fld Z h x0 "java/lang/String" "coder" "B" (.int 0) ∧ Fld Z h x0 "java/lang/String" "value" "[B" (.ref y0) ∧ Arv Z h y0 y1 .byte (0 : Int32) [] (.int (0 : Int32))) := by
  refine CtrW.of (plainFor_of_name pn_c1) ?_
  intro p e s m below meth c T0 hx hZ hby hml hown hnm hret hlk e0 es hS0 C0 hsf X0
  refine Go.cast (ef_4_RR m x0 x1) ?_
  generalize hFF : EndW Z EL0 s _ _ _ = FF
  refine Go.aloadN X0 hx (pc' := 1) rfl (hb hby d4_0) rfl rfl ?_
  refine Go.aloadN X0 hx (pc' := 2) rfl (hb hby d4_1) rfl rfl ?_
  refine Go.iconst X0 hx (pc' := 3) rfl (hb hby d4_2) (v := (0 : Int32)) rfl ?_
  refine Go.aloadN X0 hx (pc' := 4) rfl (hb hby d4_3) rfl rfl ?_
  refine Go.arraylength X0 hx hZ e0 P3 (pc' := 5) rfl (hb hby d4_4) ?_
  refine Go.anull X0 hx (pc' := 6) rfl (hb hby d4_5) ?_
  refine Go.callNW X0 hx hZ hown rfl (tw_17 hw) (tw_18 hw) (tw_20 hw) (by decide) (tw_20 hw) (tw_12 hw) (au_8 l Z a0 hw x0 x1 gz1 gv5 h0 n0 Z0 G P0 P1 P2 g_x0) (own_EW hw) C0.1 (allS ⟨P0.lt, (hsf _ (List.mem_of_getElem? (i := 0) rfl))⟩ all0) hS0 (Nat.le_refl _) e0 (a := x0) (argsL := [(.ref x1), (.int 0), (.int 0), .null]) (rest := []) (pc' := 9) rfl (by rw [hml]; rfl) (lenOf pd_2 rfl) rfl rfl (W := 0) (Nat.le_of_eq rfl) (by decide) (by decide) (by decide) (by decide) (hb hby d4_6) ?_
  intro v1 T1 L1 h1 e1 q1 C1 S1 Z1 O1 X1
  obtain ⟨b1_0, k1_0, rfl, N1, K1, F1_0, F1_1, F1_2, F1_3⟩ := q1
  show Go _ _ _ _ (T1.setTop (mkF m 9 #[.val (.ref x0), .val (.ref x1)] []))
  subst hFF
  have C2 : CHr Z EL0 s.vm s.heap T1.vm h1 := (C0.trans C1)
  refine Go.ret0W X1 hx hlk Z1 (own_EW hw) e1 S1 (Nat.le_refl _) C2 hret (hb hby d4_9) (by decide) (by decide) (fun hat => ?_)
  have Kp3 : Keep h0 h1 [x0] := ((Keep.refl h0 [x0]).trans K1 (allS (Or.inl (List.mem_of_getElem? (i := 0) rfl)) all0))
  exact ⟨b1_0, k1_0, rfl, (Fr.app (Fr.nil n0) N1), Kp3, F1_0, F1_1, F1_2, F1_3⟩
theorem pd_3 : parseMethodDescriptor "([C)V" = some ⟨[(.array .char)], none⟩ := by decide +kernel
theorem d3_11 : decode method_6_code 11 = .ok (.invokespecial 36, 3) := by decide +kernel
theorem d3_14 : decode method_6_code 14 = .ok (.areturn, 1) := by decide +kernel
theorem d3_15 : decode method_6_code 15 = .ok (.iload_n 0, 1) := by decide +kernel
theorem d3_16 : decode method_6_code 16 = .ok (.iconst 1, 1) := by decide +kernel
theorem d3_17 : decode method_6_code 17 = .ok (.if_icmp .ne 8, 3) := by decide +kernel
theorem d3_20 : decode method_6_code 20 = .ok (.iload_n 1, 1) := by decide +kernel
theorem d26_0 : decode jdk_42_method_139_code 0 = .ok (.getstatic 38, 3) := by decide +kernel
theorem d26_3 : decode jdk_42_method_139_code 3 = .ok (.ifCond .eq 23, 3) := by decide +kernel
theorem d26_6 : decode jdk_42_method_139_code 6 = .ok (.iload_n 0, 1) := by decide +kernel
theorem d27_0 : decode jdk_43_method_3_code 0 = .ok (.iload_n 0, 1) := by decide +kernel
theorem d27_1 : decode jdk_43_method_3_code 1 = .ok (.sipush 255, 3) := by decide +kernel
theorem d27_4 : decode jdk_43_method_3_code 4 = .ok (.if_icmp .gt 7, 3) := by decide +kernel
theorem d27_7 : decode jdk_43_method_3_code 7 = .ok (.iconst 1, 1) := by decide +kernel
theorem d27_8 : decode jdk_43_method_3_code 8 = .ok (.goto 4, 3) := by decide +kernel
theorem d27_12 : decode jdk_43_method_3_code 12 = .ok (.ireturn, 1) := by decide +kernel
theorem ef_27_I (m : MethodId) (x0 : Int32) : entryFrame m #[(.int x0)] 1 = mkF m 0 #[.val (.int x0)] [] := by first | (simp [entryFrame, mkF, argsToLocals, Value.category]; done) | rfl
theorem pn_c2 : plainName "java/lang/StringLatin1" = true := by first | (simp [plainName, overriddenIn]; done) | decide +kernel
-- java/lang/StringLatin1.canEncode
set_option maxRecDepth 65536 in
set_option maxHeartbeats 4000000 in
theorem au_12 (l : Launch) (Z : State) (a0 : Array Value) (hw : ∀ d ∈ tables_1, d.before a0 Z = true) (p0 : Int32) (h0 : Heap) (n0 : Nat) (Z0 : n0 ≤ h0.size) (R_p0 : 0 ≤ p0.toInt ∧ p0.toInt ≤ 255) :
    Ctr l Z (⟨"java/lang/StringLatin1", "canEncode", "(C)Z"⟩ : MethodName) jdk_43_method_3_code 1 (some .boolean) ({ frames := 0, cells := 0, slots := 0, locals := 0 } : Room) #[(.int p0)] h0 (fun v h L => v = some (.int 1) ∧ Fr n0 L ∧ h = h0) := by
  refine Ctr.of (plainFor_of_name pn_c2) ?_
  intro p e s m below meth c T0 hx hZ hby hml hown hnm hret hlk e0 es X0
  refine Go.cast (ef_27_I m p0) ?_
  generalize hFF : EndN s _ _ _ = FF
  refine Go.iloadN X0 hx (pc' := 1) rfl (hb hby d27_0) rfl ?_
  refine Go.sipush X0 hx (pc' := 4) rfl (hb hby d27_1) (v := (255 : Int32)) (by decide) ?_
  refine Go.icmpNo X0 hx (pc' := 7) rfl (hb hby d27_4) (flt (own_nlt_r (own_rlit (n := 255) (by decide)) R_p0 (by decide))).2.2.1 ?_
  refine Go.iconst X0 hx (pc' := 8) rfl (hb hby d27_7) (v := (1 : Int32)) rfl ?_
  refine Go.goto X0 hx (pc' := 12) (hb hby d27_8) (by decide) (by decide) ?_
  subst hFF
  refine Go.retN X0 hx hlk (t := .boolean) hret (by simp) (hb hby d27_12) (by decide) (by decide) ?_
  rw [e0]
  exact ⟨(congrArg (fun z => some (Value.int z)) (by decide : nar .boolean (1 : Int32) = (1 : Int32))), (Fr.nil n0), rfl⟩
theorem pd_4 : parseMethodDescriptor "(C)Z" = some ⟨[.char], some .boolean⟩ := by decide +kernel
theorem d26_7 : decode jdk_42_method_139_code 7 = .ok (.invokestatic 1015, 3) := by decide +kernel
theorem d26_10 : decode jdk_42_method_139_code 10 = .ok (.ifCond .eq 16, 3) := by decide +kernel
theorem d26_13 : decode jdk_42_method_139_code 13 = .ok (.new 10, 3) := by decide +kernel
theorem d26_16 : decode jdk_42_method_139_code 16 = .ok (.dup, 1) := by decide +kernel
theorem d26_17 : decode jdk_42_method_139_code 17 = .ok (.iload_n 0, 1) := by decide +kernel
theorem d28_0 : decode jdk_43_method_46_code 0 = .ok (.iconst 1, 1) := by decide +kernel
theorem d28_1 : decode jdk_43_method_46_code 1 = .ok (.newarray .byte, 2) := by decide +kernel
theorem d28_3 : decode jdk_43_method_46_code 3 = .ok (.dup, 1) := by decide +kernel
theorem d28_4 : decode jdk_43_method_46_code 4 = .ok (.iconst 0, 1) := by decide +kernel
theorem d28_5 : decode jdk_43_method_46_code 5 = .ok (.iload_n 0, 1) := by decide +kernel
theorem d28_6 : decode jdk_43_method_46_code 6 = .ok (.i2b, 1) := by decide +kernel
theorem d28_7 : decode jdk_43_method_46_code 7 = .ok (.bastore, 1) := by decide +kernel
theorem d28_8 : decode jdk_43_method_46_code 8 = .ok (.areturn, 1) := by decide +kernel
theorem ef_28_I (m : MethodId) (x0 : Int32) : entryFrame m #[(.int x0)] 1 = mkF m 0 #[.val (.int x0)] [] := by first | (simp [entryFrame, mkF, argsToLocals, Value.category]; done) | rfl
-- java/lang/StringLatin1.toBytes
set_option maxRecDepth 65536 in
set_option maxHeartbeats 4000000 in
theorem au_13 (l : Launch) (Z : State) (a0 : Array Value) (hw : ∀ d ∈ tables_1, d.before a0 Z = true) (p0 : Int32) (h0 : Heap) (n0 : Nat) (Z0 : n0 ≤ h0.size) :
    Ctr l Z (⟨"java/lang/StringLatin1", "toBytes", "(C)[B"⟩ : MethodName) jdk_43_method_46_code 1 (some (.array .byte)) ({ frames := 0, cells := 1, slots := 1, locals := 0 } : Room) #[(.int p0)] h0 (fun v h L => ∃ (y0 : Int32) (y1 : Addr) (y2 : ClassId), (p0.toInt8.toInt32) = y0 ∧ v = some (.ref y1) ∧ Fr n0 L ∧ Keep h0 h [] ∧ h0.size ≤ y1 ∧ Arv Z h y1 y2 .byte (1 : Int32) [(.int y0)] (.int 0) ∧ Exa Z h y1 "[B") := by
  refine Ctr.of (plainFor_of_name pn_c2) ?_
  intro p e s m below meth c T0 hx hZ hby hml hown hnm hret hlk e0 es X0
  refine Go.cast (ef_28_I m p0) ?_
  generalize hFF : EndN s _ _ _ = FF
  refine Go.iconst X0 hx (pc' := 1) rfl (hb hby d28_0) (v := (1 : Int32)) rfl ?_
  refine Go.newarray X0 hx hZ (ty := .byte) rfl (tw_25 hw) e0 (by decide) (cap := 1) (by decide) (by decide) (by decide) (by decide) (ad := "[B") (by decide) 1 (pc' := 3) rfl (hb hby d28_1) ?_
  intro T1 h1 b1 k1 e1 E1 g1 V1 A1 X1
  have V1' : Arv Z h1 b1 k1 .byte (1 : Int32) [(.int 0)] (.int 0) := V1
  refine Go.dup X1 hx (pc' := 4) rfl (hb hby d28_3) rfl ?_
  refine Go.iconst X1 hx (pc' := 5) rfl (hb hby d28_4) (v := (0 : Int32)) rfl ?_
  refine Go.iloadN X1 hx (pc' := 6) rfl (hb hby d28_5) rfl ?_
  refine Go.i2b X1 hx (pc' := 7) rfl (hb hby d28_6) ?_
  generalize hz2 : (p0.toInt8.toInt32) = z2
  have sz4 : h0.size ≤ b1 := Nat.le_trans (Keep.refl h0 []).1 (Nat.le_of_eq g1.symm)
  have ge3 : n0 ≤ b1 := Nat.le_trans Z0 sz4
  have r5 : -128 ≤ z2.toInt ∧ z2.toInt ≤ 127 := own_ri2b hz2
  refine Go.bastore X1 hx hZ e1 V1' z2 (own_nar_byte r5 (by decide) (by decide)) ⟨by decide, by decide⟩ 0 rfl (Nat.le_of_ble_eq_true rfl) (pc' := 8) rfl (hb hby d28_7) ?_
  intro T6 h6 e6 W6 V6 X6
  have N6 := Fr.snoc X6 (Fr.nil n0) ge3
  subst hFF
  refine Go.retR X6 hx hlk (t := (.array .byte)) hret rfl rfl (hb hby d28_8) (by decide) (by decide) ?_
  rw [e6]
  have V7 : Arv Z h6 b1 k1 .byte (1 : Int32) [(.int z2)] (.int 0) := V6
  have fk8 : Exa Z h6 b1 "[B" := (A1.wr W6)
  have Kp9 : Keep h0 h1 [] := ((Keep.refl h0 []).ext E1)
  have Kp10 : Keep h0 h6 [] := (Kp9.wr W6 (Or.inr sz4))
  exact ⟨z2, b1, k1, hz2, rfl, N6, Kp10, sz4, V7, fk8⟩
theorem pd_5 : parseMethodDescriptor "(C)[B" = some ⟨[.char], some (.array .byte)⟩ := by decide +kernel
theorem d26_18 : decode jdk_42_method_139_code 18 = .ok (.invokestatic 1018, 3) := by decide +kernel
theorem d26_21 : decode jdk_42_method_139_code 21 = .ok (.iconst 0, 1) := by decide +kernel
theorem d29_0 : decode jdk_42_method_151_code 0 = .ok (.aload_n 0, 1) := by decide +kernel
theorem d29_1 : decode jdk_42_method_151_code 1 = .ok (.invokespecial 1, 3) := by decide +kernel
theorem d29_4 : decode jdk_42_method_151_code 4 = .ok (.aload_n 0, 1) := by decide +kernel
theorem d29_5 : decode jdk_42_method_151_code 5 = .ok (.aload_n 1, 1) := by decide +kernel
theorem d29_6 : decode jdk_42_method_151_code 6 = .ok (.putfield 9, 3) := by decide +kernel
theorem d29_9 : decode jdk_42_method_151_code 9 = .ok (.aload_n 0, 1) := by decide +kernel
theorem d29_10 : decode jdk_42_method_151_code 10 = .ok (.iload_n 2, 1) := by decide +kernel
theorem d29_11 : decode jdk_42_method_151_code 11 = .ok (.putfield 15, 3) := by decide +kernel
theorem d29_14 : decode jdk_42_method_151_code 14 = .ok (.return_, 1) := by decide +kernel
theorem ef_29_RRI (m : MethodId) (x0 : Addr) (x1 : Addr) (x2 : Int32) : entryFrame m #[(.ref x0), (.ref x1), (.int x2)] 3 = mkF m 0 #[.val (.ref x0), .val (.ref x1), .val (.int x2)] [] := by first | (simp [entryFrame, mkF, argsToLocals, Value.category]; done) | rfl
-- java/lang/String.init
set_option maxRecDepth 65536 in
set_option maxHeartbeats 4000000 in
theorem au_14 (l : Launch) (Z : State) (a0 : Array Value) (hw : ∀ d ∈ tables_1, d.before a0 Z = true) (x0 : Addr) (x1 : Addr) (h0 : Heap) (n0 : Nat) (Z0 : n0 ≤ h0.size) (P0 : Exa Z h0 x0 "java/lang/String") (P1 : Fld Z h0 x0 "java/lang/String" "coder" "B" (.int 0)) (P2 : Fld Z h0 x0 "java/lang/String" "value" "[B" .null) (g_x0 : n0 ≤ x0) :
    Ctr l Z (⟨"java/lang/String", "<init>", "([BB)V"⟩ : MethodName) jdk_42_method_151_code 3 none ({ frames := 1, cells := 0, slots := 0, locals := 12 } : Room) #[(.ref x0), (.ref x1), (.int 0)] h0 (fun v h L => v = none ∧ Fr n0 L ∧ Keep h0 h [x0] ∧ Exa Z h x0 "java/lang/String" ∧ Fld Z h x0 "java/lang/String" "coder" "B" (.int 0) ∧ Fld Z h x0 "java/lang/String" "value" "[B" (.ref x1)) := by
  refine Ctr.of (plainFor_of_name pn_c1) ?_
  intro p e s m below meth c T0 hx hZ hby hml hown hnm hret hlk e0 es X0
  refine Go.cast (ef_29_RRI m x0 x1 (0 : Int32)) ?_
  generalize hFF : EndN s _ _ _ = FF
  refine Go.aloadN X0 hx (pc' := 1) rfl (hb hby d29_0) rfl rfl ?_
  refine Go.initO X0 hx hZ hown (tw_21 hw) (tw_22 hw) (tw_23 hw) e0 (by decide) (W := 0) (by rw [hml]; rfl) (Nat.le_of_eq rfl) (by decide) (pc' := 4) rfl (hb hby d29_1) ?_
  intro T1 e1 X1
  refine Go.aloadN X1 hx (pc' := 5) rfl (hb hby d29_4) rfl rfl ?_
  refine Go.aloadN X1 hx (pc' := 6) rfl (hb hby d29_5) rfl rfl ?_
  refine Go.putF X1 hx hZ hown (host := "") (Or.inl (tw_30 hw)) Via.refl e1 P2 P0 (Or.inr ⟨(tw_26 hw), rfl, hnm⟩) (tw_11 hw) (ty := (.array .byte)) (by decide) rfl rfl (pc' := 9) rfl (hb hby d29_6) ?_
  intro T2 h2 e2 W2 F2 X2
  have N2 := Fr.snoc X2 (Fr.nil n0) g_x0
  refine Go.aloadN X2 hx (pc' := 10) rfl (hb hby d29_9) rfl rfl ?_
  refine Go.iloadN X2 hx (pc' := 11) rfl (hb hby d29_10) rfl ?_
  have fk3 : Fld Z h2 x0 "java/lang/String" "coder" "B" (.int 0) := (P1.other W2 (Or.inr (slot_ne (Or.inr (tw_27 hw)) (Or.inr (tw_26 hw)) (by decide) (t := .byte) (t' := (.array .byte)) (by decide) (by decide))))
  have fk4 : Exa Z h2 x0 "java/lang/String" := (P0.wr W2)
  refine Go.putFN X2 hx hZ hown (tw_31 hw) Via.refl e2 fk3 fk4 (Or.inr ⟨(tw_27 hw), rfl, hnm⟩) (tw_11 hw) (ty := .byte) (v' := (.int 0)) (by decide) (by decide) (by decide) (pc' := 14) rfl (hb hby d29_11) ?_
  intro T5 h5 e5 W5 F5 X5
  have N5 := Fr.snoc X5 N2 g_x0
  subst hFF
  refine Go.ret0 X5 hx hlk hret (hb hby d29_14) (by decide) (by decide) ?_
  rw [e5]
  have fk6 : Exa Z h5 x0 "java/lang/String" := (fk4.wr W5)
  have fk7 : Fld Z h5 x0 "java/lang/String" "value" "[B" (.ref x1) := (F2.other W5 (Or.inr (slot_ne (Or.inr (tw_26 hw)) (Or.inr (tw_27 hw)) (by decide) (t := (.array .byte)) (t' := .byte) (by decide) (by decide))))
  have Kp8 : Keep h0 h2 [x0] := ((Keep.refl h0 [x0]).wr W2 (Or.inl (List.mem_of_getElem? (i := 0) rfl)))
  have Kp9 : Keep h0 h5 [x0] := (Kp8.wr W5 (Or.inl (List.mem_of_getElem? (i := 0) rfl)))
  exact ⟨rfl, N5, Kp9, fk6, F5, fk7⟩
theorem pd_6 : parseMethodDescriptor "([BB)V" = some ⟨[(.array .byte), .byte], none⟩ := by decide +kernel
theorem d26_22 : decode jdk_42_method_139_code 22 = .ok (.invokespecial 209, 3) := by decide +kernel
theorem d26_25 : decode jdk_42_method_139_code 25 = .ok (.areturn, 1) := by decide +kernel
theorem ef_26_I (m : MethodId) (x0 : Int32) : entryFrame m #[(.int x0)] 1 = mkF m 0 #[.val (.int x0)] [] := by first | (simp [entryFrame, mkF, argsToLocals, Value.category]; done) | rfl
-- java/lang/String.valueOf
set_option maxRecDepth 65536 in
set_option maxHeartbeats 4000000 in
theorem au_11 (l : Launch) (Z : State) (a0 : Array Value) (hw : ∀ d ∈ tables_1, d.before a0 Z = true) (p0 : Int32) (gz1 : Int32) (gv5 : Value) (h0 : Heap) (n0 : Nat) (Z0 : n0 ≤ h0.size) (O0 : Old Z n0 h0) (G : Glob Z gz1 gv5) (R_p0 : 0 ≤ p0.toInt ∧ p0.toInt ≤ 255) :
    Ctr l Z (⟨"java/lang/String", "valueOf", "(C)Ljava/lang/String;"⟩ : MethodName) jdk_42_method_139_code 1 (some (.object "java/lang/String")) ({ frames := 2, cells := 2, slots := 5, locals := 27 } : Room) #[(.int p0)] h0 (fun v h L => ∃ (y0 : Int32) (y1 : Addr) (y2 : Addr) (y3 : ClassId), (p0.toInt8.toInt32) = y0 ∧ v = some (.ref y1) ∧ Fr n0 L ∧ Keep h0 h [] ∧ h0.size ≤ y1 ∧ h0.size ≤ y2 ∧ y2 ≠ y1 ∧ Exa Z h y1 "java/lang/String" ∧ Fld Z h y1 "java/lang/String" "coder" "B" (.int 0) ∧ Fld Z h y1 "java/lang/String" "value" "[B" (.ref y2) ∧ Arv Z h y2 y3 .byte (1 : Int32) [(.int y0)] (.int 0) ∧ Exa Z h y2 "[B") := by
  refine Ctr.of (plainFor_of_name pn_c1) ?_
  intro p e s m below meth c T0 hx hZ hby hml hown hnm hret hlk e0 es X0
  have G' := G
  obtain ⟨G0, -, G2, -⟩ := G'
  refine Go.cast (ef_26_I m p0) ?_
  generalize hFF : EndN s _ _ _ = FF
  have fk1 : Sta Z h0 "java/lang/String" "COMPACT_STRINGS" "Z" (.int gz1) := G0.ext O0.2
  refine Go.getS X0 hx hZ hown (host := "") (Or.inl (tw_57 hw)) Via.refl e0 fk1 (pc' := 3) rfl (hb hby d26_0) ?_
  intro T2 e2 X2
  refine Go.ifNo X2 hx (pc' := 6) rfl (hb hby d26_3) (feq G2).1 ?_
  refine Go.iloadN X2 hx (pc' := 7) rfl (hb hby d26_6) rfl ?_
  refine Go.callS X2 hx hZ hown (tw_150 hw) (tw_151 hw) (tw_152 hw) (tw_153 hw) (by decide) (tw_153 hw) (tw_152 hw) (au_12 l Z a0 hw p0 h0 n0 Z0 R_p0) e2 (argsL := [(.int p0)]) (rest := []) (pc' := 10) rfl (by rw [hml]; rfl) (lenOf pd_4 rfl) rfl rfl (W := 0) (Nat.le_of_eq rfl) (by decide) (by decide) (by decide) (by decide) (hb hby d26_7) ?_
  intro v3 T3 L3 q3 X3
  obtain ⟨rfl, N3, e3⟩ := q3
  show Go _ _ _ _ (T3.setTop (mkF m 10 #[.val (.int p0)] [(.int 1)]))
  refine Go.ifNo X3 hx (pc' := 13) rfl (hb hby d26_10) (by decide) ?_
  refine Go.new X3 hx hZ hown (tw_154 hw) (tw_11 hw) (tw_12 hw) e3 (by decide) (by decide) (pc' := 16) rfl (hb hby d26_13) ?_
  intro T4 h4 b4 e4 E4 g4 A4 D4 X4
  have b4_value : Fld Z h4 b4 "java/lang/String" "value" "[B" .null := D4 (Or.inr (tw_26 hw)) (ty := (.array .byte)) (by decide)
  have b4_coder : Fld Z h4 b4 "java/lang/String" "coder" "B" (.int 0) := D4 (Or.inr (tw_27 hw)) (ty := .byte) (by decide)
  refine Go.dup X4 hx (pc' := 17) rfl (hb hby d26_16) rfl ?_
  refine Go.iloadN X4 hx (pc' := 18) rfl (hb hby d26_17) rfl ?_
  have Kp6 : Keep h0 h4 [] := ((Keep.refl h0 []).ext E4)
  have Zn5 : n0 ≤ h4.size := Nat.le_trans Z0 Kp6.1
  refine Go.callS X4 hx hZ hown (tw_155 hw) (tw_156 hw) (tw_152 hw) (tw_157 hw) (by decide) (tw_157 hw) (tw_152 hw) (au_13 l Z a0 hw p0 h4 n0 Zn5) e4 (argsL := [(.int p0)]) (rest := [(.ref b4), (.ref b4)]) (pc' := 21) rfl (by rw [hml]; rfl) (lenOf pd_5 rfl) rfl rfl (W := 2) (Nat.le_of_eq rfl) (by decide) (by decide) (by decide) (by decide) (hb hby d26_18) ?_
  intro v7 T7 L7 q7 X7
  obtain ⟨h7, e7⟩ : ∃ z, T7.heap = z := ⟨_, rfl⟩
  rw [e7] at q7
  obtain ⟨z7_0, b7_0, k7_0, d7_0, rfl, N7, K7, s7_0, F7_0, F7_1⟩ := q7
  show Go _ _ _ _ (T7.setTop (mkF m 21 #[.val (.int p0)] [(.ref b7_0), (.ref b4), (.ref b4)]))
  refine Go.iconst X7 hx (pc' := 22) rfl (hb hby d26_21) (v := (0 : Int32)) rfl ?_
  have r8 : -128 ≤ z7_0.toInt ∧ z7_0.toInt ≤ 127 := own_ri2b d7_0
  have Kp10 : Keep h0 h7 [] := (Kp6.trans K7 all0)
  have Zn9 : n0 ≤ h7.size := Nat.le_trans Z0 Kp10.1
  have fk11 : Exa Z h7 b4 "java/lang/String" := (A4.keep K7)
  have fk12 : Fld Z h7 b4 "java/lang/String" "coder" "B" (.int 0) := (b4_coder.keep K7 nin0)
  have fk13 : Fld Z h7 b4 "java/lang/String" "value" "[B" .null := (b4_value.keep K7 nin0)
  have sz15 : h0.size ≤ b4 := Nat.le_trans (Keep.refl h0 []).1 (Nat.le_of_eq g4.symm)
  have ge14 : n0 ≤ b4 := Nat.le_trans Z0 sz15
  refine Go.callN X7 hx hZ hown rfl (tw_158 hw) (tw_159 hw) (tw_160 hw) (by decide) (tw_160 hw) (tw_12 hw) (au_14 l Z a0 hw b4 b7_0 h7 n0 Zn9 fk11 fk12 fk13 ge14) e7 (a := b4) (argsL := [(.ref b7_0), (.int 0)]) (rest := [(.ref b4)]) (pc' := 25) rfl (by rw [hml]; rfl) (lenOf pd_6 rfl) rfl rfl (W := 1) (Nat.le_of_eq rfl) (by decide) (by decide) (by decide) (by decide) (hb hby d26_22) ?_
  intro v16 T16 L16 q16 X16
  obtain ⟨h16, e16⟩ : ∃ z, T16.heap = z := ⟨_, rfl⟩
  rw [e16] at q16
  obtain ⟨rfl, N16, K16, F16_0, F16_1, F16_2⟩ := q16
  show Go _ _ _ _ (T16.setTop (mkF m 25 #[.val (.int p0)] [(.ref b4)]))
  subst hFF
  refine Go.retR X16 hx hlk (t := (.object "java/lang/String")) hret rfl rfl (hb hby d26_25) (by decide) (by decide) ?_
  rw [e16]
  have ne17 : b4 ≠ b7_0 := Nat.ne_of_lt (Nat.lt_of_lt_of_le A4.lt s7_0)
  have fk18 := (F7_0.keep K16 (ninS (Ne.symm ne17) nin0))
  have fk19 : Exa Z h16 b7_0 "[B" := (F7_1.keep K16)
  have Kp20 : Keep h0 h16 [] := (Kp10.trans K16 (allS (Or.inr sz15) all0))
  have sz21 : h0.size ≤ b7_0 := Nat.le_trans Kp6.1 s7_0
  exact ⟨z7_0, b4, b7_0, k7_0, d7_0, rfl, (Fr.app (Fr.app (Fr.app (Fr.nil n0) N3) N7) N16), Kp20, sz15, sz21, (Ne.symm ne17), F16_0, F16_1, F16_2, fk18, fk19⟩
theorem pd_7 : parseMethodDescriptor "(C)Ljava/lang/String;" = some ⟨[.char], some (.object "java/lang/String")⟩ := by decide +kernel
theorem d3_21 : decode method_6_code 21 = .ok (.invokestatic 39, 3) := by decide +kernel
theorem d3_24 : decode method_6_code 24 = .ok (.areturn, 1) := by decide +kernel
theorem d3_25 : decode method_6_code 25 = .ok (.iload_n 0, 1) := by decide +kernel
theorem d3_26 : decode method_6_code 26 = .ok (.iconst 2, 1) := by decide +kernel
theorem d3_27 : decode method_6_code 27 = .ok (.if_icmp .ne 22, 3) := by decide +kernel
theorem d3_30 : decode method_6_code 30 = .ok (.new 34, 3) := by decide +kernel
theorem d3_33 : decode method_6_code 33 = .ok (.dup, 1) := by decide +kernel
theorem d3_34 : decode method_6_code 34 = .ok (.iconst 2, 1) := by decide +kernel
theorem d3_35 : decode method_6_code 35 = .ok (.newarray .char, 2) := by decide +kernel
theorem d3_37 : decode method_6_code 37 = .ok (.dup, 1) := by decide +kernel
theorem d3_38 : decode method_6_code 38 = .ok (.iconst 0, 1) := by decide +kernel
theorem d3_39 : decode method_6_code 39 = .ok (.iload_n 1, 1) := by decide +kernel
theorem d3_40 : decode method_6_code 40 = .ok (.castore, 1) := by decide +kernel
theorem d3_41 : decode method_6_code 41 = .ok (.dup, 1) := by decide +kernel
theorem d3_42 : decode method_6_code 42 = .ok (.iconst 1, 1) := by decide +kernel
theorem d3_43 : decode method_6_code 43 = .ok (.iload_n 2, 1) := by decide +kernel
theorem d3_44 : decode method_6_code 44 = .ok (.castore, 1) := by decide +kernel
theorem d5_27 : decode jdk_42_method_149_code 27 = .ok (.getstatic 38, 3) := by decide +kernel
theorem d5_30 : decode jdk_42_method_149_code 30 = .ok (.ifCond .eq 28, 3) := by decide +kernel
theorem d5_33 : decode jdk_42_method_149_code 33 = .ok (.aload_n 1, 1) := by decide +kernel
theorem d5_34 : decode jdk_42_method_149_code 34 = .ok (.iload_n 2, 1) := by decide +kernel
theorem d5_35 : decode jdk_42_method_149_code 35 = .ok (.iload_n 3, 1) := by decide +kernel
theorem d23_0 : decode jdk_52_method_16_code 0 = .ok (.iload_n 2, 1) := by decide +kernel
theorem d23_1 : decode jdk_52_method_16_code 1 = .ok (.newarray .byte, 2) := by decide +kernel
theorem d23_3 : decode jdk_52_method_16_code 3 = .ok (.astore_n 3, 1) := by decide +kernel
theorem d23_4 : decode jdk_52_method_16_code 4 = .ok (.aload_n 0, 1) := by decide +kernel
theorem d23_5 : decode jdk_52_method_16_code 5 = .ok (.iload_n 1, 1) := by decide +kernel
theorem d23_6 : decode jdk_52_method_16_code 6 = .ok (.aload_n 3, 1) := by decide +kernel
theorem d23_7 : decode jdk_52_method_16_code 7 = .ok (.iconst 0, 1) := by decide +kernel
theorem d23_8 : decode jdk_52_method_16_code 8 = .ok (.iload_n 2, 1) := by decide +kernel
theorem d24_0 : decode jdk_52_method_21_code 0 = .ok (.iconst 0, 1) := by decide +kernel
theorem d24_1 : decode jdk_52_method_21_code 1 = .ok (.istore 5, 2) := by decide +kernel
theorem d24_3 : decode jdk_52_method_21_code 3 = .ok (.iload 5, 2) := by decide +kernel
theorem d24_5 : decode jdk_52_method_21_code 5 = .ok (.iload 4, 2) := by decide +kernel
theorem d24_7 : decode jdk_52_method_21_code 7 = .ok (.if_icmp .ge 37, 3) := by decide +kernel
theorem d24_10 : decode jdk_52_method_21_code 10 = .ok (.aload_n 0, 1) := by decide +kernel
theorem d24_11 : decode jdk_52_method_21_code 11 = .ok (.iload_n 1, 1) := by decide +kernel
theorem d24_12 : decode jdk_52_method_21_code 12 = .ok (.caload, 1) := by decide +kernel
theorem d24_13 : decode jdk_52_method_21_code 13 = .ok (.istore 6, 2) := by decide +kernel
theorem d24_15 : decode jdk_52_method_21_code 15 = .ok (.iload 6, 2) := by decide +kernel
theorem d24_17 : decode jdk_52_method_21_code 17 = .ok (.sipush 255, 3) := by decide +kernel
theorem d24_20 : decode jdk_52_method_21_code 20 = .ok (.if_icmp .le 6, 3) := by decide +kernel
theorem d24_26 : decode jdk_52_method_21_code 26 = .ok (.aload_n 2, 1) := by decide +kernel
theorem d24_27 : decode jdk_52_method_21_code 27 = .ok (.iload_n 3, 1) := by decide +kernel
theorem d24_28 : decode jdk_52_method_21_code 28 = .ok (.iload 6, 2) := by decide +kernel
theorem d24_30 : decode jdk_52_method_21_code 30 = .ok (.i2b, 1) := by decide +kernel
theorem d24_31 : decode jdk_52_method_21_code 31 = .ok (.bastore, 1) := by decide +kernel
theorem d24_32 : decode jdk_52_method_21_code 32 = .ok (.iinc 1 1, 3) := by decide +kernel
theorem d24_35 : decode jdk_52_method_21_code 35 = .ok (.iinc 3 1, 3) := by decide +kernel
theorem d24_38 : decode jdk_52_method_21_code 38 = .ok (.iinc 5 1, 3) := by decide +kernel
theorem d24_41 : decode jdk_52_method_21_code 41 = .ok (.goto (-38), 3) := by decide +kernel
theorem d24_44 : decode jdk_52_method_21_code 44 = .ok (.iload 4, 2) := by decide +kernel
theorem d24_46 : decode jdk_52_method_21_code 46 = .ok (.ireturn, 1) := by decide +kernel
theorem ef_24_RIRII (m : MethodId) (x0 : Addr) (x1 : Int32) (x2 : Addr) (x3 : Int32) (x4 : Int32) : entryFrame m #[(.ref x0), (.int x1), (.ref x2), (.int x3), (.int x4)] 7 = mkF m 0 #[.val (.ref x0), .val (.int x1), .val (.ref x2), .val (.int x3), .val (.int x4), .unset, .unset] [] := by first | (simp [entryFrame, mkF, argsToLocals, Value.category]; done) | rfl
theorem pn_c3 : plainName "java/lang/StringUTF16" = true := by first | (simp [plainName, overriddenIn]; done) | decide +kernel
-- java/lang/StringUTF16.compress
set_option maxRecDepth 65536 in
set_option maxHeartbeats 4000000 in
theorem au_18 (l : Launch) (Z : State) (a0 : Array Value) (hw : ∀ d ∈ tables_1, d.before a0 Z = true) (x0 : Addr) (x1 : Addr) (kk0 : ClassId) (p0 : Int32) (p1 : Int32) (kk1 : ClassId) (h0 : Heap) (n0 : Nat) (Z0 : n0 ≤ h0.size) (P0 : Arv Z h0 x0 kk0 .char (2 : Int32) [(.int p0), (.int p1)] (.int 0)) (P2 : Arv Z h0 x1 kk1 .byte (2 : Int32) [(.int 0), (.int 0)] (.int 0)) (P3 : Exa Z h0 x1 "[B") (R_p0 : 0 ≤ p0.toInt ∧ p0.toInt ≤ 255) (R_p1 : 0 ≤ p1.toInt ∧ p1.toInt ≤ 255) (g_x1 : n0 ≤ x1) (ne_x0_x1 : x0 ≠ x1) :
    Ctr l Z (⟨"java/lang/StringUTF16", "compress", "([CI[BII)I"⟩ : MethodName) jdk_52_method_21_code 7 (some .int) ({ frames := 0, cells := 0, slots := 0, locals := 0 } : Room) #[(.ref x0), (.int 0), (.ref x1), (.int 0), (.int 2)] h0 (fun v h L => ∃ (y0 : Int32) (y1 : Int32), (p0.toInt8.toInt32) = y0 ∧ (p1.toInt8.toInt32) = y1 ∧ v = some (.int 2) ∧ Fr n0 L ∧ Keep h0 h [x1] ∧ Arv Z h x1 kk1 .byte (2 : Int32) [(.int y0), (.int y1)] (.int 0) ∧ Exa Z h x1 "[B") := by
  refine Ctr.of (plainFor_of_name pn_c3) ?_
  intro p e s m below meth c T0 hx hZ hby hml hown hnm hret hlk e0 es X0
  refine Go.cast (ef_24_RIRII m x0 (0 : Int32) x1 (0 : Int32) (2 : Int32)) ?_
  generalize hFF : EndN s _ _ _ = FF
  refine Go.iconst X0 hx (pc' := 1) rfl (hb hby d24_0) (v := (0 : Int32)) rfl ?_
  refine Go.istore X0 hx (pc' := 3) rfl (hb hby d24_1) (Ls' := #[.val (.ref x0), .val (.int 0), .val (.ref x1), .val (.int 0), .val (.int 2), .val (.int 0), .unset]) rfl ?_
  refine Go.iload X0 hx (pc' := 5) rfl (hb hby d24_3) rfl ?_
  refine Go.iload X0 hx (pc' := 7) rfl (hb hby d24_5) rfl ?_
  refine Go.icmpNo X0 hx (pc' := 10) rfl (hb hby d24_7) (by decide) ?_
  refine Go.aloadN X0 hx (pc' := 11) rfl (hb hby d24_10) rfl rfl ?_
  refine Go.iloadN X0 hx (pc' := 12) rfl (hb hby d24_11) rfl ?_
  refine Go.caload X0 hx hZ e0 P0 (v := (.int p0)) ⟨by decide, by decide⟩ rfl (pc' := 13) rfl (hb hby d24_12) ?_
  refine Go.istore X0 hx (pc' := 15) rfl (hb hby d24_13) (Ls' := #[.val (.ref x0), .val (.int 0), .val (.ref x1), .val (.int 0), .val (.int 2), .val (.int 0), .val (.int p0)]) rfl ?_
  refine Go.iload X0 hx (pc' := 17) rfl (hb hby d24_15) rfl ?_
  refine Go.sipush X0 hx (pc' := 20) rfl (hb hby d24_17) (v := (255 : Int32)) (by decide) ?_
  refine Go.icmpYes X0 hx (pc' := 26) (hb hby d24_20) (flt (own_nlt_r (own_rlit (n := 255) (by decide)) R_p0 (by decide))).2.2.2 (by decide) (by decide) ?_
  refine Go.aloadN X0 hx (pc' := 27) rfl (hb hby d24_26) rfl rfl ?_
  refine Go.iloadN X0 hx (pc' := 28) rfl (hb hby d24_27) rfl ?_
  refine Go.iload X0 hx (pc' := 30) rfl (hb hby d24_28) rfl ?_
  refine Go.i2b X0 hx (pc' := 31) rfl (hb hby d24_30) ?_
  generalize hz1 : (p0.toInt8.toInt32) = z1
  have r2 : -128 ≤ z1.toInt ∧ z1.toInt ≤ 127 := own_ri2b hz1
  refine Go.bastore X0 hx hZ e0 P2 z1 (own_nar_byte r2 (by decide) (by decide)) ⟨by decide, by decide⟩ 0 rfl (Nat.le_of_ble_eq_true rfl) (pc' := 32) rfl (hb hby d24_31) ?_
  intro T3 h3 e3 W3 V3 X3
  have N3 := Fr.snoc X3 (Fr.nil n0) g_x1
  refine Go.iinc X3 hx (pc' := 35) rfl (hb hby d24_32) rfl (y := (1 : Int32)) (by decide) (Ls' := #[.val (.ref x0), .val (.int 1), .val (.ref x1), .val (.int 0), .val (.int 2), .val (.int 0), .val (.int p0)]) rfl ?_
  refine Go.iinc X3 hx (pc' := 38) rfl (hb hby d24_35) rfl (y := (1 : Int32)) (by decide) (Ls' := #[.val (.ref x0), .val (.int 1), .val (.ref x1), .val (.int 1), .val (.int 2), .val (.int 0), .val (.int p0)]) rfl ?_
  refine Go.iinc X3 hx (pc' := 41) rfl (hb hby d24_38) rfl (y := (1 : Int32)) (by decide) (Ls' := #[.val (.ref x0), .val (.int 1), .val (.ref x1), .val (.int 1), .val (.int 2), .val (.int 1), .val (.int p0)]) rfl ?_
  refine Go.goto X3 hx (pc' := 3) (hb hby d24_41) (by decide) (by decide) ?_
  refine Go.iload X3 hx (pc' := 5) rfl (hb hby d24_3) rfl ?_
  refine Go.iload X3 hx (pc' := 7) rfl (hb hby d24_5) rfl ?_
  refine Go.icmpNo X3 hx (pc' := 10) rfl (hb hby d24_7) (by decide) ?_
  refine Go.aloadN X3 hx (pc' := 11) rfl (hb hby d24_10) rfl rfl ?_
  refine Go.iloadN X3 hx (pc' := 12) rfl (hb hby d24_11) rfl ?_
  have fk4 := (P0.other W3 ne_x0_x1)
  refine Go.caload X3 hx hZ e3 fk4 (v := (.int p1)) ⟨by decide, by decide⟩ rfl (pc' := 13) rfl (hb hby d24_12) ?_
  refine Go.istore X3 hx (pc' := 15) rfl (hb hby d24_13) (Ls' := #[.val (.ref x0), .val (.int 1), .val (.ref x1), .val (.int 1), .val (.int 2), .val (.int 1), .val (.int p1)]) rfl ?_
  refine Go.iload X3 hx (pc' := 17) rfl (hb hby d24_15) rfl ?_
  refine Go.sipush X3 hx (pc' := 20) rfl (hb hby d24_17) (v := (255 : Int32)) (by decide) ?_
  refine Go.icmpYes X3 hx (pc' := 26) (hb hby d24_20) (flt (own_nlt_r (own_rlit (n := 255) (by decide)) R_p1 (by decide))).2.2.2 (by decide) (by decide) ?_
  refine Go.aloadN X3 hx (pc' := 27) rfl (hb hby d24_26) rfl rfl ?_
  refine Go.iloadN X3 hx (pc' := 28) rfl (hb hby d24_27) rfl ?_
  refine Go.iload X3 hx (pc' := 30) rfl (hb hby d24_28) rfl ?_
  refine Go.i2b X3 hx (pc' := 31) rfl (hb hby d24_30) ?_
  generalize hz5 : (p1.toInt8.toInt32) = z5
  have r6 : -128 ≤ z5.toInt ∧ z5.toInt ≤ 127 := own_ri2b hz5
  refine Go.bastore X3 hx hZ e3 V3 z5 (own_nar_byte r6 (by decide) (by decide)) ⟨by decide, by decide⟩ 1 rfl (Nat.le_of_ble_eq_true rfl) (pc' := 32) rfl (hb hby d24_31) ?_
  intro T7 h7 e7 W7 V7 X7
  have N7 := Fr.snoc X7 N3 g_x1
  refine Go.iinc X7 hx (pc' := 35) rfl (hb hby d24_32) rfl (y := (2 : Int32)) (by decide) (Ls' := #[.val (.ref x0), .val (.int 2), .val (.ref x1), .val (.int 1), .val (.int 2), .val (.int 1), .val (.int p1)]) rfl ?_
  refine Go.iinc X7 hx (pc' := 38) rfl (hb hby d24_35) rfl (y := (2 : Int32)) (by decide) (Ls' := #[.val (.ref x0), .val (.int 2), .val (.ref x1), .val (.int 2), .val (.int 2), .val (.int 1), .val (.int p1)]) rfl ?_
  refine Go.iinc X7 hx (pc' := 41) rfl (hb hby d24_38) rfl (y := (2 : Int32)) (by decide) (Ls' := #[.val (.ref x0), .val (.int 2), .val (.ref x1), .val (.int 2), .val (.int 2), .val (.int 2), .val (.int p1)]) rfl ?_
  refine Go.goto X7 hx (pc' := 3) (hb hby d24_41) (by decide) (by decide) ?_
  refine Go.iload X7 hx (pc' := 5) rfl (hb hby d24_3) rfl ?_
  refine Go.iload X7 hx (pc' := 7) rfl (hb hby d24_5) rfl ?_
  refine Go.icmpYes X7 hx (pc' := 44) (hb hby d24_7) (by decide) (by decide) (by decide) ?_
  refine Go.iload X7 hx (pc' := 46) rfl (hb hby d24_44) rfl ?_
  subst hFF
  refine Go.retI X7 hx hlk hret (hb hby d24_46) (by decide) (by decide) ?_
  rw [e7]
  have V8 : Arv Z h7 x1 kk1 .byte (2 : Int32) [(.int z1), (.int z5)] (.int 0) := V7
  have fk9 : Exa Z h7 x1 "[B" := ((P3.wr W3).wr W7)
  have Kp10 : Keep h0 h3 [x1] := ((Keep.refl h0 [x1]).wr W3 (Or.inl (List.mem_of_getElem? (i := 0) rfl)))
  have Kp11 : Keep h0 h7 [x1] := (Kp10.wr W7 (Or.inl (List.mem_of_getElem? (i := 0) rfl)))
  exact ⟨z1, z5, hz1, hz5, rfl, N7, Kp11, V8, fk9⟩
theorem pd_8 : parseMethodDescriptor "([CI[BII)I" = some ⟨[(.array .char), .int, (.array .byte), .int, .int], some .int⟩ := by decide +kernel
theorem d23_9 : decode jdk_52_method_16_code 9 = .ok (.invokestatic 115, 3) := by decide +kernel
theorem d23_12 : decode jdk_52_method_16_code 12 = .ok (.istore 4, 2) := by decide +kernel
theorem d23_14 : decode jdk_52_method_16_code 14 = .ok (.iload 4, 2) := by decide +kernel
theorem d23_16 : decode jdk_52_method_16_code 16 = .ok (.iload_n 2, 1) := by decide +kernel
theorem d23_17 : decode jdk_52_method_16_code 17 = .ok (.if_icmp .eq 40, 3) := by decide +kernel
theorem d23_57 : decode jdk_52_method_16_code 57 = .ok (.aload_n 3, 1) := by decide +kernel
theorem d23_58 : decode jdk_52_method_16_code 58 = .ok (.areturn, 1) := by decide +kernel
theorem ef_23_RII (m : MethodId) (x0 : Addr) (x1 : Int32) (x2 : Int32) : entryFrame m #[(.ref x0), (.int x1), (.int x2)] 6 = mkF m 0 #[.val (.ref x0), .val (.int x1), .val (.int x2), .unset, .unset, .unset] [] := by first | (simp [entryFrame, mkF, argsToLocals, Value.category]; done) | rfl
-- java/lang/StringUTF16.compress
set_option maxRecDepth 65536 in
set_option maxHeartbeats 4000000 in
theorem au_17 (l : Launch) (Z : State) (a0 : Array Value) (hw : ∀ d ∈ tables_1, d.before a0 Z = true) (x0 : Addr) (kk0 : ClassId) (p0 : Int32) (p1 : Int32) (h0 : Heap) (n0 : Nat) (Z0 : n0 ≤ h0.size) (P0 : Arv Z h0 x0 kk0 .char (2 : Int32) [(.int p0), (.int p1)] (.int 0)) (R_p0 : 0 ≤ p0.toInt ∧ p0.toInt ≤ 255) (R_p1 : 0 ≤ p1.toInt ∧ p1.toInt ≤ 255) :
    Ctr l Z (⟨"java/lang/StringUTF16", "compress", "([CII)[B"⟩ : MethodName) jdk_52_method_16_code 6 (some (.array .byte)) ({ frames := 1, cells := 1, slots := 2, locals := 18 } : Room) #[(.ref x0), (.int 0), (.int 2)] h0 (fun v h L => ∃ (y0 : Int32) (y1 : Int32) (y2 : Addr) (y3 : ClassId), (p0.toInt8.toInt32) = y0 ∧ (p1.toInt8.toInt32) = y1 ∧ v = some (.ref y2) ∧ Fr n0 L ∧ Keep h0 h [] ∧ h0.size ≤ y2 ∧ Arv Z h y2 y3 .byte (2 : Int32) [(.int y0), (.int y1)] (.int 0) ∧ Exa Z h y2 "[B") := by
  refine Ctr.of (plainFor_of_name pn_c3) ?_
  intro p e s m below meth c T0 hx hZ hby hml hown hnm hret hlk e0 es X0
  refine Go.cast (ef_23_RII m x0 (0 : Int32) (2 : Int32)) ?_
  generalize hFF : EndN s _ _ _ = FF
  refine Go.iloadN X0 hx (pc' := 1) rfl (hb hby d23_0) rfl ?_
  refine Go.newarray X0 hx hZ (ty := .byte) rfl (tw_25 hw) e0 (by decide) (cap := 2) (by decide) (by decide) (by decide) (by decide) (ad := "[B") (by decide) 2 (pc' := 3) rfl (hb hby d23_1) ?_
  intro T1 h1 b1 k1 e1 E1 g1 V1 A1 X1
  have V1' : Arv Z h1 b1 k1 .byte (2 : Int32) [(.int 0), (.int 0)] (.int 0) := V1
  refine Go.astoreN X1 hx (pc' := 4) rfl (hb hby d23_3) (Ls' := #[.val (.ref x0), .val (.int 0), .val (.int 2), .val (.ref b1), .unset, .unset]) rfl rfl ?_
  refine Go.aloadN X1 hx (pc' := 5) rfl (hb hby d23_4) rfl rfl ?_
  refine Go.iloadN X1 hx (pc' := 6) rfl (hb hby d23_5) rfl ?_
  refine Go.aloadN X1 hx (pc' := 7) rfl (hb hby d23_6) rfl rfl ?_
  refine Go.iconst X1 hx (pc' := 8) rfl (hb hby d23_7) (v := (0 : Int32)) rfl ?_
  refine Go.iloadN X1 hx (pc' := 9) rfl (hb hby d23_8) rfl ?_
  have Kp3 : Keep h0 h1 [] := ((Keep.refl h0 []).ext E1)
  have Zn2 : n0 ≤ h1.size := Nat.le_trans Z0 Kp3.1
  have fk4 := (P0.ext E1)
  have sz6 : h0.size ≤ b1 := Nat.le_trans (Keep.refl h0 []).1 (Nat.le_of_eq g1.symm)
  have ge5 : n0 ≤ b1 := Nat.le_trans Z0 sz6
  have ne7 : x0 ≠ b1 := Nat.ne_of_lt (Nat.lt_of_lt_of_le P0.lt (Nat.le_of_eq g1.symm))
  refine Go.callS X1 hx hZ hown (tw_141 hw) (tw_142 hw) (tw_139 hw) (tw_143 hw) (by decide) (tw_143 hw) (tw_139 hw) (au_18 l Z a0 hw x0 b1 kk0 p0 p1 k1 h1 n0 Zn2 fk4 V1' A1 R_p0 R_p1 ge5 ne7) e1 (argsL := [(.ref x0), (.int 0), (.ref b1), (.int 0), (.int 2)]) (rest := []) (pc' := 12) rfl (by rw [hml]; rfl) (lenOf pd_8 rfl) rfl rfl (W := 0) (Nat.le_of_eq rfl) (by decide) (by decide) (by decide) (by decide) (hb hby d23_9) ?_
  intro v8 T8 L8 q8 X8
  obtain ⟨h8, e8⟩ : ∃ z, T8.heap = z := ⟨_, rfl⟩
  rw [e8] at q8
  obtain ⟨z8_0, z8_1, d8_0, d8_1, rfl, N8, K8, F8_0, F8_1⟩ := q8
  show Go _ _ _ _ (T8.setTop (mkF m 12 #[.val (.ref x0), .val (.int 0), .val (.int 2), .val (.ref b1), .unset, .unset] [(.int 2)]))
  refine Go.istore X8 hx (pc' := 14) rfl (hb hby d23_12) (Ls' := #[.val (.ref x0), .val (.int 0), .val (.int 2), .val (.ref b1), .val (.int 2), .unset]) rfl ?_
  refine Go.iload X8 hx (pc' := 16) rfl (hb hby d23_14) rfl ?_
  refine Go.iloadN X8 hx (pc' := 17) rfl (hb hby d23_16) rfl ?_
  refine Go.icmpYes X8 hx (pc' := 57) (hb hby d23_17) (by decide) (by decide) (by decide) ?_
  refine Go.aloadN X8 hx (pc' := 58) rfl (hb hby d23_57) rfl rfl ?_
  subst hFF
  refine Go.retR X8 hx hlk (t := (.array .byte)) hret rfl rfl (hb hby d23_58) (by decide) (by decide) ?_
  rw [e8]
  have Kp9 : Keep h0 h8 [] := (Kp3.trans K8 (allS (Or.inr sz6) all0))
  exact ⟨z8_0, z8_1, b1, k1, d8_0, d8_1, rfl, (Fr.app (Fr.nil n0) N8), Kp9, sz6, F8_0, F8_1⟩
theorem pd_9 : parseMethodDescriptor "([CII)[B" = some ⟨[(.array .char), .int, .int], some (.array .byte)⟩ := by decide +kernel
theorem d5_36 : decode jdk_42_method_149_code 36 = .ok (.invokestatic 177, 3) := by decide +kernel
theorem d5_39 : decode jdk_42_method_149_code 39 = .ok (.astore 5, 2) := by decide +kernel
theorem d5_41 : decode jdk_42_method_149_code 41 = .ok (.aload_n 0, 1) := by decide +kernel
theorem d5_42 : decode jdk_42_method_149_code 42 = .ok (.aload 5, 2) := by decide +kernel
theorem d5_44 : decode jdk_42_method_149_code 44 = .ok (.iload_n 3, 1) := by decide +kernel
theorem d25_0 : decode jdk_52_method_15_code 0 = .ok (.iload_n 1, 1) := by decide +kernel
theorem d25_1 : decode jdk_52_method_15_code 1 = .ok (.aload_n 0, 1) := by decide +kernel
theorem d25_2 : decode jdk_52_method_15_code 2 = .ok (.arraylength, 1) := by decide +kernel
theorem d25_3 : decode jdk_52_method_15_code 3 = .ok (.isub, 1) := by decide +kernel
theorem d25_4 : decode jdk_52_method_15_code 4 = .ok (.bipush 31, 2) := by decide +kernel
theorem d25_6 : decode jdk_52_method_15_code 6 = .ok (.iushr, 1) := by decide +kernel
theorem d25_7 : decode jdk_52_method_15_code 7 = .ok (.i2b, 1) := by decide +kernel
theorem d25_8 : decode jdk_52_method_15_code 8 = .ok (.ireturn, 1) := by decide +kernel
theorem ef_25_RI (m : MethodId) (x0 : Addr) (x1 : Int32) : entryFrame m #[(.ref x0), (.int x1)] 2 = mkF m 0 #[.val (.ref x0), .val (.int x1)] [] := by first | (simp [entryFrame, mkF, argsToLocals, Value.category]; done) | rfl
-- java/lang/StringUTF16.coderFromArrayLen
set_option maxRecDepth 65536 in
set_option maxHeartbeats 4000000 in
theorem au_19 (l : Launch) (Z : State) (a0 : Array Value) (hw : ∀ d ∈ tables_1, d.before a0 Z = true) (x0 : Addr) (kk0 : ClassId) (p0 : Int32) (p1 : Int32) (h0 : Heap) (n0 : Nat) (Z0 : n0 ≤ h0.size) (P0 : Arv Z h0 x0 kk0 .byte (2 : Int32) [(.int p0), (.int p1)] (.int 0)) :
    Ctr l Z (⟨"java/lang/StringUTF16", "coderFromArrayLen", "([BI)B"⟩ : MethodName) jdk_52_method_15_code 2 (some .byte) ({ frames := 0, cells := 0, slots := 0, locals := 0 } : Room) #[(.ref x0), (.int 2)] h0 (fun v h L => v = some (.int 0) ∧ Fr n0 L ∧ h = h0) := by
  refine Ctr.of (plainFor_of_name pn_c3) ?_
  intro p e s m below meth c T0 hx hZ hby hml hown hnm hret hlk e0 es X0
  refine Go.cast (ef_25_RI m x0 (2 : Int32)) ?_
  generalize hFF : EndN s _ _ _ = FF
  refine Go.iloadN X0 hx (pc' := 1) rfl (hb hby d25_0) rfl ?_
  refine Go.aloadN X0 hx (pc' := 2) rfl (hb hby d25_1) rfl rfl ?_
  refine Go.arraylength X0 hx hZ e0 P0 (pc' := 3) rfl (hb hby d25_2) ?_
  refine Go.isub X0 hx (pc' := 4) rfl (hb hby d25_3) ?_
  rw [show ((2 : Int32) - (2 : Int32)) = (0 : Int32) from by decide]
  refine Go.bipush X0 hx (pc' := 6) rfl (hb hby d25_4) (v := (31 : Int32)) (by decide) ?_
  refine Go.iushr X0 hx (pc' := 7) rfl (hb hby d25_6) ?_
  rw [show (((0 : Int32).toUInt32 >>> ((31 : Int32) &&& 31).toUInt32).toInt32) = (0 : Int32) from by decide]
  refine Go.i2b X0 hx (pc' := 8) rfl (hb hby d25_7) ?_
  rw [show ((0 : Int32).toInt8.toInt32) = (0 : Int32) from by decide]
  subst hFF
  refine Go.retN X0 hx hlk (t := .byte) hret (by simp) (hb hby d25_8) (by decide) (by decide) ?_
  rw [e0]
  exact ⟨(congrArg (fun z => some (Value.int z)) (by decide : nar .byte (0 : Int32) = (0 : Int32))), (Fr.nil n0), rfl⟩
theorem pd_10 : parseMethodDescriptor "([BI)B" = some ⟨[(.array .byte), .int], some .byte⟩ := by decide +kernel
theorem d5_45 : decode jdk_42_method_149_code 45 = .ok (.invokestatic 47, 3) := by decide +kernel
theorem d5_48 : decode jdk_42_method_149_code 48 = .ok (.putfield 15, 3) := by decide +kernel
theorem d5_51 : decode jdk_42_method_149_code 51 = .ok (.aload_n 0, 1) := by decide +kernel
theorem d5_52 : decode jdk_42_method_149_code 52 = .ok (.aload 5, 2) := by decide +kernel
theorem d5_54 : decode jdk_42_method_149_code 54 = .ok (.putfield 9, 3) := by decide +kernel
theorem d5_57 : decode jdk_42_method_149_code 57 = .ok (.return_, 1) := by decide +kernel
-- java/lang/String.init
set_option maxRecDepth 65536 in
set_option maxHeartbeats 4000000 in
theorem au_16 (l : Launch) (Z : State) (a0 : Array Value) (hw : ∀ d ∈ tables_1, d.before a0 Z = true) (x0 : Addr) (x1 : Addr) (kk0 : ClassId) (p0 : Int32) (p1 : Int32) (gz1 : Int32) (gv5 : Value) (h0 : Heap) (n0 : Nat) (Z0 : n0 ≤ h0.size) (O0 : Old Z n0 h0) (G : Glob Z gz1 gv5) (P0 : Exa Z h0 x0 "java/lang/String") (P1 : Fld Z h0 x0 "java/lang/String" "coder" "B" (.int 0)) (P2 : Fld Z h0 x0 "java/lang/String" "value" "[B" .null) (P3 : Arv Z h0 x1 kk0 .char (2 : Int32) [(.int p0), (.int p1)] (.int 0)) (R_p0 : 0 ≤ p0.toInt ∧ p0.toInt ≤ 255) (R_p1 : 0 ≤ p1.toInt ∧ p1.toInt ≤ 255) (g_x0 : n0 ≤ x0) :
    Ctr l Z (⟨"java/lang/String", "<init>", "([CIILjava/lang/Void;)V"⟩ : MethodName) jdk_42_method_149_code 6 none ({ frames := 2, cells := 1, slots := 2, locals := 35 } : Room) #[(.ref x0), (.ref x1), (.int 0), (.int 2), .null] h0 (fun v h L => ∃ (y0 : Int32) (y1 : Int32) (y2 : Addr) (y3 : ClassId), (p0.toInt8.toInt32) = y0 ∧ (p1.toInt8.toInt32) = y1 ∧ v = none ∧ Fr n0 L ∧ Keep h0 h [x0] ∧ h0.size ≤ y2 ∧ Exa Z h x0 "java/lang/String" ∧ Fld Z h x0 "java/lang/String" "coder" "B" (.int 0) ∧ Fld Z h x0 "java/lang/String" "value" "[B" (.ref y2) ∧ Arv Z h y2 y3 .byte (2 : Int32) [(.int y0), (.int y1)] (.int 0) ∧ Exa Z h y2 "[B") := by
  refine Ctr.of (plainFor_of_name pn_c1) ?_
  intro p e s m below meth c T0 hx hZ hby hml hown hnm hret hlk e0 es X0
  have G' := G
  obtain ⟨G0, -, G2, -⟩ := G'
  refine Go.cast (ef_5_RRIIN m x0 x1 (0 : Int32) (2 : Int32)) ?_
  generalize hFF : EndN s _ _ _ = FF
  refine Go.aloadN X0 hx (pc' := 1) rfl (hb hby d5_0) rfl rfl ?_
  refine Go.initO X0 hx hZ hown (tw_21 hw) (tw_22 hw) (tw_23 hw) e0 (by decide) (W := 0) (by rw [hml]; rfl) (Nat.le_of_eq rfl) (by decide) (pc' := 4) rfl (hb hby d5_1) ?_
  intro T1 e1 X1
  refine Go.iloadN X1 hx (pc' := 5) rfl (hb hby d5_4) rfl ?_
  refine Go.ifYes X1 hx (pc' := 27) (hb hby d5_5) (by decide) (by decide) (by decide) ?_
  have fk2 : Sta Z h0 "java/lang/String" "COMPACT_STRINGS" "Z" (.int gz1) := G0.ext O0.2
  refine Go.getS X1 hx hZ hown (host := "") (Or.inl (tw_57 hw)) Via.refl e1 fk2 (pc' := 30) rfl (hb hby d5_27) ?_
  intro T3 e3 X3
  refine Go.ifNo X3 hx (pc' := 33) rfl (hb hby d5_30) (feq G2).1 ?_
  refine Go.aloadN X3 hx (pc' := 34) rfl (hb hby d5_33) rfl rfl ?_
  refine Go.iloadN X3 hx (pc' := 35) rfl (hb hby d5_34) rfl ?_
  refine Go.iloadN X3 hx (pc' := 36) rfl (hb hby d5_35) rfl ?_
  refine Go.callS X3 hx hZ hown (tw_137 hw) (tw_138 hw) (tw_139 hw) (tw_140 hw) (by decide) (tw_140 hw) (tw_139 hw) (au_17 l Z a0 hw x1 kk0 p0 p1 h0 n0 Z0 P3 R_p0 R_p1) e3 (argsL := [(.ref x1), (.int 0), (.int 2)]) (rest := []) (pc' := 39) rfl (by rw [hml]; rfl) (lenOf pd_9 rfl) rfl rfl (W := 0) (Nat.le_of_eq rfl) (by decide) (by decide) (by decide) (by decide) (hb hby d5_36) ?_
  intro v4 T4 L4 q4 X4
  obtain ⟨h4, e4⟩ : ∃ z, T4.heap = z := ⟨_, rfl⟩
  rw [e4] at q4
  obtain ⟨z4_0, z4_1, b4_0, k4_0, d4_0, d4_1, rfl, N4, K4, s4_0, F4_0, F4_1⟩ := q4
  show Go _ _ _ _ (T4.setTop (mkF m 39 #[.val (.ref x0), .val (.ref x1), .val (.int 0), .val (.int 2), .val .null, .unset] [(.ref b4_0)]))
  refine Go.astore X4 hx (pc' := 41) rfl (hb hby d5_39) (Ls' := #[.val (.ref x0), .val (.ref x1), .val (.int 0), .val (.int 2), .val .null, .val (.ref b4_0)]) rfl rfl ?_
  refine Go.aloadN X4 hx (pc' := 42) rfl (hb hby d5_41) rfl rfl ?_
  refine Go.aload X4 hx (pc' := 44) rfl (hb hby d5_42) rfl rfl ?_
  refine Go.iloadN X4 hx (pc' := 45) rfl (hb hby d5_44) rfl ?_
  have r5 : -128 ≤ z4_0.toInt ∧ z4_0.toInt ≤ 127 := own_ri2b d4_0
  have r6 : -128 ≤ z4_1.toInt ∧ z4_1.toInt ≤ 127 := own_ri2b d4_1
  have Kp8 : Keep h0 h4 [x0] := ((Keep.refl h0 [x0]).trans K4 all0)
  have Zn7 : n0 ≤ h4.size := Nat.le_trans Z0 Kp8.1
  refine Go.callS X4 hx hZ hown (tw_144 hw) (tw_145 hw) (tw_139 hw) (tw_146 hw) (by decide) (tw_146 hw) (tw_139 hw) (au_19 l Z a0 hw b4_0 k4_0 z4_0 z4_1 h4 n0 Zn7 F4_0) e4 (argsL := [(.ref b4_0), (.int 2)]) (rest := [(.ref x0)]) (pc' := 48) rfl (by rw [hml]; rfl) (lenOf pd_10 rfl) rfl rfl (W := 1) (Nat.le_of_eq rfl) (by decide) (by decide) (by decide) (by decide) (hb hby d5_45) ?_
  intro v9 T9 L9 q9 X9
  obtain ⟨rfl, N9, e9⟩ := q9
  show Go _ _ _ _ (T9.setTop (mkF m 48 #[.val (.ref x0), .val (.ref x1), .val (.int 0), .val (.int 2), .val .null, .val (.ref b4_0)] [(.int 0), (.ref x0)]))
  have fk10 : Fld Z h4 x0 "java/lang/String" "coder" "B" (.int 0) := (P1.keep K4 nin0)
  have fk11 : Exa Z h4 x0 "java/lang/String" := (P0.keep K4)
  refine Go.putFN X9 hx hZ hown (tw_31 hw) Via.refl e9 fk10 fk11 (Or.inr ⟨(tw_27 hw), rfl, hnm⟩) (tw_11 hw) (ty := .byte) (v' := (.int 0)) (by decide) (by decide) (by decide) (pc' := 51) rfl (hb hby d5_48) ?_
  intro T12 h12 e12 W12 F12 X12
  have N12 := Fr.snoc X12 (Fr.app (Fr.app (Fr.nil n0) N4) N9) g_x0
  refine Go.aloadN X12 hx (pc' := 52) rfl (hb hby d5_51) rfl rfl ?_
  refine Go.aload X12 hx (pc' := 54) rfl (hb hby d5_52) rfl rfl ?_
  have fk13 : Fld Z h12 x0 "java/lang/String" "value" "[B" .null := ((P2.keep K4 nin0).other W12 (Or.inr (slot_ne (Or.inr (tw_26 hw)) (Or.inr (tw_27 hw)) (by decide) (t := (.array .byte)) (t' := .byte) (by decide) (by decide))))
  have fk14 : Exa Z h12 x0 "java/lang/String" := (fk11.wr W12)
  refine Go.putF X12 hx hZ hown (host := "") (Or.inl (tw_30 hw)) Via.refl e12 fk13 fk14 (Or.inr ⟨(tw_26 hw), rfl, hnm⟩) (tw_11 hw) (ty := (.array .byte)) (by decide) rfl rfl (pc' := 57) rfl (hb hby d5_54) ?_
  intro T15 h15 e15 W15 F15 X15
  have N15 := Fr.snoc X15 N12 g_x0
  subst hFF
  refine Go.ret0 X15 hx hlk hret (hb hby d5_57) (by decide) (by decide) ?_
  rw [e15]
  have fk16 : Exa Z h15 x0 "java/lang/String" := (fk14.wr W15)
  have fk17 : Fld Z h15 x0 "java/lang/String" "coder" "B" (.int 0) := (F12.other W15 (Or.inr (slot_ne (Or.inr (tw_27 hw)) (Or.inr (tw_26 hw)) (by decide) (t := .byte) (t' := (.array .byte)) (by decide) (by decide))))
  have ne18 : x0 ≠ b4_0 := Nat.ne_of_lt (Nat.lt_of_lt_of_le P0.lt s4_0)
  have fk19 := ((F4_0.other W12 (Ne.symm ne18)).other W15 (Ne.symm ne18))
  have fk20 : Exa Z h15 b4_0 "[B" := ((F4_1.wr W12).wr W15)
  have Kp21 : Keep h0 h12 [x0] := (Kp8.wr W12 (Or.inl (List.mem_of_getElem? (i := 0) rfl)))
  have Kp22 : Keep h0 h15 [x0] := (Kp21.wr W15 (Or.inl (List.mem_of_getElem? (i := 0) rfl)))
  have sz23 : h0.size ≤ b4_0 := Nat.le_trans (Keep.refl h0 [x0]).1 s4_0
  exact ⟨z4_0, z4_1, b4_0, k4_0, d4_0, d4_1, rfl, N15, Kp22, sz23, fk16, fk17, F15, fk19, fk20⟩
-- java/lang/String.init
set_option maxRecDepth 65536 in
set_option maxHeartbeats 4000000 in
theorem au_15 (l : Launch) (Z : State) (a0 : Array Value) (hw : ∀ d ∈ tables_1, d.before a0 Z = true) (x0 : Addr) (x1 : Addr) (kk0 : ClassId) (p0 : Int32) (p1 : Int32) (gz1 : Int32) (gv5 : Value) (h0 : Heap) (n0 : Nat) (Z0 : n0 ≤ h0.size) (O0 : Old Z n0 h0) (G : Glob Z gz1 gv5) (P0 : Exa Z h0 x0 "java/lang/String") (P1 : Fld Z h0 x0 "java/lang/String" "coder" "B" (.int 0)) (P2 : Fld Z h0 x0 "java/lang/String" "value" "[B" .null) (P3 : Arv Z h0 x1 kk0 .char (2 : Int32) [(.int p0), (.int p1)] (.int 0)) (R_p0 : 0 ≤ p0.toInt ∧ p0.toInt ≤ 255) (R_p1 : 0 ≤ p1.toInt ∧ p1.toInt ≤ 255) (g_x0 : n0 ≤ x0) :
    Ctr l Z (⟨"java/lang/String", "<init>", "([C)V"⟩ : MethodName) jdk_42_method_3_code 2 none ({ frames := 3, cells := 1, slots := 2, locals := 52 } : Room) #[(.ref x0), (.ref x1)] h0 (fun v h L => ∃ (y0 : Int32) (y1 : Int32) (y2 : Addr) (y3 : ClassId), (p0.toInt8.toInt32) = y0 ∧ (p1.toInt8.toInt32) = y1 ∧ v = none ∧ Fr n0 L ∧ Keep h0 h [x0] ∧ h0.size ≤ y2 ∧ Exa Z h x0 "java/lang/String" ∧ Fld Z h x0 "java/lang/String" "coder" "B" (.int 0) ∧ Fld Z h x0 "java/lang/String" "value" "[B" (.ref y2) ∧ Arv Z h y2 y3 .byte (2 : Int32) [(.int y0), (.int y1)] (.int 0) ∧ Exa Z h y2 "[B") := by
  refine Ctr.of (plainFor_of_name pn_c1) ?_
  intro p e s m below meth c T0 hx hZ hby hml hown hnm hret hlk e0 es X0
  refine Go.cast (ef_4_RR m x0 x1) ?_
  generalize hFF : EndN s _ _ _ = FF
  refine Go.aloadN X0 hx (pc' := 1) rfl (hb hby d4_0) rfl rfl ?_
  refine Go.aloadN X0 hx (pc' := 2) rfl (hb hby d4_1) rfl rfl ?_
  refine Go.iconst X0 hx (pc' := 3) rfl (hb hby d4_2) (v := (0 : Int32)) rfl ?_
  refine Go.aloadN X0 hx (pc' := 4) rfl (hb hby d4_3) rfl rfl ?_
  refine Go.arraylength X0 hx hZ e0 P3 (pc' := 5) rfl (hb hby d4_4) ?_
  refine Go.anull X0 hx (pc' := 6) rfl (hb hby d4_5) ?_
  refine Go.callN X0 hx hZ hown rfl (tw_17 hw) (tw_18 hw) (tw_20 hw) (by decide) (tw_20 hw) (tw_12 hw) (au_16 l Z a0 hw x0 x1 kk0 p0 p1 gz1 gv5 h0 n0 Z0 O0 G P0 P1 P2 P3 R_p0 R_p1 g_x0) e0 (a := x0) (argsL := [(.ref x1), (.int 0), (.int 2), .null]) (rest := []) (pc' := 9) rfl (by rw [hml]; rfl) (lenOf pd_2 rfl) rfl rfl (W := 0) (Nat.le_of_eq rfl) (by decide) (by decide) (by decide) (by decide) (hb hby d4_6) ?_
  intro v1 T1 L1 q1 X1
  obtain ⟨h1, e1⟩ : ∃ z, T1.heap = z := ⟨_, rfl⟩
  rw [e1] at q1
  obtain ⟨z1_0, z1_1, b1_0, k1_0, d1_0, d1_1, rfl, N1, K1, s1_0, F1_0, F1_1, F1_2, F1_3, F1_4⟩ := q1
  show Go _ _ _ _ (T1.setTop (mkF m 9 #[.val (.ref x0), .val (.ref x1)] []))
  subst hFF
  refine Go.ret0 X1 hx hlk hret (hb hby d4_9) (by decide) (by decide) ?_
  rw [e1]
  have Kp2 : Keep h0 h1 [x0] := ((Keep.refl h0 [x0]).trans K1 (allS (Or.inl (List.mem_of_getElem? (i := 0) rfl)) all0))
  have sz3 : h0.size ≤ b1_0 := Nat.le_trans (Keep.refl h0 [x0]).1 s1_0
  exact ⟨z1_0, z1_1, b1_0, k1_0, d1_0, d1_1, rfl, (Fr.app (Fr.nil n0) N1), Kp2, sz3, F1_0, F1_1, F1_2, F1_3, F1_4⟩
theorem d3_45 : decode method_6_code 45 = .ok (.invokespecial 36, 3) := by decide +kernel
theorem d3_48 : decode method_6_code 48 = .ok (.areturn, 1) := by decide +kernel
theorem d3_49 : decode method_6_code 49 = .ok (.new 34, 3) := by decide +kernel
theorem d3_52 : decode method_6_code 52 = .ok (.dup, 1) := by decide +kernel
theorem d3_53 : decode method_6_code 53 = .ok (.iconst 3, 1) := by decide +kernel
theorem d3_54 : decode method_6_code 54 = .ok (.newarray .char, 2) := by decide +kernel
theorem d3_56 : decode method_6_code 56 = .ok (.dup, 1) := by decide +kernel
theorem d3_57 : decode method_6_code 57 = .ok (.iconst 0, 1) := by decide +kernel
theorem d3_58 : decode method_6_code 58 = .ok (.iload_n 1, 1) := by decide +kernel
theorem d3_59 : decode method_6_code 59 = .ok (.castore, 1) := by decide +kernel
theorem d3_60 : decode method_6_code 60 = .ok (.dup, 1) := by decide +kernel
theorem d3_61 : decode method_6_code 61 = .ok (.iconst 1, 1) := by decide +kernel
theorem d3_62 : decode method_6_code 62 = .ok (.iload_n 2, 1) := by decide +kernel
theorem d3_63 : decode method_6_code 63 = .ok (.castore, 1) := by decide +kernel
theorem d3_64 : decode method_6_code 64 = .ok (.dup, 1) := by decide +kernel
theorem d3_65 : decode method_6_code 65 = .ok (.iconst 2, 1) := by decide +kernel
theorem d3_66 : decode method_6_code 66 = .ok (.iload_n 3, 1) := by decide +kernel
theorem d3_67 : decode method_6_code 67 = .ok (.castore, 1) := by decide +kernel
-- java/lang/StringUTF16.compress
set_option maxRecDepth 65536 in
set_option maxHeartbeats 4000000 in
theorem au_23 (l : Launch) (Z : State) (a0 : Array Value) (hw : ∀ d ∈ tables_1, d.before a0 Z = true) (x0 : Addr) (x1 : Addr) (kk0 : ClassId) (p0 : Int32) (p1 : Int32) (p2 : Int32) (kk1 : ClassId) (h0 : Heap) (n0 : Nat) (Z0 : n0 ≤ h0.size) (P0 : Arv Z h0 x0 kk0 .char (3 : Int32) [(.int p0), (.int p1), (.int p2)] (.int 0)) (P2 : Arv Z h0 x1 kk1 .byte (3 : Int32) [(.int 0), (.int 0), (.int 0)] (.int 0)) (P3 : Exa Z h0 x1 "[B") (R_p0 : 0 ≤ p0.toInt ∧ p0.toInt ≤ 255) (R_p1 : 0 ≤ p1.toInt ∧ p1.toInt ≤ 255) (R_p2 : 0 ≤ p2.toInt ∧ p2.toInt ≤ 255) (g_x1 : n0 ≤ x1) (ne_x0_x1 : x0 ≠ x1) :
    Ctr l Z (⟨"java/lang/StringUTF16", "compress", "([CI[BII)I"⟩ : MethodName) jdk_52_method_21_code 7 (some .int) ({ frames := 0, cells := 0, slots := 0, locals := 0 } : Room) #[(.ref x0), (.int 0), (.ref x1), (.int 0), (.int 3)] h0 (fun v h L => ∃ (y0 : Int32) (y1 : Int32) (y2 : Int32), (p0.toInt8.toInt32) = y0 ∧ (p1.toInt8.toInt32) = y1 ∧ (p2.toInt8.toInt32) = y2 ∧ v = some (.int 3) ∧ Fr n0 L ∧ Keep h0 h [x1] ∧ Arv Z h x1 kk1 .byte (3 : Int32) [(.int y0), (.int y1), (.int y2)] (.int 0) ∧ Exa Z h x1 "[B") := by
  refine Ctr.of (plainFor_of_name pn_c3) ?_
  intro p e s m below meth c T0 hx hZ hby hml hown hnm hret hlk e0 es X0
  refine Go.cast (ef_24_RIRII m x0 (0 : Int32) x1 (0 : Int32) (3 : Int32)) ?_
  generalize hFF : EndN s _ _ _ = FF
  refine Go.iconst X0 hx (pc' := 1) rfl (hb hby d24_0) (v := (0 : Int32)) rfl ?_
  refine Go.istore X0 hx (pc' := 3) rfl (hb hby d24_1) (Ls' := #[.val (.ref x0), .val (.int 0), .val (.ref x1), .val (.int 0), .val (.int 3), .val (.int 0), .unset]) rfl ?_
  refine Go.iload X0 hx (pc' := 5) rfl (hb hby d24_3) rfl ?_
  refine Go.iload X0 hx (pc' := 7) rfl (hb hby d24_5) rfl ?_
  refine Go.icmpNo X0 hx (pc' := 10) rfl (hb hby d24_7) (by decide) ?_
  refine Go.aloadN X0 hx (pc' := 11) rfl (hb hby d24_10) rfl rfl ?_
  refine Go.iloadN X0 hx (pc' := 12) rfl (hb hby d24_11) rfl ?_
  refine Go.caload X0 hx hZ e0 P0 (v := (.int p0)) ⟨by decide, by decide⟩ rfl (pc' := 13) rfl (hb hby d24_12) ?_
  refine Go.istore X0 hx (pc' := 15) rfl (hb hby d24_13) (Ls' := #[.val (.ref x0), .val (.int 0), .val (.ref x1), .val (.int 0), .val (.int 3), .val (.int 0), .val (.int p0)]) rfl ?_
  refine Go.iload X0 hx (pc' := 17) rfl (hb hby d24_15) rfl ?_
  refine Go.sipush X0 hx (pc' := 20) rfl (hb hby d24_17) (v := (255 : Int32)) (by decide) ?_
  refine Go.icmpYes X0 hx (pc' := 26) (hb hby d24_20) (flt (own_nlt_r (own_rlit (n := 255) (by decide)) R_p0 (by decide))).2.2.2 (by decide) (by decide) ?_
  refine Go.aloadN X0 hx (pc' := 27) rfl (hb hby d24_26) rfl rfl ?_
  refine Go.iloadN X0 hx (pc' := 28) rfl (hb hby d24_27) rfl ?_
  refine Go.iload X0 hx (pc' := 30) rfl (hb hby d24_28) rfl ?_
  refine Go.i2b X0 hx (pc' := 31) rfl (hb hby d24_30) ?_
  generalize hz1 : (p0.toInt8.toInt32) = z1
  have r2 : -128 ≤ z1.toInt ∧ z1.toInt ≤ 127 := own_ri2b hz1
  refine Go.bastore X0 hx hZ e0 P2 z1 (own_nar_byte r2 (by decide) (by decide)) ⟨by decide, by decide⟩ 0 rfl (Nat.le_of_ble_eq_true rfl) (pc' := 32) rfl (hb hby d24_31) ?_
  intro T3 h3 e3 W3 V3 X3
  have N3 := Fr.snoc X3 (Fr.nil n0) g_x1
  refine Go.iinc X3 hx (pc' := 35) rfl (hb hby d24_32) rfl (y := (1 : Int32)) (by decide) (Ls' := #[.val (.ref x0), .val (.int 1), .val (.ref x1), .val (.int 0), .val (.int 3), .val (.int 0), .val (.int p0)]) rfl ?_
  refine Go.iinc X3 hx (pc' := 38) rfl (hb hby d24_35) rfl (y := (1 : Int32)) (by decide) (Ls' := #[.val (.ref x0), .val (.int 1), .val (.ref x1), .val (.int 1), .val (.int 3), .val (.int 0), .val (.int p0)]) rfl ?_
  refine Go.iinc X3 hx (pc' := 41) rfl (hb hby d24_38) rfl (y := (1 : Int32)) (by decide) (Ls' := #[.val (.ref x0), .val (.int 1), .val (.ref x1), .val (.int 1), .val (.int 3), .val (.int 1), .val (.int p0)]) rfl ?_
  refine Go.goto X3 hx (pc' := 3) (hb hby d24_41) (by decide) (by decide) ?_
  refine Go.iload X3 hx (pc' := 5) rfl (hb hby d24_3) rfl ?_
  refine Go.iload X3 hx (pc' := 7) rfl (hb hby d24_5) rfl ?_
  refine Go.icmpNo X3 hx (pc' := 10) rfl (hb hby d24_7) (by decide) ?_
  refine Go.aloadN X3 hx (pc' := 11) rfl (hb hby d24_10) rfl rfl ?_
  refine Go.iloadN X3 hx (pc' := 12) rfl (hb hby d24_11) rfl ?_
  have fk4 := (P0.other W3 ne_x0_x1)
  refine Go.caload X3 hx hZ e3 fk4 (v := (.int p1)) ⟨by decide, by decide⟩ rfl (pc' := 13) rfl (hb hby d24_12) ?_
  refine Go.istore X3 hx (pc' := 15) rfl (hb hby d24_13) (Ls' := #[.val (.ref x0), .val (.int 1), .val (.ref x1), .val (.int 1), .val (.int 3), .val (.int 1), .val (.int p1)]) rfl ?_
  refine Go.iload X3 hx (pc' := 17) rfl (hb hby d24_15) rfl ?_
  refine Go.sipush X3 hx (pc' := 20) rfl (hb hby d24_17) (v := (255 : Int32)) (by decide) ?_
  refine Go.icmpYes X3 hx (pc' := 26) (hb hby d24_20) (flt (own_nlt_r (own_rlit (n := 255) (by decide)) R_p1 (by decide))).2.2.2 (by decide) (by decide) ?_
  refine Go.aloadN X3 hx (pc' := 27) rfl (hb hby d24_26) rfl rfl ?_
  refine Go.iloadN X3 hx (pc' := 28) rfl (hb hby d24_27) rfl ?_
  refine Go.iload X3 hx (pc' := 30) rfl (hb hby d24_28) rfl ?_
  refine Go.i2b X3 hx (pc' := 31) rfl (hb hby d24_30) ?_
  generalize hz5 : (p1.toInt8.toInt32) = z5
  have r6 : -128 ≤ z5.toInt ∧ z5.toInt ≤ 127 := own_ri2b hz5
  refine Go.bastore X3 hx hZ e3 V3 z5 (own_nar_byte r6 (by decide) (by decide)) ⟨by decide, by decide⟩ 1 rfl (Nat.le_of_ble_eq_true rfl) (pc' := 32) rfl (hb hby d24_31) ?_
  intro T7 h7 e7 W7 V7 X7
  have N7 := Fr.snoc X7 N3 g_x1
  refine Go.iinc X7 hx (pc' := 35) rfl (hb hby d24_32) rfl (y := (2 : Int32)) (by decide) (Ls' := #[.val (.ref x0), .val (.int 2), .val (.ref x1), .val (.int 1), .val (.int 3), .val (.int 1), .val (.int p1)]) rfl ?_
  refine Go.iinc X7 hx (pc' := 38) rfl (hb hby d24_35) rfl (y := (2 : Int32)) (by decide) (Ls' := #[.val (.ref x0), .val (.int 2), .val (.ref x1), .val (.int 2), .val (.int 3), .val (.int 1), .val (.int p1)]) rfl ?_
  refine Go.iinc X7 hx (pc' := 41) rfl (hb hby d24_38) rfl (y := (2 : Int32)) (by decide) (Ls' := #[.val (.ref x0), .val (.int 2), .val (.ref x1), .val (.int 2), .val (.int 3), .val (.int 2), .val (.int p1)]) rfl ?_
  refine Go.goto X7 hx (pc' := 3) (hb hby d24_41) (by decide) (by decide) ?_
  refine Go.iload X7 hx (pc' := 5) rfl (hb hby d24_3) rfl ?_
  refine Go.iload X7 hx (pc' := 7) rfl (hb hby d24_5) rfl ?_
  refine Go.icmpNo X7 hx (pc' := 10) rfl (hb hby d24_7) (by decide) ?_
  refine Go.aloadN X7 hx (pc' := 11) rfl (hb hby d24_10) rfl rfl ?_
  refine Go.iloadN X7 hx (pc' := 12) rfl (hb hby d24_11) rfl ?_
  have fk8 := (fk4.other W7 ne_x0_x1)
  refine Go.caload X7 hx hZ e7 fk8 (v := (.int p2)) ⟨by decide, by decide⟩ rfl (pc' := 13) rfl (hb hby d24_12) ?_
  refine Go.istore X7 hx (pc' := 15) rfl (hb hby d24_13) (Ls' := #[.val (.ref x0), .val (.int 2), .val (.ref x1), .val (.int 2), .val (.int 3), .val (.int 2), .val (.int p2)]) rfl ?_
  refine Go.iload X7 hx (pc' := 17) rfl (hb hby d24_15) rfl ?_
  refine Go.sipush X7 hx (pc' := 20) rfl (hb hby d24_17) (v := (255 : Int32)) (by decide) ?_
  refine Go.icmpYes X7 hx (pc' := 26) (hb hby d24_20) (flt (own_nlt_r (own_rlit (n := 255) (by decide)) R_p2 (by decide))).2.2.2 (by decide) (by decide) ?_
  refine Go.aloadN X7 hx (pc' := 27) rfl (hb hby d24_26) rfl rfl ?_
  refine Go.iloadN X7 hx (pc' := 28) rfl (hb hby d24_27) rfl ?_
  refine Go.iload X7 hx (pc' := 30) rfl (hb hby d24_28) rfl ?_
  refine Go.i2b X7 hx (pc' := 31) rfl (hb hby d24_30) ?_
  generalize hz9 : (p2.toInt8.toInt32) = z9
  have r10 : -128 ≤ z9.toInt ∧ z9.toInt ≤ 127 := own_ri2b hz9
  refine Go.bastore X7 hx hZ e7 V7 z9 (own_nar_byte r10 (by decide) (by decide)) ⟨by decide, by decide⟩ 2 rfl (Nat.le_of_ble_eq_true rfl) (pc' := 32) rfl (hb hby d24_31) ?_
  intro T11 h11 e11 W11 V11 X11
  have N11 := Fr.snoc X11 N7 g_x1
  refine Go.iinc X11 hx (pc' := 35) rfl (hb hby d24_32) rfl (y := (3 : Int32)) (by decide) (Ls' := #[.val (.ref x0), .val (.int 3), .val (.ref x1), .val (.int 2), .val (.int 3), .val (.int 2), .val (.int p2)]) rfl ?_
  refine Go.iinc X11 hx (pc' := 38) rfl (hb hby d24_35) rfl (y := (3 : Int32)) (by decide) (Ls' := #[.val (.ref x0), .val (.int 3), .val (.ref x1), .val (.int 3), .val (.int 3), .val (.int 2), .val (.int p2)]) rfl ?_
  refine Go.iinc X11 hx (pc' := 41) rfl (hb hby d24_38) rfl (y := (3 : Int32)) (by decide) (Ls' := #[.val (.ref x0), .val (.int 3), .val (.ref x1), .val (.int 3), .val (.int 3), .val (.int 3), .val (.int p2)]) rfl ?_
  refine Go.goto X11 hx (pc' := 3) (hb hby d24_41) (by decide) (by decide) ?_
  refine Go.iload X11 hx (pc' := 5) rfl (hb hby d24_3) rfl ?_
  refine Go.iload X11 hx (pc' := 7) rfl (hb hby d24_5) rfl ?_
  refine Go.icmpYes X11 hx (pc' := 44) (hb hby d24_7) (by decide) (by decide) (by decide) ?_
  refine Go.iload X11 hx (pc' := 46) rfl (hb hby d24_44) rfl ?_
  subst hFF
  refine Go.retI X11 hx hlk hret (hb hby d24_46) (by decide) (by decide) ?_
  rw [e11]
  have V12 : Arv Z h11 x1 kk1 .byte (3 : Int32) [(.int z1), (.int z5), (.int z9)] (.int 0) := V11
  have fk13 : Exa Z h11 x1 "[B" := (((P3.wr W3).wr W7).wr W11)
  have Kp14 : Keep h0 h3 [x1] := ((Keep.refl h0 [x1]).wr W3 (Or.inl (List.mem_of_getElem? (i := 0) rfl)))
  have Kp15 : Keep h0 h7 [x1] := (Kp14.wr W7 (Or.inl (List.mem_of_getElem? (i := 0) rfl)))
  have Kp16 : Keep h0 h11 [x1] := (Kp15.wr W11 (Or.inl (List.mem_of_getElem? (i := 0) rfl)))
  exact ⟨z1, z5, z9, hz1, hz5, hz9, rfl, N11, Kp16, V12, fk13⟩
-- java/lang/StringUTF16.compress
set_option maxRecDepth 65536 in
set_option maxHeartbeats 4000000 in
theorem au_22 (l : Launch) (Z : State) (a0 : Array Value) (hw : ∀ d ∈ tables_1, d.before a0 Z = true) (x0 : Addr) (kk0 : ClassId) (p0 : Int32) (p1 : Int32) (p2 : Int32) (h0 : Heap) (n0 : Nat) (Z0 : n0 ≤ h0.size) (P0 : Arv Z h0 x0 kk0 .char (3 : Int32) [(.int p0), (.int p1), (.int p2)] (.int 0)) (R_p0 : 0 ≤ p0.toInt ∧ p0.toInt ≤ 255) (R_p1 : 0 ≤ p1.toInt ∧ p1.toInt ≤ 255) (R_p2 : 0 ≤ p2.toInt ∧ p2.toInt ≤ 255) :
    Ctr l Z (⟨"java/lang/StringUTF16", "compress", "([CII)[B"⟩ : MethodName) jdk_52_method_16_code 6 (some (.array .byte)) ({ frames := 1, cells := 1, slots := 3, locals := 18 } : Room) #[(.ref x0), (.int 0), (.int 3)] h0 (fun v h L => ∃ (y0 : Int32) (y1 : Int32) (y2 : Int32) (y3 : Addr) (y4 : ClassId), (p0.toInt8.toInt32) = y0 ∧ (p1.toInt8.toInt32) = y1 ∧ (p2.toInt8.toInt32) = y2 ∧ v = some (.ref y3) ∧ Fr n0 L ∧ Keep h0 h [] ∧ h0.size ≤ y3 ∧ Arv Z h y3 y4 .byte (3 : Int32) [(.int y0), (.int y1), (.int y2)] (.int 0) ∧ Exa Z h y3 "[B") := by
  refine Ctr.of (plainFor_of_name pn_c3) ?_
  intro p e s m below meth c T0 hx hZ hby hml hown hnm hret hlk e0 es X0
  refine Go.cast (ef_23_RII m x0 (0 : Int32) (3 : Int32)) ?_
  generalize hFF : EndN s _ _ _ = FF
  refine Go.iloadN X0 hx (pc' := 1) rfl (hb hby d23_0) rfl ?_
  refine Go.newarray X0 hx hZ (ty := .byte) rfl (tw_25 hw) e0 (by decide) (cap := 3) (by decide) (by decide) (by decide) (by decide) (ad := "[B") (by decide) 3 (pc' := 3) rfl (hb hby d23_1) ?_
  intro T1 h1 b1 k1 e1 E1 g1 V1 A1 X1
  have V1' : Arv Z h1 b1 k1 .byte (3 : Int32) [(.int 0), (.int 0), (.int 0)] (.int 0) := V1
  refine Go.astoreN X1 hx (pc' := 4) rfl (hb hby d23_3) (Ls' := #[.val (.ref x0), .val (.int 0), .val (.int 3), .val (.ref b1), .unset, .unset]) rfl rfl ?_
  refine Go.aloadN X1 hx (pc' := 5) rfl (hb hby d23_4) rfl rfl ?_
  refine Go.iloadN X1 hx (pc' := 6) rfl (hb hby d23_5) rfl ?_
  refine Go.aloadN X1 hx (pc' := 7) rfl (hb hby d23_6) rfl rfl ?_
  refine Go.iconst X1 hx (pc' := 8) rfl (hb hby d23_7) (v := (0 : Int32)) rfl ?_
  refine Go.iloadN X1 hx (pc' := 9) rfl (hb hby d23_8) rfl ?_
  have Kp3 : Keep h0 h1 [] := ((Keep.refl h0 []).ext E1)
  have Zn2 : n0 ≤ h1.size := Nat.le_trans Z0 Kp3.1
  have fk4 := (P0.ext E1)
  have sz6 : h0.size ≤ b1 := Nat.le_trans (Keep.refl h0 []).1 (Nat.le_of_eq g1.symm)
  have ge5 : n0 ≤ b1 := Nat.le_trans Z0 sz6
  have ne7 : x0 ≠ b1 := Nat.ne_of_lt (Nat.lt_of_lt_of_le P0.lt (Nat.le_of_eq g1.symm))
  refine Go.callS X1 hx hZ hown (tw_141 hw) (tw_142 hw) (tw_139 hw) (tw_143 hw) (by decide) (tw_143 hw) (tw_139 hw) (au_23 l Z a0 hw x0 b1 kk0 p0 p1 p2 k1 h1 n0 Zn2 fk4 V1' A1 R_p0 R_p1 R_p2 ge5 ne7) e1 (argsL := [(.ref x0), (.int 0), (.ref b1), (.int 0), (.int 3)]) (rest := []) (pc' := 12) rfl (by rw [hml]; rfl) (lenOf pd_8 rfl) rfl rfl (W := 0) (Nat.le_of_eq rfl) (by decide) (by decide) (by decide) (by decide) (hb hby d23_9) ?_
  intro v8 T8 L8 q8 X8
  obtain ⟨h8, e8⟩ : ∃ z, T8.heap = z := ⟨_, rfl⟩
  rw [e8] at q8
  obtain ⟨z8_0, z8_1, z8_2, d8_0, d8_1, d8_2, rfl, N8, K8, F8_0, F8_1⟩ := q8
  show Go _ _ _ _ (T8.setTop (mkF m 12 #[.val (.ref x0), .val (.int 0), .val (.int 3), .val (.ref b1), .unset, .unset] [(.int 3)]))
  refine Go.istore X8 hx (pc' := 14) rfl (hb hby d23_12) (Ls' := #[.val (.ref x0), .val (.int 0), .val (.int 3), .val (.ref b1), .val (.int 3), .unset]) rfl ?_
  refine Go.iload X8 hx (pc' := 16) rfl (hb hby d23_14) rfl ?_
  refine Go.iloadN X8 hx (pc' := 17) rfl (hb hby d23_16) rfl ?_
  refine Go.icmpYes X8 hx (pc' := 57) (hb hby d23_17) (by decide) (by decide) (by decide) ?_
  refine Go.aloadN X8 hx (pc' := 58) rfl (hb hby d23_57) rfl rfl ?_
  subst hFF
  refine Go.retR X8 hx hlk (t := (.array .byte)) hret rfl rfl (hb hby d23_58) (by decide) (by decide) ?_
  rw [e8]
  have Kp9 : Keep h0 h8 [] := (Kp3.trans K8 (allS (Or.inr sz6) all0))
  exact ⟨z8_0, z8_1, z8_2, b1, k1, d8_0, d8_1, d8_2, rfl, (Fr.app (Fr.nil n0) N8), Kp9, sz6, F8_0, F8_1⟩
-- java/lang/StringUTF16.coderFromArrayLen
set_option maxRecDepth 65536 in
set_option maxHeartbeats 4000000 in
theorem au_24 (l : Launch) (Z : State) (a0 : Array Value) (hw : ∀ d ∈ tables_1, d.before a0 Z = true) (x0 : Addr) (kk0 : ClassId) (p0 : Int32) (p1 : Int32) (p2 : Int32) (h0 : Heap) (n0 : Nat) (Z0 : n0 ≤ h0.size) (P0 : Arv Z h0 x0 kk0 .byte (3 : Int32) [(.int p0), (.int p1), (.int p2)] (.int 0)) :
    Ctr l Z (⟨"java/lang/StringUTF16", "coderFromArrayLen", "([BI)B"⟩ : MethodName) jdk_52_method_15_code 2 (some .byte) ({ frames := 0, cells := 0, slots := 0, locals := 0 } : Room) #[(.ref x0), (.int 3)] h0 (fun v h L => v = some (.int 0) ∧ Fr n0 L ∧ h = h0) := by
  refine Ctr.of (plainFor_of_name pn_c3) ?_
  intro p e s m below meth c T0 hx hZ hby hml hown hnm hret hlk e0 es X0
  refine Go.cast (ef_25_RI m x0 (3 : Int32)) ?_
  generalize hFF : EndN s _ _ _ = FF
  refine Go.iloadN X0 hx (pc' := 1) rfl (hb hby d25_0) rfl ?_
  refine Go.aloadN X0 hx (pc' := 2) rfl (hb hby d25_1) rfl rfl ?_
  refine Go.arraylength X0 hx hZ e0 P0 (pc' := 3) rfl (hb hby d25_2) ?_
  refine Go.isub X0 hx (pc' := 4) rfl (hb hby d25_3) ?_
  rw [show ((3 : Int32) - (3 : Int32)) = (0 : Int32) from by decide]
  refine Go.bipush X0 hx (pc' := 6) rfl (hb hby d25_4) (v := (31 : Int32)) (by decide) ?_
  refine Go.iushr X0 hx (pc' := 7) rfl (hb hby d25_6) ?_
  rw [show (((0 : Int32).toUInt32 >>> ((31 : Int32) &&& 31).toUInt32).toInt32) = (0 : Int32) from by decide]
  refine Go.i2b X0 hx (pc' := 8) rfl (hb hby d25_7) ?_
  rw [show ((0 : Int32).toInt8.toInt32) = (0 : Int32) from by decide]
  subst hFF
  refine Go.retN X0 hx hlk (t := .byte) hret (by simp) (hb hby d25_8) (by decide) (by decide) ?_
  rw [e0]
  exact ⟨(congrArg (fun z => some (Value.int z)) (by decide : nar .byte (0 : Int32) = (0 : Int32))), (Fr.nil n0), rfl⟩
-- java/lang/String.init
set_option maxRecDepth 65536 in
set_option maxHeartbeats 4000000 in
theorem au_21 (l : Launch) (Z : State) (a0 : Array Value) (hw : ∀ d ∈ tables_1, d.before a0 Z = true) (x0 : Addr) (x1 : Addr) (kk0 : ClassId) (p0 : Int32) (p1 : Int32) (p2 : Int32) (gz1 : Int32) (gv5 : Value) (h0 : Heap) (n0 : Nat) (Z0 : n0 ≤ h0.size) (O0 : Old Z n0 h0) (G : Glob Z gz1 gv5) (P0 : Exa Z h0 x0 "java/lang/String") (P1 : Fld Z h0 x0 "java/lang/String" "coder" "B" (.int 0)) (P2 : Fld Z h0 x0 "java/lang/String" "value" "[B" .null) (P3 : Arv Z h0 x1 kk0 .char (3 : Int32) [(.int p0), (.int p1), (.int p2)] (.int 0)) (R_p0 : 0 ≤ p0.toInt ∧ p0.toInt ≤ 255) (R_p1 : 0 ≤ p1.toInt ∧ p1.toInt ≤ 255) (R_p2 : 0 ≤ p2.toInt ∧ p2.toInt ≤ 255) (g_x0 : n0 ≤ x0) :
    Ctr l Z (⟨"java/lang/String", "<init>", "([CIILjava/lang/Void;)V"⟩ : MethodName) jdk_42_method_149_code 6 none ({ frames := 2, cells := 1, slots := 3, locals := 35 } : Room) #[(.ref x0), (.ref x1), (.int 0), (.int 3), .null] h0 (fun v h L => ∃ (y0 : Int32) (y1 : Int32) (y2 : Int32) (y3 : Addr) (y4 : ClassId), (p0.toInt8.toInt32) = y0 ∧ (p1.toInt8.toInt32) = y1 ∧ (p2.toInt8.toInt32) = y2 ∧ v = none ∧ Fr n0 L ∧ Keep h0 h [x0] ∧ h0.size ≤ y3 ∧ Exa Z h x0 "java/lang/String" ∧ Fld Z h x0 "java/lang/String" "coder" "B" (.int 0) ∧ Fld Z h x0 "java/lang/String" "value" "[B" (.ref y3) ∧ Arv Z h y3 y4 .byte (3 : Int32) [(.int y0), (.int y1), (.int y2)] (.int 0) ∧ Exa Z h y3 "[B") := by
  refine Ctr.of (plainFor_of_name pn_c1) ?_
  intro p e s m below meth c T0 hx hZ hby hml hown hnm hret hlk e0 es X0
  have G' := G
  obtain ⟨G0, -, G2, -⟩ := G'
  refine Go.cast (ef_5_RRIIN m x0 x1 (0 : Int32) (3 : Int32)) ?_
  generalize hFF : EndN s _ _ _ = FF
  refine Go.aloadN X0 hx (pc' := 1) rfl (hb hby d5_0) rfl rfl ?_
  refine Go.initO X0 hx hZ hown (tw_21 hw) (tw_22 hw) (tw_23 hw) e0 (by decide) (W := 0) (by rw [hml]; rfl) (Nat.le_of_eq rfl) (by decide) (pc' := 4) rfl (hb hby d5_1) ?_
  intro T1 e1 X1
  refine Go.iloadN X1 hx (pc' := 5) rfl (hb hby d5_4) rfl ?_
  refine Go.ifYes X1 hx (pc' := 27) (hb hby d5_5) (by decide) (by decide) (by decide) ?_
  have fk2 : Sta Z h0 "java/lang/String" "COMPACT_STRINGS" "Z" (.int gz1) := G0.ext O0.2
  refine Go.getS X1 hx hZ hown (host := "") (Or.inl (tw_57 hw)) Via.refl e1 fk2 (pc' := 30) rfl (hb hby d5_27) ?_
  intro T3 e3 X3
  refine Go.ifNo X3 hx (pc' := 33) rfl (hb hby d5_30) (feq G2).1 ?_
  refine Go.aloadN X3 hx (pc' := 34) rfl (hb hby d5_33) rfl rfl ?_
  refine Go.iloadN X3 hx (pc' := 35) rfl (hb hby d5_34) rfl ?_
  refine Go.iloadN X3 hx (pc' := 36) rfl (hb hby d5_35) rfl ?_
  refine Go.callS X3 hx hZ hown (tw_137 hw) (tw_138 hw) (tw_139 hw) (tw_140 hw) (by decide) (tw_140 hw) (tw_139 hw) (au_22 l Z a0 hw x1 kk0 p0 p1 p2 h0 n0 Z0 P3 R_p0 R_p1 R_p2) e3 (argsL := [(.ref x1), (.int 0), (.int 3)]) (rest := []) (pc' := 39) rfl (by rw [hml]; rfl) (lenOf pd_9 rfl) rfl rfl (W := 0) (Nat.le_of_eq rfl) (by decide) (by decide) (by decide) (by decide) (hb hby d5_36) ?_
  intro v4 T4 L4 q4 X4
  obtain ⟨h4, e4⟩ : ∃ z, T4.heap = z := ⟨_, rfl⟩
  rw [e4] at q4
  obtain ⟨z4_0, z4_1, z4_2, b4_0, k4_0, d4_0, d4_1, d4_2, rfl, N4, K4, s4_0, F4_0, F4_1⟩ := q4
  show Go _ _ _ _ (T4.setTop (mkF m 39 #[.val (.ref x0), .val (.ref x1), .val (.int 0), .val (.int 3), .val .null, .unset] [(.ref b4_0)]))
  refine Go.astore X4 hx (pc' := 41) rfl (hb hby d5_39) (Ls' := #[.val (.ref x0), .val (.ref x1), .val (.int 0), .val (.int 3), .val .null, .val (.ref b4_0)]) rfl rfl ?_
  refine Go.aloadN X4 hx (pc' := 42) rfl (hb hby d5_41) rfl rfl ?_
  refine Go.aload X4 hx (pc' := 44) rfl (hb hby d5_42) rfl rfl ?_
  refine Go.iloadN X4 hx (pc' := 45) rfl (hb hby d5_44) rfl ?_
  have r5 : -128 ≤ z4_0.toInt ∧ z4_0.toInt ≤ 127 := own_ri2b d4_0
  have r6 : -128 ≤ z4_1.toInt ∧ z4_1.toInt ≤ 127 := own_ri2b d4_1
  have r7 : -128 ≤ z4_2.toInt ∧ z4_2.toInt ≤ 127 := own_ri2b d4_2
  have Kp9 : Keep h0 h4 [x0] := ((Keep.refl h0 [x0]).trans K4 all0)
  have Zn8 : n0 ≤ h4.size := Nat.le_trans Z0 Kp9.1
  refine Go.callS X4 hx hZ hown (tw_144 hw) (tw_145 hw) (tw_139 hw) (tw_146 hw) (by decide) (tw_146 hw) (tw_139 hw) (au_24 l Z a0 hw b4_0 k4_0 z4_0 z4_1 z4_2 h4 n0 Zn8 F4_0) e4 (argsL := [(.ref b4_0), (.int 3)]) (rest := [(.ref x0)]) (pc' := 48) rfl (by rw [hml]; rfl) (lenOf pd_10 rfl) rfl rfl (W := 1) (Nat.le_of_eq rfl) (by decide) (by decide) (by decide) (by decide) (hb hby d5_45) ?_
  intro v10 T10 L10 q10 X10
  obtain ⟨rfl, N10, e10⟩ := q10
  show Go _ _ _ _ (T10.setTop (mkF m 48 #[.val (.ref x0), .val (.ref x1), .val (.int 0), .val (.int 3), .val .null, .val (.ref b4_0)] [(.int 0), (.ref x0)]))
  have fk11 : Fld Z h4 x0 "java/lang/String" "coder" "B" (.int 0) := (P1.keep K4 nin0)
  have fk12 : Exa Z h4 x0 "java/lang/String" := (P0.keep K4)
  refine Go.putFN X10 hx hZ hown (tw_31 hw) Via.refl e10 fk11 fk12 (Or.inr ⟨(tw_27 hw), rfl, hnm⟩) (tw_11 hw) (ty := .byte) (v' := (.int 0)) (by decide) (by decide) (by decide) (pc' := 51) rfl (hb hby d5_48) ?_
  intro T13 h13 e13 W13 F13 X13
  have N13 := Fr.snoc X13 (Fr.app (Fr.app (Fr.nil n0) N4) N10) g_x0
  refine Go.aloadN X13 hx (pc' := 52) rfl (hb hby d5_51) rfl rfl ?_
  refine Go.aload X13 hx (pc' := 54) rfl (hb hby d5_52) rfl rfl ?_
  have fk14 : Fld Z h13 x0 "java/lang/String" "value" "[B" .null := ((P2.keep K4 nin0).other W13 (Or.inr (slot_ne (Or.inr (tw_26 hw)) (Or.inr (tw_27 hw)) (by decide) (t := (.array .byte)) (t' := .byte) (by decide) (by decide))))
  have fk15 : Exa Z h13 x0 "java/lang/String" := (fk12.wr W13)
  refine Go.putF X13 hx hZ hown (host := "") (Or.inl (tw_30 hw)) Via.refl e13 fk14 fk15 (Or.inr ⟨(tw_26 hw), rfl, hnm⟩) (tw_11 hw) (ty := (.array .byte)) (by decide) rfl rfl (pc' := 57) rfl (hb hby d5_54) ?_
  intro T16 h16 e16 W16 F16 X16
  have N16 := Fr.snoc X16 N13 g_x0
  subst hFF
  refine Go.ret0 X16 hx hlk hret (hb hby d5_57) (by decide) (by decide) ?_
  rw [e16]
  have fk17 : Exa Z h16 x0 "java/lang/String" := (fk15.wr W16)
  have fk18 : Fld Z h16 x0 "java/lang/String" "coder" "B" (.int 0) := (F13.other W16 (Or.inr (slot_ne (Or.inr (tw_27 hw)) (Or.inr (tw_26 hw)) (by decide) (t := .byte) (t' := (.array .byte)) (by decide) (by decide))))
  have ne19 : x0 ≠ b4_0 := Nat.ne_of_lt (Nat.lt_of_lt_of_le P0.lt s4_0)
  have fk20 := ((F4_0.other W13 (Ne.symm ne19)).other W16 (Ne.symm ne19))
  have fk21 : Exa Z h16 b4_0 "[B" := ((F4_1.wr W13).wr W16)
  have Kp22 : Keep h0 h13 [x0] := (Kp9.wr W13 (Or.inl (List.mem_of_getElem? (i := 0) rfl)))
  have Kp23 : Keep h0 h16 [x0] := (Kp22.wr W16 (Or.inl (List.mem_of_getElem? (i := 0) rfl)))
  have sz24 : h0.size ≤ b4_0 := Nat.le_trans (Keep.refl h0 [x0]).1 s4_0
  exact ⟨z4_0, z4_1, z4_2, b4_0, k4_0, d4_0, d4_1, d4_2, rfl, N16, Kp23, sz24, fk17, fk18, F16, fk20, fk21⟩
-- java/lang/String.init
set_option maxRecDepth 65536 in
set_option maxHeartbeats 4000000 in
theorem au_20 (l : Launch) (Z : State) (a0 : Array Value) (hw : ∀ d ∈ tables_1, d.before a0 Z = true) (x0 : Addr) (x1 : Addr) (kk0 : ClassId) (p0 : Int32) (p1 : Int32) (p2 : Int32) (gz1 : Int32) (gv5 : Value) (h0 : Heap) (n0 : Nat) (Z0 : n0 ≤ h0.size) (O0 : Old Z n0 h0) (G : Glob Z gz1 gv5) (P0 : Exa Z h0 x0 "java/lang/String") (P1 : Fld Z h0 x0 "java/lang/String" "coder" "B" (.int 0)) (P2 : Fld Z h0 x0 "java/lang/String" "value" "[B" .null) (P3 : Arv Z h0 x1 kk0 .char (3 : Int32) [(.int p0), (.int p1), (.int p2)] (.int 0)) (R_p0 : 0 ≤ p0.toInt ∧ p0.toInt ≤ 255) (R_p1 : 0 ≤ p1.toInt ∧ p1.toInt ≤ 255) (R_p2 : 0 ≤ p2.toInt ∧ p2.toInt ≤ 255) (g_x0 : n0 ≤ x0) :
    Ctr l Z (⟨"java/lang/String", "<init>", "([C)V"⟩ : MethodName) jdk_42_method_3_code 2 none ({ frames := 3, cells := 1, slots := 3, locals := 52 } : Room) #[(.ref x0), (.ref x1)] h0 (fun v h L => ∃ (y0 : Int32) (y1 : Int32) (y2 : Int32) (y3 : Addr) (y4 : ClassId), (p0.toInt8.toInt32) = y0 ∧ (p1.toInt8.toInt32) = y1 ∧ (p2.toInt8.toInt32) = y2 ∧ v = none ∧ Fr n0 L ∧ Keep h0 h [x0] ∧ h0.size ≤ y3 ∧ Exa Z h x0 "java/lang/String" ∧ Fld Z h x0 "java/lang/String" "coder" "B" (.int 0) ∧ Fld Z h x0 "java/lang/String" "value" "[B" (.ref y3) ∧ Arv Z h y3 y4 .byte (3 : Int32) [(.int y0), (.int y1), (.int y2)] (.int 0) ∧ Exa Z h y3 "[B") := by
  refine Ctr.of (plainFor_of_name pn_c1) ?_
  intro p e s m below meth c T0 hx hZ hby hml hown hnm hret hlk e0 es X0
  refine Go.cast (ef_4_RR m x0 x1) ?_
  generalize hFF : EndN s _ _ _ = FF
  refine Go.aloadN X0 hx (pc' := 1) rfl (hb hby d4_0) rfl rfl ?_
  refine Go.aloadN X0 hx (pc' := 2) rfl (hb hby d4_1) rfl rfl ?_
  refine Go.iconst X0 hx (pc' := 3) rfl (hb hby d4_2) (v := (0 : Int32)) rfl ?_
  refine Go.aloadN X0 hx (pc' := 4) rfl (hb hby d4_3) rfl rfl ?_
  refine Go.arraylength X0 hx hZ e0 P3 (pc' := 5) rfl (hb hby d4_4) ?_
  refine Go.anull X0 hx (pc' := 6) rfl (hb hby d4_5) ?_
  refine Go.callN X0 hx hZ hown rfl (tw_17 hw) (tw_18 hw) (tw_20 hw) (by decide) (tw_20 hw) (tw_12 hw) (au_21 l Z a0 hw x0 x1 kk0 p0 p1 p2 gz1 gv5 h0 n0 Z0 O0 G P0 P1 P2 P3 R_p0 R_p1 R_p2 g_x0) e0 (a := x0) (argsL := [(.ref x1), (.int 0), (.int 3), .null]) (rest := []) (pc' := 9) rfl (by rw [hml]; rfl) (lenOf pd_2 rfl) rfl rfl (W := 0) (Nat.le_of_eq rfl) (by decide) (by decide) (by decide) (by decide) (hb hby d4_6) ?_
  intro v1 T1 L1 q1 X1
  obtain ⟨h1, e1⟩ : ∃ z, T1.heap = z := ⟨_, rfl⟩
  rw [e1] at q1
  obtain ⟨z1_0, z1_1, z1_2, b1_0, k1_0, d1_0, d1_1, d1_2, rfl, N1, K1, s1_0, F1_0, F1_1, F1_2, F1_3, F1_4⟩ := q1
  show Go _ _ _ _ (T1.setTop (mkF m 9 #[.val (.ref x0), .val (.ref x1)] []))
  subst hFF
  refine Go.ret0 X1 hx hlk hret (hb hby d4_9) (by decide) (by decide) ?_
  rw [e1]
  have Kp2 : Keep h0 h1 [x0] := ((Keep.refl h0 [x0]).trans K1 (allS (Or.inl (List.mem_of_getElem? (i := 0) rfl)) all0))
  have sz3 : h0.size ≤ b1_0 := Nat.le_trans (Keep.refl h0 [x0]).1 s1_0
  exact ⟨z1_0, z1_1, z1_2, b1_0, k1_0, d1_0, d1_1, d1_2, rfl, (Fr.app (Fr.nil n0) N1), Kp2, sz3, F1_0, F1_1, F1_2, F1_3, F1_4⟩
theorem d3_68 : decode method_6_code 68 = .ok (.invokespecial 36, 3) := by decide +kernel
theorem d3_71 : decode method_6_code 71 = .ok (.areturn, 1) := by decide +kernel
theorem ef_3_IIII (m : MethodId) (x0 : Int32) (x1 : Int32) (x2 : Int32) (x3 : Int32) : entryFrame m #[(.int x0), (.int x1), (.int x2), (.int x3)] 4 = mkF m 0 #[.val (.int x0), .val (.int x1), .val (.int x2), .val (.int x3)] [] := by first | (simp [entryFrame, mkF, argsToLocals, Value.category]; done) | rfl
-- com/example/dirbound/dirbound/ldap/HostPortEqualsPinLaw.mk
set_option maxRecDepth 65536 in
set_option maxHeartbeats 4000000 in
theorem au_10 (l : Launch) (Z : State) (a0 : Array Value) (hw : ∀ d ∈ tables_1, d.before a0 Z = true) (p0 : Int32) (p1 : Int32) (p2 : Int32) (p3 : Int32) (gz1 : Int32) (gv5 : Value) (h0 : Heap) (n0 : Nat) (Z0 : n0 ≤ h0.size) (O0 : Old Z n0 h0) (G : Glob Z gz1 gv5) (R_p0 : 0 ≤ p0.toInt ∧ p0.toInt ≤ 3) (R_p1 : 0 ≤ p1.toInt ∧ p1.toInt ≤ 255) (R_p2 : 0 ≤ p2.toInt ∧ p2.toInt ≤ 255) (R_p3 : 0 ≤ p3.toInt ∧ p3.toInt ≤ 255) :
    CtrW l Z EL0 (⟨"com/example/dirbound/dirbound/ldap/HostPortEqualsPinLaw", "mk", "(ICCC)Ljava/lang/String;"⟩ : MethodName) method_6_code 4 (some (.object "java/lang/String")) ({ frames := 4, cells := 6, slots := 12, locals := 66 } : Room) #[(.int p0), (.int p1), (.int p2), (.int p3)] h0 [] (fun v vm h L => ∃ (y0 : Int32) (y1 : List Int32) (y2 : Addr) (y3 : Addr) (y4 : ClassId), (own_l3 p0 p1 p2 p3) = y1 ∧ y0.toInt = y1.length ∧ own_lat y1 ∧ v = some (.ref y2) ∧ Fr n0 L ∧ Keep h0 h [] ∧ h0.size ≤ y2 ∧ Safe Z EL0 vm h y2 ∧ Exa Z h y2 "java/lang/String" ∧ Fld Z h y2 "java/lang/String" "coder" "B" (.int 0) ∧ Fld Z h y2 "java/lang/String" "value" "[B" (.ref y3) ∧ Arv Z h y3 y4 .byte y0 (y1.map own_vb) (.int 0)) := by
  refine CtrW.of (plainFor_of_name pn_c0) ?_
  intro p e s m below meth c T0 hx hZ hby hml hown hnm hret hlk e0 es hS0 C0 hsf X0
  refine Go.cast (ef_3_IIII m p0 p1 p2 p3) ?_
  generalize hFF : EndW Z EL0 s _ _ _ = FF
  rcases own_cs_0_3 R_p0 with rfl | rfl | rfl | rfl
  · refine Go.iloadN X0 hx (pc' := 1) rfl (hb hby d3_0) rfl ?_
    refine Go.ifNo X0 hx (pc' := 4) rfl (hb hby d3_1) (by decide) ?_
    refine Go.new X0 hx hZ hown (tw_10 hw) (tw_11 hw) (tw_12 hw) e0 (by decide) (by decide) (pc' := 7) rfl (hb hby d3_4) ?_
    intro T1 h1 b1 e1 E1 g1 A1 D1 X1
    have b1_value : Fld Z h1 b1 "java/lang/String" "value" "[B" .null := D1 (Or.inr (tw_26 hw)) (ty := (.array .byte)) (by decide)
    have b1_coder : Fld Z h1 b1 "java/lang/String" "coder" "B" (.int 0) := D1 (Or.inr (tw_27 hw)) (ty := .byte) (by decide)
    refine Go.dup X1 hx (pc' := 8) rfl (hb hby d3_7) rfl ?_
    refine Go.iconst X1 hx (pc' := 9) rfl (hb hby d3_8) (v := (0 : Int32)) rfl ?_
    refine Go.newarray X1 hx hZ (ty := .char) rfl (tw_13 hw) e1 (by decide) (cap := 0) (by decide) (by decide) (by decide) (by decide) (ad := "[C") (by decide) 0 (pc' := 11) rfl (hb hby d3_9) ?_
    intro T2 h2 b2 k2 e2 E2 g2 V2 A2 X2
    have V2' : Arv Z h2 b2 k2 .char (0 : Int32) [] (.int 0) := V2
    have Kp4 : Keep h0 h1 [] := ((Keep.refl h0 []).ext E1)
    have Kp5 : Keep h0 h2 [] := (Kp4.ext E2)
    have Zn3 : n0 ≤ h2.size := Nat.le_trans Z0 Kp5.1
    have fk6 : Exa Z h2 b1 "java/lang/String" := (A1.ext E2)
    have fk7 : Fld Z h2 b1 "java/lang/String" "coder" "B" (.int 0) := (b1_coder.ext E2)
    have fk8 : Fld Z h2 b1 "java/lang/String" "value" "[B" .null := (b1_value.ext E2)
    have sz10 : h0.size ≤ b1 := Nat.le_trans (Keep.refl h0 []).1 (Nat.le_of_eq g1.symm)
    have ge9 : n0 ≤ b1 := Nat.le_trans Z0 sz10
    have C11 : CHr Z EL0 s.vm s.heap s.vm h1 := (C0.trans (CHr.ext E1 C0.1))
    have C12 : CHr Z EL0 s.vm s.heap s.vm h2 := (C11.trans (CHr.ext E2 C11.1))
    have fk13 : Safe Z EL0 s.vm h1 b1 := (Safe.ext E1 C0.1 (Safe.new (Nat.le_of_eq g1.symm) : Safe Z EL0 s.vm h0 b1))
    have fk14 : Safe Z EL0 s.vm h2 b1 := (Safe.ext E2 C11.1 fk13)
    have hk15 := (Nat.le_trans (Nat.le_trans (Nat.le_refl _) E1.1) E2.1)
    refine Go.callNW X2 hx hZ hown rfl (tw_14 hw) (tw_15 hw) (tw_16 hw) (by decide) (tw_16 hw) (tw_12 hw) (au_9 l Z a0 hw b1 b2 k2 gz1 gv5 h2 n0 Zn3 G fk6 fk7 fk8 V2' ge9) (own_EW hw) C12.1 (allS ⟨fk6.lt, fk14⟩ all0) hS0 hk15 e2 (a := b1) (argsL := [(.ref b2)]) (rest := [(.ref b1)]) (pc' := 14) rfl (by rw [hml]; rfl) (lenOf pd_3 rfl) rfl rfl (W := 1) (Nat.le_of_eq rfl) (by decide) (by decide) (by decide) (by decide) (hb hby d3_11) ?_
    intro v16 T16 L16 h16 e16 q16 C16 S16 Z16 O16 X16
    obtain ⟨b16_0, k16_0, rfl, N16, K16, F16_0, F16_1, F16_2, F16_3⟩ := q16
    show Go _ _ _ _ (T16.setTop (mkF m 14 #[.val (.int 0), .val (.int p1), .val (.int p2), .val (.int p3)] [(.ref b1)]))
    subst hFF
    have C17 : CHr Z EL0 s.vm s.heap T16.vm h16 := (C12.trans C16)
    refine Go.retRW X16 hx hlk Z16 (own_EW hw) e16 S16 (Nat.le_refl _) C17 (t := (.object "java/lang/String")) hret rfl rfl (hb hby d3_14) (by decide) (by decide) (fun hat => ?_)
    obtain ⟨ll, hll⟩ : ∃ u, (own_l3 (0 : Int32) p1 p2 p3) = u := ⟨_, rfl⟩
    have hl : ll = [] := hll.symm.trans own_l3_0
    obtain ⟨lz, hlz⟩ : ∃ z : Int32, (0 : Int32) = z := ⟨_, rfl⟩
    have lV : Arv Z h16 b16_0 k16_0 .byte lz (ll.map own_vb) (.int 0) := by
      rw [hl, ← hlz]
      show Arv Z h16 b16_0 k16_0 .byte (0 : Int32) [] (.int 0)
      exact F16_3
    have lln : lz.toInt = ll.length := by rw [hl, ← hlz]; rfl
    have lla : own_lat ll := by rw [hl]; exact own_lat_0 
    have Kp18 : Keep h0 h16 [] := (Kp5.trans K16 (allS (Or.inr sz10) all0))
    have fk19 : Safe Z EL0 T16.vm h16 b1 := (C16.safe fk6.lt fk14)
    exact ⟨lz, ll, b1, b16_0, k16_0, hll, lln, lla, rfl, (Fr.app (Fr.nil n0) N16), Kp18, sz10, (hat.safe F16_0.lt fk19), F16_0, F16_1, F16_2, lV⟩
  · refine Go.iloadN X0 hx (pc' := 1) rfl (hb hby d3_0) rfl ?_
    refine Go.ifYes X0 hx (pc' := 15) (hb hby d3_1) (by decide) (by decide) (by decide) ?_
    refine Go.iloadN X0 hx (pc' := 16) rfl (hb hby d3_15) rfl ?_
    refine Go.iconst X0 hx (pc' := 17) rfl (hb hby d3_16) (v := (1 : Int32)) rfl ?_
    refine Go.icmpNo X0 hx (pc' := 20) rfl (hb hby d3_17) (by decide) ?_
    refine Go.iloadN X0 hx (pc' := 21) rfl (hb hby d3_20) rfl ?_
    refine Go.callS X0 hx hZ hown (tw_147 hw) (tw_148 hw) (tw_12 hw) (tw_149 hw) (by decide) (tw_149 hw) (tw_12 hw) (au_11 l Z a0 hw p1 gz1 gv5 h0 n0 Z0 O0 G R_p1) e0 (argsL := [(.int p1)]) (rest := []) (pc' := 24) rfl (by rw [hml]; rfl) (lenOf pd_7 rfl) rfl rfl (W := 0) (Nat.le_of_eq rfl) (by decide) (by decide) (by decide) (by decide) (hb hby d3_21) ?_
    intro v20 T20 L20 q20 X20
    obtain ⟨h20, e20⟩ : ∃ z, T20.heap = z := ⟨_, rfl⟩
    rw [e20] at q20
    obtain ⟨z20_0, b20_0, b20_1, k20_0, d20_0, rfl, N20, K20, s20_0, s20_1, n20_0, F20_0, F20_1, F20_2, F20_3, F20_4⟩ := q20
    show Go _ _ _ _ (T20.setTop (mkF m 24 #[.val (.int 1), .val (.int p1), .val (.int p2), .val (.int p3)] [(.ref b20_0)]))
    subst hFF
    have C21 : CHr Z EL0 s.vm s.heap s.vm h20 := (C0.trans (CHr.keep K20 sf0 C0.1))
    have hk22 := (Nat.le_trans (Nat.le_refl _) K20.1)
    refine Go.retRW X20 hx hlk hZ (own_EW hw) e20 hS0 hk22 C21 (t := (.object "java/lang/String")) hret rfl rfl (hb hby d3_24) (by decide) (by decide) (fun hat => ?_)
    obtain ⟨ll, hll⟩ : ∃ u, (own_l3 (1 : Int32) p1 p2 p3) = u := ⟨_, rfl⟩
    have hl : ll = [p1] := hll.symm.trans own_l3_1
    obtain ⟨lz, hlz⟩ : ∃ z : Int32, (1 : Int32) = z := ⟨_, rfl⟩
    have lV : Arv Z h20 b20_1 k20_0 .byte lz (ll.map own_vb) (.int 0) := by
      rw [hl, ← hlz]
      show Arv Z h20 b20_1 k20_0 .byte (1 : Int32) [.int (p1.toInt8.toInt32)] (.int 0)
      rw [d20_0]
      exact F20_3
    have lln : lz.toInt = ll.length := by rw [hl, ← hlz]; rfl
    have lla : own_lat ll := by rw [hl]; exact own_lat_1 (own_rw R_p1 (by decide) (by decide))
    have Kp23 : Keep h0 h20 [] := ((Keep.refl h0 []).trans K20 all0)
    have sz24 : h0.size ≤ b20_0 := Nat.le_trans (Keep.refl h0 []).1 s20_0
    have sz25 : h0.size ≤ b20_1 := Nat.le_trans (Keep.refl h0 []).1 s20_1
    have fk26 : Safe Z EL0 s.vm h20 b20_0 := (Safe.keep K20 sf0 C0.1 (Safe.new s20_0 : Safe Z EL0 s.vm h0 b20_0))
    exact ⟨lz, ll, b20_0, b20_1, k20_0, hll, lln, lla, rfl, (Fr.app (Fr.nil n0) N20), Kp23, sz24, (hat.safe F20_0.lt fk26), F20_0, F20_1, F20_2, lV⟩
  · refine Go.iloadN X0 hx (pc' := 1) rfl (hb hby d3_0) rfl ?_
    refine Go.ifYes X0 hx (pc' := 15) (hb hby d3_1) (by decide) (by decide) (by decide) ?_
    refine Go.iloadN X0 hx (pc' := 16) rfl (hb hby d3_15) rfl ?_
    refine Go.iconst X0 hx (pc' := 17) rfl (hb hby d3_16) (v := (1 : Int32)) rfl ?_
    refine Go.icmpYes X0 hx (pc' := 25) (hb hby d3_17) (by decide) (by decide) (by decide) ?_
    refine Go.iloadN X0 hx (pc' := 26) rfl (hb hby d3_25) rfl ?_
    refine Go.iconst X0 hx (pc' := 27) rfl (hb hby d3_26) (v := (2 : Int32)) rfl ?_
    refine Go.icmpNo X0 hx (pc' := 30) rfl (hb hby d3_27) (by decide) ?_
    refine Go.new X0 hx hZ hown (tw_10 hw) (tw_11 hw) (tw_12 hw) e0 (by decide) (by decide) (pc' := 33) rfl (hb hby d3_30) ?_
    intro T27 h27 b27 e27 E27 g27 A27 D27 X27
    have b27_value : Fld Z h27 b27 "java/lang/String" "value" "[B" .null := D27 (Or.inr (tw_26 hw)) (ty := (.array .byte)) (by decide)
    have b27_coder : Fld Z h27 b27 "java/lang/String" "coder" "B" (.int 0) := D27 (Or.inr (tw_27 hw)) (ty := .byte) (by decide)
    refine Go.dup X27 hx (pc' := 34) rfl (hb hby d3_33) rfl ?_
    refine Go.iconst X27 hx (pc' := 35) rfl (hb hby d3_34) (v := (2 : Int32)) rfl ?_
    refine Go.newarray X27 hx hZ (ty := .char) rfl (tw_13 hw) e27 (by decide) (cap := 2) (by decide) (by decide) (by decide) (by decide) (ad := "[C") (by decide) 2 (pc' := 37) rfl (hb hby d3_35) ?_
    intro T28 h28 b28 k28 e28 E28 g28 V28 A28 X28
    have V28' : Arv Z h28 b28 k28 .char (2 : Int32) [(.int 0), (.int 0)] (.int 0) := V28
    refine Go.dup X28 hx (pc' := 38) rfl (hb hby d3_37) rfl ?_
    refine Go.iconst X28 hx (pc' := 39) rfl (hb hby d3_38) (v := (0 : Int32)) rfl ?_
    refine Go.iloadN X28 hx (pc' := 40) rfl (hb hby d3_39) rfl ?_
    have Kp31 : Keep h0 h27 [] := ((Keep.refl h0 []).ext E27)
    have sz30 : h0.size ≤ b28 := Nat.le_trans Kp31.1 (Nat.le_of_eq g28.symm)
    have ge29 : n0 ≤ b28 := Nat.le_trans Z0 sz30
    refine Go.castore X28 hx hZ e28 V28' p1 (own_nar_char R_p1 (by decide) (by decide)) ⟨by decide, by decide⟩ 0 rfl (Nat.le_of_ble_eq_true rfl) (pc' := 41) rfl (hb hby d3_40) ?_
    intro T32 h32 e32 W32 V32 X32
    have N32 := Fr.snoc X32 (Fr.nil n0) ge29
    refine Go.dup X32 hx (pc' := 42) rfl (hb hby d3_41) rfl ?_
    refine Go.iconst X32 hx (pc' := 43) rfl (hb hby d3_42) (v := (1 : Int32)) rfl ?_
    refine Go.iloadN X32 hx (pc' := 44) rfl (hb hby d3_43) rfl ?_
    refine Go.castore X32 hx hZ e32 V32 p2 (own_nar_char R_p2 (by decide) (by decide)) ⟨by decide, by decide⟩ 1 rfl (Nat.le_of_ble_eq_true rfl) (pc' := 45) rfl (hb hby d3_44) ?_
    intro T33 h33 e33 W33 V33 X33
    have N33 := Fr.snoc X33 N32 ge29
    have Kp35 : Keep h0 h28 [] := (Kp31.ext E28)
    have Kp36 : Keep h0 h32 [] := (Kp35.wr W32 (Or.inr sz30))
    have Kp37 : Keep h0 h33 [] := (Kp36.wr W33 (Or.inr sz30))
    have Zn34 : n0 ≤ h33.size := Nat.le_trans Z0 Kp37.1
    have O38 := (O0.ext E27)
    have O39 := (O38.ext E28)
    have O40 := (O39.wr W32 ge29)
    have O41 := (O40.wr W33 ge29)
    have fk42 : Exa Z h33 b27 "java/lang/String" := (((A27.ext E28).wr W32).wr W33)
    have ne43 : b27 ≠ b28 := Nat.ne_of_lt (Nat.lt_of_lt_of_le A27.lt (Nat.le_of_eq g28.symm))
    have fk44 : Fld Z h33 b27 "java/lang/String" "coder" "B" (.int 0) := (((b27_coder.ext E28).other W32 (Or.inl ne43)).other W33 (Or.inl ne43))
    have fk45 : Fld Z h33 b27 "java/lang/String" "value" "[B" .null := (((b27_value.ext E28).other W32 (Or.inl ne43)).other W33 (Or.inl ne43))
    have V46 : Arv Z h33 b28 k28 .char (2 : Int32) [(.int p1), (.int p2)] (.int 0) := V33
    have sz48 : h0.size ≤ b27 := Nat.le_trans (Keep.refl h0 []).1 (Nat.le_of_eq g27.symm)
    have ge47 : n0 ≤ b27 := Nat.le_trans Z0 sz48
    refine Go.callN X33 hx hZ hown rfl (tw_14 hw) (tw_15 hw) (tw_16 hw) (by decide) (tw_16 hw) (tw_12 hw) (au_15 l Z a0 hw b27 b28 k28 p1 p2 gz1 gv5 h33 n0 Zn34 O41 G fk42 fk44 fk45 V46 R_p1 R_p2 ge47) e33 (a := b27) (argsL := [(.ref b28)]) (rest := [(.ref b27)]) (pc' := 48) rfl (by rw [hml]; rfl) (lenOf pd_3 rfl) rfl rfl (W := 1) (Nat.le_of_eq rfl) (by decide) (by decide) (by decide) (by decide) (hb hby d3_45) ?_
    intro v49 T49 L49 q49 X49
    obtain ⟨h49, e49⟩ : ∃ z, T49.heap = z := ⟨_, rfl⟩
    rw [e49] at q49
    obtain ⟨z49_0, z49_1, b49_0, k49_0, d49_0, d49_1, rfl, N49, K49, s49_0, F49_0, F49_1, F49_2, F49_3, F49_4⟩ := q49
    show Go _ _ _ _ (T49.setTop (mkF m 48 #[.val (.int 2), .val (.int p1), .val (.int p2), .val (.int p3)] [(.ref b27)]))
    subst hFF
    have C50 : CHr Z EL0 s.vm s.heap s.vm h27 := (C0.trans (CHr.ext E27 C0.1))
    have C51 : CHr Z EL0 s.vm s.heap s.vm h28 := (C50.trans (CHr.ext E28 C50.1))
    have fk52 : Safe Z EL0 s.vm h28 b28 := (Safe.ext E28 C50.1 (Safe.new (Nat.le_of_eq g28.symm) : Safe Z EL0 s.vm h27 b28))
    have C53 : CHr Z EL0 s.vm s.heap s.vm h32 := (C51.trans (CHr.wr W32 fk52 C51.1))
    have fk54 : Safe Z EL0 s.vm h32 b28 := (Safe.wr W32 fk52 C51.1 fk52)
    have C55 : CHr Z EL0 s.vm s.heap s.vm h33 := (C53.trans (CHr.wr W33 fk54 C53.1))
    have fk56 : Safe Z EL0 s.vm h27 b27 := (Safe.ext E27 C0.1 (Safe.new (Nat.le_of_eq g27.symm) : Safe Z EL0 s.vm h0 b27))
    have fk57 : Safe Z EL0 s.vm h28 b27 := (Safe.ext E28 C50.1 fk56)
    have fk58 : Safe Z EL0 s.vm h32 b27 := (Safe.wr W32 fk52 C51.1 fk57)
    have fk59 : Safe Z EL0 s.vm h33 b27 := (Safe.wr W33 fk54 C53.1 fk58)
    have C60 : CHr Z EL0 s.vm s.heap s.vm h49 := (C55.trans (CHr.keep K49 (sfS fk59 sf0) C55.1))
    have hk61 := (Nat.le_trans (Nat.le_trans (Nat.le_trans (Nat.le_trans (Nat.le_trans (Nat.le_refl _) E27.1) E28.1) (Keep.of_wr W32).1) (Keep.of_wr W33).1) K49.1)
    refine Go.retRW X49 hx hlk hZ (own_EW hw) e49 hS0 hk61 C60 (t := (.object "java/lang/String")) hret rfl rfl (hb hby d3_48) (by decide) (by decide) (fun hat => ?_)
    obtain ⟨ll, hll⟩ : ∃ u, (own_l3 (2 : Int32) p1 p2 p3) = u := ⟨_, rfl⟩
    have hl : ll = [p1, p2] := hll.symm.trans own_l3_2
    obtain ⟨lz, hlz⟩ : ∃ z : Int32, (2 : Int32) = z := ⟨_, rfl⟩
    have lV : Arv Z h49 b49_0 k49_0 .byte lz (ll.map own_vb) (.int 0) := by
      rw [hl, ← hlz]
      show Arv Z h49 b49_0 k49_0 .byte (2 : Int32) [.int (p1.toInt8.toInt32), .int (p2.toInt8.toInt32)] (.int 0)
      rw [d49_0, d49_1]
      exact F49_3
    have lln : lz.toInt = ll.length := by rw [hl, ← hlz]; rfl
    have lla : own_lat ll := by rw [hl]; exact own_lat_2 (own_rw R_p1 (by decide) (by decide)) (own_rw R_p2 (by decide) (by decide))
    have Kp62 : Keep h0 h49 [] := (Kp37.trans K49 (allS (Or.inr sz48) all0))
    have sz63 : h0.size ≤ b49_0 := Nat.le_trans Kp37.1 s49_0
    have ne64 : b27 ≠ b49_0 := Nat.ne_of_lt (Nat.lt_of_lt_of_le fk42.lt s49_0)
    have fk65 : Safe Z EL0 s.vm h49 b27 := (Safe.keep K49 (sfS fk59 sf0) C55.1 fk59)
    exact ⟨lz, ll, b27, b49_0, k49_0, hll, lln, lla, rfl, (Fr.app N33 N49), Kp62, sz48, (hat.safe F49_0.lt fk65), F49_0, F49_1, F49_2, lV⟩
  · refine Go.iloadN X0 hx (pc' := 1) rfl (hb hby d3_0) rfl ?_
    refine Go.ifYes X0 hx (pc' := 15) (hb hby d3_1) (by decide) (by decide) (by decide) ?_
    refine Go.iloadN X0 hx (pc' := 16) rfl (hb hby d3_15) rfl ?_
    refine Go.iconst X0 hx (pc' := 17) rfl (hb hby d3_16) (v := (1 : Int32)) rfl ?_
    refine Go.icmpYes X0 hx (pc' := 25) (hb hby d3_17) (by decide) (by decide) (by decide) ?_
    refine Go.iloadN X0 hx (pc' := 26) rfl (hb hby d3_25) rfl ?_
    refine Go.iconst X0 hx (pc' := 27) rfl (hb hby d3_26) (v := (2 : Int32)) rfl ?_
    refine Go.icmpYes X0 hx (pc' := 49) (hb hby d3_27) (by decide) (by decide) (by decide) ?_
    refine Go.new X0 hx hZ hown (tw_10 hw) (tw_11 hw) (tw_12 hw) e0 (by decide) (by decide) (pc' := 52) rfl (hb hby d3_49) ?_
    intro T66 h66 b66 e66 E66 g66 A66 D66 X66
    have b66_value : Fld Z h66 b66 "java/lang/String" "value" "[B" .null := D66 (Or.inr (tw_26 hw)) (ty := (.array .byte)) (by decide)
    have b66_coder : Fld Z h66 b66 "java/lang/String" "coder" "B" (.int 0) := D66 (Or.inr (tw_27 hw)) (ty := .byte) (by decide)
    refine Go.dup X66 hx (pc' := 53) rfl (hb hby d3_52) rfl ?_
    refine Go.iconst X66 hx (pc' := 54) rfl (hb hby d3_53) (v := (3 : Int32)) rfl ?_
    refine Go.newarray X66 hx hZ (ty := .char) rfl (tw_13 hw) e66 (by decide) (cap := 3) (by decide) (by decide) (by decide) (by decide) (ad := "[C") (by decide) 3 (pc' := 56) rfl (hb hby d3_54) ?_
    intro T67 h67 b67 k67 e67 E67 g67 V67 A67 X67
    have V67' : Arv Z h67 b67 k67 .char (3 : Int32) [(.int 0), (.int 0), (.int 0)] (.int 0) := V67
    refine Go.dup X67 hx (pc' := 57) rfl (hb hby d3_56) rfl ?_
    refine Go.iconst X67 hx (pc' := 58) rfl (hb hby d3_57) (v := (0 : Int32)) rfl ?_
    refine Go.iloadN X67 hx (pc' := 59) rfl (hb hby d3_58) rfl ?_
    have Kp70 : Keep h0 h66 [] := ((Keep.refl h0 []).ext E66)
    have sz69 : h0.size ≤ b67 := Nat.le_trans Kp70.1 (Nat.le_of_eq g67.symm)
    have ge68 : n0 ≤ b67 := Nat.le_trans Z0 sz69
    refine Go.castore X67 hx hZ e67 V67' p1 (own_nar_char R_p1 (by decide) (by decide)) ⟨by decide, by decide⟩ 0 rfl (Nat.le_of_ble_eq_true rfl) (pc' := 60) rfl (hb hby d3_59) ?_
    intro T71 h71 e71 W71 V71 X71
    have N71 := Fr.snoc X71 (Fr.nil n0) ge68
    refine Go.dup X71 hx (pc' := 61) rfl (hb hby d3_60) rfl ?_
    refine Go.iconst X71 hx (pc' := 62) rfl (hb hby d3_61) (v := (1 : Int32)) rfl ?_
    refine Go.iloadN X71 hx (pc' := 63) rfl (hb hby d3_62) rfl ?_
    refine Go.castore X71 hx hZ e71 V71 p2 (own_nar_char R_p2 (by decide) (by decide)) ⟨by decide, by decide⟩ 1 rfl (Nat.le_of_ble_eq_true rfl) (pc' := 64) rfl (hb hby d3_63) ?_
    intro T72 h72 e72 W72 V72 X72
    have N72 := Fr.snoc X72 N71 ge68
    refine Go.dup X72 hx (pc' := 65) rfl (hb hby d3_64) rfl ?_
    refine Go.iconst X72 hx (pc' := 66) rfl (hb hby d3_65) (v := (2 : Int32)) rfl ?_
    refine Go.iloadN X72 hx (pc' := 67) rfl (hb hby d3_66) rfl ?_
    refine Go.castore X72 hx hZ e72 V72 p3 (own_nar_char R_p3 (by decide) (by decide)) ⟨by decide, by decide⟩ 2 rfl (Nat.le_of_ble_eq_true rfl) (pc' := 68) rfl (hb hby d3_67) ?_
    intro T73 h73 e73 W73 V73 X73
    have N73 := Fr.snoc X73 N72 ge68
    have Kp75 : Keep h0 h67 [] := (Kp70.ext E67)
    have Kp76 : Keep h0 h71 [] := (Kp75.wr W71 (Or.inr sz69))
    have Kp77 : Keep h0 h72 [] := (Kp76.wr W72 (Or.inr sz69))
    have Kp78 : Keep h0 h73 [] := (Kp77.wr W73 (Or.inr sz69))
    have Zn74 : n0 ≤ h73.size := Nat.le_trans Z0 Kp78.1
    have O79 := (O0.ext E66)
    have O80 := (O79.ext E67)
    have O81 := (O80.wr W71 ge68)
    have O82 := (O81.wr W72 ge68)
    have O83 := (O82.wr W73 ge68)
    have fk84 : Exa Z h73 b66 "java/lang/String" := ((((A66.ext E67).wr W71).wr W72).wr W73)
    have ne85 : b66 ≠ b67 := Nat.ne_of_lt (Nat.lt_of_lt_of_le A66.lt (Nat.le_of_eq g67.symm))
    have fk86 : Fld Z h73 b66 "java/lang/String" "coder" "B" (.int 0) := ((((b66_coder.ext E67).other W71 (Or.inl ne85)).other W72 (Or.inl ne85)).other W73 (Or.inl ne85))
    have fk87 : Fld Z h73 b66 "java/lang/String" "value" "[B" .null := ((((b66_value.ext E67).other W71 (Or.inl ne85)).other W72 (Or.inl ne85)).other W73 (Or.inl ne85))
    have V88 : Arv Z h73 b67 k67 .char (3 : Int32) [(.int p1), (.int p2), (.int p3)] (.int 0) := V73
    have sz90 : h0.size ≤ b66 := Nat.le_trans (Keep.refl h0 []).1 (Nat.le_of_eq g66.symm)
    have ge89 : n0 ≤ b66 := Nat.le_trans Z0 sz90
    refine Go.callN X73 hx hZ hown rfl (tw_14 hw) (tw_15 hw) (tw_16 hw) (by decide) (tw_16 hw) (tw_12 hw) (au_20 l Z a0 hw b66 b67 k67 p1 p2 p3 gz1 gv5 h73 n0 Zn74 O83 G fk84 fk86 fk87 V88 R_p1 R_p2 R_p3 ge89) e73 (a := b66) (argsL := [(.ref b67)]) (rest := [(.ref b66)]) (pc' := 71) rfl (by rw [hml]; rfl) (lenOf pd_3 rfl) rfl rfl (W := 1) (Nat.le_of_eq rfl) (by decide) (by decide) (by decide) (by decide) (hb hby d3_68) ?_
    intro v91 T91 L91 q91 X91
    obtain ⟨h91, e91⟩ : ∃ z, T91.heap = z := ⟨_, rfl⟩
    rw [e91] at q91
    obtain ⟨z91_0, z91_1, z91_2, b91_0, k91_0, d91_0, d91_1, d91_2, rfl, N91, K91, s91_0, F91_0, F91_1, F91_2, F91_3, F91_4⟩ := q91
    show Go _ _ _ _ (T91.setTop (mkF m 71 #[.val (.int 3), .val (.int p1), .val (.int p2), .val (.int p3)] [(.ref b66)]))
    subst hFF
    have C92 : CHr Z EL0 s.vm s.heap s.vm h66 := (C0.trans (CHr.ext E66 C0.1))
    have C93 : CHr Z EL0 s.vm s.heap s.vm h67 := (C92.trans (CHr.ext E67 C92.1))
    have fk94 : Safe Z EL0 s.vm h67 b67 := (Safe.ext E67 C92.1 (Safe.new (Nat.le_of_eq g67.symm) : Safe Z EL0 s.vm h66 b67))
    have C95 : CHr Z EL0 s.vm s.heap s.vm h71 := (C93.trans (CHr.wr W71 fk94 C93.1))
    have fk96 : Safe Z EL0 s.vm h71 b67 := (Safe.wr W71 fk94 C93.1 fk94)
    have C97 : CHr Z EL0 s.vm s.heap s.vm h72 := (C95.trans (CHr.wr W72 fk96 C95.1))
    have fk98 : Safe Z EL0 s.vm h72 b67 := (Safe.wr W72 fk96 C95.1 fk96)
    have C99 : CHr Z EL0 s.vm s.heap s.vm h73 := (C97.trans (CHr.wr W73 fk98 C97.1))
    have fk100 : Safe Z EL0 s.vm h66 b66 := (Safe.ext E66 C0.1 (Safe.new (Nat.le_of_eq g66.symm) : Safe Z EL0 s.vm h0 b66))
    have fk101 : Safe Z EL0 s.vm h67 b66 := (Safe.ext E67 C92.1 fk100)
    have fk102 : Safe Z EL0 s.vm h71 b66 := (Safe.wr W71 fk94 C93.1 fk101)
    have fk103 : Safe Z EL0 s.vm h72 b66 := (Safe.wr W72 fk96 C95.1 fk102)
    have fk104 : Safe Z EL0 s.vm h73 b66 := (Safe.wr W73 fk98 C97.1 fk103)
    have C105 : CHr Z EL0 s.vm s.heap s.vm h91 := (C99.trans (CHr.keep K91 (sfS fk104 sf0) C99.1))
    have hk106 := (Nat.le_trans (Nat.le_trans (Nat.le_trans (Nat.le_trans (Nat.le_trans (Nat.le_trans (Nat.le_refl _) E66.1) E67.1) (Keep.of_wr W71).1) (Keep.of_wr W72).1) (Keep.of_wr W73).1) K91.1)
    refine Go.retRW X91 hx hlk hZ (own_EW hw) e91 hS0 hk106 C105 (t := (.object "java/lang/String")) hret rfl rfl (hb hby d3_71) (by decide) (by decide) (fun hat => ?_)
    obtain ⟨ll, hll⟩ : ∃ u, (own_l3 (3 : Int32) p1 p2 p3) = u := ⟨_, rfl⟩
    have hl : ll = [p1, p2, p3] := hll.symm.trans own_l3_3
    obtain ⟨lz, hlz⟩ : ∃ z : Int32, (3 : Int32) = z := ⟨_, rfl⟩
    have lV : Arv Z h91 b91_0 k91_0 .byte lz (ll.map own_vb) (.int 0) := by
      rw [hl, ← hlz]
      show Arv Z h91 b91_0 k91_0 .byte (3 : Int32) [.int (p1.toInt8.toInt32), .int (p2.toInt8.toInt32), .int (p3.toInt8.toInt32)] (.int 0)
      rw [d91_0, d91_1, d91_2]
      exact F91_3
    have lln : lz.toInt = ll.length := by rw [hl, ← hlz]; rfl
    have lla : own_lat ll := by rw [hl]; exact own_lat_3 (own_rw R_p1 (by decide) (by decide)) (own_rw R_p2 (by decide) (by decide)) (own_rw R_p3 (by decide) (by decide))
    have Kp107 : Keep h0 h91 [] := (Kp78.trans K91 (allS (Or.inr sz90) all0))
    have sz108 : h0.size ≤ b91_0 := Nat.le_trans Kp78.1 s91_0
    have ne109 : b66 ≠ b91_0 := Nat.ne_of_lt (Nat.lt_of_lt_of_le fk84.lt s91_0)
    have fk110 : Safe Z EL0 s.vm h91 b66 := (Safe.keep K91 (sfS fk104 sf0) C99.1 fk104)
    exact ⟨lz, ll, b66, b91_0, k91_0, hll, lln, lla, rfl, (Fr.app N73 N91), Kp107, sz90, (hat.safe F91_0.lt fk110), F91_0, F91_1, F91_2, lV⟩
theorem pd_11 : parseMethodDescriptor "(ICCC)Ljava/lang/String;" = some ⟨[.int, .char, .char, .char], some (.object "java/lang/String")⟩ := by decide +kernel
theorem d7_0 : decode prog_48_method_1_code 0 = .ok (.aload_n 0, 1) := by decide +kernel
theorem d7_1 : decode prog_48_method_1_code 1 = .ok (.invokespecial 1, 3) := by decide +kernel
theorem d7_4 : decode prog_48_method_1_code 4 = .ok (.aload_n 0, 1) := by decide +kernel
theorem d7_5 : decode prog_48_method_1_code 5 = .ok (.aload_n 1, 1) := by decide +kernel
theorem d7_6 : decode prog_48_method_1_code 6 = .ok (.putfield 7, 3) := by decide +kernel
theorem d7_9 : decode prog_48_method_1_code 9 = .ok (.aload_n 0, 1) := by decide +kernel
theorem d7_10 : decode prog_48_method_1_code 10 = .ok (.aload_n 1, 1) := by decide +kernel
theorem d8_0 : decode prog_48_method_11_code 0 = .ok (.new 123, 3) := by decide +kernel
theorem d8_3 : decode prog_48_method_11_code 3 = .ok (.dup, 1) := by decide +kernel
theorem d8_4 : decode prog_48_method_11_code 4 = .ok (.aload_n 0, 1) := by decide +kernel
theorem d9_0 : decode jdk_42_method_54_code 0 = .ok (.aload_n 0, 1) := by decide +kernel
theorem d9_1 : decode jdk_42_method_54_code 1 = .ok (.getfield 9, 3) := by decide +kernel
theorem d9_4 : decode jdk_42_method_54_code 4 = .ok (.arraylength, 1) := by decide +kernel
theorem d9_5 : decode jdk_42_method_54_code 5 = .ok (.aload_n 0, 1) := by decide +kernel
theorem d10_0 : decode jdk_42_method_152_code 0 = .ok (.getstatic 38, 3) := by decide +kernel
theorem d10_3 : decode jdk_42_method_152_code 3 = .ok (.ifCond .eq 10, 3) := by decide +kernel
theorem d10_6 : decode jdk_42_method_152_code 6 = .ok (.aload_n 0, 1) := by decide +kernel
theorem d10_7 : decode jdk_42_method_152_code 7 = .ok (.getfield 15, 3) := by decide +kernel
theorem d10_10 : decode jdk_42_method_152_code 10 = .ok (.goto 4, 3) := by decide +kernel
theorem d10_14 : decode jdk_42_method_152_code 14 = .ok (.ireturn, 1) := by decide +kernel
theorem ef_10_R (m : MethodId) (x0 : Addr) : entryFrame m #[(.ref x0)] 1 = mkF m 0 #[.val (.ref x0)] [] := by first | (simp [entryFrame, mkF, argsToLocals, Value.category]; done) | rfl
-- java/lang/String.coder
set_option maxRecDepth 65536 in
set_option maxHeartbeats 4000000 in
theorem au_28 (l : Launch) (Z : State) (a0 : Array Value) (hw : ∀ d ∈ tables_1, d.before a0 Z = true) (x0 : Addr) (gz1 : Int32) (gv5 : Value) (h0 : Heap) (n0 : Nat) (Z0 : n0 ≤ h0.size) (O0 : Old Z n0 h0) (G : Glob Z gz1 gv5) (P1 : Fld Z h0 x0 "java/lang/String" "coder" "B" (.int 0)) :
    Ctr l Z (⟨"java/lang/String", "coder", "()B"⟩ : MethodName) jdk_42_method_152_code 1 (some .byte) ({ frames := 0, cells := 0, slots := 0, locals := 0 } : Room) #[(.ref x0)] h0 (fun v h L => v = some (.int 0) ∧ Fr n0 L ∧ h = h0) := by
  refine Ctr.of (plainFor_of_name pn_c1) ?_
  intro p e s m below meth c T0 hx hZ hby hml hown hnm hret hlk e0 es X0
  have G' := G
  obtain ⟨G0, -, G2, -⟩ := G'
  refine Go.cast (ef_10_R m x0) ?_
  generalize hFF : EndN s _ _ _ = FF
  have fk1 : Sta Z h0 "java/lang/String" "COMPACT_STRINGS" "Z" (.int gz1) := G0.ext O0.2
  refine Go.getS X0 hx hZ hown (host := "") (Or.inl (tw_57 hw)) Via.refl e0 fk1 (pc' := 3) rfl (hb hby d10_0) ?_
  intro T2 e2 X2
  refine Go.ifNo X2 hx (pc' := 6) rfl (hb hby d10_3) (feq G2).1 ?_
  refine Go.aloadN X2 hx (pc' := 7) rfl (hb hby d10_6) rfl rfl ?_
  refine Go.getF X2 hx hZ hown (host := "") (Or.inl (tw_31 hw)) Via.refl e2 P1 (pc' := 10) rfl (hb hby d10_7) ?_
  intro T3 e3 X3
  refine Go.goto X3 hx (pc' := 14) (hb hby d10_10) (by decide) (by decide) ?_
  subst hFF
  refine Go.retN X3 hx hlk (t := .byte) hret (by simp) (hb hby d10_14) (by decide) (by decide) ?_
  rw [e3]
  exact ⟨(congrArg (fun z => some (Value.int z)) (by decide : nar .byte (0 : Int32) = (0 : Int32))), (Fr.nil n0), rfl⟩
theorem pd_12 : parseMethodDescriptor "()B" = some ⟨[], some .byte⟩ := by decide +kernel
theorem d9_6 : decode jdk_42_method_54_code 6 = .ok (.invokevirtual 335, 3) := by decide +kernel
theorem d9_9 : decode jdk_42_method_54_code 9 = .ok (.ishr, 1) := by decide +kernel
theorem d9_10 : decode jdk_42_method_54_code 10 = .ok (.ireturn, 1) := by decide +kernel
theorem ef_9_R (m : MethodId) (x0 : Addr) : entryFrame m #[(.ref x0)] 1 = mkF m 0 #[.val (.ref x0)] [] := by first | (simp [entryFrame, mkF, argsToLocals, Value.category]; done) | rfl
-- java/lang/String.length
set_option maxRecDepth 65536 in
set_option maxHeartbeats 4000000 in
theorem au_27 (l : Launch) (Z : State) (a0 : Array Value) (hw : ∀ d ∈ tables_1, d.before a0 Z = true) (x0 : Addr) (x1 : Addr) (kk0 : ClassId) (gz1 : Int32) (gv5 : Value) (h0 : Heap) (n0 : Nat) (Z0 : n0 ≤ h0.size) (O0 : Old Z n0 h0) (G : Glob Z gz1 gv5) (P0 : Exa Z h0 x0 "java/lang/String") (P1 : Fld Z h0 x0 "java/lang/String" "coder" "B" (.int 0)) (P2 : Fld Z h0 x0 "java/lang/String" "value" "[B" (.ref x1)) (P3 : Arv Z h0 x1 kk0 .byte (0 : Int32) [] (.int 0)) :
    Ctr l Z (⟨"java/lang/String", "length", "()I"⟩ : MethodName) jdk_42_method_54_code 1 (some .int) ({ frames := 1, cells := 0, slots := 0, locals := 13 } : Room) #[(.ref x0)] h0 (fun v h L => v = some (.int 0) ∧ Fr n0 L ∧ h = h0) := by
  refine Ctr.of (plainFor_of_name pn_c1) ?_
  intro p e s m below meth c T0 hx hZ hby hml hown hnm hret hlk e0 es X0
  refine Go.cast (ef_9_R m x0) ?_
  generalize hFF : EndN s _ _ _ = FF
  refine Go.aloadN X0 hx (pc' := 1) rfl (hb hby d9_0) rfl rfl ?_
  refine Go.getF X0 hx hZ hown (host := "") (Or.inl (tw_30 hw)) Via.refl e0 P2 (pc' := 4) rfl (hb hby d9_1) ?_
  intro T1 e1 X1
  refine Go.arraylength X1 hx hZ e1 P3 (pc' := 5) rfl (hb hby d9_4) ?_
  refine Go.aloadN X1 hx (pc' := 6) rfl (hb hby d9_5) rfl rfl ?_
  refine Go.callV X1 hx hZ hown (tw_52 hw) (tw_53 hw) (notFace_of_selects (args := #[]) (mvT hZ (tw_55 hw))) (tw_55 hw) (tw_54 hw) (by decide) (tw_56 hw) (tw_12 hw) (au_28 l Z a0 hw x0 gz1 gv5 h0 n0 Z0 O0 G P1) e1 P0 (argsL := []) (rest := [(.int 0)]) (pc' := 9) rfl (by rw [hml]; rfl) (lenOf pd_12 rfl) rfl rfl (W := 1) (Nat.le_of_eq rfl) (by decide) (by decide) (by decide) (by decide) (hb hby d9_6) ?_
  intro v2 T2 L2 q2 X2
  obtain ⟨rfl, N2, e2⟩ := q2
  show Go _ _ _ _ (T2.setTop (mkF m 9 #[.val (.ref x0)] [(.int 0), (.int 0)]))
  refine Go.ishr X2 hx (pc' := 10) rfl (hb hby d9_9) ?_
  rw [show ((0 : Int32) >>> ((0 : Int32) &&& 31)) = (0 : Int32) from by decide]
  subst hFF
  refine Go.retI X2 hx hlk hret (hb hby d9_10) (by decide) (by decide) ?_
  rw [e2]
  exact ⟨rfl, (Fr.app (Fr.nil n0) N2), rfl⟩
theorem pd_13 : parseMethodDescriptor "()I" = some ⟨[], some .int⟩ := by decide +kernel
theorem d8_5 : decode prog_48_method_11_code 5 = .ok (.invokevirtual 23, 3) := by decide +kernel
theorem d11_0 : decode jdk_67_method_2_code 0 = .ok (.aload_n 0, 1) := by decide +kernel
theorem d11_1 : decode jdk_67_method_2_code 1 = .ok (.iload_n 1, 1) := by decide +kernel
theorem d12_0 : decode jdk_68_method_2_code 0 = .ok (.aload_n 0, 1) := by decide +kernel
theorem d12_1 : decode jdk_68_method_2_code 1 = .ok (.invokespecial 3, 3) := by decide +kernel
theorem d12_4 : decode jdk_68_method_2_code 4 = .ok (.getstatic 18, 3) := by decide +kernel
theorem d12_7 : decode jdk_68_method_2_code 7 = .ok (.ifCond .eq 18, 3) := by decide +kernel
theorem d12_10 : decode jdk_68_method_2_code 10 = .ok (.aload_n 0, 1) := by decide +kernel
theorem d12_11 : decode jdk_68_method_2_code 11 = .ok (.iload_n 1, 1) := by decide +kernel
theorem d12_12 : decode jdk_68_method_2_code 12 = .ok (.newarray .byte, 2) := by decide +kernel
theorem d12_14 : decode jdk_68_method_2_code 14 = .ok (.putfield 15, 3) := by decide +kernel
theorem d12_17 : decode jdk_68_method_2_code 17 = .ok (.aload_n 0, 1) := by decide +kernel
theorem d12_18 : decode jdk_68_method_2_code 18 = .ok (.iconst 0, 1) := by decide +kernel
theorem d12_19 : decode jdk_68_method_2_code 19 = .ok (.putfield 22, 3) := by decide +kernel
theorem d12_22 : decode jdk_68_method_2_code 22 = .ok (.goto 16, 3) := by decide +kernel
theorem d12_38 : decode jdk_68_method_2_code 38 = .ok (.return_, 1) := by decide +kernel
theorem ef_12_RI (m : MethodId) (x0 : Addr) (x1 : Int32) : entryFrame m #[(.ref x0), (.int x1)] 2 = mkF m 0 #[.val (.ref x0), .val (.int x1)] [] := by first | (simp [entryFrame, mkF, argsToLocals, Value.category]; done) | rfl
theorem pn_c4 : plainName "java/lang/AbstractStringBuilder" = true := by first | (simp [plainName, overriddenIn]; done) | decide +kernel
-- java/lang/AbstractStringBuilder.init
set_option maxRecDepth 65536 in
set_option maxHeartbeats 4000000 in
theorem au_30 (l : Launch) (Z : State) (a0 : Array Value) (hw : ∀ d ∈ tables_1, d.before a0 Z = true) (x0 : Addr) (gz1 : Int32) (gv5 : Value) (h0 : Heap) (n0 : Nat) (Z0 : n0 ≤ h0.size) (O0 : Old Z n0 h0) (G : Glob Z gz1 gv5) (P0 : Exa Z h0 x0 "java/lang/StringBuilder") (P1 : Fld Z h0 x0 "java/lang/AbstractStringBuilder" "coder" "B" (.int 0)) (P2 : Fld Z h0 x0 "java/lang/AbstractStringBuilder" "count" "I" (.int 0)) (P3 : Fld Z h0 x0 "java/lang/AbstractStringBuilder" "value" "[B" .null) (g_x0 : n0 ≤ x0) :
    Ctr l Z (⟨"java/lang/AbstractStringBuilder", "<init>", "(I)V"⟩ : MethodName) jdk_68_method_2_code 2 none ({ frames := 1, cells := 1, slots := 0, locals := 12 } : Room) #[(.ref x0), (.int 0)] h0 (fun v h L => ∃ (y0 : Addr) (y1 : ClassId), v = none ∧ Fr n0 L ∧ Keep h0 h [x0] ∧ h0.size ≤ y0 ∧ Exa Z h x0 "java/lang/StringBuilder" ∧ Fld Z h x0 "java/lang/AbstractStringBuilder" "coder" "B" (.int 0) ∧ Fld Z h x0 "java/lang/AbstractStringBuilder" "count" "I" (.int 0) ∧ Fld Z h x0 "java/lang/AbstractStringBuilder" "value" "[B" (.ref y0) ∧ Arv Z h y0 y1 .byte (0 : Int32) [] (.int 0) ∧ Exa Z h y0 "[B") := by
  refine Ctr.of (plainFor_of_name pn_c4) ?_
  intro p e s m below meth c T0 hx hZ hby hml hown hnm hret hlk e0 es X0
  have G' := G
  obtain ⟨G0, -, G2, -⟩ := G'
  refine Go.cast (ef_12_RI m x0 (0 : Int32)) ?_
  generalize hFF : EndN s _ _ _ = FF
  refine Go.aloadN X0 hx (pc' := 1) rfl (hb hby d12_0) rfl rfl ?_
  refine Go.initO X0 hx hZ hown (tw_67 hw) (tw_22 hw) (tw_23 hw) e0 (by decide) (W := 0) (by rw [hml]; rfl) (Nat.le_of_eq rfl) (by decide) (pc' := 4) rfl (hb hby d12_1) ?_
  intro T1 e1 X1
  have fk2 : Sta Z h0 "java/lang/String" "COMPACT_STRINGS" "Z" (.int gz1) := G0.ext O0.2
  refine Go.getS X1 hx hZ hown (host := "") (Or.inl (tw_68 hw)) Via.refl e1 fk2 (pc' := 7) rfl (hb hby d12_4) ?_
  intro T3 e3 X3
  refine Go.ifNo X3 hx (pc' := 10) rfl (hb hby d12_7) (feq G2).1 ?_
  refine Go.aloadN X3 hx (pc' := 11) rfl (hb hby d12_10) rfl rfl ?_
  refine Go.iloadN X3 hx (pc' := 12) rfl (hb hby d12_11) rfl ?_
  refine Go.newarray X3 hx hZ (ty := .byte) rfl (tw_25 hw) e3 (by decide) (cap := 0) (by decide) (by decide) (by decide) (by decide) (ad := "[B") (by decide) 0 (pc' := 14) rfl (hb hby d12_12) ?_
  intro T4 h4 b4 k4 e4 E4 g4 V4 A4 X4
  have V4' : Arv Z h4 b4 k4 .byte (0 : Int32) [] (.int 0) := V4
  have fk5 : Fld Z h4 x0 "java/lang/AbstractStringBuilder" "value" "[B" .null := (P3.ext E4)
  have fk6 : Exa Z h4 x0 "java/lang/StringBuilder" := (P0.ext E4)
  refine Go.putF X4 hx hZ hown (host := "") (Or.inl (tw_69 hw)) Via.refl e4 fk5 fk6 (Or.inl (tw_70 hw)) (tw_45 hw) (ty := (.array .byte)) (by decide) rfl rfl (pc' := 17) rfl (hb hby d12_14) ?_
  intro T7 h7 e7 W7 F7 X7
  have N7 := Fr.snoc X7 (Fr.nil n0) g_x0
  refine Go.aloadN X7 hx (pc' := 18) rfl (hb hby d12_17) rfl rfl ?_
  refine Go.iconst X7 hx (pc' := 19) rfl (hb hby d12_18) (v := (0 : Int32)) rfl ?_
  have fk8 : Fld Z h7 x0 "java/lang/AbstractStringBuilder" "coder" "B" (.int 0) := ((P1.ext E4).other W7 (Or.inr (slot_ne (Or.inl (tw_72 hw)) (Or.inl (tw_70 hw)) (by decide) (t := .byte) (t' := (.array .byte)) (by decide) (by decide))))
  have fk9 : Exa Z h7 x0 "java/lang/StringBuilder" := (fk6.wr W7)
  refine Go.putFN X7 hx hZ hown (tw_71 hw) Via.refl e7 fk8 fk9 (Or.inl (tw_72 hw)) (tw_45 hw) (ty := .byte) (v' := (.int 0)) (by decide) (by decide) (by decide) (pc' := 22) rfl (hb hby d12_19) ?_
  intro T10 h10 e10 W10 F10 X10
  have N10 := Fr.snoc X10 N7 g_x0
  refine Go.goto X10 hx (pc' := 38) (hb hby d12_22) (by decide) (by decide) ?_
  subst hFF
  refine Go.ret0 X10 hx hlk hret (hb hby d12_38) (by decide) (by decide) ?_
  rw [e10]
  have fk11 : Exa Z h10 x0 "java/lang/StringBuilder" := (fk9.wr W10)
  have fk12 : Fld Z h10 x0 "java/lang/AbstractStringBuilder" "count" "I" (.int 0) := (((P2.ext E4).other W7 (Or.inr (slot_ne (Or.inl (tw_100 hw)) (Or.inl (tw_70 hw)) (by decide) (t := .int) (t' := (.array .byte)) (by decide) (by decide)))).other W10 (Or.inr (slot_ne (Or.inl (tw_100 hw)) (Or.inl (tw_72 hw)) (by decide) (t := .int) (t' := .byte) (by decide) (by decide))))
  have fk13 : Fld Z h10 x0 "java/lang/AbstractStringBuilder" "value" "[B" (.ref b4) := (F7.other W10 (Or.inr (slot_ne (Or.inl (tw_70 hw)) (Or.inl (tw_72 hw)) (by decide) (t := (.array .byte)) (t' := .byte) (by decide) (by decide))))
  have ne14 : x0 ≠ b4 := Nat.ne_of_lt (Nat.lt_of_lt_of_le P0.lt (Nat.le_of_eq g4.symm))
  have fk15 := ((V4'.other W7 (Ne.symm ne14)).other W10 (Ne.symm ne14))
  have fk16 : Exa Z h10 b4 "[B" := ((A4.wr W7).wr W10)
  have Kp17 : Keep h0 h4 [x0] := ((Keep.refl h0 [x0]).ext E4)
  have Kp18 : Keep h0 h7 [x0] := (Kp17.wr W7 (Or.inl (List.mem_of_getElem? (i := 0) rfl)))
  have Kp19 : Keep h0 h10 [x0] := (Kp18.wr W10 (Or.inl (List.mem_of_getElem? (i := 0) rfl)))
  have sz20 : h0.size ≤ b4 := Nat.le_trans (Keep.refl h0 [x0]).1 (Nat.le_of_eq g4.symm)
  exact ⟨b4, k4, rfl, N10, Kp19, sz20, fk11, F10, fk12, fk13, fk15, fk16⟩
theorem pd_14 : parseMethodDescriptor "(I)V" = some ⟨[.int], none⟩ := by decide +kernel
theorem d11_2 : decode jdk_67_method_2_code 2 = .ok (.invokespecial 1, 3) := by decide +kernel
theorem d11_5 : decode jdk_67_method_2_code 5 = .ok (.return_, 1) := by decide +kernel
theorem ef_11_RI (m : MethodId) (x0 : Addr) (x1 : Int32) : entryFrame m #[(.ref x0), (.int x1)] 2 = mkF m 0 #[.val (.ref x0), .val (.int x1)] [] := by first | (simp [entryFrame, mkF, argsToLocals, Value.category]; done) | rfl
theorem pn_c5 : plainName "java/lang/StringBuilder" = true := by first | (simp [plainName, overriddenIn]; done) | decide +kernel
-- java/lang/StringBuilder.init
set_option maxRecDepth 65536 in
set_option maxHeartbeats 4000000 in
theorem au_29 (l : Launch) (Z : State) (a0 : Array Value) (hw : ∀ d ∈ tables_1, d.before a0 Z = true) (x0 : Addr) (gz1 : Int32) (gv5 : Value) (h0 : Heap) (n0 : Nat) (Z0 : n0 ≤ h0.size) (O0 : Old Z n0 h0) (G : Glob Z gz1 gv5) (P0 : Exa Z h0 x0 "java/lang/StringBuilder") (P1 : Fld Z h0 x0 "java/lang/AbstractStringBuilder" "coder" "B" (.int 0)) (P2 : Fld Z h0 x0 "java/lang/AbstractStringBuilder" "count" "I" (.int 0)) (P3 : Fld Z h0 x0 "java/lang/AbstractStringBuilder" "value" "[B" .null) (g_x0 : n0 ≤ x0) :
    Ctr l Z (⟨"java/lang/StringBuilder", "<init>", "(I)V"⟩ : MethodName) jdk_67_method_2_code 2 none ({ frames := 2, cells := 1, slots := 0, locals := 25 } : Room) #[(.ref x0), (.int 0)] h0 (fun v h L => ∃ (y0 : Addr) (y1 : ClassId), v = none ∧ Fr n0 L ∧ Keep h0 h [x0] ∧ h0.size ≤ y0 ∧ Exa Z h x0 "java/lang/StringBuilder" ∧ Fld Z h x0 "java/lang/AbstractStringBuilder" "coder" "B" (.int 0) ∧ Fld Z h x0 "java/lang/AbstractStringBuilder" "count" "I" (.int 0) ∧ Fld Z h x0 "java/lang/AbstractStringBuilder" "value" "[B" (.ref y0) ∧ Arv Z h y0 y1 .byte (0 : Int32) [] (.int 0) ∧ Exa Z h y0 "[B") := by
  refine Ctr.of (plainFor_of_name pn_c5) ?_
  intro p e s m below meth c T0 hx hZ hby hml hown hnm hret hlk e0 es X0
  refine Go.cast (ef_11_RI m x0 (0 : Int32)) ?_
  generalize hFF : EndN s _ _ _ = FF
  refine Go.aloadN X0 hx (pc' := 1) rfl (hb hby d11_0) rfl rfl ?_
  refine Go.iloadN X0 hx (pc' := 2) rfl (hb hby d11_1) rfl ?_
  refine Go.callN X0 hx hZ hown rfl (tw_61 hw) (tw_62 hw) (tw_66 hw) (by decide) (tw_66 hw) (tw_65 hw) (au_30 l Z a0 hw x0 gz1 gv5 h0 n0 Z0 O0 G P0 P1 P2 P3 g_x0) e0 (a := x0) (argsL := [(.int 0)]) (rest := []) (pc' := 5) rfl (by rw [hml]; rfl) (lenOf pd_14 rfl) rfl rfl (W := 0) (Nat.le_of_eq rfl) (by decide) (by decide) (by decide) (by decide) (hb hby d11_2) ?_
  intro v1 T1 L1 q1 X1
  obtain ⟨h1, e1⟩ : ∃ z, T1.heap = z := ⟨_, rfl⟩
  rw [e1] at q1
  obtain ⟨b1_0, k1_0, rfl, N1, K1, s1_0, F1_0, F1_1, F1_2, F1_3, F1_4, F1_5⟩ := q1
  show Go _ _ _ _ (T1.setTop (mkF m 5 #[.val (.ref x0), .val (.int 0)] []))
  subst hFF
  refine Go.ret0 X1 hx hlk hret (hb hby d11_5) (by decide) (by decide) ?_
  rw [e1]
  have Kp2 : Keep h0 h1 [x0] := ((Keep.refl h0 [x0]).trans K1 (allS (Or.inl (List.mem_of_getElem? (i := 0) rfl)) all0))
  have sz3 : h0.size ≤ b1_0 := Nat.le_trans (Keep.refl h0 [x0]).1 s1_0
  exact ⟨b1_0, k1_0, rfl, (Fr.app (Fr.nil n0) N1), Kp2, sz3, F1_0, F1_1, F1_2, F1_3, F1_4, F1_5⟩
theorem d8_8 : decode prog_48_method_11_code 8 = .ok (.invokespecial 125, 3) := by decide +kernel
theorem d8_11 : decode prog_48_method_11_code 11 = .ok (.astore_n 1, 1) := by decide +kernel
theorem d8_12 : decode prog_48_method_11_code 12 = .ok (.iconst 0, 1) := by decide +kernel
theorem d8_13 : decode prog_48_method_11_code 13 = .ok (.istore_n 2, 1) := by decide +kernel
theorem d8_14 : decode prog_48_method_11_code 14 = .ok (.iload_n 2, 1) := by decide +kernel
theorem d8_15 : decode prog_48_method_11_code 15 = .ok (.aload_n 0, 1) := by decide +kernel
theorem d8_16 : decode prog_48_method_11_code 16 = .ok (.invokevirtual 23, 3) := by decide +kernel
theorem d8_19 : decode prog_48_method_11_code 19 = .ok (.if_icmp .ge 44, 3) := by decide +kernel
theorem d8_63 : decode prog_48_method_11_code 63 = .ok (.aload_n 1, 1) := by decide +kernel
theorem d13_0 : decode jdk_67_method_42_code 0 = .ok (.new 18, 3) := by decide +kernel
theorem d13_3 : decode jdk_67_method_42_code 3 = .ok (.dup, 1) := by decide +kernel
theorem d13_4 : decode jdk_67_method_42_code 4 = .ok (.aload_n 0, 1) := by decide +kernel
theorem d14_0 : decode jdk_42_method_53_code 0 = .ok (.aload_n 0, 1) := by decide +kernel
theorem d14_1 : decode jdk_42_method_53_code 1 = .ok (.aload_n 1, 1) := by decide +kernel
theorem d14_2 : decode jdk_42_method_53_code 2 = .ok (.aconst_null, 1) := by decide +kernel
theorem d15_0 : decode jdk_42_method_150_code 0 = .ok (.aload_n 0, 1) := by decide +kernel
theorem d15_1 : decode jdk_42_method_150_code 1 = .ok (.invokespecial 1, 3) := by decide +kernel
theorem d15_4 : decode jdk_42_method_150_code 4 = .ok (.aload_n 1, 1) := by decide +kernel
theorem d16_0 : decode jdk_68_method_64_code 0 = .ok (.aload_n 0, 1) := by decide +kernel
theorem d16_1 : decode jdk_68_method_64_code 1 = .ok (.getfield 15, 3) := by decide +kernel
theorem d16_4 : decode jdk_68_method_64_code 4 = .ok (.areturn, 1) := by decide +kernel
theorem ef_16_R (m : MethodId) (x0 : Addr) : entryFrame m #[(.ref x0)] 1 = mkF m 0 #[.val (.ref x0)] [] := by first | (simp [entryFrame, mkF, argsToLocals, Value.category]; done) | rfl
-- java/lang/AbstractStringBuilder.getValue
set_option maxRecDepth 65536 in
set_option maxHeartbeats 4000000 in
theorem au_34 (l : Launch) (Z : State) (a0 : Array Value) (hw : ∀ d ∈ tables_1, d.before a0 Z = true) (x0 : Addr) (x1 : Addr) (h0 : Heap) (n0 : Nat) (Z0 : n0 ≤ h0.size) (P3 : Fld Z h0 x0 "java/lang/AbstractStringBuilder" "value" "[B" (.ref x1)) :
    Ctr l Z (⟨"java/lang/AbstractStringBuilder", "getValue", "()[B"⟩ : MethodName) jdk_68_method_64_code 1 (some (.array .byte)) ({ frames := 0, cells := 0, slots := 0, locals := 0 } : Room) #[(.ref x0)] h0 (fun v h L => v = some (.ref x1) ∧ Fr n0 L ∧ h = h0) := by
  refine Ctr.of (plainFor_of_name pn_c4) ?_
  intro p e s m below meth c T0 hx hZ hby hml hown hnm hret hlk e0 es X0
  refine Go.cast (ef_16_R m x0) ?_
  generalize hFF : EndN s _ _ _ = FF
  refine Go.aloadN X0 hx (pc' := 1) rfl (hb hby d16_0) rfl rfl ?_
  refine Go.getF X0 hx hZ hown (host := "") (Or.inl (tw_69 hw)) Via.refl e0 P3 (pc' := 4) rfl (hb hby d16_1) ?_
  intro T1 e1 X1
  subst hFF
  refine Go.retR X1 hx hlk (t := (.array .byte)) hret rfl rfl (hb hby d16_4) (by decide) (by decide) ?_
  rw [e1]
  exact ⟨rfl, (Fr.nil n0), rfl⟩
theorem pd_15 : parseMethodDescriptor "()[B" = some ⟨[], some (.array .byte)⟩ := by decide +kernel
theorem d15_5 : decode jdk_42_method_150_code 5 = .ok (.invokevirtual 552, 3) := by decide +kernel
theorem d15_8 : decode jdk_42_method_150_code 8 = .ok (.astore_n 3, 1) := by decide +kernel
theorem d15_9 : decode jdk_42_method_150_code 9 = .ok (.aload_n 1, 1) := by decide +kernel
theorem d17_0 : decode jdk_67_method_93_code 0 = .ok (.aload_n 0, 1) := by decide +kernel
theorem d18_0 : decode jdk_68_method_6_code 0 = .ok (.aload_n 0, 1) := by decide +kernel
theorem d18_1 : decode jdk_68_method_6_code 1 = .ok (.getfield 79, 3) := by decide +kernel
theorem d18_4 : decode jdk_68_method_6_code 4 = .ok (.ireturn, 1) := by decide +kernel
theorem ef_18_R (m : MethodId) (x0 : Addr) : entryFrame m #[(.ref x0)] 1 = mkF m 0 #[.val (.ref x0)] [] := by first | (simp [entryFrame, mkF, argsToLocals, Value.category]; done) | rfl
-- java/lang/AbstractStringBuilder.length
set_option maxRecDepth 65536 in
set_option maxHeartbeats 4000000 in
theorem au_36 (l : Launch) (Z : State) (a0 : Array Value) (hw : ∀ d ∈ tables_1, d.before a0 Z = true) (x0 : Addr) (h0 : Heap) (n0 : Nat) (Z0 : n0 ≤ h0.size) (P2 : Fld Z h0 x0 "java/lang/AbstractStringBuilder" "count" "I" (.int 0)) :
    Ctr l Z (⟨"java/lang/AbstractStringBuilder", "length", "()I"⟩ : MethodName) jdk_68_method_6_code 1 (some .int) ({ frames := 0, cells := 0, slots := 0, locals := 0 } : Room) #[(.ref x0)] h0 (fun v h L => v = some (.int 0) ∧ Fr n0 L ∧ h = h0) := by
  refine Ctr.of (plainFor_of_name pn_c4) ?_
  intro p e s m below meth c T0 hx hZ hby hml hown hnm hret hlk e0 es X0
  refine Go.cast (ef_18_R m x0) ?_
  generalize hFF : EndN s _ _ _ = FF
  refine Go.aloadN X0 hx (pc' := 1) rfl (hb hby d18_0) rfl rfl ?_
  refine Go.getF X0 hx hZ hown (host := "") (Or.inl (tw_99 hw)) Via.refl e0 P2 (pc' := 4) rfl (hb hby d18_1) ?_
  intro T1 e1 X1
  subst hFF
  refine Go.retI X1 hx hlk hret (hb hby d18_4) (by decide) (by decide) ?_
  rw [e1]
  exact ⟨rfl, (Fr.nil n0), rfl⟩
theorem d17_1 : decode jdk_67_method_93_code 1 = .ok (.invokespecial 343, 3) := by decide +kernel
theorem d17_4 : decode jdk_67_method_93_code 4 = .ok (.ireturn, 1) := by decide +kernel
theorem ef_17_R (m : MethodId) (x0 : Addr) : entryFrame m #[(.ref x0)] 1 = mkF m 0 #[.val (.ref x0)] [] := by first | (simp [entryFrame, mkF, argsToLocals, Value.category]; done) | rfl
-- java/lang/StringBuilder.length
set_option maxRecDepth 65536 in
set_option maxHeartbeats 4000000 in
theorem au_35 (l : Launch) (Z : State) (a0 : Array Value) (hw : ∀ d ∈ tables_1, d.before a0 Z = true) (x0 : Addr) (h0 : Heap) (n0 : Nat) (Z0 : n0 ≤ h0.size) (P0 : Exa Z h0 x0 "java/lang/StringBuilder") (P2 : Fld Z h0 x0 "java/lang/AbstractStringBuilder" "count" "I" (.int 0)) :
    Ctr l Z (⟨"java/lang/StringBuilder", "length", "()I"⟩ : MethodName) jdk_67_method_93_code 1 (some .int) ({ frames := 1, cells := 0, slots := 0, locals := 12 } : Room) #[(.ref x0)] h0 (fun v h L => v = some (.int 0) ∧ Fr n0 L ∧ h = h0) := by
  refine Ctr.of (plainFor_of_name pn_c5) ?_
  intro p e s m below meth c T0 hx hZ hby hml hown hnm hret hlk e0 es X0
  refine Go.cast (ef_17_R m x0) ?_
  generalize hFF : EndN s _ _ _ = FF
  refine Go.aloadN X0 hx (pc' := 1) rfl (hb hby d17_0) rfl rfl ?_
  refine Go.callUp X0 hx hZ hown (tw_96 hw) (own_sameself (tw_88 hw) rfl (tw_92 hw) (by decide)) (tw_92 hw) (tw_97 hw) (by decide) (tw_98 hw) (tw_98 hw) (tw_65 hw) (au_36 l Z a0 hw x0 h0 n0 Z0 P2) e0 P0 (argsL := []) (rest := []) (pc' := 4) rfl (by rw [hml]; rfl) (lenOf pd_13 rfl) rfl rfl (W := 0) (Nat.le_of_eq rfl) (by decide) (by decide) (by decide) (by decide) (hb hby d17_1) ?_
  intro v1 T1 L1 q1 X1
  obtain ⟨rfl, N1, e1⟩ := q1
  show Go _ _ _ _ (T1.setTop (mkF m 4 #[.val (.ref x0)] [(.int 0)]))
  subst hFF
  refine Go.retI X1 hx hlk hret (hb hby d17_4) (by decide) (by decide) ?_
  rw [e1]
  exact ⟨rfl, (Fr.app (Fr.nil n0) N1), rfl⟩
theorem d15_10 : decode jdk_42_method_150_code 10 = .ok (.invokevirtual 549, 3) := by decide +kernel
theorem d15_13 : decode jdk_42_method_150_code 13 = .ok (.istore 4, 2) := by decide +kernel
theorem d15_15 : decode jdk_42_method_150_code 15 = .ok (.aload_n 1, 1) := by decide +kernel
theorem d19_0 : decode jdk_68_method_68_code 0 = .ok (.getstatic 18, 3) := by decide +kernel
theorem d19_3 : decode jdk_68_method_68_code 3 = .ok (.ifCond .eq 14, 3) := by decide +kernel
theorem d19_6 : decode jdk_68_method_68_code 6 = .ok (.aload_n 0, 1) := by decide +kernel
theorem d19_7 : decode jdk_68_method_68_code 7 = .ok (.getfield 22, 3) := by decide +kernel
theorem d19_10 : decode jdk_68_method_68_code 10 = .ok (.ifCond .ne 7, 3) := by decide +kernel
theorem d19_13 : decode jdk_68_method_68_code 13 = .ok (.iconst 1, 1) := by decide +kernel
theorem d19_14 : decode jdk_68_method_68_code 14 = .ok (.goto 4, 3) := by decide +kernel
theorem d19_18 : decode jdk_68_method_68_code 18 = .ok (.ireturn, 1) := by decide +kernel
theorem ef_19_R (m : MethodId) (x0 : Addr) : entryFrame m #[(.ref x0)] 1 = mkF m 0 #[.val (.ref x0)] [] := by first | (simp [entryFrame, mkF, argsToLocals, Value.category]; done) | rfl
-- java/lang/AbstractStringBuilder.isLatin1
set_option maxRecDepth 65536 in
set_option maxHeartbeats 4000000 in
theorem au_37 (l : Launch) (Z : State) (a0 : Array Value) (hw : ∀ d ∈ tables_1, d.before a0 Z = true) (x0 : Addr) (gz1 : Int32) (gv5 : Value) (h0 : Heap) (n0 : Nat) (Z0 : n0 ≤ h0.size) (O0 : Old Z n0 h0) (G : Glob Z gz1 gv5) (P1 : Fld Z h0 x0 "java/lang/AbstractStringBuilder" "coder" "B" (.int 0)) :
    Ctr l Z (⟨"java/lang/AbstractStringBuilder", "isLatin1", "()Z"⟩ : MethodName) jdk_68_method_68_code 1 (some .boolean) ({ frames := 0, cells := 0, slots := 0, locals := 0 } : Room) #[(.ref x0)] h0 (fun v h L => v = some (.int 1) ∧ Fr n0 L ∧ h = h0) := by
  refine Ctr.of (plainFor_of_name pn_c4) ?_
  intro p e s m below meth c T0 hx hZ hby hml hown hnm hret hlk e0 es X0
  have G' := G
  obtain ⟨G0, -, G2, -⟩ := G'
  refine Go.cast (ef_19_R m x0) ?_
  generalize hFF : EndN s _ _ _ = FF
  have fk1 : Sta Z h0 "java/lang/String" "COMPACT_STRINGS" "Z" (.int gz1) := G0.ext O0.2
  refine Go.getS X0 hx hZ hown (host := "") (Or.inl (tw_68 hw)) Via.refl e0 fk1 (pc' := 3) rfl (hb hby d19_0) ?_
  intro T2 e2 X2
  refine Go.ifNo X2 hx (pc' := 6) rfl (hb hby d19_3) (feq G2).1 ?_
  refine Go.aloadN X2 hx (pc' := 7) rfl (hb hby d19_6) rfl rfl ?_
  refine Go.getF X2 hx hZ hown (host := "") (Or.inl (tw_71 hw)) Via.refl e2 P1 (pc' := 10) rfl (hb hby d19_7) ?_
  intro T3 e3 X3
  refine Go.ifNo X3 hx (pc' := 13) rfl (hb hby d19_10) (by decide) ?_
  refine Go.iconst X3 hx (pc' := 14) rfl (hb hby d19_13) (v := (1 : Int32)) rfl ?_
  refine Go.goto X3 hx (pc' := 18) (hb hby d19_14) (by decide) (by decide) ?_
  subst hFF
  refine Go.retN X3 hx hlk (t := .boolean) hret (by simp) (hb hby d19_18) (by decide) (by decide) ?_
  rw [e3]
  exact ⟨(congrArg (fun z => some (Value.int z)) (by decide : nar .boolean (1 : Int32) = (1 : Int32))), (Fr.nil n0), rfl⟩
theorem pd_16 : parseMethodDescriptor "()Z" = some ⟨[], some .boolean⟩ := by decide +kernel
theorem d15_16 : decode jdk_42_method_150_code 16 = .ok (.invokevirtual 1047, 3) := by decide +kernel
theorem d15_19 : decode jdk_42_method_150_code 19 = .ok (.ifCond .eq 22, 3) := by decide +kernel
theorem d15_22 : decode jdk_42_method_150_code 22 = .ok (.aload_n 0, 1) := by decide +kernel
theorem d15_23 : decode jdk_42_method_150_code 23 = .ok (.iconst 0, 1) := by decide +kernel
theorem d15_24 : decode jdk_42_method_150_code 24 = .ok (.putfield 15, 3) := by decide +kernel
theorem d15_27 : decode jdk_42_method_150_code 27 = .ok (.aload_n 0, 1) := by decide +kernel
theorem d15_28 : decode jdk_42_method_150_code 28 = .ok (.aload_n 3, 1) := by decide +kernel
theorem d15_29 : decode jdk_42_method_150_code 29 = .ok (.iconst 0, 1) := by decide +kernel
theorem d15_30 : decode jdk_42_method_150_code 30 = .ok (.iload 4, 2) := by decide +kernel
theorem d20_0 : decode jdk_65_method_132_code 0 = .ok (.iload_n 1, 1) := by decide +kernel
theorem d20_1 : decode jdk_65_method_132_code 1 = .ok (.ifCond .ne 9, 3) := by decide +kernel
theorem d20_4 : decode jdk_65_method_132_code 4 = .ok (.iload_n 2, 1) := by decide +kernel
theorem d20_5 : decode jdk_65_method_132_code 5 = .ok (.aload_n 0, 1) := by decide +kernel
theorem d20_6 : decode jdk_65_method_132_code 6 = .ok (.arraylength, 1) := by decide +kernel
theorem d20_7 : decode jdk_65_method_132_code 7 = .ok (.if_icmp .eq 10, 3) := by decide +kernel
theorem d20_17 : decode jdk_65_method_132_code 17 = .ok (.aload_n 0, 1) := by decide +kernel
theorem d20_18 : decode jdk_65_method_132_code 18 = .ok (.invokevirtual 310, 3) := by decide +kernel
theorem d20_21 : decode jdk_65_method_132_code 21 = .ok (.checkcast 311, 3) := by decide +kernel
theorem d20_24 : decode jdk_65_method_132_code 24 = .ok (.areturn, 1) := by decide +kernel
theorem ef_20_RII (m : MethodId) (x0 : Addr) (x1 : Int32) (x2 : Int32) : entryFrame m #[(.ref x0), (.int x1), (.int x2)] 3 = mkF m 0 #[.val (.ref x0), .val (.int x1), .val (.int x2)] [] := by first | (simp [entryFrame, mkF, argsToLocals, Value.category]; done) | rfl
theorem pn_c6 : plainName "java/util/Arrays" = true := by first | (simp [plainName, overriddenIn]; done) | decide +kernel
-- java/util/Arrays.copyOfRange
set_option maxRecDepth 65536 in
set_option maxHeartbeats 4000000 in
theorem au_38 (l : Launch) (Z : State) (a0 : Array Value) (hw : ∀ d ∈ tables_1, d.before a0 Z = true) (x0 : Addr) (kk0 : ClassId) (h0 : Heap) (n0 : Nat) (Z0 : n0 ≤ h0.size) (P0 : Arv Z h0 x0 kk0 .byte (0 : Int32) [] (.int 0)) (P1 : Exa Z h0 x0 "[B") :
    Ctr l Z (⟨"java/util/Arrays", "copyOfRange", "([BII)[B"⟩ : MethodName) jdk_65_method_132_code 3 (some (.array .byte)) ({ frames := 1, cells := 1, slots := 0, locals := 14 } : Room) #[(.ref x0), (.int 0), (.int 0)] h0 (fun v h L => ∃ (y0 : Addr), v = some (.ref y0) ∧ Fr n0 L ∧ Keep h0 h [] ∧ h0.size ≤ y0 ∧ Arv Z h y0 kk0 .byte (0 : Int32) [] (.int 0) ∧ Exa Z h y0 "[B") := by
  refine Ctr.of (plainFor_of_name pn_c6) ?_
  intro p e s m below meth c T0 hx hZ hby hml hown hnm hret hlk e0 es X0
  refine Go.cast (ef_20_RII m x0 (0 : Int32) (0 : Int32)) ?_
  generalize hFF : EndN s _ _ _ = FF
  refine Go.iloadN X0 hx (pc' := 1) rfl (hb hby d20_0) rfl ?_
  refine Go.ifNo X0 hx (pc' := 4) rfl (hb hby d20_1) (by decide) ?_
  refine Go.iloadN X0 hx (pc' := 5) rfl (hb hby d20_4) rfl ?_
  refine Go.aloadN X0 hx (pc' := 6) rfl (hb hby d20_5) rfl rfl ?_
  refine Go.arraylength X0 hx hZ e0 P0 (pc' := 7) rfl (hb hby d20_6) ?_
  refine Go.icmpYes X0 hx (pc' := 17) (hb hby d20_7) (by decide) (by decide) (by decide) ?_
  refine Go.aloadN X0 hx (pc' := 18) rfl (hb hby d20_17) rfl rfl ?_
  refine Go.clone X0 hx hZ hown (tw_110 hw) (tw_111 hw) (tw_115 hw) (tw_113 hw) (tw_114 hw) (tw_116 hw) e0 P0 P1 (W := 0) (cap := 0) (by decide) (by rw [hml]; rfl) (Nat.le_of_eq rfl) (by decide) (by decide) (by decide) (by decide) (pc' := 21) rfl (hb hby d20_18) ?_
  intro T1 h1 b1 e1 E1 g1 V1 A1 X1
  refine Go.castY X1 hx hZ hown (tw_117 hw) e1 (Ins.self A1) (pc' := 24) rfl (hb hby d20_21) ?_
  intro T2 e2 X2
  subst hFF
  refine Go.retR X2 hx hlk (t := (.array .byte)) hret rfl rfl (hb hby d20_24) (by decide) (by decide) ?_
  rw [e2]
  have Kp3 : Keep h0 h1 [] := ((Keep.refl h0 []).ext E1)
  have sz4 : h0.size ≤ b1 := Nat.le_trans (Keep.refl h0 []).1 (Nat.le_of_eq g1.symm)
  exact ⟨b1, rfl, (Fr.nil n0), Kp3, sz4, V1, A1⟩
theorem pd_17 : parseMethodDescriptor "([BII)[B" = some ⟨[(.array .byte), .int, .int], some (.array .byte)⟩ := by decide +kernel
theorem d15_32 : decode jdk_42_method_150_code 32 = .ok (.invokestatic 54, 3) := by decide +kernel
theorem d15_35 : decode jdk_42_method_150_code 35 = .ok (.putfield 9, 3) := by decide +kernel
theorem d15_38 : decode jdk_42_method_150_code 38 = .ok (.goto 59, 3) := by decide +kernel
theorem d15_97 : decode jdk_42_method_150_code 97 = .ok (.return_, 1) := by decide +kernel
theorem ef_15_RRN (m : MethodId) (x0 : Addr) (x1 : Addr)  : entryFrame m #[(.ref x0), (.ref x1), .null] 5 = mkF m 0 #[.val (.ref x0), .val (.ref x1), .val .null, .unset, .unset] [] := by first | (simp [entryFrame, mkF, argsToLocals, Value.category]; done) | rfl
-- java/lang/String.init
set_option maxRecDepth 65536 in
set_option maxHeartbeats 4000000 in
theorem au_33 (l : Launch) (Z : State) (a0 : Array Value) (hw : ∀ d ∈ tables_1, d.before a0 Z = true) (x0 : Addr) (x1 : Addr) (x2 : Addr) (kk0 : ClassId) (gz1 : Int32) (gv5 : Value) (h0 : Heap) (n0 : Nat) (Z0 : n0 ≤ h0.size) (O0 : Old Z n0 h0) (G : Glob Z gz1 gv5) (P0 : Exa Z h0 x0 "java/lang/String") (P1 : Fld Z h0 x0 "java/lang/String" "coder" "B" (.int 0)) (P2 : Fld Z h0 x0 "java/lang/String" "value" "[B" .null) (P3 : Exa Z h0 x1 "java/lang/StringBuilder") (P4 : Fld Z h0 x1 "java/lang/AbstractStringBuilder" "coder" "B" (.int 0)) (P5 : Fld Z h0 x1 "java/lang/AbstractStringBuilder" "count" "I" (.int 0)) (P6 : Fld Z h0 x1 "java/lang/AbstractStringBuilder" "value" "[B" (.ref x2)) (P7 : Arv Z h0 x2 kk0 .byte (0 : Int32) [] (.int 0)) (P8 : Exa Z h0 x2 "[B") (g_x0 : n0 ≤ x0) (ne_x2_x0 : x2 ≠ x0) :
    Ctr l Z (⟨"java/lang/String", "<init>", "(Ljava/lang/AbstractStringBuilder;Ljava/lang/Void;)V"⟩ : MethodName) jdk_42_method_150_code 5 none ({ frames := 2, cells := 1, slots := 0, locals := 29 } : Room) #[(.ref x0), (.ref x1), .null] h0 (fun v h L => ∃ (y0 : Addr), v = none ∧ Fr n0 L ∧ Keep h0 h [x0] ∧ h0.size ≤ y0 ∧ Exa Z h x0 "java/lang/String" ∧ Fld Z h x0 "java/lang/String" "coder" "B" (.int 0) ∧ Fld Z h x0 "java/lang/String" "value" "[B" (.ref y0) ∧ Arv Z h y0 kk0 .byte (0 : Int32) [] (.int 0) ∧ Exa Z h y0 "[B") := by
  refine Ctr.of (plainFor_of_name pn_c1) ?_
  intro p e s m below meth c T0 hx hZ hby hml hown hnm hret hlk e0 es X0
  refine Go.cast (ef_15_RRN m x0 x1) ?_
  generalize hFF : EndN s _ _ _ = FF
  refine Go.aloadN X0 hx (pc' := 1) rfl (hb hby d15_0) rfl rfl ?_
  refine Go.initO X0 hx hZ hown (tw_21 hw) (tw_22 hw) (tw_23 hw) e0 (by decide) (W := 0) (by rw [hml]; rfl) (Nat.le_of_eq rfl) (by decide) (pc' := 4) rfl (hb hby d15_1) ?_
  intro T1 e1 X1
  refine Go.aloadN X1 hx (pc' := 5) rfl (hb hby d15_4) rfl rfl ?_
  refine Go.callV X1 hx hZ hown (tw_85 hw) (tw_86 hw) (notFace_of_selects (args := #[]) (mvT hZ (tw_88 hw))) (tw_88 hw) (tw_87 hw) (by decide) (tw_89 hw) (tw_65 hw) (au_34 l Z a0 hw x1 x2 h0 n0 Z0 P6) e1 P3 (argsL := []) (rest := []) (pc' := 8) rfl (by rw [hml]; rfl) (lenOf pd_15 rfl) rfl rfl (W := 0) (Nat.le_of_eq rfl) (by decide) (by decide) (by decide) (by decide) (hb hby d15_5) ?_
  intro v2 T2 L2 q2 X2
  obtain ⟨rfl, N2, e2⟩ := q2
  show Go _ _ _ _ (T2.setTop (mkF m 8 #[.val (.ref x0), .val (.ref x1), .val .null, .unset, .unset] [(.ref x2)]))
  refine Go.astoreN X2 hx (pc' := 9) rfl (hb hby d15_8) (Ls' := #[.val (.ref x0), .val (.ref x1), .val .null, .val (.ref x2), .unset]) rfl rfl ?_
  refine Go.aloadN X2 hx (pc' := 10) rfl (hb hby d15_9) rfl rfl ?_
  refine Go.callV X2 hx hZ hown (tw_90 hw) (tw_91 hw) (own_nf (args := #[]) (mvT hZ (tw_88 hw)) rfl) (tw_93 hw) (tw_94 hw) (by decide) (tw_95 hw) (tw_46 hw) (au_35 l Z a0 hw x1 h0 n0 Z0 P3 P5) e2 P3 (argsL := []) (rest := []) (pc' := 13) rfl (by rw [hml]; rfl) (lenOf pd_13 rfl) rfl rfl (W := 0) (Nat.le_of_eq rfl) (by decide) (by decide) (by decide) (by decide) (hb hby d15_10) ?_
  intro v3 T3 L3 q3 X3
  obtain ⟨rfl, N3, e3⟩ := q3
  show Go _ _ _ _ (T3.setTop (mkF m 13 #[.val (.ref x0), .val (.ref x1), .val .null, .val (.ref x2), .unset] [(.int 0)]))
  refine Go.istore X3 hx (pc' := 15) rfl (hb hby d15_13) (Ls' := #[.val (.ref x0), .val (.ref x1), .val .null, .val (.ref x2), .val (.int 0)]) rfl ?_
  refine Go.aloadN X3 hx (pc' := 16) rfl (hb hby d15_15) rfl rfl ?_
  refine Go.callV X3 hx hZ hown (tw_101 hw) (tw_102 hw) (notFace_of_selects (args := #[]) (mvT hZ (tw_104 hw))) (tw_104 hw) (tw_103 hw) (by decide) (tw_105 hw) (tw_65 hw) (au_37 l Z a0 hw x1 gz1 gv5 h0 n0 Z0 O0 G P4) e3 P3 (argsL := []) (rest := []) (pc' := 19) rfl (by rw [hml]; rfl) (lenOf pd_16 rfl) rfl rfl (W := 0) (Nat.le_of_eq rfl) (by decide) (by decide) (by decide) (by decide) (hb hby d15_16) ?_
  intro v4 T4 L4 q4 X4
  obtain ⟨rfl, N4, e4⟩ := q4
  show Go _ _ _ _ (T4.setTop (mkF m 19 #[.val (.ref x0), .val (.ref x1), .val .null, .val (.ref x2), .val (.int 0)] [(.int 1)]))
  refine Go.ifNo X4 hx (pc' := 22) rfl (hb hby d15_19) (by decide) ?_
  refine Go.aloadN X4 hx (pc' := 23) rfl (hb hby d15_22) rfl rfl ?_
  refine Go.iconst X4 hx (pc' := 24) rfl (hb hby d15_23) (v := (0 : Int32)) rfl ?_
  refine Go.putFN X4 hx hZ hown (tw_31 hw) Via.refl e4 P1 P0 (Or.inr ⟨(tw_27 hw), rfl, hnm⟩) (tw_11 hw) (ty := .byte) (v' := (.int 0)) (by decide) (by decide) (by decide) (pc' := 27) rfl (hb hby d15_24) ?_
  intro T5 h5 e5 W5 F5 X5
  have N5 := Fr.snoc X5 (Fr.app (Fr.app (Fr.app (Fr.nil n0) N2) N3) N4) g_x0
  refine Go.aloadN X5 hx (pc' := 28) rfl (hb hby d15_27) rfl rfl ?_
  refine Go.aloadN X5 hx (pc' := 29) rfl (hb hby d15_28) rfl rfl ?_
  refine Go.iconst X5 hx (pc' := 30) rfl (hb hby d15_29) (v := (0 : Int32)) rfl ?_
  refine Go.iload X5 hx (pc' := 32) rfl (hb hby d15_30) rfl ?_
  have Kp7 : Keep h0 h5 [x0] := ((Keep.refl h0 [x0]).wr W5 (Or.inl (List.mem_of_getElem? (i := 0) rfl)))
  have Zn6 : n0 ≤ h5.size := Nat.le_trans Z0 Kp7.1
  have fk8 := (P7.other W5 ne_x2_x0)
  have fk9 : Exa Z h5 x2 "[B" := (P8.wr W5)
  refine Go.callS X5 hx hZ hown (tw_106 hw) (tw_107 hw) (tw_108 hw) (tw_109 hw) (by decide) (tw_109 hw) (tw_108 hw) (au_38 l Z a0 hw x2 kk0 h5 n0 Zn6 fk8 fk9) e5 (argsL := [(.ref x2), (.int 0), (.int 0)]) (rest := [(.ref x0)]) (pc' := 35) rfl (by rw [hml]; rfl) (lenOf pd_17 rfl) rfl rfl (W := 1) (Nat.le_of_eq rfl) (by decide) (by decide) (by decide) (by decide) (hb hby d15_32) ?_
  intro v10 T10 L10 q10 X10
  obtain ⟨h10, e10⟩ : ∃ z, T10.heap = z := ⟨_, rfl⟩
  rw [e10] at q10
  obtain ⟨b10_0, rfl, N10, K10, s10_0, F10_0, F10_1⟩ := q10
  show Go _ _ _ _ (T10.setTop (mkF m 35 #[.val (.ref x0), .val (.ref x1), .val .null, .val (.ref x2), .val (.int 0)] [(.ref b10_0), (.ref x0)]))
  have fk11 : Fld Z h10 x0 "java/lang/String" "value" "[B" .null := ((P2.other W5 (Or.inr (slot_ne (Or.inr (tw_26 hw)) (Or.inr (tw_27 hw)) (by decide) (t := (.array .byte)) (t' := .byte) (by decide) (by decide)))).keep K10 nin0)
  have fk12 : Exa Z h10 x0 "java/lang/String" := ((P0.wr W5).keep K10)
  refine Go.putF X10 hx hZ hown (host := "") (Or.inl (tw_30 hw)) Via.refl e10 fk11 fk12 (Or.inr ⟨(tw_26 hw), rfl, hnm⟩) (tw_11 hw) (ty := (.array .byte)) (by decide) rfl rfl (pc' := 38) rfl (hb hby d15_35) ?_
  intro T13 h13 e13 W13 F13 X13
  have N13 := Fr.snoc X13 (Fr.app N5 N10) g_x0
  refine Go.goto X13 hx (pc' := 97) (hb hby d15_38) (by decide) (by decide) ?_
  subst hFF
  refine Go.ret0 X13 hx hlk hret (hb hby d15_97) (by decide) (by decide) ?_
  rw [e13]
  have fk14 : Exa Z h13 x0 "java/lang/String" := (fk12.wr W13)
  have fk15 : Fld Z h13 x0 "java/lang/String" "coder" "B" (.int 0) := ((F5.keep K10 nin0).other W13 (Or.inr (slot_ne (Or.inr (tw_27 hw)) (Or.inr (tw_26 hw)) (by decide) (t := .byte) (t' := (.array .byte)) (by decide) (by decide))))
  have fk17 : Exa Z h5 x0 "java/lang/String" := (P0.wr W5)
  have ne16 : x0 ≠ b10_0 := Nat.ne_of_lt (Nat.lt_of_lt_of_le fk17.lt s10_0)
  have fk18 := (F10_0.other W13 (Ne.symm ne16))
  have fk19 : Exa Z h13 b10_0 "[B" := (F10_1.wr W13)
  have Kp20 : Keep h0 h10 [x0] := (Kp7.trans K10 all0)
  have Kp21 : Keep h0 h13 [x0] := (Kp20.wr W13 (Or.inl (List.mem_of_getElem? (i := 0) rfl)))
  have sz22 : h0.size ≤ b10_0 := Nat.le_trans Kp7.1 s10_0
  exact ⟨b10_0, rfl, N13, Kp21, sz22, fk14, fk15, F13, fk18, fk19⟩
theorem pd_18 : parseMethodDescriptor "(Ljava/lang/AbstractStringBuilder;Ljava/lang/Void;)V" = some ⟨[(.object "java/lang/AbstractStringBuilder"), (.object "java/lang/Void")], none⟩ := by decide +kernel
theorem d14_3 : decode jdk_42_method_53_code 3 = .ok (.invokespecial 489, 3) := by decide +kernel
theorem d14_6 : decode jdk_42_method_53_code 6 = .ok (.return_, 1) := by decide +kernel
theorem ef_14_RR (m : MethodId) (x0 : Addr) (x1 : Addr) : entryFrame m #[(.ref x0), (.ref x1)] 2 = mkF m 0 #[.val (.ref x0), .val (.ref x1)] [] := by first | (simp [entryFrame, mkF, argsToLocals, Value.category]; done) | rfl
-- java/lang/String.init
set_option maxRecDepth 65536 in
set_option maxHeartbeats 4000000 in
theorem au_32 (l : Launch) (Z : State) (a0 : Array Value) (hw : ∀ d ∈ tables_1, d.before a0 Z = true) (x0 : Addr) (x1 : Addr) (x2 : Addr) (kk0 : ClassId) (gz1 : Int32) (gv5 : Value) (h0 : Heap) (n0 : Nat) (Z0 : n0 ≤ h0.size) (O0 : Old Z n0 h0) (G : Glob Z gz1 gv5) (P0 : Exa Z h0 x0 "java/lang/String") (P1 : Fld Z h0 x0 "java/lang/String" "coder" "B" (.int 0)) (P2 : Fld Z h0 x0 "java/lang/String" "value" "[B" .null) (P3 : Exa Z h0 x1 "java/lang/StringBuilder") (P4 : Fld Z h0 x1 "java/lang/AbstractStringBuilder" "coder" "B" (.int 0)) (P5 : Fld Z h0 x1 "java/lang/AbstractStringBuilder" "count" "I" (.int 0)) (P6 : Fld Z h0 x1 "java/lang/AbstractStringBuilder" "value" "[B" (.ref x2)) (P7 : Arv Z h0 x2 kk0 .byte (0 : Int32) [] (.int 0)) (P8 : Exa Z h0 x2 "[B") (g_x0 : n0 ≤ x0) (ne_x2_x0 : x2 ≠ x0) :
    Ctr l Z (⟨"java/lang/String", "<init>", "(Ljava/lang/StringBuilder;)V"⟩ : MethodName) jdk_42_method_53_code 2 none ({ frames := 3, cells := 1, slots := 0, locals := 45 } : Room) #[(.ref x0), (.ref x1)] h0 (fun v h L => ∃ (y0 : Addr), v = none ∧ Fr n0 L ∧ Keep h0 h [x0] ∧ h0.size ≤ y0 ∧ Exa Z h x0 "java/lang/String" ∧ Fld Z h x0 "java/lang/String" "coder" "B" (.int 0) ∧ Fld Z h x0 "java/lang/String" "value" "[B" (.ref y0) ∧ Arv Z h y0 kk0 .byte (0 : Int32) [] (.int 0) ∧ Exa Z h y0 "[B") := by
  refine Ctr.of (plainFor_of_name pn_c1) ?_
  intro p e s m below meth c T0 hx hZ hby hml hown hnm hret hlk e0 es X0
  refine Go.cast (ef_14_RR m x0 x1) ?_
  generalize hFF : EndN s _ _ _ = FF
  refine Go.aloadN X0 hx (pc' := 1) rfl (hb hby d14_0) rfl rfl ?_
  refine Go.aloadN X0 hx (pc' := 2) rfl (hb hby d14_1) rfl rfl ?_
  refine Go.anull X0 hx (pc' := 3) rfl (hb hby d14_2) ?_
  refine Go.callN X0 hx hZ hown rfl (tw_82 hw) (tw_83 hw) (tw_84 hw) (by decide) (tw_84 hw) (tw_12 hw) (au_33 l Z a0 hw x0 x1 x2 kk0 gz1 gv5 h0 n0 Z0 O0 G P0 P1 P2 P3 P4 P5 P6 P7 P8 g_x0 ne_x2_x0) e0 (a := x0) (argsL := [(.ref x1), .null]) (rest := []) (pc' := 6) rfl (by rw [hml]; rfl) (lenOf pd_18 rfl) rfl rfl (W := 0) (Nat.le_of_eq rfl) (by decide) (by decide) (by decide) (by decide) (hb hby d14_3) ?_
  intro v1 T1 L1 q1 X1
  obtain ⟨h1, e1⟩ : ∃ z, T1.heap = z := ⟨_, rfl⟩
  rw [e1] at q1
  obtain ⟨b1_0, rfl, N1, K1, s1_0, F1_0, F1_1, F1_2, F1_3, F1_4⟩ := q1
  show Go _ _ _ _ (T1.setTop (mkF m 6 #[.val (.ref x0), .val (.ref x1)] []))
  subst hFF
  refine Go.ret0 X1 hx hlk hret (hb hby d14_6) (by decide) (by decide) ?_
  rw [e1]
  have Kp2 : Keep h0 h1 [x0] := ((Keep.refl h0 [x0]).trans K1 (allS (Or.inl (List.mem_of_getElem? (i := 0) rfl)) all0))
  have sz3 : h0.size ≤ b1_0 := Nat.le_trans (Keep.refl h0 [x0]).1 s1_0
  exact ⟨b1_0, rfl, (Fr.app (Fr.nil n0) N1), Kp2, sz3, F1_0, F1_1, F1_2, F1_3, F1_4⟩
theorem pd_19 : parseMethodDescriptor "(Ljava/lang/StringBuilder;)V" = some ⟨[(.object "java/lang/StringBuilder")], none⟩ := by decide +kernel
theorem d13_5 : decode jdk_67_method_42_code 5 = .ok (.invokespecial 137, 3) := by decide +kernel
theorem d13_8 : decode jdk_67_method_42_code 8 = .ok (.areturn, 1) := by decide +kernel
theorem ef_13_R (m : MethodId) (x0 : Addr) : entryFrame m #[(.ref x0)] 1 = mkF m 0 #[.val (.ref x0)] [] := by first | (simp [entryFrame, mkF, argsToLocals, Value.category]; done) | rfl
-- java/lang/StringBuilder.toString
set_option maxRecDepth 65536 in
set_option maxHeartbeats 4000000 in
theorem au_31 (l : Launch) (Z : State) (a0 : Array Value) (hw : ∀ d ∈ tables_1, d.before a0 Z = true) (x0 : Addr) (x1 : Addr) (kk0 : ClassId) (gz1 : Int32) (gv5 : Value) (h0 : Heap) (n0 : Nat) (Z0 : n0 ≤ h0.size) (O0 : Old Z n0 h0) (G : Glob Z gz1 gv5) (P0 : Exa Z h0 x0 "java/lang/StringBuilder") (P1 : Fld Z h0 x0 "java/lang/AbstractStringBuilder" "coder" "B" (.int 0)) (P2 : Fld Z h0 x0 "java/lang/AbstractStringBuilder" "count" "I" (.int 0)) (P3 : Fld Z h0 x0 "java/lang/AbstractStringBuilder" "value" "[B" (.ref x1)) (P4 : Arv Z h0 x1 kk0 .byte (0 : Int32) [] (.int 0)) (P5 : Exa Z h0 x1 "[B") :
    Ctr l Z (⟨"java/lang/StringBuilder", "toString", "()Ljava/lang/String;"⟩ : MethodName) jdk_67_method_42_code 1 (some (.object "java/lang/String")) ({ frames := 4, cells := 2, slots := 4, locals := 59 } : Room) #[(.ref x0)] h0 (fun v h L => ∃ (y0 : Addr) (y1 : Addr), v = some (.ref y0) ∧ Fr n0 L ∧ Keep h0 h [] ∧ h0.size ≤ y0 ∧ h0.size ≤ y1 ∧ y1 ≠ y0 ∧ Exa Z h y0 "java/lang/String" ∧ Fld Z h y0 "java/lang/String" "coder" "B" (.int 0) ∧ Fld Z h y0 "java/lang/String" "value" "[B" (.ref y1) ∧ Arv Z h y1 kk0 .byte (0 : Int32) [] (.int 0) ∧ Exa Z h y1 "[B") := by
  refine Ctr.of (plainFor_of_name pn_c5) ?_
  intro p e s m below meth c T0 hx hZ hby hml hown hnm hret hlk e0 es X0
  refine Go.cast (ef_13_R m x0) ?_
  generalize hFF : EndN s _ _ _ = FF
  refine Go.new X0 hx hZ hown (tw_78 hw) (tw_11 hw) (tw_12 hw) e0 (by decide) (by decide) (pc' := 3) rfl (hb hby d13_0) ?_
  intro T1 h1 b1 e1 E1 g1 A1 D1 X1
  have b1_value : Fld Z h1 b1 "java/lang/String" "value" "[B" .null := D1 (Or.inr (tw_26 hw)) (ty := (.array .byte)) (by decide)
  have b1_coder : Fld Z h1 b1 "java/lang/String" "coder" "B" (.int 0) := D1 (Or.inr (tw_27 hw)) (ty := .byte) (by decide)
  refine Go.dup X1 hx (pc' := 4) rfl (hb hby d13_3) rfl ?_
  refine Go.aloadN X1 hx (pc' := 5) rfl (hb hby d13_4) rfl rfl ?_
  have Kp3 : Keep h0 h1 [] := ((Keep.refl h0 []).ext E1)
  have Zn2 : n0 ≤ h1.size := Nat.le_trans Z0 Kp3.1
  have O4 := (O0.ext E1)
  have fk5 : Exa Z h1 x0 "java/lang/StringBuilder" := (P0.ext E1)
  have fk6 : Fld Z h1 x0 "java/lang/AbstractStringBuilder" "coder" "B" (.int 0) := (P1.ext E1)
  have fk7 : Fld Z h1 x0 "java/lang/AbstractStringBuilder" "count" "I" (.int 0) := (P2.ext E1)
  have fk8 : Fld Z h1 x0 "java/lang/AbstractStringBuilder" "value" "[B" (.ref x1) := (P3.ext E1)
  have fk9 := (P4.ext E1)
  have fk10 : Exa Z h1 x1 "[B" := (P5.ext E1)
  have sz12 : h0.size ≤ b1 := Nat.le_trans (Keep.refl h0 []).1 (Nat.le_of_eq g1.symm)
  have ge11 : n0 ≤ b1 := Nat.le_trans Z0 sz12
  have ne13 : x1 ≠ b1 := Nat.ne_of_lt (Nat.lt_of_lt_of_le P4.lt (Nat.le_of_eq g1.symm))
  refine Go.callN X1 hx hZ hown rfl (tw_79 hw) (tw_80 hw) (tw_81 hw) (by decide) (tw_81 hw) (tw_12 hw) (au_32 l Z a0 hw b1 x0 x1 kk0 gz1 gv5 h1 n0 Zn2 O4 G A1 b1_coder b1_value fk5 fk6 fk7 fk8 fk9 fk10 ge11 ne13) e1 (a := b1) (argsL := [(.ref x0)]) (rest := [(.ref b1)]) (pc' := 8) rfl (by rw [hml]; rfl) (lenOf pd_19 rfl) rfl rfl (W := 1) (Nat.le_of_eq rfl) (by decide) (by decide) (by decide) (by decide) (hb hby d13_5) ?_
  intro v14 T14 L14 q14 X14
  obtain ⟨h14, e14⟩ : ∃ z, T14.heap = z := ⟨_, rfl⟩
  rw [e14] at q14
  obtain ⟨b14_0, rfl, N14, K14, s14_0, F14_0, F14_1, F14_2, F14_3, F14_4⟩ := q14
  show Go _ _ _ _ (T14.setTop (mkF m 8 #[.val (.ref x0)] [(.ref b1)]))
  subst hFF
  refine Go.retR X14 hx hlk (t := (.object "java/lang/String")) hret rfl rfl (hb hby d13_8) (by decide) (by decide) ?_
  rw [e14]
  have Kp15 : Keep h0 h14 [] := (Kp3.trans K14 (allS (Or.inr sz12) all0))
  have sz16 : h0.size ≤ b14_0 := Nat.le_trans Kp3.1 s14_0
  have ne17 : b1 ≠ b14_0 := Nat.ne_of_lt (Nat.lt_of_lt_of_le A1.lt s14_0)
  exact ⟨b1, b14_0, rfl, (Fr.app (Fr.nil n0) N14), Kp15, sz12, sz16, (Ne.symm ne17), F14_0, F14_1, F14_2, F14_3, F14_4⟩
theorem pd_20 : parseMethodDescriptor "()Ljava/lang/String;" = some ⟨[], some (.object "java/lang/String")⟩ := by decide +kernel
theorem d8_64 : decode prog_48_method_11_code 64 = .ok (.invokevirtual 132, 3) := by decide +kernel
theorem d8_67 : decode prog_48_method_11_code 67 = .ok (.areturn, 1) := by decide +kernel
-- java/lang/String.coder
set_option maxRecDepth 65536 in
set_option maxHeartbeats 4000000 in
theorem au_40 (l : Launch) (Z : State) (a0 : Array Value) (hw : ∀ d ∈ tables_1, d.before a0 Z = true) (x0 : Addr) (gz1 : Int32) (gv5 : Value) (h0 : Heap) (n0 : Nat) (Z0 : n0 ≤ h0.size) (O0 : Old Z n0 h0) (G : Glob Z gz1 gv5) (P1 : Fld Z h0 x0 "java/lang/String" "coder" "B" (.int 0)) :
    Ctr l Z (⟨"java/lang/String", "coder", "()B"⟩ : MethodName) jdk_42_method_152_code 1 (some .byte) ({ frames := 0, cells := 0, slots := 0, locals := 0 } : Room) #[(.ref x0)] h0 (fun v h L => v = some (.int 0) ∧ Fr n0 L ∧ h = h0) := by
  refine Ctr.of (plainFor_of_name pn_c1) ?_
  intro p e s m below meth c T0 hx hZ hby hml hown hnm hret hlk e0 es X0
  have G' := G
  obtain ⟨G0, -, G2, -⟩ := G'
  refine Go.cast (ef_10_R m x0) ?_
  generalize hFF : EndN s _ _ _ = FF
  have fk1 : Sta Z h0 "java/lang/String" "COMPACT_STRINGS" "Z" (.int gz1) := G0.ext O0.2
  refine Go.getS X0 hx hZ hown (host := "") (Or.inl (tw_57 hw)) Via.refl e0 fk1 (pc' := 3) rfl (hb hby d10_0) ?_
  intro T2 e2 X2
  refine Go.ifNo X2 hx (pc' := 6) rfl (hb hby d10_3) (feq G2).1 ?_
  refine Go.aloadN X2 hx (pc' := 7) rfl (hb hby d10_6) rfl rfl ?_
  refine Go.getF X2 hx hZ hown (host := "") (Or.inl (tw_31 hw)) Via.refl e2 P1 (pc' := 10) rfl (hb hby d10_7) ?_
  intro T3 e3 X3
  refine Go.goto X3 hx (pc' := 14) (hb hby d10_10) (by decide) (by decide) ?_
  subst hFF
  refine Go.retN X3 hx hlk (t := .byte) hret (by simp) (hb hby d10_14) (by decide) (by decide) ?_
  rw [e3]
  exact ⟨(congrArg (fun z => some (Value.int z)) (by decide : nar .byte (0 : Int32) = (0 : Int32))), (Fr.nil n0), rfl⟩
-- java/lang/String.length
set_option maxRecDepth 65536 in
set_option maxHeartbeats 4000000 in
theorem au_39 (l : Launch) (Z : State) (a0 : Array Value) (hw : ∀ d ∈ tables_1, d.before a0 Z = true) (x0 : Addr) (x1 : Addr) (kk0 : ClassId) (p0 : Int32) (gz1 : Int32) (gv5 : Value) (h0 : Heap) (n0 : Nat) (Z0 : n0 ≤ h0.size) (O0 : Old Z n0 h0) (G : Glob Z gz1 gv5) (P0 : Exa Z h0 x0 "java/lang/String") (P1 : Fld Z h0 x0 "java/lang/String" "coder" "B" (.int 0)) (P2 : Fld Z h0 x0 "java/lang/String" "value" "[B" (.ref x1)) (P3 : Arv Z h0 x1 kk0 .byte (1 : Int32) [(.int p0)] (.int 0)) :
    Ctr l Z (⟨"java/lang/String", "length", "()I"⟩ : MethodName) jdk_42_method_54_code 1 (some .int) ({ frames := 1, cells := 0, slots := 0, locals := 13 } : Room) #[(.ref x0)] h0 (fun v h L => v = some (.int 1) ∧ Fr n0 L ∧ h = h0) := by
  refine Ctr.of (plainFor_of_name pn_c1) ?_
  intro p e s m below meth c T0 hx hZ hby hml hown hnm hret hlk e0 es X0
  refine Go.cast (ef_9_R m x0) ?_
  generalize hFF : EndN s _ _ _ = FF
  refine Go.aloadN X0 hx (pc' := 1) rfl (hb hby d9_0) rfl rfl ?_
  refine Go.getF X0 hx hZ hown (host := "") (Or.inl (tw_30 hw)) Via.refl e0 P2 (pc' := 4) rfl (hb hby d9_1) ?_
  intro T1 e1 X1
  refine Go.arraylength X1 hx hZ e1 P3 (pc' := 5) rfl (hb hby d9_4) ?_
  refine Go.aloadN X1 hx (pc' := 6) rfl (hb hby d9_5) rfl rfl ?_
  refine Go.callV X1 hx hZ hown (tw_52 hw) (tw_53 hw) (notFace_of_selects (args := #[]) (mvT hZ (tw_55 hw))) (tw_55 hw) (tw_54 hw) (by decide) (tw_56 hw) (tw_12 hw) (au_40 l Z a0 hw x0 gz1 gv5 h0 n0 Z0 O0 G P1) e1 P0 (argsL := []) (rest := [(.int 1)]) (pc' := 9) rfl (by rw [hml]; rfl) (lenOf pd_12 rfl) rfl rfl (W := 1) (Nat.le_of_eq rfl) (by decide) (by decide) (by decide) (by decide) (hb hby d9_6) ?_
  intro v2 T2 L2 q2 X2
  obtain ⟨rfl, N2, e2⟩ := q2
  show Go _ _ _ _ (T2.setTop (mkF m 9 #[.val (.ref x0)] [(.int 0), (.int 1)]))
  refine Go.ishr X2 hx (pc' := 10) rfl (hb hby d9_9) ?_
  rw [show ((1 : Int32) >>> ((0 : Int32) &&& 31)) = (1 : Int32) from by decide]
  subst hFF
  refine Go.retI X2 hx hlk hret (hb hby d9_10) (by decide) (by decide) ?_
  rw [e2]
  exact ⟨rfl, (Fr.app (Fr.nil n0) N2), rfl⟩
-- java/lang/AbstractStringBuilder.init
set_option maxRecDepth 65536 in
set_option maxHeartbeats 4000000 in
theorem au_42 (l : Launch) (Z : State) (a0 : Array Value) (hw : ∀ d ∈ tables_1, d.before a0 Z = true) (x0 : Addr) (gz1 : Int32) (gv5 : Value) (h0 : Heap) (n0 : Nat) (Z0 : n0 ≤ h0.size) (O0 : Old Z n0 h0) (G : Glob Z gz1 gv5) (P0 : Exa Z h0 x0 "java/lang/StringBuilder") (P1 : Fld Z h0 x0 "java/lang/AbstractStringBuilder" "coder" "B" (.int 0)) (P2 : Fld Z h0 x0 "java/lang/AbstractStringBuilder" "count" "I" (.int 0)) (P3 : Fld Z h0 x0 "java/lang/AbstractStringBuilder" "value" "[B" .null) (g_x0 : n0 ≤ x0) :
    Ctr l Z (⟨"java/lang/AbstractStringBuilder", "<init>", "(I)V"⟩ : MethodName) jdk_68_method_2_code 2 none ({ frames := 1, cells := 1, slots := 1, locals := 12 } : Room) #[(.ref x0), (.int 1)] h0 (fun v h L => ∃ (y0 : Addr) (y1 : ClassId), v = none ∧ Fr n0 L ∧ Keep h0 h [x0] ∧ h0.size ≤ y0 ∧ Exa Z h x0 "java/lang/StringBuilder" ∧ Fld Z h x0 "java/lang/AbstractStringBuilder" "coder" "B" (.int 0) ∧ Fld Z h x0 "java/lang/AbstractStringBuilder" "count" "I" (.int 0) ∧ Fld Z h x0 "java/lang/AbstractStringBuilder" "value" "[B" (.ref y0) ∧ Arv Z h y0 y1 .byte (1 : Int32) [(.int 0)] (.int 0) ∧ Exa Z h y0 "[B") := by
  refine Ctr.of (plainFor_of_name pn_c4) ?_
  intro p e s m below meth c T0 hx hZ hby hml hown hnm hret hlk e0 es X0
  have G' := G
  obtain ⟨G0, -, G2, -⟩ := G'
  refine Go.cast (ef_12_RI m x0 (1 : Int32)) ?_
  generalize hFF : EndN s _ _ _ = FF
  refine Go.aloadN X0 hx (pc' := 1) rfl (hb hby d12_0) rfl rfl ?_
  refine Go.initO X0 hx hZ hown (tw_67 hw) (tw_22 hw) (tw_23 hw) e0 (by decide) (W := 0) (by rw [hml]; rfl) (Nat.le_of_eq rfl) (by decide) (pc' := 4) rfl (hb hby d12_1) ?_
  intro T1 e1 X1
  have fk2 : Sta Z h0 "java/lang/String" "COMPACT_STRINGS" "Z" (.int gz1) := G0.ext O0.2
  refine Go.getS X1 hx hZ hown (host := "") (Or.inl (tw_68 hw)) Via.refl e1 fk2 (pc' := 7) rfl (hb hby d12_4) ?_
  intro T3 e3 X3
  refine Go.ifNo X3 hx (pc' := 10) rfl (hb hby d12_7) (feq G2).1 ?_
  refine Go.aloadN X3 hx (pc' := 11) rfl (hb hby d12_10) rfl rfl ?_
  refine Go.iloadN X3 hx (pc' := 12) rfl (hb hby d12_11) rfl ?_
  refine Go.newarray X3 hx hZ (ty := .byte) rfl (tw_25 hw) e3 (by decide) (cap := 1) (by decide) (by decide) (by decide) (by decide) (ad := "[B") (by decide) 1 (pc' := 14) rfl (hb hby d12_12) ?_
  intro T4 h4 b4 k4 e4 E4 g4 V4 A4 X4
  have V4' : Arv Z h4 b4 k4 .byte (1 : Int32) [(.int 0)] (.int 0) := V4
  have fk5 : Fld Z h4 x0 "java/lang/AbstractStringBuilder" "value" "[B" .null := (P3.ext E4)
  have fk6 : Exa Z h4 x0 "java/lang/StringBuilder" := (P0.ext E4)
  refine Go.putF X4 hx hZ hown (host := "") (Or.inl (tw_69 hw)) Via.refl e4 fk5 fk6 (Or.inl (tw_70 hw)) (tw_45 hw) (ty := (.array .byte)) (by decide) rfl rfl (pc' := 17) rfl (hb hby d12_14) ?_
  intro T7 h7 e7 W7 F7 X7
  have N7 := Fr.snoc X7 (Fr.nil n0) g_x0
  refine Go.aloadN X7 hx (pc' := 18) rfl (hb hby d12_17) rfl rfl ?_
  refine Go.iconst X7 hx (pc' := 19) rfl (hb hby d12_18) (v := (0 : Int32)) rfl ?_
  have fk8 : Fld Z h7 x0 "java/lang/AbstractStringBuilder" "coder" "B" (.int 0) := ((P1.ext E4).other W7 (Or.inr (slot_ne (Or.inl (tw_72 hw)) (Or.inl (tw_70 hw)) (by decide) (t := .byte) (t' := (.array .byte)) (by decide) (by decide))))
  have fk9 : Exa Z h7 x0 "java/lang/StringBuilder" := (fk6.wr W7)
  refine Go.putFN X7 hx hZ hown (tw_71 hw) Via.refl e7 fk8 fk9 (Or.inl (tw_72 hw)) (tw_45 hw) (ty := .byte) (v' := (.int 0)) (by decide) (by decide) (by decide) (pc' := 22) rfl (hb hby d12_19) ?_
  intro T10 h10 e10 W10 F10 X10
  have N10 := Fr.snoc X10 N7 g_x0
  refine Go.goto X10 hx (pc' := 38) (hb hby d12_22) (by decide) (by decide) ?_
  subst hFF
  refine Go.ret0 X10 hx hlk hret (hb hby d12_38) (by decide) (by decide) ?_
  rw [e10]
  have fk11 : Exa Z h10 x0 "java/lang/StringBuilder" := (fk9.wr W10)
  have fk12 : Fld Z h10 x0 "java/lang/AbstractStringBuilder" "count" "I" (.int 0) := (((P2.ext E4).other W7 (Or.inr (slot_ne (Or.inl (tw_100 hw)) (Or.inl (tw_70 hw)) (by decide) (t := .int) (t' := (.array .byte)) (by decide) (by decide)))).other W10 (Or.inr (slot_ne (Or.inl (tw_100 hw)) (Or.inl (tw_72 hw)) (by decide) (t := .int) (t' := .byte) (by decide) (by decide))))
  have fk13 : Fld Z h10 x0 "java/lang/AbstractStringBuilder" "value" "[B" (.ref b4) := (F7.other W10 (Or.inr (slot_ne (Or.inl (tw_70 hw)) (Or.inl (tw_72 hw)) (by decide) (t := (.array .byte)) (t' := .byte) (by decide) (by decide))))
  have ne14 : x0 ≠ b4 := Nat.ne_of_lt (Nat.lt_of_lt_of_le P0.lt (Nat.le_of_eq g4.symm))
  have fk15 := ((V4'.other W7 (Ne.symm ne14)).other W10 (Ne.symm ne14))
  have fk16 : Exa Z h10 b4 "[B" := ((A4.wr W7).wr W10)
  have Kp17 : Keep h0 h4 [x0] := ((Keep.refl h0 [x0]).ext E4)
  have Kp18 : Keep h0 h7 [x0] := (Kp17.wr W7 (Or.inl (List.mem_of_getElem? (i := 0) rfl)))
  have Kp19 : Keep h0 h10 [x0] := (Kp18.wr W10 (Or.inl (List.mem_of_getElem? (i := 0) rfl)))
  have sz20 : h0.size ≤ b4 := Nat.le_trans (Keep.refl h0 [x0]).1 (Nat.le_of_eq g4.symm)
  exact ⟨b4, k4, rfl, N10, Kp19, sz20, fk11, F10, fk12, fk13, fk15, fk16⟩
-- java/lang/StringBuilder.init
set_option maxRecDepth 65536 in
set_option maxHeartbeats 4000000 in
theorem au_41 (l : Launch) (Z : State) (a0 : Array Value) (hw : ∀ d ∈ tables_1, d.before a0 Z = true) (x0 : Addr) (gz1 : Int32) (gv5 : Value) (h0 : Heap) (n0 : Nat) (Z0 : n0 ≤ h0.size) (O0 : Old Z n0 h0) (G : Glob Z gz1 gv5) (P0 : Exa Z h0 x0 "java/lang/StringBuilder") (P1 : Fld Z h0 x0 "java/lang/AbstractStringBuilder" "coder" "B" (.int 0)) (P2 : Fld Z h0 x0 "java/lang/AbstractStringBuilder" "count" "I" (.int 0)) (P3 : Fld Z h0 x0 "java/lang/AbstractStringBuilder" "value" "[B" .null) (g_x0 : n0 ≤ x0) :
    Ctr l Z (⟨"java/lang/StringBuilder", "<init>", "(I)V"⟩ : MethodName) jdk_67_method_2_code 2 none ({ frames := 2, cells := 1, slots := 1, locals := 25 } : Room) #[(.ref x0), (.int 1)] h0 (fun v h L => ∃ (y0 : Addr) (y1 : ClassId), v = none ∧ Fr n0 L ∧ Keep h0 h [x0] ∧ h0.size ≤ y0 ∧ Exa Z h x0 "java/lang/StringBuilder" ∧ Fld Z h x0 "java/lang/AbstractStringBuilder" "coder" "B" (.int 0) ∧ Fld Z h x0 "java/lang/AbstractStringBuilder" "count" "I" (.int 0) ∧ Fld Z h x0 "java/lang/AbstractStringBuilder" "value" "[B" (.ref y0) ∧ Arv Z h y0 y1 .byte (1 : Int32) [(.int 0)] (.int 0) ∧ Exa Z h y0 "[B") := by
  refine Ctr.of (plainFor_of_name pn_c5) ?_
  intro p e s m below meth c T0 hx hZ hby hml hown hnm hret hlk e0 es X0
  refine Go.cast (ef_11_RI m x0 (1 : Int32)) ?_
  generalize hFF : EndN s _ _ _ = FF
  refine Go.aloadN X0 hx (pc' := 1) rfl (hb hby d11_0) rfl rfl ?_
  refine Go.iloadN X0 hx (pc' := 2) rfl (hb hby d11_1) rfl ?_
  refine Go.callN X0 hx hZ hown rfl (tw_61 hw) (tw_62 hw) (tw_66 hw) (by decide) (tw_66 hw) (tw_65 hw) (au_42 l Z a0 hw x0 gz1 gv5 h0 n0 Z0 O0 G P0 P1 P2 P3 g_x0) e0 (a := x0) (argsL := [(.int 1)]) (rest := []) (pc' := 5) rfl (by rw [hml]; rfl) (lenOf pd_14 rfl) rfl rfl (W := 0) (Nat.le_of_eq rfl) (by decide) (by decide) (by decide) (by decide) (hb hby d11_2) ?_
  intro v1 T1 L1 q1 X1
  obtain ⟨h1, e1⟩ : ∃ z, T1.heap = z := ⟨_, rfl⟩
  rw [e1] at q1
  obtain ⟨b1_0, k1_0, rfl, N1, K1, s1_0, F1_0, F1_1, F1_2, F1_3, F1_4, F1_5⟩ := q1
  show Go _ _ _ _ (T1.setTop (mkF m 5 #[.val (.ref x0), .val (.int 1)] []))
  subst hFF
  refine Go.ret0 X1 hx hlk hret (hb hby d11_5) (by decide) (by decide) ?_
  rw [e1]
  have Kp2 : Keep h0 h1 [x0] := ((Keep.refl h0 [x0]).trans K1 (allS (Or.inl (List.mem_of_getElem? (i := 0) rfl)) all0))
  have sz3 : h0.size ≤ b1_0 := Nat.le_trans (Keep.refl h0 [x0]).1 s1_0
  exact ⟨b1_0, k1_0, rfl, (Fr.app (Fr.nil n0) N1), Kp2, sz3, F1_0, F1_1, F1_2, F1_3, F1_4, F1_5⟩
theorem d8_22 : decode prog_48_method_11_code 22 = .ok (.aload_n 0, 1) := by decide +kernel
theorem d8_23 : decode prog_48_method_11_code 23 = .ok (.iload_n 2, 1) := by decide +kernel
theorem d30_0 : decode jdk_42_method_56_code 0 = .ok (.aload_n 0, 1) := by decide +kernel
theorem d31_0 : decode jdk_42_method_154_code 0 = .ok (.getstatic 38, 3) := by decide +kernel
theorem d31_3 : decode jdk_42_method_154_code 3 = .ok (.ifCond .eq 14, 3) := by decide +kernel
theorem d31_6 : decode jdk_42_method_154_code 6 = .ok (.aload_n 0, 1) := by decide +kernel
theorem d31_7 : decode jdk_42_method_154_code 7 = .ok (.getfield 15, 3) := by decide +kernel
theorem d31_10 : decode jdk_42_method_154_code 10 = .ok (.ifCond .ne 7, 3) := by decide +kernel
theorem d31_13 : decode jdk_42_method_154_code 13 = .ok (.iconst 1, 1) := by decide +kernel
theorem d31_14 : decode jdk_42_method_154_code 14 = .ok (.goto 4, 3) := by decide +kernel
theorem d31_18 : decode jdk_42_method_154_code 18 = .ok (.ireturn, 1) := by decide +kernel
theorem ef_31_R (m : MethodId) (x0 : Addr) : entryFrame m #[(.ref x0)] 1 = mkF m 0 #[.val (.ref x0)] [] := by first | (simp [entryFrame, mkF, argsToLocals, Value.category]; done) | rfl
-- java/lang/String.isLatin1
set_option maxRecDepth 65536 in
set_option maxHeartbeats 4000000 in
theorem au_44 (l : Launch) (Z : State) (a0 : Array Value) (hw : ∀ d ∈ tables_1, d.before a0 Z = true) (x0 : Addr) (gz1 : Int32) (gv5 : Value) (h0 : Heap) (n0 : Nat) (Z0 : n0 ≤ h0.size) (O0 : Old Z n0 h0) (G : Glob Z gz1 gv5) (P1 : Fld Z h0 x0 "java/lang/String" "coder" "B" (.int 0)) :
    Ctr l Z (⟨"java/lang/String", "isLatin1", "()Z"⟩ : MethodName) jdk_42_method_154_code 1 (some .boolean) ({ frames := 0, cells := 0, slots := 0, locals := 0 } : Room) #[(.ref x0)] h0 (fun v h L => v = some (.int 1) ∧ Fr n0 L ∧ h = h0) := by
  refine Ctr.of (plainFor_of_name pn_c1) ?_
  intro p e s m below meth c T0 hx hZ hby hml hown hnm hret hlk e0 es X0
  have G' := G
  obtain ⟨G0, -, G2, -⟩ := G'
  refine Go.cast (ef_31_R m x0) ?_
  generalize hFF : EndN s _ _ _ = FF
  have fk1 : Sta Z h0 "java/lang/String" "COMPACT_STRINGS" "Z" (.int gz1) := G0.ext O0.2
  refine Go.getS X0 hx hZ hown (host := "") (Or.inl (tw_57 hw)) Via.refl e0 fk1 (pc' := 3) rfl (hb hby d31_0) ?_
  intro T2 e2 X2
  refine Go.ifNo X2 hx (pc' := 6) rfl (hb hby d31_3) (feq G2).1 ?_
  refine Go.aloadN X2 hx (pc' := 7) rfl (hb hby d31_6) rfl rfl ?_
  refine Go.getF X2 hx hZ hown (host := "") (Or.inl (tw_31 hw)) Via.refl e2 P1 (pc' := 10) rfl (hb hby d31_7) ?_
  intro T3 e3 X3
  refine Go.ifNo X3 hx (pc' := 13) rfl (hb hby d31_10) (by decide) ?_
  refine Go.iconst X3 hx (pc' := 14) rfl (hb hby d31_13) (v := (1 : Int32)) rfl ?_
  refine Go.goto X3 hx (pc' := 18) (hb hby d31_14) (by decide) (by decide) ?_
  subst hFF
  refine Go.retN X3 hx hlk (t := .boolean) hret (by simp) (hb hby d31_18) (by decide) (by decide) ?_
  rw [e3]
  exact ⟨(congrArg (fun z => some (Value.int z)) (by decide : nar .boolean (1 : Int32) = (1 : Int32))), (Fr.nil n0), rfl⟩
theorem d30_1 : decode jdk_42_method_56_code 1 = .ok (.invokevirtual 492, 3) := by decide +kernel
theorem d30_4 : decode jdk_42_method_56_code 4 = .ok (.ifCond .eq 12, 3) := by decide +kernel
theorem d30_7 : decode jdk_42_method_56_code 7 = .ok (.aload_n 0, 1) := by decide +kernel
theorem d30_8 : decode jdk_42_method_56_code 8 = .ok (.getfield 9, 3) := by decide +kernel
theorem d30_11 : decode jdk_42_method_56_code 11 = .ok (.iload_n 1, 1) := by decide +kernel
theorem d32_0 : decode jdk_43_method_2_code 0 = .ok (.iload_n 1, 1) := by decide +kernel
theorem d32_1 : decode jdk_43_method_2_code 1 = .ok (.aload_n 0, 1) := by decide +kernel
theorem d32_2 : decode jdk_43_method_2_code 2 = .ok (.arraylength, 1) := by decide +kernel
theorem d33_0 : decode jdk_42_method_155_code 0 = .ok (.iload_n 0, 1) := by decide +kernel
theorem d33_1 : decode jdk_42_method_155_code 1 = .ok (.iload_n 1, 1) := by decide +kernel
theorem d33_2 : decode jdk_42_method_155_code 2 = .ok (.getstatic 1053, 3) := by decide +kernel
theorem d34_0 : decode jdk_41_method_11_code 0 = .ok (.iload_n 0, 1) := by decide +kernel
theorem d34_1 : decode jdk_41_method_11_code 1 = .ok (.ifCond .lt 8, 3) := by decide +kernel
theorem d34_4 : decode jdk_41_method_11_code 4 = .ok (.iload_n 0, 1) := by decide +kernel
theorem d34_5 : decode jdk_41_method_11_code 5 = .ok (.iload_n 1, 1) := by decide +kernel
theorem d34_6 : decode jdk_41_method_11_code 6 = .ok (.if_icmp .lt 10, 3) := by decide +kernel
theorem d34_16 : decode jdk_41_method_11_code 16 = .ok (.iload_n 0, 1) := by decide +kernel
theorem d34_17 : decode jdk_41_method_11_code 17 = .ok (.ireturn, 1) := by decide +kernel
theorem ef_34_IIV (m : MethodId) (x0 : Int32) (x1 : Int32) (x2 : Value) (hx2 : x2.isRef = true) : entryFrame m #[(.int x0), (.int x1), x2] 3 = mkF m 0 #[.val (.int x0), .val (.int x1), .val x2] [] := by rcases ref_cases hx2 with rfl | ⟨y2, rfl⟩ <;> first | (simp [entryFrame, mkF, argsToLocals, Value.category]; done) | rfl
theorem pn_c7 : plainName "jdk/internal/util/Preconditions" = true := by first | (simp [plainName, overriddenIn]; done) | decide +kernel
-- jdk/internal/util/Preconditions.checkIndex
set_option maxRecDepth 65536 in
set_option maxHeartbeats 4000000 in
theorem au_47 (l : Launch) (Z : State) (a0 : Array Value) (hw : ∀ d ∈ tables_1, d.before a0 Z = true) (gz1 : Int32) (gv5 : Value) (h0 : Heap) (n0 : Nat) (Z0 : n0 ≤ h0.size) (G : Glob Z gz1 gv5) :
    Ctr l Z (⟨"jdk/internal/util/Preconditions", "checkIndex", "(IILjava/util/function/BiFunction;)I"⟩ : MethodName) jdk_41_method_11_code 3 (some .int) ({ frames := 0, cells := 0, slots := 0, locals := 0 } : Room) #[(.int 0), (.int 1), gv5] h0 (fun v h L => v = some (.int 0) ∧ Fr n0 L ∧ h = h0) := by
  refine Ctr.of (plainFor_of_name pn_c7) ?_
  intro p e s m below meth c T0 hx hZ hby hml hown hnm hret hlk e0 es X0
  have G' := G
  obtain ⟨-, -, -, G3⟩ := G'
  refine Go.cast (ef_34_IIV m (0 : Int32) (1 : Int32) gv5 G3) ?_
  generalize hFF : EndN s _ _ _ = FF
  refine Go.iloadN X0 hx (pc' := 1) rfl (hb hby d34_0) rfl ?_
  refine Go.ifNo X0 hx (pc' := 4) rfl (hb hby d34_1) (by decide) ?_
  refine Go.iloadN X0 hx (pc' := 5) rfl (hb hby d34_4) rfl ?_
  refine Go.iloadN X0 hx (pc' := 6) rfl (hb hby d34_5) rfl ?_
  refine Go.icmpYes X0 hx (pc' := 16) (hb hby d34_6) (by decide) (by decide) (by decide) ?_
  refine Go.iloadN X0 hx (pc' := 17) rfl (hb hby d34_16) rfl ?_
  subst hFF
  refine Go.retI X0 hx hlk hret (hb hby d34_17) (by decide) (by decide) ?_
  rw [e0]
  exact ⟨rfl, (Fr.nil n0), rfl⟩
theorem pd_21 : parseMethodDescriptor "(IILjava/util/function/BiFunction;)I" = some ⟨[.int, .int, (.object "java/util/function/BiFunction")], some .int⟩ := by decide +kernel
theorem d33_5 : decode jdk_42_method_155_code 5 = .ok (.invokestatic 1059, 3) := by decide +kernel
theorem d33_8 : decode jdk_42_method_155_code 8 = .ok (.pop, 1) := by decide +kernel
theorem d33_9 : decode jdk_42_method_155_code 9 = .ok (.return_, 1) := by decide +kernel
theorem ef_33_II (m : MethodId) (x0 : Int32) (x1 : Int32) : entryFrame m #[(.int x0), (.int x1)] 2 = mkF m 0 #[.val (.int x0), .val (.int x1)] [] := by first | (simp [entryFrame, mkF, argsToLocals, Value.category]; done) | rfl
-- java/lang/String.checkIndex
set_option maxRecDepth 65536 in
set_option maxHeartbeats 4000000 in
theorem au_46 (l : Launch) (Z : State) (a0 : Array Value) (hw : ∀ d ∈ tables_1, d.before a0 Z = true) (gz1 : Int32) (gv5 : Value) (h0 : Heap) (n0 : Nat) (Z0 : n0 ≤ h0.size) (O0 : Old Z n0 h0) (G : Glob Z gz1 gv5) :
    Ctr l Z (⟨"java/lang/String", "checkIndex", "(II)V"⟩ : MethodName) jdk_42_method_155_code 2 none ({ frames := 1, cells := 0, slots := 0, locals := 14 } : Room) #[(.int 0), (.int 1)] h0 (fun v h L => v = none ∧ Fr n0 L ∧ h = h0) := by
  refine Ctr.of (plainFor_of_name pn_c1) ?_
  intro p e s m below meth c T0 hx hZ hby hml hown hnm hret hlk e0 es X0
  have G' := G
  obtain ⟨-, G1, -, -⟩ := G'
  refine Go.cast (ef_33_II m (0 : Int32) (1 : Int32)) ?_
  generalize hFF : EndN s _ _ _ = FF
  refine Go.iloadN X0 hx (pc' := 1) rfl (hb hby d33_0) rfl ?_
  refine Go.iloadN X0 hx (pc' := 2) rfl (hb hby d33_1) rfl ?_
  have fk1 : Sta Z h0 "jdk/internal/util/Preconditions" "SIOOBE_FORMATTER" "Ljava/util/function/BiFunction;" gv5 := G1.ext O0.2
  refine Go.getS X0 hx hZ hown (host := "") (Or.inl (tw_177 hw)) Via.refl e0 fk1 (pc' := 5) rfl (hb hby d33_2) ?_
  intro T2 e2 X2
  refine Go.callS X2 hx hZ hown (tw_179 hw) (tw_180 hw) (tw_178 hw) (tw_181 hw) (by decide) (tw_181 hw) (tw_178 hw) (au_47 l Z a0 hw gz1 gv5 h0 n0 Z0 G) e2 (argsL := [(.int 0), (.int 1), gv5]) (rest := []) (pc' := 8) rfl (by rw [hml]; rfl) (lenOf pd_21 rfl) rfl rfl (W := 0) (Nat.le_of_eq rfl) (by decide) (by decide) (by decide) (by decide) (hb hby d33_5) ?_
  intro v3 T3 L3 q3 X3
  obtain ⟨rfl, N3, e3⟩ := q3
  show Go _ _ _ _ (T3.setTop (mkF m 8 #[.val (.int 0), .val (.int 1)] [(.int 0)]))
  refine Go.pop X3 hx (pc' := 9) rfl (hb hby d33_8) rfl ?_
  subst hFF
  refine Go.ret0 X3 hx hlk hret (hb hby d33_9) (by decide) (by decide) ?_
  rw [e3]
  exact ⟨rfl, (Fr.app (Fr.nil n0) N3), rfl⟩
theorem pd_22 : parseMethodDescriptor "(II)V" = some ⟨[.int, .int], none⟩ := by decide +kernel
theorem d32_3 : decode jdk_43_method_2_code 3 = .ok (.invokestatic 9, 3) := by decide +kernel
theorem d32_6 : decode jdk_43_method_2_code 6 = .ok (.aload_n 0, 1) := by decide +kernel
theorem d32_7 : decode jdk_43_method_2_code 7 = .ok (.iload_n 1, 1) := by decide +kernel
theorem d32_8 : decode jdk_43_method_2_code 8 = .ok (.baload, 1) := by decide +kernel
theorem d32_9 : decode jdk_43_method_2_code 9 = .ok (.sipush 255, 3) := by decide +kernel
theorem d32_12 : decode jdk_43_method_2_code 12 = .ok (.iand, 1) := by decide +kernel
theorem d32_13 : decode jdk_43_method_2_code 13 = .ok (.i2c, 1) := by decide +kernel
theorem d32_14 : decode jdk_43_method_2_code 14 = .ok (.ireturn, 1) := by decide +kernel
theorem ef_32_RI (m : MethodId) (x0 : Addr) (x1 : Int32) : entryFrame m #[(.ref x0), (.int x1)] 2 = mkF m 0 #[.val (.ref x0), .val (.int x1)] [] := by first | (simp [entryFrame, mkF, argsToLocals, Value.category]; done) | rfl
-- java/lang/StringLatin1.charAt
set_option maxRecDepth 65536 in
set_option maxHeartbeats 4000000 in
theorem au_45 (l : Launch) (Z : State) (a0 : Array Value) (hw : ∀ d ∈ tables_1, d.before a0 Z = true) (x0 : Addr) (kk0 : ClassId) (p0 : Int32) (p1 : Int32) (gz1 : Int32) (gv5 : Value) (h0 : Heap) (n0 : Nat) (Z0 : n0 ≤ h0.size) (O0 : Old Z n0 h0) (G : Glob Z gz1 gv5) (P0 : Arv Z h0 x0 kk0 .byte (1 : Int32) [(.int p0)] (.int 0)) (R_p1 : 0 ≤ p1.toInt ∧ p1.toInt ≤ 255) (B_p0 : (p1.toInt8.toInt32) = p0) :
    Ctr l Z (⟨"java/lang/StringLatin1", "charAt", "([BI)C"⟩ : MethodName) jdk_43_method_2_code 2 (some .char) ({ frames := 2, cells := 0, slots := 0, locals := 27 } : Room) #[(.ref x0), (.int 0)] h0 (fun v h L => v = some (.int p1) ∧ Fr n0 L ∧ h = h0) := by
  refine Ctr.of (plainFor_of_name pn_c2) ?_
  intro p e s m below meth c T0 hx hZ hby hml hown hnm hret hlk e0 es X0
  refine Go.cast (ef_32_RI m x0 (0 : Int32)) ?_
  generalize hFF : EndN s _ _ _ = FF
  refine Go.iloadN X0 hx (pc' := 1) rfl (hb hby d32_0) rfl ?_
  refine Go.aloadN X0 hx (pc' := 2) rfl (hb hby d32_1) rfl rfl ?_
  refine Go.arraylength X0 hx hZ e0 P0 (pc' := 3) rfl (hb hby d32_2) ?_
  refine Go.callS X0 hx hZ hown (tw_174 hw) (tw_175 hw) (tw_12 hw) (tw_176 hw) (by decide) (tw_176 hw) (tw_12 hw) (au_46 l Z a0 hw gz1 gv5 h0 n0 Z0 O0 G) e0 (argsL := [(.int 0), (.int 1)]) (rest := []) (pc' := 6) rfl (by rw [hml]; rfl) (lenOf pd_22 rfl) rfl rfl (W := 0) (Nat.le_of_eq rfl) (by decide) (by decide) (by decide) (by decide) (hb hby d32_3) ?_
  intro v1 T1 L1 q1 X1
  obtain ⟨rfl, N1, e1⟩ := q1
  show Go _ _ _ _ (T1.setTop (mkF m 6 #[.val (.ref x0), .val (.int 0)] []))
  refine Go.aloadN X1 hx (pc' := 7) rfl (hb hby d32_6) rfl rfl ?_
  refine Go.iloadN X1 hx (pc' := 8) rfl (hb hby d32_7) rfl ?_
  refine Go.baload X1 hx hZ e1 P0 (v := (.int p0)) ⟨by decide, by decide⟩ rfl (pc' := 9) rfl (hb hby d32_8) ?_
  refine Go.sipush X1 hx (pc' := 12) rfl (hb hby d32_9) (v := (255 : Int32)) (by decide) ?_
  refine Go.iand X1 hx (pc' := 13) rfl (hb hby d32_12) ?_
  rw [show (p0 &&& (255 : Int32)) = p1 from (own_byte_back B_p0 R_p1 (by decide) (by decide))]
  refine Go.i2c X1 hx (pc' := 14) rfl (hb hby d32_13) ?_
  rw [show (p1.toUInt32.toUInt16.toUInt32.toInt32) = p1 from (own_i2c_id R_p1 (by decide) (by decide))]
  subst hFF
  refine Go.retN X1 hx hlk (t := .char) hret (by simp) (hb hby d32_14) (by decide) (by decide) ?_
  rw [e1]
  exact ⟨(congrArg (fun z => some (Value.int z)) (own_nar_char R_p1 (by decide) (by decide))), (Fr.app (Fr.nil n0) N1), rfl⟩
theorem pd_23 : parseMethodDescriptor "([BI)C" = some ⟨[(.array .byte), .int], some .char⟩ := by decide +kernel
theorem d30_12 : decode jdk_42_method_56_code 12 = .ok (.invokestatic 495, 3) := by decide +kernel
theorem d30_15 : decode jdk_42_method_56_code 15 = .ok (.ireturn, 1) := by decide +kernel
theorem ef_30_RI (m : MethodId) (x0 : Addr) (x1 : Int32) : entryFrame m #[(.ref x0), (.int x1)] 2 = mkF m 0 #[.val (.ref x0), .val (.int x1)] [] := by first | (simp [entryFrame, mkF, argsToLocals, Value.category]; done) | rfl
-- java/lang/String.charAt
set_option maxRecDepth 65536 in
set_option maxHeartbeats 4000000 in
theorem au_43 (l : Launch) (Z : State) (a0 : Array Value) (hw : ∀ d ∈ tables_1, d.before a0 Z = true) (x0 : Addr) (x1 : Addr) (kk0 : ClassId) (p0 : Int32) (p1 : Int32) (gz1 : Int32) (gv5 : Value) (h0 : Heap) (n0 : Nat) (Z0 : n0 ≤ h0.size) (O0 : Old Z n0 h0) (G : Glob Z gz1 gv5) (P0 : Exa Z h0 x0 "java/lang/String") (P1 : Fld Z h0 x0 "java/lang/String" "coder" "B" (.int 0)) (P2 : Fld Z h0 x0 "java/lang/String" "value" "[B" (.ref x1)) (P3 : Arv Z h0 x1 kk0 .byte (1 : Int32) [(.int p0)] (.int 0)) (R_p1 : 0 ≤ p1.toInt ∧ p1.toInt ≤ 255) (B_p0 : (p1.toInt8.toInt32) = p0) :
    Ctr l Z (⟨"java/lang/String", "charAt", "(I)C"⟩ : MethodName) jdk_42_method_56_code 2 (some .char) ({ frames := 3, cells := 0, slots := 0, locals := 40 } : Room) #[(.ref x0), (.int 0)] h0 (fun v h L => v = some (.int p1) ∧ Fr n0 L ∧ h = h0) := by
  refine Ctr.of (plainFor_of_name pn_c1) ?_
  intro p e s m below meth c T0 hx hZ hby hml hown hnm hret hlk e0 es X0
  refine Go.cast (ef_30_RI m x0 (0 : Int32)) ?_
  generalize hFF : EndN s _ _ _ = FF
  refine Go.aloadN X0 hx (pc' := 1) rfl (hb hby d30_0) rfl rfl ?_
  refine Go.callV X0 hx hZ hown (tw_166 hw) (tw_167 hw) (notFace_of_selects (args := #[]) (mvT hZ (tw_169 hw))) (tw_169 hw) (tw_168 hw) (by decide) (tw_170 hw) (tw_12 hw) (au_44 l Z a0 hw x0 gz1 gv5 h0 n0 Z0 O0 G P1) e0 P0 (argsL := []) (rest := []) (pc' := 4) rfl (by rw [hml]; rfl) (lenOf pd_16 rfl) rfl rfl (W := 0) (Nat.le_of_eq rfl) (by decide) (by decide) (by decide) (by decide) (hb hby d30_1) ?_
  intro v1 T1 L1 q1 X1
  obtain ⟨rfl, N1, e1⟩ := q1
  show Go _ _ _ _ (T1.setTop (mkF m 4 #[.val (.ref x0), .val (.int 0)] [(.int 1)]))
  refine Go.ifNo X1 hx (pc' := 7) rfl (hb hby d30_4) (by decide) ?_
  refine Go.aloadN X1 hx (pc' := 8) rfl (hb hby d30_7) rfl rfl ?_
  refine Go.getF X1 hx hZ hown (host := "") (Or.inl (tw_30 hw)) Via.refl e1 P2 (pc' := 11) rfl (hb hby d30_8) ?_
  intro T2 e2 X2
  refine Go.iloadN X2 hx (pc' := 12) rfl (hb hby d30_11) rfl ?_
  refine Go.callS X2 hx hZ hown (tw_171 hw) (tw_172 hw) (tw_152 hw) (tw_173 hw) (by decide) (tw_173 hw) (tw_152 hw) (au_45 l Z a0 hw x1 kk0 p0 p1 gz1 gv5 h0 n0 Z0 O0 G P3 R_p1 B_p0) e2 (argsL := [(.ref x1), (.int 0)]) (rest := []) (pc' := 15) rfl (by rw [hml]; rfl) (lenOf pd_23 rfl) rfl rfl (W := 0) (Nat.le_of_eq rfl) (by decide) (by decide) (by decide) (by decide) (hb hby d30_12) ?_
  intro v3 T3 L3 q3 X3
  obtain ⟨rfl, N3, e3⟩ := q3
  show Go _ _ _ _ (T3.setTop (mkF m 15 #[.val (.ref x0), .val (.int 0)] [(.int p1)]))
  subst hFF
  refine Go.retN X3 hx hlk (t := .char) hret (by simp) (hb hby d30_15) (by decide) (by decide) ?_
  rw [e3]
  exact ⟨(congrArg (fun z => some (Value.int z)) (own_nar_char R_p1 (by decide) (by decide))), (Fr.app (Fr.app (Fr.nil n0) N1) N3), rfl⟩
theorem pd_24 : parseMethodDescriptor "(I)C" = some ⟨[.int], some .char⟩ := by decide +kernel
theorem d8_24 : decode prog_48_method_11_code 24 = .ok (.invokevirtual 42, 3) := by decide +kernel
theorem d8_27 : decode prog_48_method_11_code 27 = .ok (.istore_n 3, 1) := by decide +kernel
theorem d8_28 : decode prog_48_method_11_code 28 = .ok (.aload_n 1, 1) := by decide +kernel
theorem d35_0 : decode jdk_67_method_14_code 0 = .ok (.aload_n 0, 1) := by decide +kernel
theorem d35_1 : decode jdk_67_method_14_code 1 = .ok (.iload_n 1, 1) := by decide +kernel
theorem d36_0 : decode jdk_68_method_31_code 0 = .ok (.aload_n 0, 1) := by decide +kernel
theorem d36_1 : decode jdk_68_method_31_code 1 = .ok (.aload_n 0, 1) := by decide +kernel
theorem d36_2 : decode jdk_68_method_31_code 2 = .ok (.getfield 79, 3) := by decide +kernel
theorem d36_5 : decode jdk_68_method_31_code 5 = .ok (.iconst 1, 1) := by decide +kernel
theorem d36_6 : decode jdk_68_method_31_code 6 = .ok (.iadd, 1) := by decide +kernel
theorem d37_0 : decode jdk_68_method_9_code 0 = .ok (.aload_n 0, 1) := by decide +kernel
theorem d37_1 : decode jdk_68_method_9_code 1 = .ok (.getfield 15, 3) := by decide +kernel
theorem d37_4 : decode jdk_68_method_9_code 4 = .ok (.arraylength, 1) := by decide +kernel
theorem d37_5 : decode jdk_68_method_9_code 5 = .ok (.aload_n 0, 1) := by decide +kernel
theorem d37_6 : decode jdk_68_method_9_code 6 = .ok (.getfield 22, 3) := by decide +kernel
theorem d37_9 : decode jdk_68_method_9_code 9 = .ok (.ishr, 1) := by decide +kernel
theorem d37_10 : decode jdk_68_method_9_code 10 = .ok (.istore_n 2, 1) := by decide +kernel
theorem d37_11 : decode jdk_68_method_9_code 11 = .ok (.iload_n 1, 1) := by decide +kernel
theorem d37_12 : decode jdk_68_method_9_code 12 = .ok (.iload_n 2, 1) := by decide +kernel
theorem d37_13 : decode jdk_68_method_9_code 13 = .ok (.isub, 1) := by decide +kernel
theorem d37_14 : decode jdk_68_method_9_code 14 = .ok (.ifCond .le 24, 3) := by decide +kernel
theorem d37_38 : decode jdk_68_method_9_code 38 = .ok (.return_, 1) := by decide +kernel
theorem ef_37_RI (m : MethodId) (x0 : Addr) (x1 : Int32) : entryFrame m #[(.ref x0), (.int x1)] 3 = mkF m 0 #[.val (.ref x0), .val (.int x1), .unset] [] := by first | (simp [entryFrame, mkF, argsToLocals, Value.category]; done) | rfl
-- java/lang/AbstractStringBuilder.ensureCapacityInternal
set_option maxRecDepth 65536 in
set_option maxHeartbeats 4000000 in
theorem au_50 (l : Launch) (Z : State) (a0 : Array Value) (hw : ∀ d ∈ tables_1, d.before a0 Z = true) (x0 : Addr) (x1 : Addr) (kk0 : ClassId) (h0 : Heap) (n0 : Nat) (Z0 : n0 ≤ h0.size) (P1 : Fld Z h0 x0 "java/lang/AbstractStringBuilder" "coder" "B" (.int 0)) (P3 : Fld Z h0 x0 "java/lang/AbstractStringBuilder" "value" "[B" (.ref x1)) (P4 : Arv Z h0 x1 kk0 .byte (1 : Int32) [(.int 0)] (.int 0)) :
    Ctr l Z (⟨"java/lang/AbstractStringBuilder", "ensureCapacityInternal", "(I)V"⟩ : MethodName) jdk_68_method_9_code 3 none ({ frames := 0, cells := 0, slots := 0, locals := 0 } : Room) #[(.ref x0), (.int 1)] h0 (fun v h L => v = none ∧ Fr n0 L ∧ h = h0) := by
  refine Ctr.of (plainFor_of_name pn_c4) ?_
  intro p e s m below meth c T0 hx hZ hby hml hown hnm hret hlk e0 es X0
  refine Go.cast (ef_37_RI m x0 (1 : Int32)) ?_
  generalize hFF : EndN s _ _ _ = FF
  refine Go.aloadN X0 hx (pc' := 1) rfl (hb hby d37_0) rfl rfl ?_
  refine Go.getF X0 hx hZ hown (host := "") (Or.inl (tw_69 hw)) Via.refl e0 P3 (pc' := 4) rfl (hb hby d37_1) ?_
  intro T1 e1 X1
  refine Go.arraylength X1 hx hZ e1 P4 (pc' := 5) rfl (hb hby d37_4) ?_
  refine Go.aloadN X1 hx (pc' := 6) rfl (hb hby d37_5) rfl rfl ?_
  refine Go.getF X1 hx hZ hown (host := "") (Or.inl (tw_71 hw)) Via.refl e1 P1 (pc' := 9) rfl (hb hby d37_6) ?_
  intro T2 e2 X2
  refine Go.ishr X2 hx (pc' := 10) rfl (hb hby d37_9) ?_
  rw [show ((1 : Int32) >>> ((0 : Int32) &&& 31)) = (1 : Int32) from by decide]
  refine Go.istoreN X2 hx (pc' := 11) rfl (hb hby d37_10) (Ls' := #[.val (.ref x0), .val (.int 1), .val (.int 1)]) rfl ?_
  refine Go.iloadN X2 hx (pc' := 12) rfl (hb hby d37_11) rfl ?_
  refine Go.iloadN X2 hx (pc' := 13) rfl (hb hby d37_12) rfl ?_
  refine Go.isub X2 hx (pc' := 14) rfl (hb hby d37_13) ?_
  rw [show ((1 : Int32) - (1 : Int32)) = (0 : Int32) from by decide]
  refine Go.ifYes X2 hx (pc' := 38) (hb hby d37_14) (by decide) (by decide) (by decide) ?_
  subst hFF
  refine Go.ret0 X2 hx hlk hret (hb hby d37_38) (by decide) (by decide) ?_
  rw [e2]
  exact ⟨rfl, (Fr.nil n0), rfl⟩
theorem d36_7 : decode jdk_68_method_31_code 7 = .ok (.invokevirtual 100, 3) := by decide +kernel
theorem d36_10 : decode jdk_68_method_31_code 10 = .ok (.aload_n 0, 1) := by decide +kernel
-- java/lang/AbstractStringBuilder.isLatin1
set_option maxRecDepth 65536 in
set_option maxHeartbeats 4000000 in
theorem au_51 (l : Launch) (Z : State) (a0 : Array Value) (hw : ∀ d ∈ tables_1, d.before a0 Z = true) (x0 : Addr) (gz1 : Int32) (gv5 : Value) (h0 : Heap) (n0 : Nat) (Z0 : n0 ≤ h0.size) (O0 : Old Z n0 h0) (G : Glob Z gz1 gv5) (P1 : Fld Z h0 x0 "java/lang/AbstractStringBuilder" "coder" "B" (.int 0)) :
    Ctr l Z (⟨"java/lang/AbstractStringBuilder", "isLatin1", "()Z"⟩ : MethodName) jdk_68_method_68_code 1 (some .boolean) ({ frames := 0, cells := 0, slots := 0, locals := 0 } : Room) #[(.ref x0)] h0 (fun v h L => v = some (.int 1) ∧ Fr n0 L ∧ h = h0) := by
  refine Ctr.of (plainFor_of_name pn_c4) ?_
  intro p e s m below meth c T0 hx hZ hby hml hown hnm hret hlk e0 es X0
  have G' := G
  obtain ⟨G0, -, G2, -⟩ := G'
  refine Go.cast (ef_19_R m x0) ?_
  generalize hFF : EndN s _ _ _ = FF
  have fk1 : Sta Z h0 "java/lang/String" "COMPACT_STRINGS" "Z" (.int gz1) := G0.ext O0.2
  refine Go.getS X0 hx hZ hown (host := "") (Or.inl (tw_68 hw)) Via.refl e0 fk1 (pc' := 3) rfl (hb hby d19_0) ?_
  intro T2 e2 X2
  refine Go.ifNo X2 hx (pc' := 6) rfl (hb hby d19_3) (feq G2).1 ?_
  refine Go.aloadN X2 hx (pc' := 7) rfl (hb hby d19_6) rfl rfl ?_
  refine Go.getF X2 hx hZ hown (host := "") (Or.inl (tw_71 hw)) Via.refl e2 P1 (pc' := 10) rfl (hb hby d19_7) ?_
  intro T3 e3 X3
  refine Go.ifNo X3 hx (pc' := 13) rfl (hb hby d19_10) (by decide) ?_
  refine Go.iconst X3 hx (pc' := 14) rfl (hb hby d19_13) (v := (1 : Int32)) rfl ?_
  refine Go.goto X3 hx (pc' := 18) (hb hby d19_14) (by decide) (by decide) ?_
  subst hFF
  refine Go.retN X3 hx hlk (t := .boolean) hret (by simp) (hb hby d19_18) (by decide) (by decide) ?_
  rw [e3]
  exact ⟨(congrArg (fun z => some (Value.int z)) (by decide : nar .boolean (1 : Int32) = (1 : Int32))), (Fr.nil n0), rfl⟩
theorem d36_11 : decode jdk_68_method_31_code 11 = .ok (.invokevirtual 83, 3) := by decide +kernel
theorem d36_14 : decode jdk_68_method_31_code 14 = .ok (.ifCond .eq 31, 3) := by decide +kernel
theorem d36_17 : decode jdk_68_method_31_code 17 = .ok (.iload_n 1, 1) := by decide +kernel
theorem d36_18 : decode jdk_68_method_31_code 18 = .ok (.invokestatic 191, 3) := by decide +kernel
theorem d36_21 : decode jdk_68_method_31_code 21 = .ok (.ifCond .eq 24, 3) := by decide +kernel
theorem d36_24 : decode jdk_68_method_31_code 24 = .ok (.aload_n 0, 1) := by decide +kernel
theorem d36_25 : decode jdk_68_method_31_code 25 = .ok (.getfield 15, 3) := by decide +kernel
theorem d36_28 : decode jdk_68_method_31_code 28 = .ok (.aload_n 0, 1) := by decide +kernel
theorem d36_29 : decode jdk_68_method_31_code 29 = .ok (.dup, 1) := by decide +kernel
theorem d36_30 : decode jdk_68_method_31_code 30 = .ok (.getfield 79, 3) := by decide +kernel
theorem d36_33 : decode jdk_68_method_31_code 33 = .ok (.dup_x1, 1) := by decide +kernel
theorem d36_34 : decode jdk_68_method_31_code 34 = .ok (.iconst 1, 1) := by decide +kernel
theorem d36_35 : decode jdk_68_method_31_code 35 = .ok (.iadd, 1) := by decide +kernel
theorem d36_36 : decode jdk_68_method_31_code 36 = .ok (.putfield 79, 3) := by decide +kernel
theorem d36_39 : decode jdk_68_method_31_code 39 = .ok (.iload_n 1, 1) := by decide +kernel
theorem d36_40 : decode jdk_68_method_31_code 40 = .ok (.i2b, 1) := by decide +kernel
theorem d36_41 : decode jdk_68_method_31_code 41 = .ok (.bastore, 1) := by decide +kernel
theorem d36_42 : decode jdk_68_method_31_code 42 = .ok (.goto 33, 3) := by decide +kernel
theorem d36_75 : decode jdk_68_method_31_code 75 = .ok (.aload_n 0, 1) := by decide +kernel
theorem d36_76 : decode jdk_68_method_31_code 76 = .ok (.areturn, 1) := by decide +kernel
theorem ef_36_RI (m : MethodId) (x0 : Addr) (x1 : Int32) : entryFrame m #[(.ref x0), (.int x1)] 2 = mkF m 0 #[.val (.ref x0), .val (.int x1)] [] := by first | (simp [entryFrame, mkF, argsToLocals, Value.category]; done) | rfl
-- java/lang/AbstractStringBuilder.append
set_option maxRecDepth 65536 in
set_option maxHeartbeats 4000000 in
theorem au_49 (l : Launch) (Z : State) (a0 : Array Value) (hw : ∀ d ∈ tables_1, d.before a0 Z = true) (x0 : Addr) (p0 : Int32) (x1 : Addr) (kk0 : ClassId) (gz1 : Int32) (gv5 : Value) (h0 : Heap) (n0 : Nat) (Z0 : n0 ≤ h0.size) (O0 : Old Z n0 h0) (G : Glob Z gz1 gv5) (P0 : Exa Z h0 x0 "java/lang/StringBuilder") (P1 : Fld Z h0 x0 "java/lang/AbstractStringBuilder" "coder" "B" (.int 0)) (P2 : Fld Z h0 x0 "java/lang/AbstractStringBuilder" "count" "I" (.int 0)) (P3 : Fld Z h0 x0 "java/lang/AbstractStringBuilder" "value" "[B" (.ref x1)) (P4 : Arv Z h0 x1 kk0 .byte (1 : Int32) [(.int 0)] (.int 0)) (P5 : Exa Z h0 x1 "[B") (R_p0 : 0 ≤ p0.toInt ∧ p0.toInt ≤ 255) (g_x0 : n0 ≤ x0) (g_x1 : n0 ≤ x1) (ne_x1_x0 : x1 ≠ x0) :
    Ctr l Z (⟨"java/lang/AbstractStringBuilder", "append", "(C)Ljava/lang/AbstractStringBuilder;"⟩ : MethodName) jdk_68_method_31_code 2 (some (.object "java/lang/AbstractStringBuilder")) ({ frames := 1, cells := 0, slots := 0, locals := 14 } : Room) #[(.ref x0), (.int p0)] h0 (fun v h L => ∃ (y0 : Int32), (p0.toInt8.toInt32) = y0 ∧ v = some (.ref x0) ∧ Fr n0 L ∧ Keep h0 h [x0, x1] ∧ Exa Z h x0 "java/lang/StringBuilder" ∧ Fld Z h x0 "java/lang/AbstractStringBuilder" "coder" "B" (.int 0) ∧ Fld Z h x0 "java/lang/AbstractStringBuilder" "count" "I" (.int 1) ∧ Fld Z h x0 "java/lang/AbstractStringBuilder" "value" "[B" (.ref x1) ∧ Arv Z h x1 kk0 .byte (1 : Int32) [(.int y0)] (.int 0) ∧ Exa Z h x1 "[B") := by
  refine Ctr.of (plainFor_of_name pn_c4) ?_
  intro p e s m below meth c T0 hx hZ hby hml hown hnm hret hlk e0 es X0
  refine Go.cast (ef_36_RI m x0 p0) ?_
  generalize hFF : EndN s _ _ _ = FF
  refine Go.aloadN X0 hx (pc' := 1) rfl (hb hby d36_0) rfl rfl ?_
  refine Go.aloadN X0 hx (pc' := 2) rfl (hb hby d36_1) rfl rfl ?_
  refine Go.getF X0 hx hZ hown (host := "") (Or.inl (tw_99 hw)) Via.refl e0 P2 (pc' := 5) rfl (hb hby d36_2) ?_
  intro T1 e1 X1
  refine Go.iconst X1 hx (pc' := 6) rfl (hb hby d36_5) (v := (1 : Int32)) rfl ?_
  refine Go.iadd X1 hx (pc' := 7) rfl (hb hby d36_6) ?_
  rw [show ((0 : Int32) + (1 : Int32)) = (1 : Int32) from by decide]
  refine Go.callP X1 hx hZ hown (tw_191 hw) (tw_192 hw) (tw_194 hw) (tw_193 hw) (tw_195 hw) (by decide) (tw_195 hw) (tw_65 hw) (au_50 l Z a0 hw x0 x1 kk0 h0 n0 Z0 P1 P3 P4) e1 P0 (argsL := [(.int 1)]) (rest := []) (pc' := 10) rfl (by rw [hml]; rfl) (lenOf pd_14 rfl) rfl rfl (W := 0) (Nat.le_of_eq rfl) (by decide) (by decide) (by decide) (by decide) (hb hby d36_7) ?_
  intro v2 T2 L2 q2 X2
  obtain ⟨rfl, N2, e2⟩ := q2
  show Go _ _ _ _ (T2.setTop (mkF m 10 #[.val (.ref x0), .val (.int p0)] []))
  refine Go.aloadN X2 hx (pc' := 11) rfl (hb hby d36_10) rfl rfl ?_
  refine Go.callV X2 hx hZ hown (tw_196 hw) (tw_102 hw) (notFace_of_selects (args := #[]) (mvT hZ (tw_104 hw))) (tw_104 hw) (tw_103 hw) (by decide) (tw_105 hw) (tw_65 hw) (au_51 l Z a0 hw x0 gz1 gv5 h0 n0 Z0 O0 G P1) e2 P0 (argsL := []) (rest := []) (pc' := 14) rfl (by rw [hml]; rfl) (lenOf pd_16 rfl) rfl rfl (W := 0) (Nat.le_of_eq rfl) (by decide) (by decide) (by decide) (by decide) (hb hby d36_11) ?_
  intro v3 T3 L3 q3 X3
  obtain ⟨rfl, N3, e3⟩ := q3
  show Go _ _ _ _ (T3.setTop (mkF m 14 #[.val (.ref x0), .val (.int p0)] [(.int 1)]))
  refine Go.ifNo X3 hx (pc' := 17) rfl (hb hby d36_14) (by decide) ?_
  refine Go.iloadN X3 hx (pc' := 18) rfl (hb hby d36_17) rfl ?_
  refine Go.callS X3 hx hZ hown (tw_197 hw) (tw_151 hw) (tw_152 hw) (tw_153 hw) (by decide) (tw_153 hw) (tw_152 hw) (au_12 l Z a0 hw p0 h0 n0 Z0 R_p0) e3 (argsL := [(.int p0)]) (rest := []) (pc' := 21) rfl (by rw [hml]; rfl) (lenOf pd_4 rfl) rfl rfl (W := 0) (Nat.le_of_eq rfl) (by decide) (by decide) (by decide) (by decide) (hb hby d36_18) ?_
  intro v4 T4 L4 q4 X4
  obtain ⟨rfl, N4, e4⟩ := q4
  show Go _ _ _ _ (T4.setTop (mkF m 21 #[.val (.ref x0), .val (.int p0)] [(.int 1)]))
  refine Go.ifNo X4 hx (pc' := 24) rfl (hb hby d36_21) (by decide) ?_
  refine Go.aloadN X4 hx (pc' := 25) rfl (hb hby d36_24) rfl rfl ?_
  refine Go.getF X4 hx hZ hown (host := "") (Or.inl (tw_69 hw)) Via.refl e4 P3 (pc' := 28) rfl (hb hby d36_25) ?_
  intro T5 e5 X5
  refine Go.aloadN X5 hx (pc' := 29) rfl (hb hby d36_28) rfl rfl ?_
  refine Go.dup X5 hx (pc' := 30) rfl (hb hby d36_29) rfl ?_
  refine Go.getF X5 hx hZ hown (host := "") (Or.inl (tw_99 hw)) Via.refl e5 P2 (pc' := 33) rfl (hb hby d36_30) ?_
  intro T6 e6 X6
  refine Go.dupX1 X6 hx (pc' := 34) rfl (hb hby d36_33) rfl rfl ?_
  refine Go.iconst X6 hx (pc' := 35) rfl (hb hby d36_34) (v := (1 : Int32)) rfl ?_
  refine Go.iadd X6 hx (pc' := 36) rfl (hb hby d36_35) ?_
  rw [show ((0 : Int32) + (1 : Int32)) = (1 : Int32) from by decide]
  refine Go.putF X6 hx hZ hown (host := "") (Or.inl (tw_99 hw)) Via.refl e6 P2 P0 (Or.inl (tw_100 hw)) (tw_45 hw) (ty := .int) (by decide) rfl rfl (pc' := 39) rfl (hb hby d36_36) ?_
  intro T7 h7 e7 W7 F7 X7
  have N7 := Fr.snoc X7 (Fr.app (Fr.app (Fr.app (Fr.nil n0) N2) N3) N4) g_x0
  refine Go.iloadN X7 hx (pc' := 40) rfl (hb hby d36_39) rfl ?_
  refine Go.i2b X7 hx (pc' := 41) rfl (hb hby d36_40) ?_
  generalize hz8 : (p0.toInt8.toInt32) = z8
  have fk9 := (P4.other W7 ne_x1_x0)
  have r10 : -128 ≤ z8.toInt ∧ z8.toInt ≤ 127 := own_ri2b hz8
  refine Go.bastore X7 hx hZ e7 fk9 z8 (own_nar_byte r10 (by decide) (by decide)) ⟨by decide, by decide⟩ 0 rfl (Nat.le_of_ble_eq_true rfl) (pc' := 42) rfl (hb hby d36_41) ?_
  intro T11 h11 e11 W11 V11 X11
  have N11 := Fr.snoc X11 N7 g_x1
  refine Go.goto X11 hx (pc' := 75) (hb hby d36_42) (by decide) (by decide) ?_
  refine Go.aloadN X11 hx (pc' := 76) rfl (hb hby d36_75) rfl rfl ?_
  subst hFF
  refine Go.retR X11 hx hlk (t := (.object "java/lang/AbstractStringBuilder")) hret rfl rfl (hb hby d36_76) (by decide) (by decide) ?_
  rw [e11]
  have fk12 : Exa Z h11 x0 "java/lang/StringBuilder" := ((P0.wr W7).wr W11)
  have fk13 : Fld Z h11 x0 "java/lang/AbstractStringBuilder" "coder" "B" (.int 0) := ((P1.other W7 (Or.inr (slot_ne (Or.inl (tw_72 hw)) (Or.inl (tw_100 hw)) (by decide) (t := .byte) (t' := .int) (by decide) (by decide)))).other W11 (Or.inl (Ne.symm ne_x1_x0)))
  have fk14 : Fld Z h11 x0 "java/lang/AbstractStringBuilder" "count" "I" (.int 1) := (F7.other W11 (Or.inl (Ne.symm ne_x1_x0)))
  have fk15 : Fld Z h11 x0 "java/lang/AbstractStringBuilder" "value" "[B" (.ref x1) := ((P3.other W7 (Or.inr (slot_ne (Or.inl (tw_70 hw)) (Or.inl (tw_100 hw)) (by decide) (t := (.array .byte)) (t' := .int) (by decide) (by decide)))).other W11 (Or.inl (Ne.symm ne_x1_x0)))
  have V16 : Arv Z h11 x1 kk0 .byte (1 : Int32) [(.int z8)] (.int 0) := V11
  have fk17 : Exa Z h11 x1 "[B" := ((P5.wr W7).wr W11)
  have Kp18 : Keep h0 h7 [x0, x1] := ((Keep.refl h0 [x0, x1]).wr W7 (Or.inl (List.mem_of_getElem? (i := 0) rfl)))
  have Kp19 : Keep h0 h11 [x0, x1] := (Kp18.wr W11 (Or.inl (List.mem_of_getElem? (i := 1) rfl)))
  exact ⟨z8, hz8, rfl, N11, Kp19, fk12, fk13, fk14, fk15, V16, fk17⟩
theorem pd_25 : parseMethodDescriptor "(C)Ljava/lang/AbstractStringBuilder;" = some ⟨[.char], some (.object "java/lang/AbstractStringBuilder")⟩ := by decide +kernel
theorem d35_2 : decode jdk_67_method_14_code 2 = .ok (.invokespecial 50, 3) := by decide +kernel
theorem d35_5 : decode jdk_67_method_14_code 5 = .ok (.pop, 1) := by decide +kernel
theorem d35_6 : decode jdk_67_method_14_code 6 = .ok (.aload_n 0, 1) := by decide +kernel
theorem d35_7 : decode jdk_67_method_14_code 7 = .ok (.areturn, 1) := by decide +kernel
theorem ef_35_RI (m : MethodId) (x0 : Addr) (x1 : Int32) : entryFrame m #[(.ref x0), (.int x1)] 2 = mkF m 0 #[.val (.ref x0), .val (.int x1)] [] := by first | (simp [entryFrame, mkF, argsToLocals, Value.category]; done) | rfl
-- java/lang/StringBuilder.append
set_option maxRecDepth 65536 in
set_option maxHeartbeats 4000000 in
theorem au_48 (l : Launch) (Z : State) (a0 : Array Value) (hw : ∀ d ∈ tables_1, d.before a0 Z = true) (x0 : Addr) (p0 : Int32) (x1 : Addr) (kk0 : ClassId) (gz1 : Int32) (gv5 : Value) (h0 : Heap) (n0 : Nat) (Z0 : n0 ≤ h0.size) (O0 : Old Z n0 h0) (G : Glob Z gz1 gv5) (P0 : Exa Z h0 x0 "java/lang/StringBuilder") (P1 : Fld Z h0 x0 "java/lang/AbstractStringBuilder" "coder" "B" (.int 0)) (P2 : Fld Z h0 x0 "java/lang/AbstractStringBuilder" "count" "I" (.int 0)) (P3 : Fld Z h0 x0 "java/lang/AbstractStringBuilder" "value" "[B" (.ref x1)) (P4 : Arv Z h0 x1 kk0 .byte (1 : Int32) [(.int 0)] (.int 0)) (P5 : Exa Z h0 x1 "[B") (R_p0 : 0 ≤ p0.toInt ∧ p0.toInt ≤ 255) (g_x0 : n0 ≤ x0) (g_x1 : n0 ≤ x1) (ne_x1_x0 : x1 ≠ x0) :
    Ctr l Z (⟨"java/lang/StringBuilder", "append", "(C)Ljava/lang/StringBuilder;"⟩ : MethodName) jdk_67_method_14_code 2 (some (.object "java/lang/StringBuilder")) ({ frames := 2, cells := 0, slots := 0, locals := 27 } : Room) #[(.ref x0), (.int p0)] h0 (fun v h L => ∃ (y0 : Int32), (p0.toInt8.toInt32) = y0 ∧ v = some (.ref x0) ∧ Fr n0 L ∧ Keep h0 h [x0, x1] ∧ Exa Z h x0 "java/lang/StringBuilder" ∧ Fld Z h x0 "java/lang/AbstractStringBuilder" "coder" "B" (.int 0) ∧ Fld Z h x0 "java/lang/AbstractStringBuilder" "count" "I" (.int 1) ∧ Fld Z h x0 "java/lang/AbstractStringBuilder" "value" "[B" (.ref x1) ∧ Arv Z h x1 kk0 .byte (1 : Int32) [(.int y0)] (.int 0) ∧ Exa Z h x1 "[B") := by
  refine Ctr.of (plainFor_of_name pn_c5) ?_
  intro p e s m below meth c T0 hx hZ hby hml hown hnm hret hlk e0 es X0
  refine Go.cast (ef_35_RI m x0 p0) ?_
  generalize hFF : EndN s _ _ _ = FF
  refine Go.aloadN X0 hx (pc' := 1) rfl (hb hby d35_0) rfl rfl ?_
  refine Go.iloadN X0 hx (pc' := 2) rfl (hb hby d35_1) rfl ?_
  refine Go.callUp X0 hx hZ hown (tw_187 hw) (own_sameself (tw_88 hw) rfl (tw_188 hw) (by decide)) (tw_188 hw) (tw_97 hw) (by decide) (tw_190 hw) (tw_190 hw) (tw_65 hw) (au_49 l Z a0 hw x0 p0 x1 kk0 gz1 gv5 h0 n0 Z0 O0 G P0 P1 P2 P3 P4 P5 R_p0 g_x0 g_x1 ne_x1_x0) e0 P0 (argsL := [(.int p0)]) (rest := []) (pc' := 5) rfl (by rw [hml]; rfl) (lenOf pd_25 rfl) rfl rfl (W := 0) (Nat.le_of_eq rfl) (by decide) (by decide) (by decide) (by decide) (hb hby d35_2) ?_
  intro v1 T1 L1 q1 X1
  obtain ⟨h1, e1⟩ : ∃ z, T1.heap = z := ⟨_, rfl⟩
  rw [e1] at q1
  obtain ⟨z1_0, d1_0, rfl, N1, K1, F1_0, F1_1, F1_2, F1_3, F1_4, F1_5⟩ := q1
  show Go _ _ _ _ (T1.setTop (mkF m 5 #[.val (.ref x0), .val (.int p0)] [(.ref x0)]))
  refine Go.pop X1 hx (pc' := 6) rfl (hb hby d35_5) rfl ?_
  refine Go.aloadN X1 hx (pc' := 7) rfl (hb hby d35_6) rfl rfl ?_
  subst hFF
  refine Go.retR X1 hx hlk (t := (.object "java/lang/StringBuilder")) hret rfl rfl (hb hby d35_7) (by decide) (by decide) ?_
  rw [e1]
  have Kp2 : Keep h0 h1 [x0, x1] := ((Keep.refl h0 [x0, x1]).trans K1 (allS (Or.inl (List.mem_of_getElem? (i := 0) rfl)) (allS (Or.inl (List.mem_of_getElem? (i := 1) rfl)) all0)))
  exact ⟨z1_0, d1_0, rfl, (Fr.app (Fr.nil n0) N1), Kp2, F1_0, F1_1, F1_2, F1_3, F1_4, F1_5⟩
theorem pd_26 : parseMethodDescriptor "(C)Ljava/lang/StringBuilder;" = some ⟨[.char], some (.object "java/lang/StringBuilder")⟩ := by decide +kernel
theorem d8_53 : decode prog_48_method_11_code 53 = .ok (.invokevirtual 128, 3) := by decide +kernel
theorem d8_56 : decode prog_48_method_11_code 56 = .ok (.pop, 1) := by decide +kernel
theorem d8_57 : decode prog_48_method_11_code 57 = .ok (.iinc 2 1, 3) := by decide +kernel
theorem d8_60 : decode prog_48_method_11_code 60 = .ok (.goto (-46), 3) := by decide +kernel
-- java/lang/AbstractStringBuilder.getValue
set_option maxRecDepth 65536 in
set_option maxHeartbeats 4000000 in
theorem au_55 (l : Launch) (Z : State) (a0 : Array Value) (hw : ∀ d ∈ tables_1, d.before a0 Z = true) (x0 : Addr) (x1 : Addr) (h0 : Heap) (n0 : Nat) (Z0 : n0 ≤ h0.size) (P3 : Fld Z h0 x0 "java/lang/AbstractStringBuilder" "value" "[B" (.ref x1)) :
    Ctr l Z (⟨"java/lang/AbstractStringBuilder", "getValue", "()[B"⟩ : MethodName) jdk_68_method_64_code 1 (some (.array .byte)) ({ frames := 0, cells := 0, slots := 0, locals := 0 } : Room) #[(.ref x0)] h0 (fun v h L => v = some (.ref x1) ∧ Fr n0 L ∧ h = h0) := by
  refine Ctr.of (plainFor_of_name pn_c4) ?_
  intro p e s m below meth c T0 hx hZ hby hml hown hnm hret hlk e0 es X0
  refine Go.cast (ef_16_R m x0) ?_
  generalize hFF : EndN s _ _ _ = FF
  refine Go.aloadN X0 hx (pc' := 1) rfl (hb hby d16_0) rfl rfl ?_
  refine Go.getF X0 hx hZ hown (host := "") (Or.inl (tw_69 hw)) Via.refl e0 P3 (pc' := 4) rfl (hb hby d16_1) ?_
  intro T1 e1 X1
  subst hFF
  refine Go.retR X1 hx hlk (t := (.array .byte)) hret rfl rfl (hb hby d16_4) (by decide) (by decide) ?_
  rw [e1]
  exact ⟨rfl, (Fr.nil n0), rfl⟩
-- java/lang/AbstractStringBuilder.length
set_option maxRecDepth 65536 in
set_option maxHeartbeats 4000000 in
theorem au_57 (l : Launch) (Z : State) (a0 : Array Value) (hw : ∀ d ∈ tables_1, d.before a0 Z = true) (x0 : Addr) (h0 : Heap) (n0 : Nat) (Z0 : n0 ≤ h0.size) (P2 : Fld Z h0 x0 "java/lang/AbstractStringBuilder" "count" "I" (.int 1)) :
    Ctr l Z (⟨"java/lang/AbstractStringBuilder", "length", "()I"⟩ : MethodName) jdk_68_method_6_code 1 (some .int) ({ frames := 0, cells := 0, slots := 0, locals := 0 } : Room) #[(.ref x0)] h0 (fun v h L => v = some (.int 1) ∧ Fr n0 L ∧ h = h0) := by
  refine Ctr.of (plainFor_of_name pn_c4) ?_
  intro p e s m below meth c T0 hx hZ hby hml hown hnm hret hlk e0 es X0
  refine Go.cast (ef_18_R m x0) ?_
  generalize hFF : EndN s _ _ _ = FF
  refine Go.aloadN X0 hx (pc' := 1) rfl (hb hby d18_0) rfl rfl ?_
  refine Go.getF X0 hx hZ hown (host := "") (Or.inl (tw_99 hw)) Via.refl e0 P2 (pc' := 4) rfl (hb hby d18_1) ?_
  intro T1 e1 X1
  subst hFF
  refine Go.retI X1 hx hlk hret (hb hby d18_4) (by decide) (by decide) ?_
  rw [e1]
  exact ⟨rfl, (Fr.nil n0), rfl⟩
-- java/lang/StringBuilder.length
set_option maxRecDepth 65536 in
set_option maxHeartbeats 4000000 in
theorem au_56 (l : Launch) (Z : State) (a0 : Array Value) (hw : ∀ d ∈ tables_1, d.before a0 Z = true) (x0 : Addr) (h0 : Heap) (n0 : Nat) (Z0 : n0 ≤ h0.size) (P0 : Exa Z h0 x0 "java/lang/StringBuilder") (P2 : Fld Z h0 x0 "java/lang/AbstractStringBuilder" "count" "I" (.int 1)) :
    Ctr l Z (⟨"java/lang/StringBuilder", "length", "()I"⟩ : MethodName) jdk_67_method_93_code 1 (some .int) ({ frames := 1, cells := 0, slots := 0, locals := 12 } : Room) #[(.ref x0)] h0 (fun v h L => v = some (.int 1) ∧ Fr n0 L ∧ h = h0) := by
  refine Ctr.of (plainFor_of_name pn_c5) ?_
  intro p e s m below meth c T0 hx hZ hby hml hown hnm hret hlk e0 es X0
  refine Go.cast (ef_17_R m x0) ?_
  generalize hFF : EndN s _ _ _ = FF
  refine Go.aloadN X0 hx (pc' := 1) rfl (hb hby d17_0) rfl rfl ?_
  refine Go.callUp X0 hx hZ hown (tw_96 hw) (own_sameself (tw_88 hw) rfl (tw_92 hw) (by decide)) (tw_92 hw) (tw_97 hw) (by decide) (tw_98 hw) (tw_98 hw) (tw_65 hw) (au_57 l Z a0 hw x0 h0 n0 Z0 P2) e0 P0 (argsL := []) (rest := []) (pc' := 4) rfl (by rw [hml]; rfl) (lenOf pd_13 rfl) rfl rfl (W := 0) (Nat.le_of_eq rfl) (by decide) (by decide) (by decide) (by decide) (hb hby d17_1) ?_
  intro v1 T1 L1 q1 X1
  obtain ⟨rfl, N1, e1⟩ := q1
  show Go _ _ _ _ (T1.setTop (mkF m 4 #[.val (.ref x0)] [(.int 1)]))
  subst hFF
  refine Go.retI X1 hx hlk hret (hb hby d17_4) (by decide) (by decide) ?_
  rw [e1]
  exact ⟨rfl, (Fr.app (Fr.nil n0) N1), rfl⟩
-- java/lang/AbstractStringBuilder.isLatin1
set_option maxRecDepth 65536 in
set_option maxHeartbeats 4000000 in
theorem au_58 (l : Launch) (Z : State) (a0 : Array Value) (hw : ∀ d ∈ tables_1, d.before a0 Z = true) (x0 : Addr) (gz1 : Int32) (gv5 : Value) (h0 : Heap) (n0 : Nat) (Z0 : n0 ≤ h0.size) (O0 : Old Z n0 h0) (G : Glob Z gz1 gv5) (P1 : Fld Z h0 x0 "java/lang/AbstractStringBuilder" "coder" "B" (.int 0)) :
    Ctr l Z (⟨"java/lang/AbstractStringBuilder", "isLatin1", "()Z"⟩ : MethodName) jdk_68_method_68_code 1 (some .boolean) ({ frames := 0, cells := 0, slots := 0, locals := 0 } : Room) #[(.ref x0)] h0 (fun v h L => v = some (.int 1) ∧ Fr n0 L ∧ h = h0) := by
  refine Ctr.of (plainFor_of_name pn_c4) ?_
  intro p e s m below meth c T0 hx hZ hby hml hown hnm hret hlk e0 es X0
  have G' := G
  obtain ⟨G0, -, G2, -⟩ := G'
  refine Go.cast (ef_19_R m x0) ?_
  generalize hFF : EndN s _ _ _ = FF
  have fk1 : Sta Z h0 "java/lang/String" "COMPACT_STRINGS" "Z" (.int gz1) := G0.ext O0.2
  refine Go.getS X0 hx hZ hown (host := "") (Or.inl (tw_68 hw)) Via.refl e0 fk1 (pc' := 3) rfl (hb hby d19_0) ?_
  intro T2 e2 X2
  refine Go.ifNo X2 hx (pc' := 6) rfl (hb hby d19_3) (feq G2).1 ?_
  refine Go.aloadN X2 hx (pc' := 7) rfl (hb hby d19_6) rfl rfl ?_
  refine Go.getF X2 hx hZ hown (host := "") (Or.inl (tw_71 hw)) Via.refl e2 P1 (pc' := 10) rfl (hb hby d19_7) ?_
  intro T3 e3 X3
  refine Go.ifNo X3 hx (pc' := 13) rfl (hb hby d19_10) (by decide) ?_
  refine Go.iconst X3 hx (pc' := 14) rfl (hb hby d19_13) (v := (1 : Int32)) rfl ?_
  refine Go.goto X3 hx (pc' := 18) (hb hby d19_14) (by decide) (by decide) ?_
  subst hFF
  refine Go.retN X3 hx hlk (t := .boolean) hret (by simp) (hb hby d19_18) (by decide) (by decide) ?_
  rw [e3]
  exact ⟨(congrArg (fun z => some (Value.int z)) (by decide : nar .boolean (1 : Int32) = (1 : Int32))), (Fr.nil n0), rfl⟩
-- java/util/Arrays.copyOfRange
set_option maxRecDepth 65536 in
set_option maxHeartbeats 4000000 in
theorem au_59 (l : Launch) (Z : State) (a0 : Array Value) (hw : ∀ d ∈ tables_1, d.before a0 Z = true) (x0 : Addr) (kk0 : ClassId) (p0 : Int32) (h0 : Heap) (n0 : Nat) (Z0 : n0 ≤ h0.size) (P0 : Arv Z h0 x0 kk0 .byte (1 : Int32) [(.int p0)] (.int 0)) (P1 : Exa Z h0 x0 "[B") :
    Ctr l Z (⟨"java/util/Arrays", "copyOfRange", "([BII)[B"⟩ : MethodName) jdk_65_method_132_code 3 (some (.array .byte)) ({ frames := 1, cells := 1, slots := 1, locals := 14 } : Room) #[(.ref x0), (.int 0), (.int 1)] h0 (fun v h L => ∃ (y0 : Addr), v = some (.ref y0) ∧ Fr n0 L ∧ Keep h0 h [] ∧ h0.size ≤ y0 ∧ Arv Z h y0 kk0 .byte (1 : Int32) [(.int p0)] (.int 0) ∧ Exa Z h y0 "[B") := by
  refine Ctr.of (plainFor_of_name pn_c6) ?_
  intro p e s m below meth c T0 hx hZ hby hml hown hnm hret hlk e0 es X0
  refine Go.cast (ef_20_RII m x0 (0 : Int32) (1 : Int32)) ?_
  generalize hFF : EndN s _ _ _ = FF
  refine Go.iloadN X0 hx (pc' := 1) rfl (hb hby d20_0) rfl ?_
  refine Go.ifNo X0 hx (pc' := 4) rfl (hb hby d20_1) (by decide) ?_
  refine Go.iloadN X0 hx (pc' := 5) rfl (hb hby d20_4) rfl ?_
  refine Go.aloadN X0 hx (pc' := 6) rfl (hb hby d20_5) rfl rfl ?_
  refine Go.arraylength X0 hx hZ e0 P0 (pc' := 7) rfl (hb hby d20_6) ?_
  refine Go.icmpYes X0 hx (pc' := 17) (hb hby d20_7) (by decide) (by decide) (by decide) ?_
  refine Go.aloadN X0 hx (pc' := 18) rfl (hb hby d20_17) rfl rfl ?_
  refine Go.clone X0 hx hZ hown (tw_110 hw) (tw_111 hw) (tw_115 hw) (tw_113 hw) (tw_114 hw) (tw_116 hw) e0 P0 P1 (W := 0) (cap := 1) (by decide) (by rw [hml]; rfl) (Nat.le_of_eq rfl) (by decide) (by decide) (by decide) (by decide) (pc' := 21) rfl (hb hby d20_18) ?_
  intro T1 h1 b1 e1 E1 g1 V1 A1 X1
  refine Go.castY X1 hx hZ hown (tw_117 hw) e1 (Ins.self A1) (pc' := 24) rfl (hb hby d20_21) ?_
  intro T2 e2 X2
  subst hFF
  refine Go.retR X2 hx hlk (t := (.array .byte)) hret rfl rfl (hb hby d20_24) (by decide) (by decide) ?_
  rw [e2]
  have Kp3 : Keep h0 h1 [] := ((Keep.refl h0 []).ext E1)
  have sz4 : h0.size ≤ b1 := Nat.le_trans (Keep.refl h0 []).1 (Nat.le_of_eq g1.symm)
  exact ⟨b1, rfl, (Fr.nil n0), Kp3, sz4, V1, A1⟩
-- java/lang/String.init
set_option maxRecDepth 65536 in
set_option maxHeartbeats 4000000 in
theorem au_54 (l : Launch) (Z : State) (a0 : Array Value) (hw : ∀ d ∈ tables_1, d.before a0 Z = true) (x0 : Addr) (x1 : Addr) (x2 : Addr) (kk0 : ClassId) (p0 : Int32) (gz1 : Int32) (gv5 : Value) (h0 : Heap) (n0 : Nat) (Z0 : n0 ≤ h0.size) (O0 : Old Z n0 h0) (G : Glob Z gz1 gv5) (P0 : Exa Z h0 x0 "java/lang/String") (P1 : Fld Z h0 x0 "java/lang/String" "coder" "B" (.int 0)) (P2 : Fld Z h0 x0 "java/lang/String" "value" "[B" .null) (P3 : Exa Z h0 x1 "java/lang/StringBuilder") (P4 : Fld Z h0 x1 "java/lang/AbstractStringBuilder" "coder" "B" (.int 0)) (P5 : Fld Z h0 x1 "java/lang/AbstractStringBuilder" "count" "I" (.int 1)) (P6 : Fld Z h0 x1 "java/lang/AbstractStringBuilder" "value" "[B" (.ref x2)) (P7 : Arv Z h0 x2 kk0 .byte (1 : Int32) [(.int p0)] (.int 0)) (P8 : Exa Z h0 x2 "[B") (g_x0 : n0 ≤ x0) (ne_x2_x0 : x2 ≠ x0) :
    Ctr l Z (⟨"java/lang/String", "<init>", "(Ljava/lang/AbstractStringBuilder;Ljava/lang/Void;)V"⟩ : MethodName) jdk_42_method_150_code 5 none ({ frames := 2, cells := 1, slots := 1, locals := 29 } : Room) #[(.ref x0), (.ref x1), .null] h0 (fun v h L => ∃ (y0 : Addr), v = none ∧ Fr n0 L ∧ Keep h0 h [x0] ∧ h0.size ≤ y0 ∧ Exa Z h x0 "java/lang/String" ∧ Fld Z h x0 "java/lang/String" "coder" "B" (.int 0) ∧ Fld Z h x0 "java/lang/String" "value" "[B" (.ref y0) ∧ Arv Z h y0 kk0 .byte (1 : Int32) [(.int p0)] (.int 0) ∧ Exa Z h y0 "[B") := by
  refine Ctr.of (plainFor_of_name pn_c1) ?_
  intro p e s m below meth c T0 hx hZ hby hml hown hnm hret hlk e0 es X0
  refine Go.cast (ef_15_RRN m x0 x1) ?_
  generalize hFF : EndN s _ _ _ = FF
  refine Go.aloadN X0 hx (pc' := 1) rfl (hb hby d15_0) rfl rfl ?_
  refine Go.initO X0 hx hZ hown (tw_21 hw) (tw_22 hw) (tw_23 hw) e0 (by decide) (W := 0) (by rw [hml]; rfl) (Nat.le_of_eq rfl) (by decide) (pc' := 4) rfl (hb hby d15_1) ?_
  intro T1 e1 X1
  refine Go.aloadN X1 hx (pc' := 5) rfl (hb hby d15_4) rfl rfl ?_
  refine Go.callV X1 hx hZ hown (tw_85 hw) (tw_86 hw) (notFace_of_selects (args := #[]) (mvT hZ (tw_88 hw))) (tw_88 hw) (tw_87 hw) (by decide) (tw_89 hw) (tw_65 hw) (au_55 l Z a0 hw x1 x2 h0 n0 Z0 P6) e1 P3 (argsL := []) (rest := []) (pc' := 8) rfl (by rw [hml]; rfl) (lenOf pd_15 rfl) rfl rfl (W := 0) (Nat.le_of_eq rfl) (by decide) (by decide) (by decide) (by decide) (hb hby d15_5) ?_
  intro v2 T2 L2 q2 X2
  obtain ⟨rfl, N2, e2⟩ := q2
  show Go _ _ _ _ (T2.setTop (mkF m 8 #[.val (.ref x0), .val (.ref x1), .val .null, .unset, .unset] [(.ref x2)]))
  refine Go.astoreN X2 hx (pc' := 9) rfl (hb hby d15_8) (Ls' := #[.val (.ref x0), .val (.ref x1), .val .null, .val (.ref x2), .unset]) rfl rfl ?_
  refine Go.aloadN X2 hx (pc' := 10) rfl (hb hby d15_9) rfl rfl ?_
  refine Go.callV X2 hx hZ hown (tw_90 hw) (tw_91 hw) (own_nf (args := #[]) (mvT hZ (tw_88 hw)) rfl) (tw_93 hw) (tw_94 hw) (by decide) (tw_95 hw) (tw_46 hw) (au_56 l Z a0 hw x1 h0 n0 Z0 P3 P5) e2 P3 (argsL := []) (rest := []) (pc' := 13) rfl (by rw [hml]; rfl) (lenOf pd_13 rfl) rfl rfl (W := 0) (Nat.le_of_eq rfl) (by decide) (by decide) (by decide) (by decide) (hb hby d15_10) ?_
  intro v3 T3 L3 q3 X3
  obtain ⟨rfl, N3, e3⟩ := q3
  show Go _ _ _ _ (T3.setTop (mkF m 13 #[.val (.ref x0), .val (.ref x1), .val .null, .val (.ref x2), .unset] [(.int 1)]))
  refine Go.istore X3 hx (pc' := 15) rfl (hb hby d15_13) (Ls' := #[.val (.ref x0), .val (.ref x1), .val .null, .val (.ref x2), .val (.int 1)]) rfl ?_
  refine Go.aloadN X3 hx (pc' := 16) rfl (hb hby d15_15) rfl rfl ?_
  refine Go.callV X3 hx hZ hown (tw_101 hw) (tw_102 hw) (notFace_of_selects (args := #[]) (mvT hZ (tw_104 hw))) (tw_104 hw) (tw_103 hw) (by decide) (tw_105 hw) (tw_65 hw) (au_58 l Z a0 hw x1 gz1 gv5 h0 n0 Z0 O0 G P4) e3 P3 (argsL := []) (rest := []) (pc' := 19) rfl (by rw [hml]; rfl) (lenOf pd_16 rfl) rfl rfl (W := 0) (Nat.le_of_eq rfl) (by decide) (by decide) (by decide) (by decide) (hb hby d15_16) ?_
  intro v4 T4 L4 q4 X4
  obtain ⟨rfl, N4, e4⟩ := q4
  show Go _ _ _ _ (T4.setTop (mkF m 19 #[.val (.ref x0), .val (.ref x1), .val .null, .val (.ref x2), .val (.int 1)] [(.int 1)]))
  refine Go.ifNo X4 hx (pc' := 22) rfl (hb hby d15_19) (by decide) ?_
  refine Go.aloadN X4 hx (pc' := 23) rfl (hb hby d15_22) rfl rfl ?_
  refine Go.iconst X4 hx (pc' := 24) rfl (hb hby d15_23) (v := (0 : Int32)) rfl ?_
  refine Go.putFN X4 hx hZ hown (tw_31 hw) Via.refl e4 P1 P0 (Or.inr ⟨(tw_27 hw), rfl, hnm⟩) (tw_11 hw) (ty := .byte) (v' := (.int 0)) (by decide) (by decide) (by decide) (pc' := 27) rfl (hb hby d15_24) ?_
  intro T5 h5 e5 W5 F5 X5
  have N5 := Fr.snoc X5 (Fr.app (Fr.app (Fr.app (Fr.nil n0) N2) N3) N4) g_x0
  refine Go.aloadN X5 hx (pc' := 28) rfl (hb hby d15_27) rfl rfl ?_
  refine Go.aloadN X5 hx (pc' := 29) rfl (hb hby d15_28) rfl rfl ?_
  refine Go.iconst X5 hx (pc' := 30) rfl (hb hby d15_29) (v := (0 : Int32)) rfl ?_
  refine Go.iload X5 hx (pc' := 32) rfl (hb hby d15_30) rfl ?_
  have Kp7 : Keep h0 h5 [x0] := ((Keep.refl h0 [x0]).wr W5 (Or.inl (List.mem_of_getElem? (i := 0) rfl)))
  have Zn6 : n0 ≤ h5.size := Nat.le_trans Z0 Kp7.1
  have fk8 := (P7.other W5 ne_x2_x0)
  have fk9 : Exa Z h5 x2 "[B" := (P8.wr W5)
  refine Go.callS X5 hx hZ hown (tw_106 hw) (tw_107 hw) (tw_108 hw) (tw_109 hw) (by decide) (tw_109 hw) (tw_108 hw) (au_59 l Z a0 hw x2 kk0 p0 h5 n0 Zn6 fk8 fk9) e5 (argsL := [(.ref x2), (.int 0), (.int 1)]) (rest := [(.ref x0)]) (pc' := 35) rfl (by rw [hml]; rfl) (lenOf pd_17 rfl) rfl rfl (W := 1) (Nat.le_of_eq rfl) (by decide) (by decide) (by decide) (by decide) (hb hby d15_32) ?_
  intro v10 T10 L10 q10 X10
  obtain ⟨h10, e10⟩ : ∃ z, T10.heap = z := ⟨_, rfl⟩
  rw [e10] at q10
  obtain ⟨b10_0, rfl, N10, K10, s10_0, F10_0, F10_1⟩ := q10
  show Go _ _ _ _ (T10.setTop (mkF m 35 #[.val (.ref x0), .val (.ref x1), .val .null, .val (.ref x2), .val (.int 1)] [(.ref b10_0), (.ref x0)]))
  have fk11 : Fld Z h10 x0 "java/lang/String" "value" "[B" .null := ((P2.other W5 (Or.inr (slot_ne (Or.inr (tw_26 hw)) (Or.inr (tw_27 hw)) (by decide) (t := (.array .byte)) (t' := .byte) (by decide) (by decide)))).keep K10 nin0)
  have fk12 : Exa Z h10 x0 "java/lang/String" := ((P0.wr W5).keep K10)
  refine Go.putF X10 hx hZ hown (host := "") (Or.inl (tw_30 hw)) Via.refl e10 fk11 fk12 (Or.inr ⟨(tw_26 hw), rfl, hnm⟩) (tw_11 hw) (ty := (.array .byte)) (by decide) rfl rfl (pc' := 38) rfl (hb hby d15_35) ?_
  intro T13 h13 e13 W13 F13 X13
  have N13 := Fr.snoc X13 (Fr.app N5 N10) g_x0
  refine Go.goto X13 hx (pc' := 97) (hb hby d15_38) (by decide) (by decide) ?_
  subst hFF
  refine Go.ret0 X13 hx hlk hret (hb hby d15_97) (by decide) (by decide) ?_
  rw [e13]
  have fk14 : Exa Z h13 x0 "java/lang/String" := (fk12.wr W13)
  have fk15 : Fld Z h13 x0 "java/lang/String" "coder" "B" (.int 0) := ((F5.keep K10 nin0).other W13 (Or.inr (slot_ne (Or.inr (tw_27 hw)) (Or.inr (tw_26 hw)) (by decide) (t := .byte) (t' := (.array .byte)) (by decide) (by decide))))
  have fk17 : Exa Z h5 x0 "java/lang/String" := (P0.wr W5)
  have ne16 : x0 ≠ b10_0 := Nat.ne_of_lt (Nat.lt_of_lt_of_le fk17.lt s10_0)
  have fk18 := (F10_0.other W13 (Ne.symm ne16))
  have fk19 : Exa Z h13 b10_0 "[B" := (F10_1.wr W13)
  have Kp20 : Keep h0 h10 [x0] := (Kp7.trans K10 all0)
  have Kp21 : Keep h0 h13 [x0] := (Kp20.wr W13 (Or.inl (List.mem_of_getElem? (i := 0) rfl)))
  have sz22 : h0.size ≤ b10_0 := Nat.le_trans Kp7.1 s10_0
  exact ⟨b10_0, rfl, N13, Kp21, sz22, fk14, fk15, F13, fk18, fk19⟩
-- java/lang/String.init
set_option maxRecDepth 65536 in
set_option maxHeartbeats 4000000 in
theorem au_53 (l : Launch) (Z : State) (a0 : Array Value) (hw : ∀ d ∈ tables_1, d.before a0 Z = true) (x0 : Addr) (x1 : Addr) (x2 : Addr) (kk0 : ClassId) (p0 : Int32) (gz1 : Int32) (gv5 : Value) (h0 : Heap) (n0 : Nat) (Z0 : n0 ≤ h0.size) (O0 : Old Z n0 h0) (G : Glob Z gz1 gv5) (P0 : Exa Z h0 x0 "java/lang/String") (P1 : Fld Z h0 x0 "java/lang/String" "coder" "B" (.int 0)) (P2 : Fld Z h0 x0 "java/lang/String" "value" "[B" .null) (P3 : Exa Z h0 x1 "java/lang/StringBuilder") (P4 : Fld Z h0 x1 "java/lang/AbstractStringBuilder" "coder" "B" (.int 0)) (P5 : Fld Z h0 x1 "java/lang/AbstractStringBuilder" "count" "I" (.int 1)) (P6 : Fld Z h0 x1 "java/lang/AbstractStringBuilder" "value" "[B" (.ref x2)) (P7 : Arv Z h0 x2 kk0 .byte (1 : Int32) [(.int p0)] (.int 0)) (P8 : Exa Z h0 x2 "[B") (g_x0 : n0 ≤ x0) (ne_x2_x0 : x2 ≠ x0) :
    Ctr l Z (⟨"java/lang/String", "<init>", "(Ljava/lang/StringBuilder;)V"⟩ : MethodName) jdk_42_method_53_code 2 none ({ frames := 3, cells := 1, slots := 1, locals := 45 } : Room) #[(.ref x0), (.ref x1)] h0 (fun v h L => ∃ (y0 : Addr), v = none ∧ Fr n0 L ∧ Keep h0 h [x0] ∧ h0.size ≤ y0 ∧ Exa Z h x0 "java/lang/String" ∧ Fld Z h x0 "java/lang/String" "coder" "B" (.int 0) ∧ Fld Z h x0 "java/lang/String" "value" "[B" (.ref y0) ∧ Arv Z h y0 kk0 .byte (1 : Int32) [(.int p0)] (.int 0) ∧ Exa Z h y0 "[B") := by
  refine Ctr.of (plainFor_of_name pn_c1) ?_
  intro p e s m below meth c T0 hx hZ hby hml hown hnm hret hlk e0 es X0
  refine Go.cast (ef_14_RR m x0 x1) ?_
  generalize hFF : EndN s _ _ _ = FF
  refine Go.aloadN X0 hx (pc' := 1) rfl (hb hby d14_0) rfl rfl ?_
  refine Go.aloadN X0 hx (pc' := 2) rfl (hb hby d14_1) rfl rfl ?_
  refine Go.anull X0 hx (pc' := 3) rfl (hb hby d14_2) ?_
  refine Go.callN X0 hx hZ hown rfl (tw_82 hw) (tw_83 hw) (tw_84 hw) (by decide) (tw_84 hw) (tw_12 hw) (au_54 l Z a0 hw x0 x1 x2 kk0 p0 gz1 gv5 h0 n0 Z0 O0 G P0 P1 P2 P3 P4 P5 P6 P7 P8 g_x0 ne_x2_x0) e0 (a := x0) (argsL := [(.ref x1), .null]) (rest := []) (pc' := 6) rfl (by rw [hml]; rfl) (lenOf pd_18 rfl) rfl rfl (W := 0) (Nat.le_of_eq rfl) (by decide) (by decide) (by decide) (by decide) (hb hby d14_3) ?_
  intro v1 T1 L1 q1 X1
  obtain ⟨h1, e1⟩ : ∃ z, T1.heap = z := ⟨_, rfl⟩
  rw [e1] at q1
  obtain ⟨b1_0, rfl, N1, K1, s1_0, F1_0, F1_1, F1_2, F1_3, F1_4⟩ := q1
  show Go _ _ _ _ (T1.setTop (mkF m 6 #[.val (.ref x0), .val (.ref x1)] []))
  subst hFF
  refine Go.ret0 X1 hx hlk hret (hb hby d14_6) (by decide) (by decide) ?_
  rw [e1]
  have Kp2 : Keep h0 h1 [x0] := ((Keep.refl h0 [x0]).trans K1 (allS (Or.inl (List.mem_of_getElem? (i := 0) rfl)) all0))
  have sz3 : h0.size ≤ b1_0 := Nat.le_trans (Keep.refl h0 [x0]).1 s1_0
  exact ⟨b1_0, rfl, (Fr.app (Fr.nil n0) N1), Kp2, sz3, F1_0, F1_1, F1_2, F1_3, F1_4⟩
-- java/lang/StringBuilder.toString
set_option maxRecDepth 65536 in
set_option maxHeartbeats 4000000 in
theorem au_52 (l : Launch) (Z : State) (a0 : Array Value) (hw : ∀ d ∈ tables_1, d.before a0 Z = true) (x0 : Addr) (x1 : Addr) (kk0 : ClassId) (p0 : Int32) (gz1 : Int32) (gv5 : Value) (h0 : Heap) (n0 : Nat) (Z0 : n0 ≤ h0.size) (O0 : Old Z n0 h0) (G : Glob Z gz1 gv5) (P0 : Exa Z h0 x0 "java/lang/StringBuilder") (P1 : Fld Z h0 x0 "java/lang/AbstractStringBuilder" "coder" "B" (.int 0)) (P2 : Fld Z h0 x0 "java/lang/AbstractStringBuilder" "count" "I" (.int 1)) (P3 : Fld Z h0 x0 "java/lang/AbstractStringBuilder" "value" "[B" (.ref x1)) (P4 : Arv Z h0 x1 kk0 .byte (1 : Int32) [(.int p0)] (.int 0)) (P5 : Exa Z h0 x1 "[B") :
    Ctr l Z (⟨"java/lang/StringBuilder", "toString", "()Ljava/lang/String;"⟩ : MethodName) jdk_67_method_42_code 1 (some (.object "java/lang/String")) ({ frames := 4, cells := 2, slots := 5, locals := 59 } : Room) #[(.ref x0)] h0 (fun v h L => ∃ (y0 : Addr) (y1 : Addr), v = some (.ref y0) ∧ Fr n0 L ∧ Keep h0 h [] ∧ h0.size ≤ y0 ∧ h0.size ≤ y1 ∧ y1 ≠ y0 ∧ Exa Z h y0 "java/lang/String" ∧ Fld Z h y0 "java/lang/String" "coder" "B" (.int 0) ∧ Fld Z h y0 "java/lang/String" "value" "[B" (.ref y1) ∧ Arv Z h y1 kk0 .byte (1 : Int32) [(.int p0)] (.int 0) ∧ Exa Z h y1 "[B") := by
  refine Ctr.of (plainFor_of_name pn_c5) ?_
  intro p e s m below meth c T0 hx hZ hby hml hown hnm hret hlk e0 es X0
  refine Go.cast (ef_13_R m x0) ?_
  generalize hFF : EndN s _ _ _ = FF
  refine Go.new X0 hx hZ hown (tw_78 hw) (tw_11 hw) (tw_12 hw) e0 (by decide) (by decide) (pc' := 3) rfl (hb hby d13_0) ?_
  intro T1 h1 b1 e1 E1 g1 A1 D1 X1
  have b1_value : Fld Z h1 b1 "java/lang/String" "value" "[B" .null := D1 (Or.inr (tw_26 hw)) (ty := (.array .byte)) (by decide)
  have b1_coder : Fld Z h1 b1 "java/lang/String" "coder" "B" (.int 0) := D1 (Or.inr (tw_27 hw)) (ty := .byte) (by decide)
  refine Go.dup X1 hx (pc' := 4) rfl (hb hby d13_3) rfl ?_
  refine Go.aloadN X1 hx (pc' := 5) rfl (hb hby d13_4) rfl rfl ?_
  have Kp3 : Keep h0 h1 [] := ((Keep.refl h0 []).ext E1)
  have Zn2 : n0 ≤ h1.size := Nat.le_trans Z0 Kp3.1
  have O4 := (O0.ext E1)
  have fk5 : Exa Z h1 x0 "java/lang/StringBuilder" := (P0.ext E1)
  have fk6 : Fld Z h1 x0 "java/lang/AbstractStringBuilder" "coder" "B" (.int 0) := (P1.ext E1)
  have fk7 : Fld Z h1 x0 "java/lang/AbstractStringBuilder" "count" "I" (.int 1) := (P2.ext E1)
  have fk8 : Fld Z h1 x0 "java/lang/AbstractStringBuilder" "value" "[B" (.ref x1) := (P3.ext E1)
  have fk9 := (P4.ext E1)
  have fk10 : Exa Z h1 x1 "[B" := (P5.ext E1)
  have sz12 : h0.size ≤ b1 := Nat.le_trans (Keep.refl h0 []).1 (Nat.le_of_eq g1.symm)
  have ge11 : n0 ≤ b1 := Nat.le_trans Z0 sz12
  have ne13 : x1 ≠ b1 := Nat.ne_of_lt (Nat.lt_of_lt_of_le P4.lt (Nat.le_of_eq g1.symm))
  refine Go.callN X1 hx hZ hown rfl (tw_79 hw) (tw_80 hw) (tw_81 hw) (by decide) (tw_81 hw) (tw_12 hw) (au_53 l Z a0 hw b1 x0 x1 kk0 p0 gz1 gv5 h1 n0 Zn2 O4 G A1 b1_coder b1_value fk5 fk6 fk7 fk8 fk9 fk10 ge11 ne13) e1 (a := b1) (argsL := [(.ref x0)]) (rest := [(.ref b1)]) (pc' := 8) rfl (by rw [hml]; rfl) (lenOf pd_19 rfl) rfl rfl (W := 1) (Nat.le_of_eq rfl) (by decide) (by decide) (by decide) (by decide) (hb hby d13_5) ?_
  intro v14 T14 L14 q14 X14
  obtain ⟨h14, e14⟩ : ∃ z, T14.heap = z := ⟨_, rfl⟩
  rw [e14] at q14
  obtain ⟨b14_0, rfl, N14, K14, s14_0, F14_0, F14_1, F14_2, F14_3, F14_4⟩ := q14
  show Go _ _ _ _ (T14.setTop (mkF m 8 #[.val (.ref x0)] [(.ref b1)]))
  subst hFF
  refine Go.retR X14 hx hlk (t := (.object "java/lang/String")) hret rfl rfl (hb hby d13_8) (by decide) (by decide) ?_
  rw [e14]
  have Kp15 : Keep h0 h14 [] := (Kp3.trans K14 (allS (Or.inr sz12) all0))
  have sz16 : h0.size ≤ b14_0 := Nat.le_trans Kp3.1 s14_0
  have ne17 : b1 ≠ b14_0 := Nat.ne_of_lt (Nat.lt_of_lt_of_le A1.lt s14_0)
  exact ⟨b1, b14_0, rfl, (Fr.app (Fr.nil n0) N14), Kp15, sz12, sz16, (Ne.symm ne17), F14_0, F14_1, F14_2, F14_3, F14_4⟩
theorem d8_29 : decode prog_48_method_11_code 29 = .ok (.iload_n 3, 1) := by decide +kernel
theorem d8_30 : decode prog_48_method_11_code 30 = .ok (.bipush 65, 2) := by decide +kernel
theorem d8_32 : decode prog_48_method_11_code 32 = .ok (.if_icmp .lt 20, 3) := by decide +kernel
theorem d8_52 : decode prog_48_method_11_code 52 = .ok (.iload_n 3, 1) := by decide +kernel
theorem d8_35 : decode prog_48_method_11_code 35 = .ok (.iload_n 3, 1) := by decide +kernel
theorem d8_36 : decode prog_48_method_11_code 36 = .ok (.bipush 90, 2) := by decide +kernel
theorem d8_38 : decode prog_48_method_11_code 38 = .ok (.if_icmp .gt 14, 3) := by decide +kernel
theorem d8_41 : decode prog_48_method_11_code 41 = .ok (.iload_n 3, 1) := by decide +kernel
theorem d8_42 : decode prog_48_method_11_code 42 = .ok (.bipush 65, 2) := by decide +kernel
theorem d8_44 : decode prog_48_method_11_code 44 = .ok (.isub, 1) := by decide +kernel
theorem d8_45 : decode prog_48_method_11_code 45 = .ok (.bipush 97, 2) := by decide +kernel
theorem d8_47 : decode prog_48_method_11_code 47 = .ok (.iadd, 1) := by decide +kernel
theorem d8_48 : decode prog_48_method_11_code 48 = .ok (.i2c, 1) := by decide +kernel
theorem d8_49 : decode prog_48_method_11_code 49 = .ok (.goto 4, 3) := by decide +kernel
-- java/lang/String.coder
set_option maxRecDepth 65536 in
set_option maxHeartbeats 4000000 in
theorem au_61 (l : Launch) (Z : State) (a0 : Array Value) (hw : ∀ d ∈ tables_1, d.before a0 Z = true) (x0 : Addr) (gz1 : Int32) (gv5 : Value) (h0 : Heap) (n0 : Nat) (Z0 : n0 ≤ h0.size) (O0 : Old Z n0 h0) (G : Glob Z gz1 gv5) (P1 : Fld Z h0 x0 "java/lang/String" "coder" "B" (.int 0)) :
    Ctr l Z (⟨"java/lang/String", "coder", "()B"⟩ : MethodName) jdk_42_method_152_code 1 (some .byte) ({ frames := 0, cells := 0, slots := 0, locals := 0 } : Room) #[(.ref x0)] h0 (fun v h L => v = some (.int 0) ∧ Fr n0 L ∧ h = h0) := by
  refine Ctr.of (plainFor_of_name pn_c1) ?_
  intro p e s m below meth c T0 hx hZ hby hml hown hnm hret hlk e0 es X0
  have G' := G
  obtain ⟨G0, -, G2, -⟩ := G'
  refine Go.cast (ef_10_R m x0) ?_
  generalize hFF : EndN s _ _ _ = FF
  have fk1 : Sta Z h0 "java/lang/String" "COMPACT_STRINGS" "Z" (.int gz1) := G0.ext O0.2
  refine Go.getS X0 hx hZ hown (host := "") (Or.inl (tw_57 hw)) Via.refl e0 fk1 (pc' := 3) rfl (hb hby d10_0) ?_
  intro T2 e2 X2
  refine Go.ifNo X2 hx (pc' := 6) rfl (hb hby d10_3) (feq G2).1 ?_
  refine Go.aloadN X2 hx (pc' := 7) rfl (hb hby d10_6) rfl rfl ?_
  refine Go.getF X2 hx hZ hown (host := "") (Or.inl (tw_31 hw)) Via.refl e2 P1 (pc' := 10) rfl (hb hby d10_7) ?_
  intro T3 e3 X3
  refine Go.goto X3 hx (pc' := 14) (hb hby d10_10) (by decide) (by decide) ?_
  subst hFF
  refine Go.retN X3 hx hlk (t := .byte) hret (by simp) (hb hby d10_14) (by decide) (by decide) ?_
  rw [e3]
  exact ⟨(congrArg (fun z => some (Value.int z)) (by decide : nar .byte (0 : Int32) = (0 : Int32))), (Fr.nil n0), rfl⟩
-- java/lang/String.length
set_option maxRecDepth 65536 in
set_option maxHeartbeats 4000000 in
theorem au_60 (l : Launch) (Z : State) (a0 : Array Value) (hw : ∀ d ∈ tables_1, d.before a0 Z = true) (x0 : Addr) (x1 : Addr) (kk0 : ClassId) (p0 : Int32) (p1 : Int32) (gz1 : Int32) (gv5 : Value) (h0 : Heap) (n0 : Nat) (Z0 : n0 ≤ h0.size) (O0 : Old Z n0 h0) (G : Glob Z gz1 gv5) (P0 : Exa Z h0 x0 "java/lang/String") (P1 : Fld Z h0 x0 "java/lang/String" "coder" "B" (.int 0)) (P2 : Fld Z h0 x0 "java/lang/String" "value" "[B" (.ref x1)) (P3 : Arv Z h0 x1 kk0 .byte (2 : Int32) [(.int p0), (.int p1)] (.int 0)) :
    Ctr l Z (⟨"java/lang/String", "length", "()I"⟩ : MethodName) jdk_42_method_54_code 1 (some .int) ({ frames := 1, cells := 0, slots := 0, locals := 13 } : Room) #[(.ref x0)] h0 (fun v h L => v = some (.int 2) ∧ Fr n0 L ∧ h = h0) := by
  refine Ctr.of (plainFor_of_name pn_c1) ?_
  intro p e s m below meth c T0 hx hZ hby hml hown hnm hret hlk e0 es X0
  refine Go.cast (ef_9_R m x0) ?_
  generalize hFF : EndN s _ _ _ = FF
  refine Go.aloadN X0 hx (pc' := 1) rfl (hb hby d9_0) rfl rfl ?_
  refine Go.getF X0 hx hZ hown (host := "") (Or.inl (tw_30 hw)) Via.refl e0 P2 (pc' := 4) rfl (hb hby d9_1) ?_
  intro T1 e1 X1
  refine Go.arraylength X1 hx hZ e1 P3 (pc' := 5) rfl (hb hby d9_4) ?_
  refine Go.aloadN X1 hx (pc' := 6) rfl (hb hby d9_5) rfl rfl ?_
  refine Go.callV X1 hx hZ hown (tw_52 hw) (tw_53 hw) (notFace_of_selects (args := #[]) (mvT hZ (tw_55 hw))) (tw_55 hw) (tw_54 hw) (by decide) (tw_56 hw) (tw_12 hw) (au_61 l Z a0 hw x0 gz1 gv5 h0 n0 Z0 O0 G P1) e1 P0 (argsL := []) (rest := [(.int 2)]) (pc' := 9) rfl (by rw [hml]; rfl) (lenOf pd_12 rfl) rfl rfl (W := 1) (Nat.le_of_eq rfl) (by decide) (by decide) (by decide) (by decide) (hb hby d9_6) ?_
  intro v2 T2 L2 q2 X2
  obtain ⟨rfl, N2, e2⟩ := q2
  show Go _ _ _ _ (T2.setTop (mkF m 9 #[.val (.ref x0)] [(.int 0), (.int 2)]))
  refine Go.ishr X2 hx (pc' := 10) rfl (hb hby d9_9) ?_
  rw [show ((2 : Int32) >>> ((0 : Int32) &&& 31)) = (2 : Int32) from by decide]
  subst hFF
  refine Go.retI X2 hx hlk hret (hb hby d9_10) (by decide) (by decide) ?_
  rw [e2]
  exact ⟨rfl, (Fr.app (Fr.nil n0) N2), rfl⟩
-- java/lang/AbstractStringBuilder.init
set_option maxRecDepth 65536 in
set_option maxHeartbeats 4000000 in
theorem au_63 (l : Launch) (Z : State) (a0 : Array Value) (hw : ∀ d ∈ tables_1, d.before a0 Z = true) (x0 : Addr) (gz1 : Int32) (gv5 : Value) (h0 : Heap) (n0 : Nat) (Z0 : n0 ≤ h0.size) (O0 : Old Z n0 h0) (G : Glob Z gz1 gv5) (P0 : Exa Z h0 x0 "java/lang/StringBuilder") (P1 : Fld Z h0 x0 "java/lang/AbstractStringBuilder" "coder" "B" (.int 0)) (P2 : Fld Z h0 x0 "java/lang/AbstractStringBuilder" "count" "I" (.int 0)) (P3 : Fld Z h0 x0 "java/lang/AbstractStringBuilder" "value" "[B" .null) (g_x0 : n0 ≤ x0) :
    Ctr l Z (⟨"java/lang/AbstractStringBuilder", "<init>", "(I)V"⟩ : MethodName) jdk_68_method_2_code 2 none ({ frames := 1, cells := 1, slots := 2, locals := 12 } : Room) #[(.ref x0), (.int 2)] h0 (fun v h L => ∃ (y0 : Addr) (y1 : ClassId), v = none ∧ Fr n0 L ∧ Keep h0 h [x0] ∧ h0.size ≤ y0 ∧ Exa Z h x0 "java/lang/StringBuilder" ∧ Fld Z h x0 "java/lang/AbstractStringBuilder" "coder" "B" (.int 0) ∧ Fld Z h x0 "java/lang/AbstractStringBuilder" "count" "I" (.int 0) ∧ Fld Z h x0 "java/lang/AbstractStringBuilder" "value" "[B" (.ref y0) ∧ Arv Z h y0 y1 .byte (2 : Int32) [(.int 0), (.int 0)] (.int 0) ∧ Exa Z h y0 "[B") := by
  refine Ctr.of (plainFor_of_name pn_c4) ?_
  intro p e s m below meth c T0 hx hZ hby hml hown hnm hret hlk e0 es X0
  have G' := G
  obtain ⟨G0, -, G2, -⟩ := G'
  refine Go.cast (ef_12_RI m x0 (2 : Int32)) ?_
  generalize hFF : EndN s _ _ _ = FF
  refine Go.aloadN X0 hx (pc' := 1) rfl (hb hby d12_0) rfl rfl ?_
  refine Go.initO X0 hx hZ hown (tw_67 hw) (tw_22 hw) (tw_23 hw) e0 (by decide) (W := 0) (by rw [hml]; rfl) (Nat.le_of_eq rfl) (by decide) (pc' := 4) rfl (hb hby d12_1) ?_
  intro T1 e1 X1
  have fk2 : Sta Z h0 "java/lang/String" "COMPACT_STRINGS" "Z" (.int gz1) := G0.ext O0.2
  refine Go.getS X1 hx hZ hown (host := "") (Or.inl (tw_68 hw)) Via.refl e1 fk2 (pc' := 7) rfl (hb hby d12_4) ?_
  intro T3 e3 X3
  refine Go.ifNo X3 hx (pc' := 10) rfl (hb hby d12_7) (feq G2).1 ?_
  refine Go.aloadN X3 hx (pc' := 11) rfl (hb hby d12_10) rfl rfl ?_
  refine Go.iloadN X3 hx (pc' := 12) rfl (hb hby d12_11) rfl ?_
  refine Go.newarray X3 hx hZ (ty := .byte) rfl (tw_25 hw) e3 (by decide) (cap := 2) (by decide) (by decide) (by decide) (by decide) (ad := "[B") (by decide) 2 (pc' := 14) rfl (hb hby d12_12) ?_
  intro T4 h4 b4 k4 e4 E4 g4 V4 A4 X4
  have V4' : Arv Z h4 b4 k4 .byte (2 : Int32) [(.int 0), (.int 0)] (.int 0) := V4
  have fk5 : Fld Z h4 x0 "java/lang/AbstractStringBuilder" "value" "[B" .null := (P3.ext E4)
  have fk6 : Exa Z h4 x0 "java/lang/StringBuilder" := (P0.ext E4)
  refine Go.putF X4 hx hZ hown (host := "") (Or.inl (tw_69 hw)) Via.refl e4 fk5 fk6 (Or.inl (tw_70 hw)) (tw_45 hw) (ty := (.array .byte)) (by decide) rfl rfl (pc' := 17) rfl (hb hby d12_14) ?_
  intro T7 h7 e7 W7 F7 X7
  have N7 := Fr.snoc X7 (Fr.nil n0) g_x0
  refine Go.aloadN X7 hx (pc' := 18) rfl (hb hby d12_17) rfl rfl ?_
  refine Go.iconst X7 hx (pc' := 19) rfl (hb hby d12_18) (v := (0 : Int32)) rfl ?_
  have fk8 : Fld Z h7 x0 "java/lang/AbstractStringBuilder" "coder" "B" (.int 0) := ((P1.ext E4).other W7 (Or.inr (slot_ne (Or.inl (tw_72 hw)) (Or.inl (tw_70 hw)) (by decide) (t := .byte) (t' := (.array .byte)) (by decide) (by decide))))
  have fk9 : Exa Z h7 x0 "java/lang/StringBuilder" := (fk6.wr W7)
  refine Go.putFN X7 hx hZ hown (tw_71 hw) Via.refl e7 fk8 fk9 (Or.inl (tw_72 hw)) (tw_45 hw) (ty := .byte) (v' := (.int 0)) (by decide) (by decide) (by decide) (pc' := 22) rfl (hb hby d12_19) ?_
  intro T10 h10 e10 W10 F10 X10
  have N10 := Fr.snoc X10 N7 g_x0
  refine Go.goto X10 hx (pc' := 38) (hb hby d12_22) (by decide) (by decide) ?_
  subst hFF
  refine Go.ret0 X10 hx hlk hret (hb hby d12_38) (by decide) (by decide) ?_
  rw [e10]
  have fk11 : Exa Z h10 x0 "java/lang/StringBuilder" := (fk9.wr W10)
  have fk12 : Fld Z h10 x0 "java/lang/AbstractStringBuilder" "count" "I" (.int 0) := (((P2.ext E4).other W7 (Or.inr (slot_ne (Or.inl (tw_100 hw)) (Or.inl (tw_70 hw)) (by decide) (t := .int) (t' := (.array .byte)) (by decide) (by decide)))).other W10 (Or.inr (slot_ne (Or.inl (tw_100 hw)) (Or.inl (tw_72 hw)) (by decide) (t := .int) (t' := .byte) (by decide) (by decide))))
  have fk13 : Fld Z h10 x0 "java/lang/AbstractStringBuilder" "value" "[B" (.ref b4) := (F7.other W10 (Or.inr (slot_ne (Or.inl (tw_70 hw)) (Or.inl (tw_72 hw)) (by decide) (t := (.array .byte)) (t' := .byte) (by decide) (by decide))))
  have ne14 : x0 ≠ b4 := Nat.ne_of_lt (Nat.lt_of_lt_of_le P0.lt (Nat.le_of_eq g4.symm))
  have fk15 := ((V4'.other W7 (Ne.symm ne14)).other W10 (Ne.symm ne14))
  have fk16 : Exa Z h10 b4 "[B" := ((A4.wr W7).wr W10)
  have Kp17 : Keep h0 h4 [x0] := ((Keep.refl h0 [x0]).ext E4)
  have Kp18 : Keep h0 h7 [x0] := (Kp17.wr W7 (Or.inl (List.mem_of_getElem? (i := 0) rfl)))
  have Kp19 : Keep h0 h10 [x0] := (Kp18.wr W10 (Or.inl (List.mem_of_getElem? (i := 0) rfl)))
  have sz20 : h0.size ≤ b4 := Nat.le_trans (Keep.refl h0 [x0]).1 (Nat.le_of_eq g4.symm)
  exact ⟨b4, k4, rfl, N10, Kp19, sz20, fk11, F10, fk12, fk13, fk15, fk16⟩
-- java/lang/StringBuilder.init
set_option maxRecDepth 65536 in
set_option maxHeartbeats 4000000 in
theorem au_62 (l : Launch) (Z : State) (a0 : Array Value) (hw : ∀ d ∈ tables_1, d.before a0 Z = true) (x0 : Addr) (gz1 : Int32) (gv5 : Value) (h0 : Heap) (n0 : Nat) (Z0 : n0 ≤ h0.size) (O0 : Old Z n0 h0) (G : Glob Z gz1 gv5) (P0 : Exa Z h0 x0 "java/lang/StringBuilder") (P1 : Fld Z h0 x0 "java/lang/AbstractStringBuilder" "coder" "B" (.int 0)) (P2 : Fld Z h0 x0 "java/lang/AbstractStringBuilder" "count" "I" (.int 0)) (P3 : Fld Z h0 x0 "java/lang/AbstractStringBuilder" "value" "[B" .null) (g_x0 : n0 ≤ x0) :
    Ctr l Z (⟨"java/lang/StringBuilder", "<init>", "(I)V"⟩ : MethodName) jdk_67_method_2_code 2 none ({ frames := 2, cells := 1, slots := 2, locals := 25 } : Room) #[(.ref x0), (.int 2)] h0 (fun v h L => ∃ (y0 : Addr) (y1 : ClassId), v = none ∧ Fr n0 L ∧ Keep h0 h [x0] ∧ h0.size ≤ y0 ∧ Exa Z h x0 "java/lang/StringBuilder" ∧ Fld Z h x0 "java/lang/AbstractStringBuilder" "coder" "B" (.int 0) ∧ Fld Z h x0 "java/lang/AbstractStringBuilder" "count" "I" (.int 0) ∧ Fld Z h x0 "java/lang/AbstractStringBuilder" "value" "[B" (.ref y0) ∧ Arv Z h y0 y1 .byte (2 : Int32) [(.int 0), (.int 0)] (.int 0) ∧ Exa Z h y0 "[B") := by
  refine Ctr.of (plainFor_of_name pn_c5) ?_
  intro p e s m below meth c T0 hx hZ hby hml hown hnm hret hlk e0 es X0
  refine Go.cast (ef_11_RI m x0 (2 : Int32)) ?_
  generalize hFF : EndN s _ _ _ = FF
  refine Go.aloadN X0 hx (pc' := 1) rfl (hb hby d11_0) rfl rfl ?_
  refine Go.iloadN X0 hx (pc' := 2) rfl (hb hby d11_1) rfl ?_
  refine Go.callN X0 hx hZ hown rfl (tw_61 hw) (tw_62 hw) (tw_66 hw) (by decide) (tw_66 hw) (tw_65 hw) (au_63 l Z a0 hw x0 gz1 gv5 h0 n0 Z0 O0 G P0 P1 P2 P3 g_x0) e0 (a := x0) (argsL := [(.int 2)]) (rest := []) (pc' := 5) rfl (by rw [hml]; rfl) (lenOf pd_14 rfl) rfl rfl (W := 0) (Nat.le_of_eq rfl) (by decide) (by decide) (by decide) (by decide) (hb hby d11_2) ?_
  intro v1 T1 L1 q1 X1
  obtain ⟨h1, e1⟩ : ∃ z, T1.heap = z := ⟨_, rfl⟩
  rw [e1] at q1
  obtain ⟨b1_0, k1_0, rfl, N1, K1, s1_0, F1_0, F1_1, F1_2, F1_3, F1_4, F1_5⟩ := q1
  show Go _ _ _ _ (T1.setTop (mkF m 5 #[.val (.ref x0), .val (.int 2)] []))
  subst hFF
  refine Go.ret0 X1 hx hlk hret (hb hby d11_5) (by decide) (by decide) ?_
  rw [e1]
  have Kp2 : Keep h0 h1 [x0] := ((Keep.refl h0 [x0]).trans K1 (allS (Or.inl (List.mem_of_getElem? (i := 0) rfl)) all0))
  have sz3 : h0.size ≤ b1_0 := Nat.le_trans (Keep.refl h0 [x0]).1 s1_0
  exact ⟨b1_0, k1_0, rfl, (Fr.app (Fr.nil n0) N1), Kp2, sz3, F1_0, F1_1, F1_2, F1_3, F1_4, F1_5⟩
-- java/lang/String.isLatin1
set_option maxRecDepth 65536 in
set_option maxHeartbeats 4000000 in
theorem au_65 (l : Launch) (Z : State) (a0 : Array Value) (hw : ∀ d ∈ tables_1, d.before a0 Z = true) (x0 : Addr) (gz1 : Int32) (gv5 : Value) (h0 : Heap) (n0 : Nat) (Z0 : n0 ≤ h0.size) (O0 : Old Z n0 h0) (G : Glob Z gz1 gv5) (P1 : Fld Z h0 x0 "java/lang/String" "coder" "B" (.int 0)) :
    Ctr l Z (⟨"java/lang/String", "isLatin1", "()Z"⟩ : MethodName) jdk_42_method_154_code 1 (some .boolean) ({ frames := 0, cells := 0, slots := 0, locals := 0 } : Room) #[(.ref x0)] h0 (fun v h L => v = some (.int 1) ∧ Fr n0 L ∧ h = h0) := by
  refine Ctr.of (plainFor_of_name pn_c1) ?_
  intro p e s m below meth c T0 hx hZ hby hml hown hnm hret hlk e0 es X0
  have G' := G
  obtain ⟨G0, -, G2, -⟩ := G'
  refine Go.cast (ef_31_R m x0) ?_
  generalize hFF : EndN s _ _ _ = FF
  have fk1 : Sta Z h0 "java/lang/String" "COMPACT_STRINGS" "Z" (.int gz1) := G0.ext O0.2
  refine Go.getS X0 hx hZ hown (host := "") (Or.inl (tw_57 hw)) Via.refl e0 fk1 (pc' := 3) rfl (hb hby d31_0) ?_
  intro T2 e2 X2
  refine Go.ifNo X2 hx (pc' := 6) rfl (hb hby d31_3) (feq G2).1 ?_
  refine Go.aloadN X2 hx (pc' := 7) rfl (hb hby d31_6) rfl rfl ?_
  refine Go.getF X2 hx hZ hown (host := "") (Or.inl (tw_31 hw)) Via.refl e2 P1 (pc' := 10) rfl (hb hby d31_7) ?_
  intro T3 e3 X3
  refine Go.ifNo X3 hx (pc' := 13) rfl (hb hby d31_10) (by decide) ?_
  refine Go.iconst X3 hx (pc' := 14) rfl (hb hby d31_13) (v := (1 : Int32)) rfl ?_
  refine Go.goto X3 hx (pc' := 18) (hb hby d31_14) (by decide) (by decide) ?_
  subst hFF
  refine Go.retN X3 hx hlk (t := .boolean) hret (by simp) (hb hby d31_18) (by decide) (by decide) ?_
  rw [e3]
  exact ⟨(congrArg (fun z => some (Value.int z)) (by decide : nar .boolean (1 : Int32) = (1 : Int32))), (Fr.nil n0), rfl⟩
-- jdk/internal/util/Preconditions.checkIndex
set_option maxRecDepth 65536 in
set_option maxHeartbeats 4000000 in
theorem au_68 (l : Launch) (Z : State) (a0 : Array Value) (hw : ∀ d ∈ tables_1, d.before a0 Z = true) (gz1 : Int32) (gv5 : Value) (h0 : Heap) (n0 : Nat) (Z0 : n0 ≤ h0.size) (G : Glob Z gz1 gv5) :
    Ctr l Z (⟨"jdk/internal/util/Preconditions", "checkIndex", "(IILjava/util/function/BiFunction;)I"⟩ : MethodName) jdk_41_method_11_code 3 (some .int) ({ frames := 0, cells := 0, slots := 0, locals := 0 } : Room) #[(.int 0), (.int 2), gv5] h0 (fun v h L => v = some (.int 0) ∧ Fr n0 L ∧ h = h0) := by
  refine Ctr.of (plainFor_of_name pn_c7) ?_
  intro p e s m below meth c T0 hx hZ hby hml hown hnm hret hlk e0 es X0
  have G' := G
  obtain ⟨-, -, -, G3⟩ := G'
  refine Go.cast (ef_34_IIV m (0 : Int32) (2 : Int32) gv5 G3) ?_
  generalize hFF : EndN s _ _ _ = FF
  refine Go.iloadN X0 hx (pc' := 1) rfl (hb hby d34_0) rfl ?_
  refine Go.ifNo X0 hx (pc' := 4) rfl (hb hby d34_1) (by decide) ?_
  refine Go.iloadN X0 hx (pc' := 5) rfl (hb hby d34_4) rfl ?_
  refine Go.iloadN X0 hx (pc' := 6) rfl (hb hby d34_5) rfl ?_
  refine Go.icmpYes X0 hx (pc' := 16) (hb hby d34_6) (by decide) (by decide) (by decide) ?_
  refine Go.iloadN X0 hx (pc' := 17) rfl (hb hby d34_16) rfl ?_
  subst hFF
  refine Go.retI X0 hx hlk hret (hb hby d34_17) (by decide) (by decide) ?_
  rw [e0]
  exact ⟨rfl, (Fr.nil n0), rfl⟩
-- java/lang/String.checkIndex
set_option maxRecDepth 65536 in
set_option maxHeartbeats 4000000 in
theorem au_67 (l : Launch) (Z : State) (a0 : Array Value) (hw : ∀ d ∈ tables_1, d.before a0 Z = true) (gz1 : Int32) (gv5 : Value) (h0 : Heap) (n0 : Nat) (Z0 : n0 ≤ h0.size) (O0 : Old Z n0 h0) (G : Glob Z gz1 gv5) :
    Ctr l Z (⟨"java/lang/String", "checkIndex", "(II)V"⟩ : MethodName) jdk_42_method_155_code 2 none ({ frames := 1, cells := 0, slots := 0, locals := 14 } : Room) #[(.int 0), (.int 2)] h0 (fun v h L => v = none ∧ Fr n0 L ∧ h = h0) := by
  refine Ctr.of (plainFor_of_name pn_c1) ?_
  intro p e s m below meth c T0 hx hZ hby hml hown hnm hret hlk e0 es X0
  have G' := G
  obtain ⟨-, G1, -, -⟩ := G'
  refine Go.cast (ef_33_II m (0 : Int32) (2 : Int32)) ?_
  generalize hFF : EndN s _ _ _ = FF
  refine Go.iloadN X0 hx (pc' := 1) rfl (hb hby d33_0) rfl ?_
  refine Go.iloadN X0 hx (pc' := 2) rfl (hb hby d33_1) rfl ?_
  have fk1 : Sta Z h0 "jdk/internal/util/Preconditions" "SIOOBE_FORMATTER" "Ljava/util/function/BiFunction;" gv5 := G1.ext O0.2
  refine Go.getS X0 hx hZ hown (host := "") (Or.inl (tw_177 hw)) Via.refl e0 fk1 (pc' := 5) rfl (hb hby d33_2) ?_
  intro T2 e2 X2
  refine Go.callS X2 hx hZ hown (tw_179 hw) (tw_180 hw) (tw_178 hw) (tw_181 hw) (by decide) (tw_181 hw) (tw_178 hw) (au_68 l Z a0 hw gz1 gv5 h0 n0 Z0 G) e2 (argsL := [(.int 0), (.int 2), gv5]) (rest := []) (pc' := 8) rfl (by rw [hml]; rfl) (lenOf pd_21 rfl) rfl rfl (W := 0) (Nat.le_of_eq rfl) (by decide) (by decide) (by decide) (by decide) (hb hby d33_5) ?_
  intro v3 T3 L3 q3 X3
  obtain ⟨rfl, N3, e3⟩ := q3
  show Go _ _ _ _ (T3.setTop (mkF m 8 #[.val (.int 0), .val (.int 2)] [(.int 0)]))
  refine Go.pop X3 hx (pc' := 9) rfl (hb hby d33_8) rfl ?_
  subst hFF
  refine Go.ret0 X3 hx hlk hret (hb hby d33_9) (by decide) (by decide) ?_
  rw [e3]
  exact ⟨rfl, (Fr.app (Fr.nil n0) N3), rfl⟩
-- java/lang/StringLatin1.charAt
set_option maxRecDepth 65536 in
set_option maxHeartbeats 4000000 in
theorem au_66 (l : Launch) (Z : State) (a0 : Array Value) (hw : ∀ d ∈ tables_1, d.before a0 Z = true) (x0 : Addr) (kk0 : ClassId) (p0 : Int32) (p1 : Int32) (p2 : Int32) (gz1 : Int32) (gv5 : Value) (h0 : Heap) (n0 : Nat) (Z0 : n0 ≤ h0.size) (O0 : Old Z n0 h0) (G : Glob Z gz1 gv5) (P0 : Arv Z h0 x0 kk0 .byte (2 : Int32) [(.int p0), (.int p1)] (.int 0)) (R_p2 : 0 ≤ p2.toInt ∧ p2.toInt ≤ 255) (B_p0 : (p2.toInt8.toInt32) = p0) :
    Ctr l Z (⟨"java/lang/StringLatin1", "charAt", "([BI)C"⟩ : MethodName) jdk_43_method_2_code 2 (some .char) ({ frames := 2, cells := 0, slots := 0, locals := 27 } : Room) #[(.ref x0), (.int 0)] h0 (fun v h L => v = some (.int p2) ∧ Fr n0 L ∧ h = h0) := by
  refine Ctr.of (plainFor_of_name pn_c2) ?_
  intro p e s m below meth c T0 hx hZ hby hml hown hnm hret hlk e0 es X0
  refine Go.cast (ef_32_RI m x0 (0 : Int32)) ?_
  generalize hFF : EndN s _ _ _ = FF
  refine Go.iloadN X0 hx (pc' := 1) rfl (hb hby d32_0) rfl ?_
  refine Go.aloadN X0 hx (pc' := 2) rfl (hb hby d32_1) rfl rfl ?_
  refine Go.arraylength X0 hx hZ e0 P0 (pc' := 3) rfl (hb hby d32_2) ?_
  refine Go.callS X0 hx hZ hown (tw_174 hw) (tw_175 hw) (tw_12 hw) (tw_176 hw) (by decide) (tw_176 hw) (tw_12 hw) (au_67 l Z a0 hw gz1 gv5 h0 n0 Z0 O0 G) e0 (argsL := [(.int 0), (.int 2)]) (rest := []) (pc' := 6) rfl (by rw [hml]; rfl) (lenOf pd_22 rfl) rfl rfl (W := 0) (Nat.le_of_eq rfl) (by decide) (by decide) (by decide) (by decide) (hb hby d32_3) ?_
  intro v1 T1 L1 q1 X1
  obtain ⟨rfl, N1, e1⟩ := q1
  show Go _ _ _ _ (T1.setTop (mkF m 6 #[.val (.ref x0), .val (.int 0)] []))
  refine Go.aloadN X1 hx (pc' := 7) rfl (hb hby d32_6) rfl rfl ?_
  refine Go.iloadN X1 hx (pc' := 8) rfl (hb hby d32_7) rfl ?_
  refine Go.baload X1 hx hZ e1 P0 (v := (.int p0)) ⟨by decide, by decide⟩ rfl (pc' := 9) rfl (hb hby d32_8) ?_
  refine Go.sipush X1 hx (pc' := 12) rfl (hb hby d32_9) (v := (255 : Int32)) (by decide) ?_
  refine Go.iand X1 hx (pc' := 13) rfl (hb hby d32_12) ?_
  rw [show (p0 &&& (255 : Int32)) = p2 from (own_byte_back B_p0 R_p2 (by decide) (by decide))]
  refine Go.i2c X1 hx (pc' := 14) rfl (hb hby d32_13) ?_
  rw [show (p2.toUInt32.toUInt16.toUInt32.toInt32) = p2 from (own_i2c_id R_p2 (by decide) (by decide))]
  subst hFF
  refine Go.retN X1 hx hlk (t := .char) hret (by simp) (hb hby d32_14) (by decide) (by decide) ?_
  rw [e1]
  exact ⟨(congrArg (fun z => some (Value.int z)) (own_nar_char R_p2 (by decide) (by decide))), (Fr.app (Fr.nil n0) N1), rfl⟩
-- java/lang/String.charAt
set_option maxRecDepth 65536 in
set_option maxHeartbeats 4000000 in
theorem au_64 (l : Launch) (Z : State) (a0 : Array Value) (hw : ∀ d ∈ tables_1, d.before a0 Z = true) (x0 : Addr) (x1 : Addr) (kk0 : ClassId) (p0 : Int32) (p1 : Int32) (p2 : Int32) (gz1 : Int32) (gv5 : Value) (h0 : Heap) (n0 : Nat) (Z0 : n0 ≤ h0.size) (O0 : Old Z n0 h0) (G : Glob Z gz1 gv5) (P0 : Exa Z h0 x0 "java/lang/String") (P1 : Fld Z h0 x0 "java/lang/String" "coder" "B" (.int 0)) (P2 : Fld Z h0 x0 "java/lang/String" "value" "[B" (.ref x1)) (P3 : Arv Z h0 x1 kk0 .byte (2 : Int32) [(.int p0), (.int p1)] (.int 0)) (R_p2 : 0 ≤ p2.toInt ∧ p2.toInt ≤ 255) (B_p0 : (p2.toInt8.toInt32) = p0) :
    Ctr l Z (⟨"java/lang/String", "charAt", "(I)C"⟩ : MethodName) jdk_42_method_56_code 2 (some .char) ({ frames := 3, cells := 0, slots := 0, locals := 40 } : Room) #[(.ref x0), (.int 0)] h0 (fun v h L => v = some (.int p2) ∧ Fr n0 L ∧ h = h0) := by
  refine Ctr.of (plainFor_of_name pn_c1) ?_
  intro p e s m below meth c T0 hx hZ hby hml hown hnm hret hlk e0 es X0
  refine Go.cast (ef_30_RI m x0 (0 : Int32)) ?_
  generalize hFF : EndN s _ _ _ = FF
  refine Go.aloadN X0 hx (pc' := 1) rfl (hb hby d30_0) rfl rfl ?_
  refine Go.callV X0 hx hZ hown (tw_166 hw) (tw_167 hw) (notFace_of_selects (args := #[]) (mvT hZ (tw_169 hw))) (tw_169 hw) (tw_168 hw) (by decide) (tw_170 hw) (tw_12 hw) (au_65 l Z a0 hw x0 gz1 gv5 h0 n0 Z0 O0 G P1) e0 P0 (argsL := []) (rest := []) (pc' := 4) rfl (by rw [hml]; rfl) (lenOf pd_16 rfl) rfl rfl (W := 0) (Nat.le_of_eq rfl) (by decide) (by decide) (by decide) (by decide) (hb hby d30_1) ?_
  intro v1 T1 L1 q1 X1
  obtain ⟨rfl, N1, e1⟩ := q1
  show Go _ _ _ _ (T1.setTop (mkF m 4 #[.val (.ref x0), .val (.int 0)] [(.int 1)]))
  refine Go.ifNo X1 hx (pc' := 7) rfl (hb hby d30_4) (by decide) ?_
  refine Go.aloadN X1 hx (pc' := 8) rfl (hb hby d30_7) rfl rfl ?_
  refine Go.getF X1 hx hZ hown (host := "") (Or.inl (tw_30 hw)) Via.refl e1 P2 (pc' := 11) rfl (hb hby d30_8) ?_
  intro T2 e2 X2
  refine Go.iloadN X2 hx (pc' := 12) rfl (hb hby d30_11) rfl ?_
  refine Go.callS X2 hx hZ hown (tw_171 hw) (tw_172 hw) (tw_152 hw) (tw_173 hw) (by decide) (tw_173 hw) (tw_152 hw) (au_66 l Z a0 hw x1 kk0 p0 p1 p2 gz1 gv5 h0 n0 Z0 O0 G P3 R_p2 B_p0) e2 (argsL := [(.ref x1), (.int 0)]) (rest := []) (pc' := 15) rfl (by rw [hml]; rfl) (lenOf pd_23 rfl) rfl rfl (W := 0) (Nat.le_of_eq rfl) (by decide) (by decide) (by decide) (by decide) (hb hby d30_12) ?_
  intro v3 T3 L3 q3 X3
  obtain ⟨rfl, N3, e3⟩ := q3
  show Go _ _ _ _ (T3.setTop (mkF m 15 #[.val (.ref x0), .val (.int 0)] [(.int p2)]))
  subst hFF
  refine Go.retN X3 hx hlk (t := .char) hret (by simp) (hb hby d30_15) (by decide) (by decide) ?_
  rw [e3]
  exact ⟨(congrArg (fun z => some (Value.int z)) (own_nar_char R_p2 (by decide) (by decide))), (Fr.app (Fr.app (Fr.nil n0) N1) N3), rfl⟩
-- java/lang/AbstractStringBuilder.ensureCapacityInternal
set_option maxRecDepth 65536 in
set_option maxHeartbeats 4000000 in
theorem au_71 (l : Launch) (Z : State) (a0 : Array Value) (hw : ∀ d ∈ tables_1, d.before a0 Z = true) (x0 : Addr) (x1 : Addr) (kk0 : ClassId) (h0 : Heap) (n0 : Nat) (Z0 : n0 ≤ h0.size) (P1 : Fld Z h0 x0 "java/lang/AbstractStringBuilder" "coder" "B" (.int 0)) (P3 : Fld Z h0 x0 "java/lang/AbstractStringBuilder" "value" "[B" (.ref x1)) (P4 : Arv Z h0 x1 kk0 .byte (2 : Int32) [(.int 0), (.int 0)] (.int 0)) :
    Ctr l Z (⟨"java/lang/AbstractStringBuilder", "ensureCapacityInternal", "(I)V"⟩ : MethodName) jdk_68_method_9_code 3 none ({ frames := 0, cells := 0, slots := 0, locals := 0 } : Room) #[(.ref x0), (.int 1)] h0 (fun v h L => v = none ∧ Fr n0 L ∧ h = h0) := by
  refine Ctr.of (plainFor_of_name pn_c4) ?_
  intro p e s m below meth c T0 hx hZ hby hml hown hnm hret hlk e0 es X0
  refine Go.cast (ef_37_RI m x0 (1 : Int32)) ?_
  generalize hFF : EndN s _ _ _ = FF
  refine Go.aloadN X0 hx (pc' := 1) rfl (hb hby d37_0) rfl rfl ?_
  refine Go.getF X0 hx hZ hown (host := "") (Or.inl (tw_69 hw)) Via.refl e0 P3 (pc' := 4) rfl (hb hby d37_1) ?_
  intro T1 e1 X1
  refine Go.arraylength X1 hx hZ e1 P4 (pc' := 5) rfl (hb hby d37_4) ?_
  refine Go.aloadN X1 hx (pc' := 6) rfl (hb hby d37_5) rfl rfl ?_
  refine Go.getF X1 hx hZ hown (host := "") (Or.inl (tw_71 hw)) Via.refl e1 P1 (pc' := 9) rfl (hb hby d37_6) ?_
  intro T2 e2 X2
  refine Go.ishr X2 hx (pc' := 10) rfl (hb hby d37_9) ?_
  rw [show ((2 : Int32) >>> ((0 : Int32) &&& 31)) = (2 : Int32) from by decide]
  refine Go.istoreN X2 hx (pc' := 11) rfl (hb hby d37_10) (Ls' := #[.val (.ref x0), .val (.int 1), .val (.int 2)]) rfl ?_
  refine Go.iloadN X2 hx (pc' := 12) rfl (hb hby d37_11) rfl ?_
  refine Go.iloadN X2 hx (pc' := 13) rfl (hb hby d37_12) rfl ?_
  refine Go.isub X2 hx (pc' := 14) rfl (hb hby d37_13) ?_
  rw [show ((1 : Int32) - (2 : Int32)) = (-1 : Int32) from by decide]
  refine Go.ifYes X2 hx (pc' := 38) (hb hby d37_14) (by decide) (by decide) (by decide) ?_
  subst hFF
  refine Go.ret0 X2 hx hlk hret (hb hby d37_38) (by decide) (by decide) ?_
  rw [e2]
  exact ⟨rfl, (Fr.nil n0), rfl⟩
-- java/lang/AbstractStringBuilder.isLatin1
set_option maxRecDepth 65536 in
set_option maxHeartbeats 4000000 in
theorem au_72 (l : Launch) (Z : State) (a0 : Array Value) (hw : ∀ d ∈ tables_1, d.before a0 Z = true) (x0 : Addr) (gz1 : Int32) (gv5 : Value) (h0 : Heap) (n0 : Nat) (Z0 : n0 ≤ h0.size) (O0 : Old Z n0 h0) (G : Glob Z gz1 gv5) (P1 : Fld Z h0 x0 "java/lang/AbstractStringBuilder" "coder" "B" (.int 0)) :
    Ctr l Z (⟨"java/lang/AbstractStringBuilder", "isLatin1", "()Z"⟩ : MethodName) jdk_68_method_68_code 1 (some .boolean) ({ frames := 0, cells := 0, slots := 0, locals := 0 } : Room) #[(.ref x0)] h0 (fun v h L => v = some (.int 1) ∧ Fr n0 L ∧ h = h0) := by
  refine Ctr.of (plainFor_of_name pn_c4) ?_
  intro p e s m below meth c T0 hx hZ hby hml hown hnm hret hlk e0 es X0
  have G' := G
  obtain ⟨G0, -, G2, -⟩ := G'
  refine Go.cast (ef_19_R m x0) ?_
  generalize hFF : EndN s _ _ _ = FF
  have fk1 : Sta Z h0 "java/lang/String" "COMPACT_STRINGS" "Z" (.int gz1) := G0.ext O0.2
  refine Go.getS X0 hx hZ hown (host := "") (Or.inl (tw_68 hw)) Via.refl e0 fk1 (pc' := 3) rfl (hb hby d19_0) ?_
  intro T2 e2 X2
  refine Go.ifNo X2 hx (pc' := 6) rfl (hb hby d19_3) (feq G2).1 ?_
  refine Go.aloadN X2 hx (pc' := 7) rfl (hb hby d19_6) rfl rfl ?_
  refine Go.getF X2 hx hZ hown (host := "") (Or.inl (tw_71 hw)) Via.refl e2 P1 (pc' := 10) rfl (hb hby d19_7) ?_
  intro T3 e3 X3
  refine Go.ifNo X3 hx (pc' := 13) rfl (hb hby d19_10) (by decide) ?_
  refine Go.iconst X3 hx (pc' := 14) rfl (hb hby d19_13) (v := (1 : Int32)) rfl ?_
  refine Go.goto X3 hx (pc' := 18) (hb hby d19_14) (by decide) (by decide) ?_
  subst hFF
  refine Go.retN X3 hx hlk (t := .boolean) hret (by simp) (hb hby d19_18) (by decide) (by decide) ?_
  rw [e3]
  exact ⟨(congrArg (fun z => some (Value.int z)) (by decide : nar .boolean (1 : Int32) = (1 : Int32))), (Fr.nil n0), rfl⟩
-- java/lang/AbstractStringBuilder.append
set_option maxRecDepth 65536 in
set_option maxHeartbeats 4000000 in
theorem au_70 (l : Launch) (Z : State) (a0 : Array Value) (hw : ∀ d ∈ tables_1, d.before a0 Z = true) (x0 : Addr) (p0 : Int32) (x1 : Addr) (kk0 : ClassId) (gz1 : Int32) (gv5 : Value) (h0 : Heap) (n0 : Nat) (Z0 : n0 ≤ h0.size) (O0 : Old Z n0 h0) (G : Glob Z gz1 gv5) (P0 : Exa Z h0 x0 "java/lang/StringBuilder") (P1 : Fld Z h0 x0 "java/lang/AbstractStringBuilder" "coder" "B" (.int 0)) (P2 : Fld Z h0 x0 "java/lang/AbstractStringBuilder" "count" "I" (.int 0)) (P3 : Fld Z h0 x0 "java/lang/AbstractStringBuilder" "value" "[B" (.ref x1)) (P4 : Arv Z h0 x1 kk0 .byte (2 : Int32) [(.int 0), (.int 0)] (.int 0)) (P5 : Exa Z h0 x1 "[B") (R_p0 : 0 ≤ p0.toInt ∧ p0.toInt ≤ 255) (g_x0 : n0 ≤ x0) (g_x1 : n0 ≤ x1) (ne_x1_x0 : x1 ≠ x0) :
    Ctr l Z (⟨"java/lang/AbstractStringBuilder", "append", "(C)Ljava/lang/AbstractStringBuilder;"⟩ : MethodName) jdk_68_method_31_code 2 (some (.object "java/lang/AbstractStringBuilder")) ({ frames := 1, cells := 0, slots := 0, locals := 14 } : Room) #[(.ref x0), (.int p0)] h0 (fun v h L => ∃ (y0 : Int32), (p0.toInt8.toInt32) = y0 ∧ v = some (.ref x0) ∧ Fr n0 L ∧ Keep h0 h [x0, x1] ∧ Exa Z h x0 "java/lang/StringBuilder" ∧ Fld Z h x0 "java/lang/AbstractStringBuilder" "coder" "B" (.int 0) ∧ Fld Z h x0 "java/lang/AbstractStringBuilder" "count" "I" (.int 1) ∧ Fld Z h x0 "java/lang/AbstractStringBuilder" "value" "[B" (.ref x1) ∧ Arv Z h x1 kk0 .byte (2 : Int32) [(.int y0), (.int 0)] (.int 0) ∧ Exa Z h x1 "[B") := by
  refine Ctr.of (plainFor_of_name pn_c4) ?_
  intro p e s m below meth c T0 hx hZ hby hml hown hnm hret hlk e0 es X0
  refine Go.cast (ef_36_RI m x0 p0) ?_
  generalize hFF : EndN s _ _ _ = FF
  refine Go.aloadN X0 hx (pc' := 1) rfl (hb hby d36_0) rfl rfl ?_
  refine Go.aloadN X0 hx (pc' := 2) rfl (hb hby d36_1) rfl rfl ?_
  refine Go.getF X0 hx hZ hown (host := "") (Or.inl (tw_99 hw)) Via.refl e0 P2 (pc' := 5) rfl (hb hby d36_2) ?_
  intro T1 e1 X1
  refine Go.iconst X1 hx (pc' := 6) rfl (hb hby d36_5) (v := (1 : Int32)) rfl ?_
  refine Go.iadd X1 hx (pc' := 7) rfl (hb hby d36_6) ?_
  rw [show ((0 : Int32) + (1 : Int32)) = (1 : Int32) from by decide]
  refine Go.callP X1 hx hZ hown (tw_191 hw) (tw_192 hw) (tw_194 hw) (tw_193 hw) (tw_195 hw) (by decide) (tw_195 hw) (tw_65 hw) (au_71 l Z a0 hw x0 x1 kk0 h0 n0 Z0 P1 P3 P4) e1 P0 (argsL := [(.int 1)]) (rest := []) (pc' := 10) rfl (by rw [hml]; rfl) (lenOf pd_14 rfl) rfl rfl (W := 0) (Nat.le_of_eq rfl) (by decide) (by decide) (by decide) (by decide) (hb hby d36_7) ?_
  intro v2 T2 L2 q2 X2
  obtain ⟨rfl, N2, e2⟩ := q2
  show Go _ _ _ _ (T2.setTop (mkF m 10 #[.val (.ref x0), .val (.int p0)] []))
  refine Go.aloadN X2 hx (pc' := 11) rfl (hb hby d36_10) rfl rfl ?_
  refine Go.callV X2 hx hZ hown (tw_196 hw) (tw_102 hw) (notFace_of_selects (args := #[]) (mvT hZ (tw_104 hw))) (tw_104 hw) (tw_103 hw) (by decide) (tw_105 hw) (tw_65 hw) (au_72 l Z a0 hw x0 gz1 gv5 h0 n0 Z0 O0 G P1) e2 P0 (argsL := []) (rest := []) (pc' := 14) rfl (by rw [hml]; rfl) (lenOf pd_16 rfl) rfl rfl (W := 0) (Nat.le_of_eq rfl) (by decide) (by decide) (by decide) (by decide) (hb hby d36_11) ?_
  intro v3 T3 L3 q3 X3
  obtain ⟨rfl, N3, e3⟩ := q3
  show Go _ _ _ _ (T3.setTop (mkF m 14 #[.val (.ref x0), .val (.int p0)] [(.int 1)]))
  refine Go.ifNo X3 hx (pc' := 17) rfl (hb hby d36_14) (by decide) ?_
  refine Go.iloadN X3 hx (pc' := 18) rfl (hb hby d36_17) rfl ?_
  refine Go.callS X3 hx hZ hown (tw_197 hw) (tw_151 hw) (tw_152 hw) (tw_153 hw) (by decide) (tw_153 hw) (tw_152 hw) (au_12 l Z a0 hw p0 h0 n0 Z0 R_p0) e3 (argsL := [(.int p0)]) (rest := []) (pc' := 21) rfl (by rw [hml]; rfl) (lenOf pd_4 rfl) rfl rfl (W := 0) (Nat.le_of_eq rfl) (by decide) (by decide) (by decide) (by decide) (hb hby d36_18) ?_
  intro v4 T4 L4 q4 X4
  obtain ⟨rfl, N4, e4⟩ := q4
  show Go _ _ _ _ (T4.setTop (mkF m 21 #[.val (.ref x0), .val (.int p0)] [(.int 1)]))
  refine Go.ifNo X4 hx (pc' := 24) rfl (hb hby d36_21) (by decide) ?_
  refine Go.aloadN X4 hx (pc' := 25) rfl (hb hby d36_24) rfl rfl ?_
  refine Go.getF X4 hx hZ hown (host := "") (Or.inl (tw_69 hw)) Via.refl e4 P3 (pc' := 28) rfl (hb hby d36_25) ?_
  intro T5 e5 X5
  refine Go.aloadN X5 hx (pc' := 29) rfl (hb hby d36_28) rfl rfl ?_
  refine Go.dup X5 hx (pc' := 30) rfl (hb hby d36_29) rfl ?_
  refine Go.getF X5 hx hZ hown (host := "") (Or.inl (tw_99 hw)) Via.refl e5 P2 (pc' := 33) rfl (hb hby d36_30) ?_
  intro T6 e6 X6
  refine Go.dupX1 X6 hx (pc' := 34) rfl (hb hby d36_33) rfl rfl ?_
  refine Go.iconst X6 hx (pc' := 35) rfl (hb hby d36_34) (v := (1 : Int32)) rfl ?_
  refine Go.iadd X6 hx (pc' := 36) rfl (hb hby d36_35) ?_
  rw [show ((0 : Int32) + (1 : Int32)) = (1 : Int32) from by decide]
  refine Go.putF X6 hx hZ hown (host := "") (Or.inl (tw_99 hw)) Via.refl e6 P2 P0 (Or.inl (tw_100 hw)) (tw_45 hw) (ty := .int) (by decide) rfl rfl (pc' := 39) rfl (hb hby d36_36) ?_
  intro T7 h7 e7 W7 F7 X7
  have N7 := Fr.snoc X7 (Fr.app (Fr.app (Fr.app (Fr.nil n0) N2) N3) N4) g_x0
  refine Go.iloadN X7 hx (pc' := 40) rfl (hb hby d36_39) rfl ?_
  refine Go.i2b X7 hx (pc' := 41) rfl (hb hby d36_40) ?_
  generalize hz8 : (p0.toInt8.toInt32) = z8
  have fk9 := (P4.other W7 ne_x1_x0)
  have r10 : -128 ≤ z8.toInt ∧ z8.toInt ≤ 127 := own_ri2b hz8
  refine Go.bastore X7 hx hZ e7 fk9 z8 (own_nar_byte r10 (by decide) (by decide)) ⟨by decide, by decide⟩ 0 rfl (Nat.le_of_ble_eq_true rfl) (pc' := 42) rfl (hb hby d36_41) ?_
  intro T11 h11 e11 W11 V11 X11
  have N11 := Fr.snoc X11 N7 g_x1
  refine Go.goto X11 hx (pc' := 75) (hb hby d36_42) (by decide) (by decide) ?_
  refine Go.aloadN X11 hx (pc' := 76) rfl (hb hby d36_75) rfl rfl ?_
  subst hFF
  refine Go.retR X11 hx hlk (t := (.object "java/lang/AbstractStringBuilder")) hret rfl rfl (hb hby d36_76) (by decide) (by decide) ?_
  rw [e11]
  have fk12 : Exa Z h11 x0 "java/lang/StringBuilder" := ((P0.wr W7).wr W11)
  have fk13 : Fld Z h11 x0 "java/lang/AbstractStringBuilder" "coder" "B" (.int 0) := ((P1.other W7 (Or.inr (slot_ne (Or.inl (tw_72 hw)) (Or.inl (tw_100 hw)) (by decide) (t := .byte) (t' := .int) (by decide) (by decide)))).other W11 (Or.inl (Ne.symm ne_x1_x0)))
  have fk14 : Fld Z h11 x0 "java/lang/AbstractStringBuilder" "count" "I" (.int 1) := (F7.other W11 (Or.inl (Ne.symm ne_x1_x0)))
  have fk15 : Fld Z h11 x0 "java/lang/AbstractStringBuilder" "value" "[B" (.ref x1) := ((P3.other W7 (Or.inr (slot_ne (Or.inl (tw_70 hw)) (Or.inl (tw_100 hw)) (by decide) (t := (.array .byte)) (t' := .int) (by decide) (by decide)))).other W11 (Or.inl (Ne.symm ne_x1_x0)))
  have V16 : Arv Z h11 x1 kk0 .byte (2 : Int32) [(.int z8), (.int 0)] (.int 0) := V11
  have fk17 : Exa Z h11 x1 "[B" := ((P5.wr W7).wr W11)
  have Kp18 : Keep h0 h7 [x0, x1] := ((Keep.refl h0 [x0, x1]).wr W7 (Or.inl (List.mem_of_getElem? (i := 0) rfl)))
  have Kp19 : Keep h0 h11 [x0, x1] := (Kp18.wr W11 (Or.inl (List.mem_of_getElem? (i := 1) rfl)))
  exact ⟨z8, hz8, rfl, N11, Kp19, fk12, fk13, fk14, fk15, V16, fk17⟩
-- java/lang/StringBuilder.append
set_option maxRecDepth 65536 in
set_option maxHeartbeats 4000000 in
theorem au_69 (l : Launch) (Z : State) (a0 : Array Value) (hw : ∀ d ∈ tables_1, d.before a0 Z = true) (x0 : Addr) (p0 : Int32) (x1 : Addr) (kk0 : ClassId) (gz1 : Int32) (gv5 : Value) (h0 : Heap) (n0 : Nat) (Z0 : n0 ≤ h0.size) (O0 : Old Z n0 h0) (G : Glob Z gz1 gv5) (P0 : Exa Z h0 x0 "java/lang/StringBuilder") (P1 : Fld Z h0 x0 "java/lang/AbstractStringBuilder" "coder" "B" (.int 0)) (P2 : Fld Z h0 x0 "java/lang/AbstractStringBuilder" "count" "I" (.int 0)) (P3 : Fld Z h0 x0 "java/lang/AbstractStringBuilder" "value" "[B" (.ref x1)) (P4 : Arv Z h0 x1 kk0 .byte (2 : Int32) [(.int 0), (.int 0)] (.int 0)) (P5 : Exa Z h0 x1 "[B") (R_p0 : 0 ≤ p0.toInt ∧ p0.toInt ≤ 255) (g_x0 : n0 ≤ x0) (g_x1 : n0 ≤ x1) (ne_x1_x0 : x1 ≠ x0) :
    Ctr l Z (⟨"java/lang/StringBuilder", "append", "(C)Ljava/lang/StringBuilder;"⟩ : MethodName) jdk_67_method_14_code 2 (some (.object "java/lang/StringBuilder")) ({ frames := 2, cells := 0, slots := 0, locals := 27 } : Room) #[(.ref x0), (.int p0)] h0 (fun v h L => ∃ (y0 : Int32), (p0.toInt8.toInt32) = y0 ∧ v = some (.ref x0) ∧ Fr n0 L ∧ Keep h0 h [x0, x1] ∧ Exa Z h x0 "java/lang/StringBuilder" ∧ Fld Z h x0 "java/lang/AbstractStringBuilder" "coder" "B" (.int 0) ∧ Fld Z h x0 "java/lang/AbstractStringBuilder" "count" "I" (.int 1) ∧ Fld Z h x0 "java/lang/AbstractStringBuilder" "value" "[B" (.ref x1) ∧ Arv Z h x1 kk0 .byte (2 : Int32) [(.int y0), (.int 0)] (.int 0) ∧ Exa Z h x1 "[B") := by
  refine Ctr.of (plainFor_of_name pn_c5) ?_
  intro p e s m below meth c T0 hx hZ hby hml hown hnm hret hlk e0 es X0
  refine Go.cast (ef_35_RI m x0 p0) ?_
  generalize hFF : EndN s _ _ _ = FF
  refine Go.aloadN X0 hx (pc' := 1) rfl (hb hby d35_0) rfl rfl ?_
  refine Go.iloadN X0 hx (pc' := 2) rfl (hb hby d35_1) rfl ?_
  refine Go.callUp X0 hx hZ hown (tw_187 hw) (own_sameself (tw_88 hw) rfl (tw_188 hw) (by decide)) (tw_188 hw) (tw_97 hw) (by decide) (tw_190 hw) (tw_190 hw) (tw_65 hw) (au_70 l Z a0 hw x0 p0 x1 kk0 gz1 gv5 h0 n0 Z0 O0 G P0 P1 P2 P3 P4 P5 R_p0 g_x0 g_x1 ne_x1_x0) e0 P0 (argsL := [(.int p0)]) (rest := []) (pc' := 5) rfl (by rw [hml]; rfl) (lenOf pd_25 rfl) rfl rfl (W := 0) (Nat.le_of_eq rfl) (by decide) (by decide) (by decide) (by decide) (hb hby d35_2) ?_
  intro v1 T1 L1 q1 X1
  obtain ⟨h1, e1⟩ : ∃ z, T1.heap = z := ⟨_, rfl⟩
  rw [e1] at q1
  obtain ⟨z1_0, d1_0, rfl, N1, K1, F1_0, F1_1, F1_2, F1_3, F1_4, F1_5⟩ := q1
  show Go _ _ _ _ (T1.setTop (mkF m 5 #[.val (.ref x0), .val (.int p0)] [(.ref x0)]))
  refine Go.pop X1 hx (pc' := 6) rfl (hb hby d35_5) rfl ?_
  refine Go.aloadN X1 hx (pc' := 7) rfl (hb hby d35_6) rfl rfl ?_
  subst hFF
  refine Go.retR X1 hx hlk (t := (.object "java/lang/StringBuilder")) hret rfl rfl (hb hby d35_7) (by decide) (by decide) ?_
  rw [e1]
  have Kp2 : Keep h0 h1 [x0, x1] := ((Keep.refl h0 [x0, x1]).trans K1 (allS (Or.inl (List.mem_of_getElem? (i := 0) rfl)) (allS (Or.inl (List.mem_of_getElem? (i := 1) rfl)) all0)))
  exact ⟨z1_0, d1_0, rfl, (Fr.app (Fr.nil n0) N1), Kp2, F1_0, F1_1, F1_2, F1_3, F1_4, F1_5⟩
-- jdk/internal/util/Preconditions.checkIndex
set_option maxRecDepth 65536 in
set_option maxHeartbeats 4000000 in
theorem au_76 (l : Launch) (Z : State) (a0 : Array Value) (hw : ∀ d ∈ tables_1, d.before a0 Z = true) (gz1 : Int32) (gv5 : Value) (h0 : Heap) (n0 : Nat) (Z0 : n0 ≤ h0.size) (G : Glob Z gz1 gv5) :
    Ctr l Z (⟨"jdk/internal/util/Preconditions", "checkIndex", "(IILjava/util/function/BiFunction;)I"⟩ : MethodName) jdk_41_method_11_code 3 (some .int) ({ frames := 0, cells := 0, slots := 0, locals := 0 } : Room) #[(.int 1), (.int 2), gv5] h0 (fun v h L => v = some (.int 1) ∧ Fr n0 L ∧ h = h0) := by
  refine Ctr.of (plainFor_of_name pn_c7) ?_
  intro p e s m below meth c T0 hx hZ hby hml hown hnm hret hlk e0 es X0
  have G' := G
  obtain ⟨-, -, -, G3⟩ := G'
  refine Go.cast (ef_34_IIV m (1 : Int32) (2 : Int32) gv5 G3) ?_
  generalize hFF : EndN s _ _ _ = FF
  refine Go.iloadN X0 hx (pc' := 1) rfl (hb hby d34_0) rfl ?_
  refine Go.ifNo X0 hx (pc' := 4) rfl (hb hby d34_1) (by decide) ?_
  refine Go.iloadN X0 hx (pc' := 5) rfl (hb hby d34_4) rfl ?_
  refine Go.iloadN X0 hx (pc' := 6) rfl (hb hby d34_5) rfl ?_
  refine Go.icmpYes X0 hx (pc' := 16) (hb hby d34_6) (by decide) (by decide) (by decide) ?_
  refine Go.iloadN X0 hx (pc' := 17) rfl (hb hby d34_16) rfl ?_
  subst hFF
  refine Go.retI X0 hx hlk hret (hb hby d34_17) (by decide) (by decide) ?_
  rw [e0]
  exact ⟨rfl, (Fr.nil n0), rfl⟩
-- java/lang/String.checkIndex
set_option maxRecDepth 65536 in
set_option maxHeartbeats 4000000 in
theorem au_75 (l : Launch) (Z : State) (a0 : Array Value) (hw : ∀ d ∈ tables_1, d.before a0 Z = true) (gz1 : Int32) (gv5 : Value) (h0 : Heap) (n0 : Nat) (Z0 : n0 ≤ h0.size) (O0 : Old Z n0 h0) (G : Glob Z gz1 gv5) :
    Ctr l Z (⟨"java/lang/String", "checkIndex", "(II)V"⟩ : MethodName) jdk_42_method_155_code 2 none ({ frames := 1, cells := 0, slots := 0, locals := 14 } : Room) #[(.int 1), (.int 2)] h0 (fun v h L => v = none ∧ Fr n0 L ∧ h = h0) := by
  refine Ctr.of (plainFor_of_name pn_c1) ?_
  intro p e s m below meth c T0 hx hZ hby hml hown hnm hret hlk e0 es X0
  have G' := G
  obtain ⟨-, G1, -, -⟩ := G'
  refine Go.cast (ef_33_II m (1 : Int32) (2 : Int32)) ?_
  generalize hFF : EndN s _ _ _ = FF
  refine Go.iloadN X0 hx (pc' := 1) rfl (hb hby d33_0) rfl ?_
  refine Go.iloadN X0 hx (pc' := 2) rfl (hb hby d33_1) rfl ?_
  have fk1 : Sta Z h0 "jdk/internal/util/Preconditions" "SIOOBE_FORMATTER" "Ljava/util/function/BiFunction;" gv5 := G1.ext O0.2
  refine Go.getS X0 hx hZ hown (host := "") (Or.inl (tw_177 hw)) Via.refl e0 fk1 (pc' := 5) rfl (hb hby d33_2) ?_
  intro T2 e2 X2
  refine Go.callS X2 hx hZ hown (tw_179 hw) (tw_180 hw) (tw_178 hw) (tw_181 hw) (by decide) (tw_181 hw) (tw_178 hw) (au_76 l Z a0 hw gz1 gv5 h0 n0 Z0 G) e2 (argsL := [(.int 1), (.int 2), gv5]) (rest := []) (pc' := 8) rfl (by rw [hml]; rfl) (lenOf pd_21 rfl) rfl rfl (W := 0) (Nat.le_of_eq rfl) (by decide) (by decide) (by decide) (by decide) (hb hby d33_5) ?_
  intro v3 T3 L3 q3 X3
  obtain ⟨rfl, N3, e3⟩ := q3
  show Go _ _ _ _ (T3.setTop (mkF m 8 #[.val (.int 1), .val (.int 2)] [(.int 1)]))
  refine Go.pop X3 hx (pc' := 9) rfl (hb hby d33_8) rfl ?_
  subst hFF
  refine Go.ret0 X3 hx hlk hret (hb hby d33_9) (by decide) (by decide) ?_
  rw [e3]
  exact ⟨rfl, (Fr.app (Fr.nil n0) N3), rfl⟩
-- java/lang/StringLatin1.charAt
set_option maxRecDepth 65536 in
set_option maxHeartbeats 4000000 in
theorem au_74 (l : Launch) (Z : State) (a0 : Array Value) (hw : ∀ d ∈ tables_1, d.before a0 Z = true) (x0 : Addr) (kk0 : ClassId) (p0 : Int32) (p1 : Int32) (p3 : Int32) (gz1 : Int32) (gv5 : Value) (h0 : Heap) (n0 : Nat) (Z0 : n0 ≤ h0.size) (O0 : Old Z n0 h0) (G : Glob Z gz1 gv5) (P0 : Arv Z h0 x0 kk0 .byte (2 : Int32) [(.int p0), (.int p1)] (.int 0)) (R_p3 : 0 ≤ p3.toInt ∧ p3.toInt ≤ 255) (B_p1 : (p3.toInt8.toInt32) = p1) :
    Ctr l Z (⟨"java/lang/StringLatin1", "charAt", "([BI)C"⟩ : MethodName) jdk_43_method_2_code 2 (some .char) ({ frames := 2, cells := 0, slots := 0, locals := 27 } : Room) #[(.ref x0), (.int 1)] h0 (fun v h L => v = some (.int p3) ∧ Fr n0 L ∧ h = h0) := by
  refine Ctr.of (plainFor_of_name pn_c2) ?_
  intro p e s m below meth c T0 hx hZ hby hml hown hnm hret hlk e0 es X0
  refine Go.cast (ef_32_RI m x0 (1 : Int32)) ?_
  generalize hFF : EndN s _ _ _ = FF
  refine Go.iloadN X0 hx (pc' := 1) rfl (hb hby d32_0) rfl ?_
  refine Go.aloadN X0 hx (pc' := 2) rfl (hb hby d32_1) rfl rfl ?_
  refine Go.arraylength X0 hx hZ e0 P0 (pc' := 3) rfl (hb hby d32_2) ?_
  refine Go.callS X0 hx hZ hown (tw_174 hw) (tw_175 hw) (tw_12 hw) (tw_176 hw) (by decide) (tw_176 hw) (tw_12 hw) (au_75 l Z a0 hw gz1 gv5 h0 n0 Z0 O0 G) e0 (argsL := [(.int 1), (.int 2)]) (rest := []) (pc' := 6) rfl (by rw [hml]; rfl) (lenOf pd_22 rfl) rfl rfl (W := 0) (Nat.le_of_eq rfl) (by decide) (by decide) (by decide) (by decide) (hb hby d32_3) ?_
  intro v1 T1 L1 q1 X1
  obtain ⟨rfl, N1, e1⟩ := q1
  show Go _ _ _ _ (T1.setTop (mkF m 6 #[.val (.ref x0), .val (.int 1)] []))
  refine Go.aloadN X1 hx (pc' := 7) rfl (hb hby d32_6) rfl rfl ?_
  refine Go.iloadN X1 hx (pc' := 8) rfl (hb hby d32_7) rfl ?_
  refine Go.baload X1 hx hZ e1 P0 (v := (.int p1)) ⟨by decide, by decide⟩ rfl (pc' := 9) rfl (hb hby d32_8) ?_
  refine Go.sipush X1 hx (pc' := 12) rfl (hb hby d32_9) (v := (255 : Int32)) (by decide) ?_
  refine Go.iand X1 hx (pc' := 13) rfl (hb hby d32_12) ?_
  rw [show (p1 &&& (255 : Int32)) = p3 from (own_byte_back B_p1 R_p3 (by decide) (by decide))]
  refine Go.i2c X1 hx (pc' := 14) rfl (hb hby d32_13) ?_
  rw [show (p3.toUInt32.toUInt16.toUInt32.toInt32) = p3 from (own_i2c_id R_p3 (by decide) (by decide))]
  subst hFF
  refine Go.retN X1 hx hlk (t := .char) hret (by simp) (hb hby d32_14) (by decide) (by decide) ?_
  rw [e1]
  exact ⟨(congrArg (fun z => some (Value.int z)) (own_nar_char R_p3 (by decide) (by decide))), (Fr.app (Fr.nil n0) N1), rfl⟩
-- java/lang/String.charAt
set_option maxRecDepth 65536 in
set_option maxHeartbeats 4000000 in
theorem au_73 (l : Launch) (Z : State) (a0 : Array Value) (hw : ∀ d ∈ tables_1, d.before a0 Z = true) (x0 : Addr) (x1 : Addr) (kk0 : ClassId) (p0 : Int32) (p1 : Int32) (p3 : Int32) (gz1 : Int32) (gv5 : Value) (h0 : Heap) (n0 : Nat) (Z0 : n0 ≤ h0.size) (O0 : Old Z n0 h0) (G : Glob Z gz1 gv5) (P0 : Exa Z h0 x0 "java/lang/String") (P1 : Fld Z h0 x0 "java/lang/String" "coder" "B" (.int 0)) (P2 : Fld Z h0 x0 "java/lang/String" "value" "[B" (.ref x1)) (P3 : Arv Z h0 x1 kk0 .byte (2 : Int32) [(.int p0), (.int p1)] (.int 0)) (R_p3 : 0 ≤ p3.toInt ∧ p3.toInt ≤ 255) (B_p1 : (p3.toInt8.toInt32) = p1) :
    Ctr l Z (⟨"java/lang/String", "charAt", "(I)C"⟩ : MethodName) jdk_42_method_56_code 2 (some .char) ({ frames := 3, cells := 0, slots := 0, locals := 40 } : Room) #[(.ref x0), (.int 1)] h0 (fun v h L => v = some (.int p3) ∧ Fr n0 L ∧ h = h0) := by
  refine Ctr.of (plainFor_of_name pn_c1) ?_
  intro p e s m below meth c T0 hx hZ hby hml hown hnm hret hlk e0 es X0
  refine Go.cast (ef_30_RI m x0 (1 : Int32)) ?_
  generalize hFF : EndN s _ _ _ = FF
  refine Go.aloadN X0 hx (pc' := 1) rfl (hb hby d30_0) rfl rfl ?_
  refine Go.callV X0 hx hZ hown (tw_166 hw) (tw_167 hw) (notFace_of_selects (args := #[]) (mvT hZ (tw_169 hw))) (tw_169 hw) (tw_168 hw) (by decide) (tw_170 hw) (tw_12 hw) (au_65 l Z a0 hw x0 gz1 gv5 h0 n0 Z0 O0 G P1) e0 P0 (argsL := []) (rest := []) (pc' := 4) rfl (by rw [hml]; rfl) (lenOf pd_16 rfl) rfl rfl (W := 0) (Nat.le_of_eq rfl) (by decide) (by decide) (by decide) (by decide) (hb hby d30_1) ?_
  intro v1 T1 L1 q1 X1
  obtain ⟨rfl, N1, e1⟩ := q1
  show Go _ _ _ _ (T1.setTop (mkF m 4 #[.val (.ref x0), .val (.int 1)] [(.int 1)]))
  refine Go.ifNo X1 hx (pc' := 7) rfl (hb hby d30_4) (by decide) ?_
  refine Go.aloadN X1 hx (pc' := 8) rfl (hb hby d30_7) rfl rfl ?_
  refine Go.getF X1 hx hZ hown (host := "") (Or.inl (tw_30 hw)) Via.refl e1 P2 (pc' := 11) rfl (hb hby d30_8) ?_
  intro T2 e2 X2
  refine Go.iloadN X2 hx (pc' := 12) rfl (hb hby d30_11) rfl ?_
  refine Go.callS X2 hx hZ hown (tw_171 hw) (tw_172 hw) (tw_152 hw) (tw_173 hw) (by decide) (tw_173 hw) (tw_152 hw) (au_74 l Z a0 hw x1 kk0 p0 p1 p3 gz1 gv5 h0 n0 Z0 O0 G P3 R_p3 B_p1) e2 (argsL := [(.ref x1), (.int 1)]) (rest := []) (pc' := 15) rfl (by rw [hml]; rfl) (lenOf pd_23 rfl) rfl rfl (W := 0) (Nat.le_of_eq rfl) (by decide) (by decide) (by decide) (by decide) (hb hby d30_12) ?_
  intro v3 T3 L3 q3 X3
  obtain ⟨rfl, N3, e3⟩ := q3
  show Go _ _ _ _ (T3.setTop (mkF m 15 #[.val (.ref x0), .val (.int 1)] [(.int p3)]))
  subst hFF
  refine Go.retN X3 hx hlk (t := .char) hret (by simp) (hb hby d30_15) (by decide) (by decide) ?_
  rw [e3]
  exact ⟨(congrArg (fun z => some (Value.int z)) (own_nar_char R_p3 (by decide) (by decide))), (Fr.app (Fr.app (Fr.nil n0) N1) N3), rfl⟩
-- java/lang/AbstractStringBuilder.ensureCapacityInternal
set_option maxRecDepth 65536 in
set_option maxHeartbeats 4000000 in
theorem au_79 (l : Launch) (Z : State) (a0 : Array Value) (hw : ∀ d ∈ tables_1, d.before a0 Z = true) (x0 : Addr) (x1 : Addr) (kk0 : ClassId) (p0 : Int32) (h0 : Heap) (n0 : Nat) (Z0 : n0 ≤ h0.size) (P1 : Fld Z h0 x0 "java/lang/AbstractStringBuilder" "coder" "B" (.int 0)) (P3 : Fld Z h0 x0 "java/lang/AbstractStringBuilder" "value" "[B" (.ref x1)) (P4 : Arv Z h0 x1 kk0 .byte (2 : Int32) [(.int p0), (.int 0)] (.int 0)) :
    Ctr l Z (⟨"java/lang/AbstractStringBuilder", "ensureCapacityInternal", "(I)V"⟩ : MethodName) jdk_68_method_9_code 3 none ({ frames := 0, cells := 0, slots := 0, locals := 0 } : Room) #[(.ref x0), (.int 2)] h0 (fun v h L => v = none ∧ Fr n0 L ∧ h = h0) := by
  refine Ctr.of (plainFor_of_name pn_c4) ?_
  intro p e s m below meth c T0 hx hZ hby hml hown hnm hret hlk e0 es X0
  refine Go.cast (ef_37_RI m x0 (2 : Int32)) ?_
  generalize hFF : EndN s _ _ _ = FF
  refine Go.aloadN X0 hx (pc' := 1) rfl (hb hby d37_0) rfl rfl ?_
  refine Go.getF X0 hx hZ hown (host := "") (Or.inl (tw_69 hw)) Via.refl e0 P3 (pc' := 4) rfl (hb hby d37_1) ?_
  intro T1 e1 X1
  refine Go.arraylength X1 hx hZ e1 P4 (pc' := 5) rfl (hb hby d37_4) ?_
  refine Go.aloadN X1 hx (pc' := 6) rfl (hb hby d37_5) rfl rfl ?_
  refine Go.getF X1 hx hZ hown (host := "") (Or.inl (tw_71 hw)) Via.refl e1 P1 (pc' := 9) rfl (hb hby d37_6) ?_
  intro T2 e2 X2
  refine Go.ishr X2 hx (pc' := 10) rfl (hb hby d37_9) ?_
  rw [show ((2 : Int32) >>> ((0 : Int32) &&& 31)) = (2 : Int32) from by decide]
  refine Go.istoreN X2 hx (pc' := 11) rfl (hb hby d37_10) (Ls' := #[.val (.ref x0), .val (.int 2), .val (.int 2)]) rfl ?_
  refine Go.iloadN X2 hx (pc' := 12) rfl (hb hby d37_11) rfl ?_
  refine Go.iloadN X2 hx (pc' := 13) rfl (hb hby d37_12) rfl ?_
  refine Go.isub X2 hx (pc' := 14) rfl (hb hby d37_13) ?_
  rw [show ((2 : Int32) - (2 : Int32)) = (0 : Int32) from by decide]
  refine Go.ifYes X2 hx (pc' := 38) (hb hby d37_14) (by decide) (by decide) (by decide) ?_
  subst hFF
  refine Go.ret0 X2 hx hlk hret (hb hby d37_38) (by decide) (by decide) ?_
  rw [e2]
  exact ⟨rfl, (Fr.nil n0), rfl⟩
-- java/lang/AbstractStringBuilder.isLatin1
set_option maxRecDepth 65536 in
set_option maxHeartbeats 4000000 in
theorem au_80 (l : Launch) (Z : State) (a0 : Array Value) (hw : ∀ d ∈ tables_1, d.before a0 Z = true) (x0 : Addr) (gz1 : Int32) (gv5 : Value) (h0 : Heap) (n0 : Nat) (Z0 : n0 ≤ h0.size) (O0 : Old Z n0 h0) (G : Glob Z gz1 gv5) (P1 : Fld Z h0 x0 "java/lang/AbstractStringBuilder" "coder" "B" (.int 0)) :
    Ctr l Z (⟨"java/lang/AbstractStringBuilder", "isLatin1", "()Z"⟩ : MethodName) jdk_68_method_68_code 1 (some .boolean) ({ frames := 0, cells := 0, slots := 0, locals := 0 } : Room) #[(.ref x0)] h0 (fun v h L => v = some (.int 1) ∧ Fr n0 L ∧ h = h0) := by
  refine Ctr.of (plainFor_of_name pn_c4) ?_
  intro p e s m below meth c T0 hx hZ hby hml hown hnm hret hlk e0 es X0
  have G' := G
  obtain ⟨G0, -, G2, -⟩ := G'
  refine Go.cast (ef_19_R m x0) ?_
  generalize hFF : EndN s _ _ _ = FF
  have fk1 : Sta Z h0 "java/lang/String" "COMPACT_STRINGS" "Z" (.int gz1) := G0.ext O0.2
  refine Go.getS X0 hx hZ hown (host := "") (Or.inl (tw_68 hw)) Via.refl e0 fk1 (pc' := 3) rfl (hb hby d19_0) ?_
  intro T2 e2 X2
  refine Go.ifNo X2 hx (pc' := 6) rfl (hb hby d19_3) (feq G2).1 ?_
  refine Go.aloadN X2 hx (pc' := 7) rfl (hb hby d19_6) rfl rfl ?_
  refine Go.getF X2 hx hZ hown (host := "") (Or.inl (tw_71 hw)) Via.refl e2 P1 (pc' := 10) rfl (hb hby d19_7) ?_
  intro T3 e3 X3
  refine Go.ifNo X3 hx (pc' := 13) rfl (hb hby d19_10) (by decide) ?_
  refine Go.iconst X3 hx (pc' := 14) rfl (hb hby d19_13) (v := (1 : Int32)) rfl ?_
  refine Go.goto X3 hx (pc' := 18) (hb hby d19_14) (by decide) (by decide) ?_
  subst hFF
  refine Go.retN X3 hx hlk (t := .boolean) hret (by simp) (hb hby d19_18) (by decide) (by decide) ?_
  rw [e3]
  exact ⟨(congrArg (fun z => some (Value.int z)) (by decide : nar .boolean (1 : Int32) = (1 : Int32))), (Fr.nil n0), rfl⟩
-- java/lang/AbstractStringBuilder.append
set_option maxRecDepth 65536 in
set_option maxHeartbeats 4000000 in
theorem au_78 (l : Launch) (Z : State) (a0 : Array Value) (hw : ∀ d ∈ tables_1, d.before a0 Z = true) (x0 : Addr) (p0 : Int32) (x1 : Addr) (kk0 : ClassId) (p1 : Int32) (gz1 : Int32) (gv5 : Value) (h0 : Heap) (n0 : Nat) (Z0 : n0 ≤ h0.size) (O0 : Old Z n0 h0) (G : Glob Z gz1 gv5) (P0 : Exa Z h0 x0 "java/lang/StringBuilder") (P1 : Fld Z h0 x0 "java/lang/AbstractStringBuilder" "coder" "B" (.int 0)) (P2 : Fld Z h0 x0 "java/lang/AbstractStringBuilder" "count" "I" (.int 1)) (P3 : Fld Z h0 x0 "java/lang/AbstractStringBuilder" "value" "[B" (.ref x1)) (P4 : Arv Z h0 x1 kk0 .byte (2 : Int32) [(.int p1), (.int 0)] (.int 0)) (P5 : Exa Z h0 x1 "[B") (R_p0 : 0 ≤ p0.toInt ∧ p0.toInt ≤ 255) (g_x0 : n0 ≤ x0) (g_x1 : n0 ≤ x1) (ne_x1_x0 : x1 ≠ x0) :
    Ctr l Z (⟨"java/lang/AbstractStringBuilder", "append", "(C)Ljava/lang/AbstractStringBuilder;"⟩ : MethodName) jdk_68_method_31_code 2 (some (.object "java/lang/AbstractStringBuilder")) ({ frames := 1, cells := 0, slots := 0, locals := 14 } : Room) #[(.ref x0), (.int p0)] h0 (fun v h L => ∃ (y0 : Int32), (p0.toInt8.toInt32) = y0 ∧ v = some (.ref x0) ∧ Fr n0 L ∧ Keep h0 h [x0, x1] ∧ Exa Z h x0 "java/lang/StringBuilder" ∧ Fld Z h x0 "java/lang/AbstractStringBuilder" "coder" "B" (.int 0) ∧ Fld Z h x0 "java/lang/AbstractStringBuilder" "count" "I" (.int 2) ∧ Fld Z h x0 "java/lang/AbstractStringBuilder" "value" "[B" (.ref x1) ∧ Arv Z h x1 kk0 .byte (2 : Int32) [(.int p1), (.int y0)] (.int 0) ∧ Exa Z h x1 "[B") := by
  refine Ctr.of (plainFor_of_name pn_c4) ?_
  intro p e s m below meth c T0 hx hZ hby hml hown hnm hret hlk e0 es X0
  refine Go.cast (ef_36_RI m x0 p0) ?_
  generalize hFF : EndN s _ _ _ = FF
  refine Go.aloadN X0 hx (pc' := 1) rfl (hb hby d36_0) rfl rfl ?_
  refine Go.aloadN X0 hx (pc' := 2) rfl (hb hby d36_1) rfl rfl ?_
  refine Go.getF X0 hx hZ hown (host := "") (Or.inl (tw_99 hw)) Via.refl e0 P2 (pc' := 5) rfl (hb hby d36_2) ?_
  intro T1 e1 X1
  refine Go.iconst X1 hx (pc' := 6) rfl (hb hby d36_5) (v := (1 : Int32)) rfl ?_
  refine Go.iadd X1 hx (pc' := 7) rfl (hb hby d36_6) ?_
  rw [show ((1 : Int32) + (1 : Int32)) = (2 : Int32) from by decide]
  refine Go.callP X1 hx hZ hown (tw_191 hw) (tw_192 hw) (tw_194 hw) (tw_193 hw) (tw_195 hw) (by decide) (tw_195 hw) (tw_65 hw) (au_79 l Z a0 hw x0 x1 kk0 p1 h0 n0 Z0 P1 P3 P4) e1 P0 (argsL := [(.int 2)]) (rest := []) (pc' := 10) rfl (by rw [hml]; rfl) (lenOf pd_14 rfl) rfl rfl (W := 0) (Nat.le_of_eq rfl) (by decide) (by decide) (by decide) (by decide) (hb hby d36_7) ?_
  intro v2 T2 L2 q2 X2
  obtain ⟨rfl, N2, e2⟩ := q2
  show Go _ _ _ _ (T2.setTop (mkF m 10 #[.val (.ref x0), .val (.int p0)] []))
  refine Go.aloadN X2 hx (pc' := 11) rfl (hb hby d36_10) rfl rfl ?_
  refine Go.callV X2 hx hZ hown (tw_196 hw) (tw_102 hw) (notFace_of_selects (args := #[]) (mvT hZ (tw_104 hw))) (tw_104 hw) (tw_103 hw) (by decide) (tw_105 hw) (tw_65 hw) (au_80 l Z a0 hw x0 gz1 gv5 h0 n0 Z0 O0 G P1) e2 P0 (argsL := []) (rest := []) (pc' := 14) rfl (by rw [hml]; rfl) (lenOf pd_16 rfl) rfl rfl (W := 0) (Nat.le_of_eq rfl) (by decide) (by decide) (by decide) (by decide) (hb hby d36_11) ?_
  intro v3 T3 L3 q3 X3
  obtain ⟨rfl, N3, e3⟩ := q3
  show Go _ _ _ _ (T3.setTop (mkF m 14 #[.val (.ref x0), .val (.int p0)] [(.int 1)]))
  refine Go.ifNo X3 hx (pc' := 17) rfl (hb hby d36_14) (by decide) ?_
  refine Go.iloadN X3 hx (pc' := 18) rfl (hb hby d36_17) rfl ?_
  refine Go.callS X3 hx hZ hown (tw_197 hw) (tw_151 hw) (tw_152 hw) (tw_153 hw) (by decide) (tw_153 hw) (tw_152 hw) (au_12 l Z a0 hw p0 h0 n0 Z0 R_p0) e3 (argsL := [(.int p0)]) (rest := []) (pc' := 21) rfl (by rw [hml]; rfl) (lenOf pd_4 rfl) rfl rfl (W := 0) (Nat.le_of_eq rfl) (by decide) (by decide) (by decide) (by decide) (hb hby d36_18) ?_
  intro v4 T4 L4 q4 X4
  obtain ⟨rfl, N4, e4⟩ := q4
  show Go _ _ _ _ (T4.setTop (mkF m 21 #[.val (.ref x0), .val (.int p0)] [(.int 1)]))
  refine Go.ifNo X4 hx (pc' := 24) rfl (hb hby d36_21) (by decide) ?_
  refine Go.aloadN X4 hx (pc' := 25) rfl (hb hby d36_24) rfl rfl ?_
  refine Go.getF X4 hx hZ hown (host := "") (Or.inl (tw_69 hw)) Via.refl e4 P3 (pc' := 28) rfl (hb hby d36_25) ?_
  intro T5 e5 X5
  refine Go.aloadN X5 hx (pc' := 29) rfl (hb hby d36_28) rfl rfl ?_
  refine Go.dup X5 hx (pc' := 30) rfl (hb hby d36_29) rfl ?_
  refine Go.getF X5 hx hZ hown (host := "") (Or.inl (tw_99 hw)) Via.refl e5 P2 (pc' := 33) rfl (hb hby d36_30) ?_
  intro T6 e6 X6
  refine Go.dupX1 X6 hx (pc' := 34) rfl (hb hby d36_33) rfl rfl ?_
  refine Go.iconst X6 hx (pc' := 35) rfl (hb hby d36_34) (v := (1 : Int32)) rfl ?_
  refine Go.iadd X6 hx (pc' := 36) rfl (hb hby d36_35) ?_
  rw [show ((1 : Int32) + (1 : Int32)) = (2 : Int32) from by decide]
  refine Go.putF X6 hx hZ hown (host := "") (Or.inl (tw_99 hw)) Via.refl e6 P2 P0 (Or.inl (tw_100 hw)) (tw_45 hw) (ty := .int) (by decide) rfl rfl (pc' := 39) rfl (hb hby d36_36) ?_
  intro T7 h7 e7 W7 F7 X7
  have N7 := Fr.snoc X7 (Fr.app (Fr.app (Fr.app (Fr.nil n0) N2) N3) N4) g_x0
  refine Go.iloadN X7 hx (pc' := 40) rfl (hb hby d36_39) rfl ?_
  refine Go.i2b X7 hx (pc' := 41) rfl (hb hby d36_40) ?_
  generalize hz8 : (p0.toInt8.toInt32) = z8
  have fk9 := (P4.other W7 ne_x1_x0)
  have r10 : -128 ≤ z8.toInt ∧ z8.toInt ≤ 127 := own_ri2b hz8
  refine Go.bastore X7 hx hZ e7 fk9 z8 (own_nar_byte r10 (by decide) (by decide)) ⟨by decide, by decide⟩ 1 rfl (Nat.le_of_ble_eq_true rfl) (pc' := 42) rfl (hb hby d36_41) ?_
  intro T11 h11 e11 W11 V11 X11
  have N11 := Fr.snoc X11 N7 g_x1
  refine Go.goto X11 hx (pc' := 75) (hb hby d36_42) (by decide) (by decide) ?_
  refine Go.aloadN X11 hx (pc' := 76) rfl (hb hby d36_75) rfl rfl ?_
  subst hFF
  refine Go.retR X11 hx hlk (t := (.object "java/lang/AbstractStringBuilder")) hret rfl rfl (hb hby d36_76) (by decide) (by decide) ?_
  rw [e11]
  have fk12 : Exa Z h11 x0 "java/lang/StringBuilder" := ((P0.wr W7).wr W11)
  have fk13 : Fld Z h11 x0 "java/lang/AbstractStringBuilder" "coder" "B" (.int 0) := ((P1.other W7 (Or.inr (slot_ne (Or.inl (tw_72 hw)) (Or.inl (tw_100 hw)) (by decide) (t := .byte) (t' := .int) (by decide) (by decide)))).other W11 (Or.inl (Ne.symm ne_x1_x0)))
  have fk14 : Fld Z h11 x0 "java/lang/AbstractStringBuilder" "count" "I" (.int 2) := (F7.other W11 (Or.inl (Ne.symm ne_x1_x0)))
  have fk15 : Fld Z h11 x0 "java/lang/AbstractStringBuilder" "value" "[B" (.ref x1) := ((P3.other W7 (Or.inr (slot_ne (Or.inl (tw_70 hw)) (Or.inl (tw_100 hw)) (by decide) (t := (.array .byte)) (t' := .int) (by decide) (by decide)))).other W11 (Or.inl (Ne.symm ne_x1_x0)))
  have V16 : Arv Z h11 x1 kk0 .byte (2 : Int32) [(.int p1), (.int z8)] (.int 0) := V11
  have fk17 : Exa Z h11 x1 "[B" := ((P5.wr W7).wr W11)
  have Kp18 : Keep h0 h7 [x0, x1] := ((Keep.refl h0 [x0, x1]).wr W7 (Or.inl (List.mem_of_getElem? (i := 0) rfl)))
  have Kp19 : Keep h0 h11 [x0, x1] := (Kp18.wr W11 (Or.inl (List.mem_of_getElem? (i := 1) rfl)))
  exact ⟨z8, hz8, rfl, N11, Kp19, fk12, fk13, fk14, fk15, V16, fk17⟩
-- java/lang/StringBuilder.append
set_option maxRecDepth 65536 in
set_option maxHeartbeats 4000000 in
theorem au_77 (l : Launch) (Z : State) (a0 : Array Value) (hw : ∀ d ∈ tables_1, d.before a0 Z = true) (x0 : Addr) (p0 : Int32) (x1 : Addr) (kk0 : ClassId) (p1 : Int32) (gz1 : Int32) (gv5 : Value) (h0 : Heap) (n0 : Nat) (Z0 : n0 ≤ h0.size) (O0 : Old Z n0 h0) (G : Glob Z gz1 gv5) (P0 : Exa Z h0 x0 "java/lang/StringBuilder") (P1 : Fld Z h0 x0 "java/lang/AbstractStringBuilder" "coder" "B" (.int 0)) (P2 : Fld Z h0 x0 "java/lang/AbstractStringBuilder" "count" "I" (.int 1)) (P3 : Fld Z h0 x0 "java/lang/AbstractStringBuilder" "value" "[B" (.ref x1)) (P4 : Arv Z h0 x1 kk0 .byte (2 : Int32) [(.int p1), (.int 0)] (.int 0)) (P5 : Exa Z h0 x1 "[B") (R_p0 : 0 ≤ p0.toInt ∧ p0.toInt ≤ 255) (g_x0 : n0 ≤ x0) (g_x1 : n0 ≤ x1) (ne_x1_x0 : x1 ≠ x0) :
    Ctr l Z (⟨"java/lang/StringBuilder", "append", "(C)Ljava/lang/StringBuilder;"⟩ : MethodName) jdk_67_method_14_code 2 (some (.object "java/lang/StringBuilder")) ({ frames := 2, cells := 0, slots := 0, locals := 27 } : Room) #[(.ref x0), (.int p0)] h0 (fun v h L => ∃ (y0 : Int32), (p0.toInt8.toInt32) = y0 ∧ v = some (.ref x0) ∧ Fr n0 L ∧ Keep h0 h [x0, x1] ∧ Exa Z h x0 "java/lang/StringBuilder" ∧ Fld Z h x0 "java/lang/AbstractStringBuilder" "coder" "B" (.int 0) ∧ Fld Z h x0 "java/lang/AbstractStringBuilder" "count" "I" (.int 2) ∧ Fld Z h x0 "java/lang/AbstractStringBuilder" "value" "[B" (.ref x1) ∧ Arv Z h x1 kk0 .byte (2 : Int32) [(.int p1), (.int y0)] (.int 0) ∧ Exa Z h x1 "[B") := by
  refine Ctr.of (plainFor_of_name pn_c5) ?_
  intro p e s m below meth c T0 hx hZ hby hml hown hnm hret hlk e0 es X0
  refine Go.cast (ef_35_RI m x0 p0) ?_
  generalize hFF : EndN s _ _ _ = FF
  refine Go.aloadN X0 hx (pc' := 1) rfl (hb hby d35_0) rfl rfl ?_
  refine Go.iloadN X0 hx (pc' := 2) rfl (hb hby d35_1) rfl ?_
  refine Go.callUp X0 hx hZ hown (tw_187 hw) (own_sameself (tw_88 hw) rfl (tw_188 hw) (by decide)) (tw_188 hw) (tw_97 hw) (by decide) (tw_190 hw) (tw_190 hw) (tw_65 hw) (au_78 l Z a0 hw x0 p0 x1 kk0 p1 gz1 gv5 h0 n0 Z0 O0 G P0 P1 P2 P3 P4 P5 R_p0 g_x0 g_x1 ne_x1_x0) e0 P0 (argsL := [(.int p0)]) (rest := []) (pc' := 5) rfl (by rw [hml]; rfl) (lenOf pd_25 rfl) rfl rfl (W := 0) (Nat.le_of_eq rfl) (by decide) (by decide) (by decide) (by decide) (hb hby d35_2) ?_
  intro v1 T1 L1 q1 X1
  obtain ⟨h1, e1⟩ : ∃ z, T1.heap = z := ⟨_, rfl⟩
  rw [e1] at q1
  obtain ⟨z1_0, d1_0, rfl, N1, K1, F1_0, F1_1, F1_2, F1_3, F1_4, F1_5⟩ := q1
  show Go _ _ _ _ (T1.setTop (mkF m 5 #[.val (.ref x0), .val (.int p0)] [(.ref x0)]))
  refine Go.pop X1 hx (pc' := 6) rfl (hb hby d35_5) rfl ?_
  refine Go.aloadN X1 hx (pc' := 7) rfl (hb hby d35_6) rfl rfl ?_
  subst hFF
  refine Go.retR X1 hx hlk (t := (.object "java/lang/StringBuilder")) hret rfl rfl (hb hby d35_7) (by decide) (by decide) ?_
  rw [e1]
  have Kp2 : Keep h0 h1 [x0, x1] := ((Keep.refl h0 [x0, x1]).trans K1 (allS (Or.inl (List.mem_of_getElem? (i := 0) rfl)) (allS (Or.inl (List.mem_of_getElem? (i := 1) rfl)) all0)))
  exact ⟨z1_0, d1_0, rfl, (Fr.app (Fr.nil n0) N1), Kp2, F1_0, F1_1, F1_2, F1_3, F1_4, F1_5⟩
-- java/lang/AbstractStringBuilder.getValue
set_option maxRecDepth 65536 in
set_option maxHeartbeats 4000000 in
theorem au_84 (l : Launch) (Z : State) (a0 : Array Value) (hw : ∀ d ∈ tables_1, d.before a0 Z = true) (x0 : Addr) (x1 : Addr) (h0 : Heap) (n0 : Nat) (Z0 : n0 ≤ h0.size) (P3 : Fld Z h0 x0 "java/lang/AbstractStringBuilder" "value" "[B" (.ref x1)) :
    Ctr l Z (⟨"java/lang/AbstractStringBuilder", "getValue", "()[B"⟩ : MethodName) jdk_68_method_64_code 1 (some (.array .byte)) ({ frames := 0, cells := 0, slots := 0, locals := 0 } : Room) #[(.ref x0)] h0 (fun v h L => v = some (.ref x1) ∧ Fr n0 L ∧ h = h0) := by
  refine Ctr.of (plainFor_of_name pn_c4) ?_
  intro p e s m below meth c T0 hx hZ hby hml hown hnm hret hlk e0 es X0
  refine Go.cast (ef_16_R m x0) ?_
  generalize hFF : EndN s _ _ _ = FF
  refine Go.aloadN X0 hx (pc' := 1) rfl (hb hby d16_0) rfl rfl ?_
  refine Go.getF X0 hx hZ hown (host := "") (Or.inl (tw_69 hw)) Via.refl e0 P3 (pc' := 4) rfl (hb hby d16_1) ?_
  intro T1 e1 X1
  subst hFF
  refine Go.retR X1 hx hlk (t := (.array .byte)) hret rfl rfl (hb hby d16_4) (by decide) (by decide) ?_
  rw [e1]
  exact ⟨rfl, (Fr.nil n0), rfl⟩
-- java/lang/AbstractStringBuilder.length
set_option maxRecDepth 65536 in
set_option maxHeartbeats 4000000 in
theorem au_86 (l : Launch) (Z : State) (a0 : Array Value) (hw : ∀ d ∈ tables_1, d.before a0 Z = true) (x0 : Addr) (h0 : Heap) (n0 : Nat) (Z0 : n0 ≤ h0.size) (P2 : Fld Z h0 x0 "java/lang/AbstractStringBuilder" "count" "I" (.int 2)) :
    Ctr l Z (⟨"java/lang/AbstractStringBuilder", "length", "()I"⟩ : MethodName) jdk_68_method_6_code 1 (some .int) ({ frames := 0, cells := 0, slots := 0, locals := 0 } : Room) #[(.ref x0)] h0 (fun v h L => v = some (.int 2) ∧ Fr n0 L ∧ h = h0) := by
  refine Ctr.of (plainFor_of_name pn_c4) ?_
  intro p e s m below meth c T0 hx hZ hby hml hown hnm hret hlk e0 es X0
  refine Go.cast (ef_18_R m x0) ?_
  generalize hFF : EndN s _ _ _ = FF
  refine Go.aloadN X0 hx (pc' := 1) rfl (hb hby d18_0) rfl rfl ?_
  refine Go.getF X0 hx hZ hown (host := "") (Or.inl (tw_99 hw)) Via.refl e0 P2 (pc' := 4) rfl (hb hby d18_1) ?_
  intro T1 e1 X1
  subst hFF
  refine Go.retI X1 hx hlk hret (hb hby d18_4) (by decide) (by decide) ?_
  rw [e1]
  exact ⟨rfl, (Fr.nil n0), rfl⟩
-- java/lang/StringBuilder.length
set_option maxRecDepth 65536 in
set_option maxHeartbeats 4000000 in
theorem au_85 (l : Launch) (Z : State) (a0 : Array Value) (hw : ∀ d ∈ tables_1, d.before a0 Z = true) (x0 : Addr) (h0 : Heap) (n0 : Nat) (Z0 : n0 ≤ h0.size) (P0 : Exa Z h0 x0 "java/lang/StringBuilder") (P2 : Fld Z h0 x0 "java/lang/AbstractStringBuilder" "count" "I" (.int 2)) :
    Ctr l Z (⟨"java/lang/StringBuilder", "length", "()I"⟩ : MethodName) jdk_67_method_93_code 1 (some .int) ({ frames := 1, cells := 0, slots := 0, locals := 12 } : Room) #[(.ref x0)] h0 (fun v h L => v = some (.int 2) ∧ Fr n0 L ∧ h = h0) := by
  refine Ctr.of (plainFor_of_name pn_c5) ?_
  intro p e s m below meth c T0 hx hZ hby hml hown hnm hret hlk e0 es X0
  refine Go.cast (ef_17_R m x0) ?_
  generalize hFF : EndN s _ _ _ = FF
  refine Go.aloadN X0 hx (pc' := 1) rfl (hb hby d17_0) rfl rfl ?_
  refine Go.callUp X0 hx hZ hown (tw_96 hw) (own_sameself (tw_88 hw) rfl (tw_92 hw) (by decide)) (tw_92 hw) (tw_97 hw) (by decide) (tw_98 hw) (tw_98 hw) (tw_65 hw) (au_86 l Z a0 hw x0 h0 n0 Z0 P2) e0 P0 (argsL := []) (rest := []) (pc' := 4) rfl (by rw [hml]; rfl) (lenOf pd_13 rfl) rfl rfl (W := 0) (Nat.le_of_eq rfl) (by decide) (by decide) (by decide) (by decide) (hb hby d17_1) ?_
  intro v1 T1 L1 q1 X1
  obtain ⟨rfl, N1, e1⟩ := q1
  show Go _ _ _ _ (T1.setTop (mkF m 4 #[.val (.ref x0)] [(.int 2)]))
  subst hFF
  refine Go.retI X1 hx hlk hret (hb hby d17_4) (by decide) (by decide) ?_
  rw [e1]
  exact ⟨rfl, (Fr.app (Fr.nil n0) N1), rfl⟩
-- java/lang/AbstractStringBuilder.isLatin1
set_option maxRecDepth 65536 in
set_option maxHeartbeats 4000000 in
theorem au_87 (l : Launch) (Z : State) (a0 : Array Value) (hw : ∀ d ∈ tables_1, d.before a0 Z = true) (x0 : Addr) (gz1 : Int32) (gv5 : Value) (h0 : Heap) (n0 : Nat) (Z0 : n0 ≤ h0.size) (O0 : Old Z n0 h0) (G : Glob Z gz1 gv5) (P1 : Fld Z h0 x0 "java/lang/AbstractStringBuilder" "coder" "B" (.int 0)) :
    Ctr l Z (⟨"java/lang/AbstractStringBuilder", "isLatin1", "()Z"⟩ : MethodName) jdk_68_method_68_code 1 (some .boolean) ({ frames := 0, cells := 0, slots := 0, locals := 0 } : Room) #[(.ref x0)] h0 (fun v h L => v = some (.int 1) ∧ Fr n0 L ∧ h = h0) := by
  refine Ctr.of (plainFor_of_name pn_c4) ?_
  intro p e s m below meth c T0 hx hZ hby hml hown hnm hret hlk e0 es X0
  have G' := G
  obtain ⟨G0, -, G2, -⟩ := G'
  refine Go.cast (ef_19_R m x0) ?_
  generalize hFF : EndN s _ _ _ = FF
  have fk1 : Sta Z h0 "java/lang/String" "COMPACT_STRINGS" "Z" (.int gz1) := G0.ext O0.2
  refine Go.getS X0 hx hZ hown (host := "") (Or.inl (tw_68 hw)) Via.refl e0 fk1 (pc' := 3) rfl (hb hby d19_0) ?_
  intro T2 e2 X2
  refine Go.ifNo X2 hx (pc' := 6) rfl (hb hby d19_3) (feq G2).1 ?_
  refine Go.aloadN X2 hx (pc' := 7) rfl (hb hby d19_6) rfl rfl ?_
  refine Go.getF X2 hx hZ hown (host := "") (Or.inl (tw_71 hw)) Via.refl e2 P1 (pc' := 10) rfl (hb hby d19_7) ?_
  intro T3 e3 X3
  refine Go.ifNo X3 hx (pc' := 13) rfl (hb hby d19_10) (by decide) ?_
  refine Go.iconst X3 hx (pc' := 14) rfl (hb hby d19_13) (v := (1 : Int32)) rfl ?_
  refine Go.goto X3 hx (pc' := 18) (hb hby d19_14) (by decide) (by decide) ?_
  subst hFF
  refine Go.retN X3 hx hlk (t := .boolean) hret (by simp) (hb hby d19_18) (by decide) (by decide) ?_
  rw [e3]
  exact ⟨(congrArg (fun z => some (Value.int z)) (by decide : nar .boolean (1 : Int32) = (1 : Int32))), (Fr.nil n0), rfl⟩
-- java/util/Arrays.copyOfRange
set_option maxRecDepth 65536 in
set_option maxHeartbeats 4000000 in
theorem au_88 (l : Launch) (Z : State) (a0 : Array Value) (hw : ∀ d ∈ tables_1, d.before a0 Z = true) (x0 : Addr) (kk0 : ClassId) (p0 : Int32) (p1 : Int32) (h0 : Heap) (n0 : Nat) (Z0 : n0 ≤ h0.size) (P0 : Arv Z h0 x0 kk0 .byte (2 : Int32) [(.int p0), (.int p1)] (.int 0)) (P1 : Exa Z h0 x0 "[B") :
    Ctr l Z (⟨"java/util/Arrays", "copyOfRange", "([BII)[B"⟩ : MethodName) jdk_65_method_132_code 3 (some (.array .byte)) ({ frames := 1, cells := 1, slots := 2, locals := 14 } : Room) #[(.ref x0), (.int 0), (.int 2)] h0 (fun v h L => ∃ (y0 : Addr), v = some (.ref y0) ∧ Fr n0 L ∧ Keep h0 h [] ∧ h0.size ≤ y0 ∧ Arv Z h y0 kk0 .byte (2 : Int32) [(.int p0), (.int p1)] (.int 0) ∧ Exa Z h y0 "[B") := by
  refine Ctr.of (plainFor_of_name pn_c6) ?_
  intro p e s m below meth c T0 hx hZ hby hml hown hnm hret hlk e0 es X0
  refine Go.cast (ef_20_RII m x0 (0 : Int32) (2 : Int32)) ?_
  generalize hFF : EndN s _ _ _ = FF
  refine Go.iloadN X0 hx (pc' := 1) rfl (hb hby d20_0) rfl ?_
  refine Go.ifNo X0 hx (pc' := 4) rfl (hb hby d20_1) (by decide) ?_
  refine Go.iloadN X0 hx (pc' := 5) rfl (hb hby d20_4) rfl ?_
  refine Go.aloadN X0 hx (pc' := 6) rfl (hb hby d20_5) rfl rfl ?_
  refine Go.arraylength X0 hx hZ e0 P0 (pc' := 7) rfl (hb hby d20_6) ?_
  refine Go.icmpYes X0 hx (pc' := 17) (hb hby d20_7) (by decide) (by decide) (by decide) ?_
  refine Go.aloadN X0 hx (pc' := 18) rfl (hb hby d20_17) rfl rfl ?_
  refine Go.clone X0 hx hZ hown (tw_110 hw) (tw_111 hw) (tw_115 hw) (tw_113 hw) (tw_114 hw) (tw_116 hw) e0 P0 P1 (W := 0) (cap := 2) (by decide) (by rw [hml]; rfl) (Nat.le_of_eq rfl) (by decide) (by decide) (by decide) (by decide) (pc' := 21) rfl (hb hby d20_18) ?_
  intro T1 h1 b1 e1 E1 g1 V1 A1 X1
  refine Go.castY X1 hx hZ hown (tw_117 hw) e1 (Ins.self A1) (pc' := 24) rfl (hb hby d20_21) ?_
  intro T2 e2 X2
  subst hFF
  refine Go.retR X2 hx hlk (t := (.array .byte)) hret rfl rfl (hb hby d20_24) (by decide) (by decide) ?_
  rw [e2]
  have Kp3 : Keep h0 h1 [] := ((Keep.refl h0 []).ext E1)
  have sz4 : h0.size ≤ b1 := Nat.le_trans (Keep.refl h0 []).1 (Nat.le_of_eq g1.symm)
  exact ⟨b1, rfl, (Fr.nil n0), Kp3, sz4, V1, A1⟩
-- java/lang/String.init
set_option maxRecDepth 65536 in
set_option maxHeartbeats 4000000 in
theorem au_83 (l : Launch) (Z : State) (a0 : Array Value) (hw : ∀ d ∈ tables_1, d.before a0 Z = true) (x0 : Addr) (x1 : Addr) (x2 : Addr) (kk0 : ClassId) (p0 : Int32) (p1 : Int32) (gz1 : Int32) (gv5 : Value) (h0 : Heap) (n0 : Nat) (Z0 : n0 ≤ h0.size) (O0 : Old Z n0 h0) (G : Glob Z gz1 gv5) (P0 : Exa Z h0 x0 "java/lang/String") (P1 : Fld Z h0 x0 "java/lang/String" "coder" "B" (.int 0)) (P2 : Fld Z h0 x0 "java/lang/String" "value" "[B" .null) (P3 : Exa Z h0 x1 "java/lang/StringBuilder") (P4 : Fld Z h0 x1 "java/lang/AbstractStringBuilder" "coder" "B" (.int 0)) (P5 : Fld Z h0 x1 "java/lang/AbstractStringBuilder" "count" "I" (.int 2)) (P6 : Fld Z h0 x1 "java/lang/AbstractStringBuilder" "value" "[B" (.ref x2)) (P7 : Arv Z h0 x2 kk0 .byte (2 : Int32) [(.int p0), (.int p1)] (.int 0)) (P8 : Exa Z h0 x2 "[B") (g_x0 : n0 ≤ x0) (ne_x2_x0 : x2 ≠ x0) :
    Ctr l Z (⟨"java/lang/String", "<init>", "(Ljava/lang/AbstractStringBuilder;Ljava/lang/Void;)V"⟩ : MethodName) jdk_42_method_150_code 5 none ({ frames := 2, cells := 1, slots := 2, locals := 29 } : Room) #[(.ref x0), (.ref x1), .null] h0 (fun v h L => ∃ (y0 : Addr), v = none ∧ Fr n0 L ∧ Keep h0 h [x0] ∧ h0.size ≤ y0 ∧ Exa Z h x0 "java/lang/String" ∧ Fld Z h x0 "java/lang/String" "coder" "B" (.int 0) ∧ Fld Z h x0 "java/lang/String" "value" "[B" (.ref y0) ∧ Arv Z h y0 kk0 .byte (2 : Int32) [(.int p0), (.int p1)] (.int 0) ∧ Exa Z h y0 "[B") := by
  refine Ctr.of (plainFor_of_name pn_c1) ?_
  intro p e s m below meth c T0 hx hZ hby hml hown hnm hret hlk e0 es X0
  refine Go.cast (ef_15_RRN m x0 x1) ?_
  generalize hFF : EndN s _ _ _ = FF
  refine Go.aloadN X0 hx (pc' := 1) rfl (hb hby d15_0) rfl rfl ?_
  refine Go.initO X0 hx hZ hown (tw_21 hw) (tw_22 hw) (tw_23 hw) e0 (by decide) (W := 0) (by rw [hml]; rfl) (Nat.le_of_eq rfl) (by decide) (pc' := 4) rfl (hb hby d15_1) ?_
  intro T1 e1 X1
  refine Go.aloadN X1 hx (pc' := 5) rfl (hb hby d15_4) rfl rfl ?_
  refine Go.callV X1 hx hZ hown (tw_85 hw) (tw_86 hw) (notFace_of_selects (args := #[]) (mvT hZ (tw_88 hw))) (tw_88 hw) (tw_87 hw) (by decide) (tw_89 hw) (tw_65 hw) (au_84 l Z a0 hw x1 x2 h0 n0 Z0 P6) e1 P3 (argsL := []) (rest := []) (pc' := 8) rfl (by rw [hml]; rfl) (lenOf pd_15 rfl) rfl rfl (W := 0) (Nat.le_of_eq rfl) (by decide) (by decide) (by decide) (by decide) (hb hby d15_5) ?_
  intro v2 T2 L2 q2 X2
  obtain ⟨rfl, N2, e2⟩ := q2
  show Go _ _ _ _ (T2.setTop (mkF m 8 #[.val (.ref x0), .val (.ref x1), .val .null, .unset, .unset] [(.ref x2)]))
  refine Go.astoreN X2 hx (pc' := 9) rfl (hb hby d15_8) (Ls' := #[.val (.ref x0), .val (.ref x1), .val .null, .val (.ref x2), .unset]) rfl rfl ?_
  refine Go.aloadN X2 hx (pc' := 10) rfl (hb hby d15_9) rfl rfl ?_
  refine Go.callV X2 hx hZ hown (tw_90 hw) (tw_91 hw) (own_nf (args := #[]) (mvT hZ (tw_88 hw)) rfl) (tw_93 hw) (tw_94 hw) (by decide) (tw_95 hw) (tw_46 hw) (au_85 l Z a0 hw x1 h0 n0 Z0 P3 P5) e2 P3 (argsL := []) (rest := []) (pc' := 13) rfl (by rw [hml]; rfl) (lenOf pd_13 rfl) rfl rfl (W := 0) (Nat.le_of_eq rfl) (by decide) (by decide) (by decide) (by decide) (hb hby d15_10) ?_
  intro v3 T3 L3 q3 X3
  obtain ⟨rfl, N3, e3⟩ := q3
  show Go _ _ _ _ (T3.setTop (mkF m 13 #[.val (.ref x0), .val (.ref x1), .val .null, .val (.ref x2), .unset] [(.int 2)]))
  refine Go.istore X3 hx (pc' := 15) rfl (hb hby d15_13) (Ls' := #[.val (.ref x0), .val (.ref x1), .val .null, .val (.ref x2), .val (.int 2)]) rfl ?_
  refine Go.aloadN X3 hx (pc' := 16) rfl (hb hby d15_15) rfl rfl ?_
  refine Go.callV X3 hx hZ hown (tw_101 hw) (tw_102 hw) (notFace_of_selects (args := #[]) (mvT hZ (tw_104 hw))) (tw_104 hw) (tw_103 hw) (by decide) (tw_105 hw) (tw_65 hw) (au_87 l Z a0 hw x1 gz1 gv5 h0 n0 Z0 O0 G P4) e3 P3 (argsL := []) (rest := []) (pc' := 19) rfl (by rw [hml]; rfl) (lenOf pd_16 rfl) rfl rfl (W := 0) (Nat.le_of_eq rfl) (by decide) (by decide) (by decide) (by decide) (hb hby d15_16) ?_
  intro v4 T4 L4 q4 X4
  obtain ⟨rfl, N4, e4⟩ := q4
  show Go _ _ _ _ (T4.setTop (mkF m 19 #[.val (.ref x0), .val (.ref x1), .val .null, .val (.ref x2), .val (.int 2)] [(.int 1)]))
  refine Go.ifNo X4 hx (pc' := 22) rfl (hb hby d15_19) (by decide) ?_
  refine Go.aloadN X4 hx (pc' := 23) rfl (hb hby d15_22) rfl rfl ?_
  refine Go.iconst X4 hx (pc' := 24) rfl (hb hby d15_23) (v := (0 : Int32)) rfl ?_
  refine Go.putFN X4 hx hZ hown (tw_31 hw) Via.refl e4 P1 P0 (Or.inr ⟨(tw_27 hw), rfl, hnm⟩) (tw_11 hw) (ty := .byte) (v' := (.int 0)) (by decide) (by decide) (by decide) (pc' := 27) rfl (hb hby d15_24) ?_
  intro T5 h5 e5 W5 F5 X5
  have N5 := Fr.snoc X5 (Fr.app (Fr.app (Fr.app (Fr.nil n0) N2) N3) N4) g_x0
  refine Go.aloadN X5 hx (pc' := 28) rfl (hb hby d15_27) rfl rfl ?_
  refine Go.aloadN X5 hx (pc' := 29) rfl (hb hby d15_28) rfl rfl ?_
  refine Go.iconst X5 hx (pc' := 30) rfl (hb hby d15_29) (v := (0 : Int32)) rfl ?_
  refine Go.iload X5 hx (pc' := 32) rfl (hb hby d15_30) rfl ?_
  have Kp7 : Keep h0 h5 [x0] := ((Keep.refl h0 [x0]).wr W5 (Or.inl (List.mem_of_getElem? (i := 0) rfl)))
  have Zn6 : n0 ≤ h5.size := Nat.le_trans Z0 Kp7.1
  have fk8 := (P7.other W5 ne_x2_x0)
  have fk9 : Exa Z h5 x2 "[B" := (P8.wr W5)
  refine Go.callS X5 hx hZ hown (tw_106 hw) (tw_107 hw) (tw_108 hw) (tw_109 hw) (by decide) (tw_109 hw) (tw_108 hw) (au_88 l Z a0 hw x2 kk0 p0 p1 h5 n0 Zn6 fk8 fk9) e5 (argsL := [(.ref x2), (.int 0), (.int 2)]) (rest := [(.ref x0)]) (pc' := 35) rfl (by rw [hml]; rfl) (lenOf pd_17 rfl) rfl rfl (W := 1) (Nat.le_of_eq rfl) (by decide) (by decide) (by decide) (by decide) (hb hby d15_32) ?_
  intro v10 T10 L10 q10 X10
  obtain ⟨h10, e10⟩ : ∃ z, T10.heap = z := ⟨_, rfl⟩
  rw [e10] at q10
  obtain ⟨b10_0, rfl, N10, K10, s10_0, F10_0, F10_1⟩ := q10
  show Go _ _ _ _ (T10.setTop (mkF m 35 #[.val (.ref x0), .val (.ref x1), .val .null, .val (.ref x2), .val (.int 2)] [(.ref b10_0), (.ref x0)]))
  have fk11 : Fld Z h10 x0 "java/lang/String" "value" "[B" .null := ((P2.other W5 (Or.inr (slot_ne (Or.inr (tw_26 hw)) (Or.inr (tw_27 hw)) (by decide) (t := (.array .byte)) (t' := .byte) (by decide) (by decide)))).keep K10 nin0)
  have fk12 : Exa Z h10 x0 "java/lang/String" := ((P0.wr W5).keep K10)
  refine Go.putF X10 hx hZ hown (host := "") (Or.inl (tw_30 hw)) Via.refl e10 fk11 fk12 (Or.inr ⟨(tw_26 hw), rfl, hnm⟩) (tw_11 hw) (ty := (.array .byte)) (by decide) rfl rfl (pc' := 38) rfl (hb hby d15_35) ?_
  intro T13 h13 e13 W13 F13 X13
  have N13 := Fr.snoc X13 (Fr.app N5 N10) g_x0
  refine Go.goto X13 hx (pc' := 97) (hb hby d15_38) (by decide) (by decide) ?_
  subst hFF
  refine Go.ret0 X13 hx hlk hret (hb hby d15_97) (by decide) (by decide) ?_
  rw [e13]
  have fk14 : Exa Z h13 x0 "java/lang/String" := (fk12.wr W13)
  have fk15 : Fld Z h13 x0 "java/lang/String" "coder" "B" (.int 0) := ((F5.keep K10 nin0).other W13 (Or.inr (slot_ne (Or.inr (tw_27 hw)) (Or.inr (tw_26 hw)) (by decide) (t := .byte) (t' := (.array .byte)) (by decide) (by decide))))
  have fk17 : Exa Z h5 x0 "java/lang/String" := (P0.wr W5)
  have ne16 : x0 ≠ b10_0 := Nat.ne_of_lt (Nat.lt_of_lt_of_le fk17.lt s10_0)
  have fk18 := (F10_0.other W13 (Ne.symm ne16))
  have fk19 : Exa Z h13 b10_0 "[B" := (F10_1.wr W13)
  have Kp20 : Keep h0 h10 [x0] := (Kp7.trans K10 all0)
  have Kp21 : Keep h0 h13 [x0] := (Kp20.wr W13 (Or.inl (List.mem_of_getElem? (i := 0) rfl)))
  have sz22 : h0.size ≤ b10_0 := Nat.le_trans Kp7.1 s10_0
  exact ⟨b10_0, rfl, N13, Kp21, sz22, fk14, fk15, F13, fk18, fk19⟩
-- java/lang/String.init
set_option maxRecDepth 65536 in
set_option maxHeartbeats 4000000 in
theorem au_82 (l : Launch) (Z : State) (a0 : Array Value) (hw : ∀ d ∈ tables_1, d.before a0 Z = true) (x0 : Addr) (x1 : Addr) (x2 : Addr) (kk0 : ClassId) (p0 : Int32) (p1 : Int32) (gz1 : Int32) (gv5 : Value) (h0 : Heap) (n0 : Nat) (Z0 : n0 ≤ h0.size) (O0 : Old Z n0 h0) (G : Glob Z gz1 gv5) (P0 : Exa Z h0 x0 "java/lang/String") (P1 : Fld Z h0 x0 "java/lang/String" "coder" "B" (.int 0)) (P2 : Fld Z h0 x0 "java/lang/String" "value" "[B" .null) (P3 : Exa Z h0 x1 "java/lang/StringBuilder") (P4 : Fld Z h0 x1 "java/lang/AbstractStringBuilder" "coder" "B" (.int 0)) (P5 : Fld Z h0 x1 "java/lang/AbstractStringBuilder" "count" "I" (.int 2)) (P6 : Fld Z h0 x1 "java/lang/AbstractStringBuilder" "value" "[B" (.ref x2)) (P7 : Arv Z h0 x2 kk0 .byte (2 : Int32) [(.int p0), (.int p1)] (.int 0)) (P8 : Exa Z h0 x2 "[B") (g_x0 : n0 ≤ x0) (ne_x2_x0 : x2 ≠ x0) :
    Ctr l Z (⟨"java/lang/String", "<init>", "(Ljava/lang/StringBuilder;)V"⟩ : MethodName) jdk_42_method_53_code 2 none ({ frames := 3, cells := 1, slots := 2, locals := 45 } : Room) #[(.ref x0), (.ref x1)] h0 (fun v h L => ∃ (y0 : Addr), v = none ∧ Fr n0 L ∧ Keep h0 h [x0] ∧ h0.size ≤ y0 ∧ Exa Z h x0 "java/lang/String" ∧ Fld Z h x0 "java/lang/String" "coder" "B" (.int 0) ∧ Fld Z h x0 "java/lang/String" "value" "[B" (.ref y0) ∧ Arv Z h y0 kk0 .byte (2 : Int32) [(.int p0), (.int p1)] (.int 0) ∧ Exa Z h y0 "[B") := by
  refine Ctr.of (plainFor_of_name pn_c1) ?_
  intro p e s m below meth c T0 hx hZ hby hml hown hnm hret hlk e0 es X0
  refine Go.cast (ef_14_RR m x0 x1) ?_
  generalize hFF : EndN s _ _ _ = FF
  refine Go.aloadN X0 hx (pc' := 1) rfl (hb hby d14_0) rfl rfl ?_
  refine Go.aloadN X0 hx (pc' := 2) rfl (hb hby d14_1) rfl rfl ?_
  refine Go.anull X0 hx (pc' := 3) rfl (hb hby d14_2) ?_
  refine Go.callN X0 hx hZ hown rfl (tw_82 hw) (tw_83 hw) (tw_84 hw) (by decide) (tw_84 hw) (tw_12 hw) (au_83 l Z a0 hw x0 x1 x2 kk0 p0 p1 gz1 gv5 h0 n0 Z0 O0 G P0 P1 P2 P3 P4 P5 P6 P7 P8 g_x0 ne_x2_x0) e0 (a := x0) (argsL := [(.ref x1), .null]) (rest := []) (pc' := 6) rfl (by rw [hml]; rfl) (lenOf pd_18 rfl) rfl rfl (W := 0) (Nat.le_of_eq rfl) (by decide) (by decide) (by decide) (by decide) (hb hby d14_3) ?_
  intro v1 T1 L1 q1 X1
  obtain ⟨h1, e1⟩ : ∃ z, T1.heap = z := ⟨_, rfl⟩
  rw [e1] at q1
  obtain ⟨b1_0, rfl, N1, K1, s1_0, F1_0, F1_1, F1_2, F1_3, F1_4⟩ := q1
  show Go _ _ _ _ (T1.setTop (mkF m 6 #[.val (.ref x0), .val (.ref x1)] []))
  subst hFF
  refine Go.ret0 X1 hx hlk hret (hb hby d14_6) (by decide) (by decide) ?_
  rw [e1]
  have Kp2 : Keep h0 h1 [x0] := ((Keep.refl h0 [x0]).trans K1 (allS (Or.inl (List.mem_of_getElem? (i := 0) rfl)) all0))
  have sz3 : h0.size ≤ b1_0 := Nat.le_trans (Keep.refl h0 [x0]).1 s1_0
  exact ⟨b1_0, rfl, (Fr.app (Fr.nil n0) N1), Kp2, sz3, F1_0, F1_1, F1_2, F1_3, F1_4⟩
-- java/lang/StringBuilder.toString
set_option maxRecDepth 65536 in
set_option maxHeartbeats 4000000 in
theorem au_81 (l : Launch) (Z : State) (a0 : Array Value) (hw : ∀ d ∈ tables_1, d.before a0 Z = true) (x0 : Addr) (x1 : Addr) (kk0 : ClassId) (p0 : Int32) (p1 : Int32) (gz1 : Int32) (gv5 : Value) (h0 : Heap) (n0 : Nat) (Z0 : n0 ≤ h0.size) (O0 : Old Z n0 h0) (G : Glob Z gz1 gv5) (P0 : Exa Z h0 x0 "java/lang/StringBuilder") (P1 : Fld Z h0 x0 "java/lang/AbstractStringBuilder" "coder" "B" (.int 0)) (P2 : Fld Z h0 x0 "java/lang/AbstractStringBuilder" "count" "I" (.int 2)) (P3 : Fld Z h0 x0 "java/lang/AbstractStringBuilder" "value" "[B" (.ref x1)) (P4 : Arv Z h0 x1 kk0 .byte (2 : Int32) [(.int p0), (.int p1)] (.int 0)) (P5 : Exa Z h0 x1 "[B") :
    Ctr l Z (⟨"java/lang/StringBuilder", "toString", "()Ljava/lang/String;"⟩ : MethodName) jdk_67_method_42_code 1 (some (.object "java/lang/String")) ({ frames := 4, cells := 2, slots := 6, locals := 59 } : Room) #[(.ref x0)] h0 (fun v h L => ∃ (y0 : Addr) (y1 : Addr), v = some (.ref y0) ∧ Fr n0 L ∧ Keep h0 h [] ∧ h0.size ≤ y0 ∧ h0.size ≤ y1 ∧ y1 ≠ y0 ∧ Exa Z h y0 "java/lang/String" ∧ Fld Z h y0 "java/lang/String" "coder" "B" (.int 0) ∧ Fld Z h y0 "java/lang/String" "value" "[B" (.ref y1) ∧ Arv Z h y1 kk0 .byte (2 : Int32) [(.int p0), (.int p1)] (.int 0) ∧ Exa Z h y1 "[B") := by
  refine Ctr.of (plainFor_of_name pn_c5) ?_
  intro p e s m below meth c T0 hx hZ hby hml hown hnm hret hlk e0 es X0
  refine Go.cast (ef_13_R m x0) ?_
  generalize hFF : EndN s _ _ _ = FF
  refine Go.new X0 hx hZ hown (tw_78 hw) (tw_11 hw) (tw_12 hw) e0 (by decide) (by decide) (pc' := 3) rfl (hb hby d13_0) ?_
  intro T1 h1 b1 e1 E1 g1 A1 D1 X1
  have b1_value : Fld Z h1 b1 "java/lang/String" "value" "[B" .null := D1 (Or.inr (tw_26 hw)) (ty := (.array .byte)) (by decide)
  have b1_coder : Fld Z h1 b1 "java/lang/String" "coder" "B" (.int 0) := D1 (Or.inr (tw_27 hw)) (ty := .byte) (by decide)
  refine Go.dup X1 hx (pc' := 4) rfl (hb hby d13_3) rfl ?_
  refine Go.aloadN X1 hx (pc' := 5) rfl (hb hby d13_4) rfl rfl ?_
  have Kp3 : Keep h0 h1 [] := ((Keep.refl h0 []).ext E1)
  have Zn2 : n0 ≤ h1.size := Nat.le_trans Z0 Kp3.1
  have O4 := (O0.ext E1)
  have fk5 : Exa Z h1 x0 "java/lang/StringBuilder" := (P0.ext E1)
  have fk6 : Fld Z h1 x0 "java/lang/AbstractStringBuilder" "coder" "B" (.int 0) := (P1.ext E1)
  have fk7 : Fld Z h1 x0 "java/lang/AbstractStringBuilder" "count" "I" (.int 2) := (P2.ext E1)
  have fk8 : Fld Z h1 x0 "java/lang/AbstractStringBuilder" "value" "[B" (.ref x1) := (P3.ext E1)
  have fk9 := (P4.ext E1)
  have fk10 : Exa Z h1 x1 "[B" := (P5.ext E1)
  have sz12 : h0.size ≤ b1 := Nat.le_trans (Keep.refl h0 []).1 (Nat.le_of_eq g1.symm)
  have ge11 : n0 ≤ b1 := Nat.le_trans Z0 sz12
  have ne13 : x1 ≠ b1 := Nat.ne_of_lt (Nat.lt_of_lt_of_le P4.lt (Nat.le_of_eq g1.symm))
  refine Go.callN X1 hx hZ hown rfl (tw_79 hw) (tw_80 hw) (tw_81 hw) (by decide) (tw_81 hw) (tw_12 hw) (au_82 l Z a0 hw b1 x0 x1 kk0 p0 p1 gz1 gv5 h1 n0 Zn2 O4 G A1 b1_coder b1_value fk5 fk6 fk7 fk8 fk9 fk10 ge11 ne13) e1 (a := b1) (argsL := [(.ref x0)]) (rest := [(.ref b1)]) (pc' := 8) rfl (by rw [hml]; rfl) (lenOf pd_19 rfl) rfl rfl (W := 1) (Nat.le_of_eq rfl) (by decide) (by decide) (by decide) (by decide) (hb hby d13_5) ?_
  intro v14 T14 L14 q14 X14
  obtain ⟨h14, e14⟩ : ∃ z, T14.heap = z := ⟨_, rfl⟩
  rw [e14] at q14
  obtain ⟨b14_0, rfl, N14, K14, s14_0, F14_0, F14_1, F14_2, F14_3, F14_4⟩ := q14
  show Go _ _ _ _ (T14.setTop (mkF m 8 #[.val (.ref x0)] [(.ref b1)]))
  subst hFF
  refine Go.retR X14 hx hlk (t := (.object "java/lang/String")) hret rfl rfl (hb hby d13_8) (by decide) (by decide) ?_
  rw [e14]
  have Kp15 : Keep h0 h14 [] := (Kp3.trans K14 (allS (Or.inr sz12) all0))
  have sz16 : h0.size ≤ b14_0 := Nat.le_trans Kp3.1 s14_0
  have ne17 : b1 ≠ b14_0 := Nat.ne_of_lt (Nat.lt_of_lt_of_le A1.lt s14_0)
  exact ⟨b1, b14_0, rfl, (Fr.app (Fr.nil n0) N14), Kp15, sz12, sz16, (Ne.symm ne17), F14_0, F14_1, F14_2, F14_3, F14_4⟩
-- java/lang/String.coder
set_option maxRecDepth 65536 in
set_option maxHeartbeats 4000000 in
theorem au_90 (l : Launch) (Z : State) (a0 : Array Value) (hw : ∀ d ∈ tables_1, d.before a0 Z = true) (x0 : Addr) (gz1 : Int32) (gv5 : Value) (h0 : Heap) (n0 : Nat) (Z0 : n0 ≤ h0.size) (O0 : Old Z n0 h0) (G : Glob Z gz1 gv5) (P1 : Fld Z h0 x0 "java/lang/String" "coder" "B" (.int 0)) :
    Ctr l Z (⟨"java/lang/String", "coder", "()B"⟩ : MethodName) jdk_42_method_152_code 1 (some .byte) ({ frames := 0, cells := 0, slots := 0, locals := 0 } : Room) #[(.ref x0)] h0 (fun v h L => v = some (.int 0) ∧ Fr n0 L ∧ h = h0) := by
  refine Ctr.of (plainFor_of_name pn_c1) ?_
  intro p e s m below meth c T0 hx hZ hby hml hown hnm hret hlk e0 es X0
  have G' := G
  obtain ⟨G0, -, G2, -⟩ := G'
  refine Go.cast (ef_10_R m x0) ?_
  generalize hFF : EndN s _ _ _ = FF
  have fk1 : Sta Z h0 "java/lang/String" "COMPACT_STRINGS" "Z" (.int gz1) := G0.ext O0.2
  refine Go.getS X0 hx hZ hown (host := "") (Or.inl (tw_57 hw)) Via.refl e0 fk1 (pc' := 3) rfl (hb hby d10_0) ?_
  intro T2 e2 X2
  refine Go.ifNo X2 hx (pc' := 6) rfl (hb hby d10_3) (feq G2).1 ?_
  refine Go.aloadN X2 hx (pc' := 7) rfl (hb hby d10_6) rfl rfl ?_
  refine Go.getF X2 hx hZ hown (host := "") (Or.inl (tw_31 hw)) Via.refl e2 P1 (pc' := 10) rfl (hb hby d10_7) ?_
  intro T3 e3 X3
  refine Go.goto X3 hx (pc' := 14) (hb hby d10_10) (by decide) (by decide) ?_
  subst hFF
  refine Go.retN X3 hx hlk (t := .byte) hret (by simp) (hb hby d10_14) (by decide) (by decide) ?_
  rw [e3]
  exact ⟨(congrArg (fun z => some (Value.int z)) (by decide : nar .byte (0 : Int32) = (0 : Int32))), (Fr.nil n0), rfl⟩
-- java/lang/String.length
set_option maxRecDepth 65536 in
set_option maxHeartbeats 4000000 in
theorem au_89 (l : Launch) (Z : State) (a0 : Array Value) (hw : ∀ d ∈ tables_1, d.before a0 Z = true) (x0 : Addr) (x1 : Addr) (kk0 : ClassId) (p0 : Int32) (p1 : Int32) (p2 : Int32) (gz1 : Int32) (gv5 : Value) (h0 : Heap) (n0 : Nat) (Z0 : n0 ≤ h0.size) (O0 : Old Z n0 h0) (G : Glob Z gz1 gv5) (P0 : Exa Z h0 x0 "java/lang/String") (P1 : Fld Z h0 x0 "java/lang/String" "coder" "B" (.int 0)) (P2 : Fld Z h0 x0 "java/lang/String" "value" "[B" (.ref x1)) (P3 : Arv Z h0 x1 kk0 .byte (3 : Int32) [(.int p0), (.int p1), (.int p2)] (.int 0)) :
    Ctr l Z (⟨"java/lang/String", "length", "()I"⟩ : MethodName) jdk_42_method_54_code 1 (some .int) ({ frames := 1, cells := 0, slots := 0, locals := 13 } : Room) #[(.ref x0)] h0 (fun v h L => v = some (.int 3) ∧ Fr n0 L ∧ h = h0) := by
  refine Ctr.of (plainFor_of_name pn_c1) ?_
  intro p e s m below meth c T0 hx hZ hby hml hown hnm hret hlk e0 es X0
  refine Go.cast (ef_9_R m x0) ?_
  generalize hFF : EndN s _ _ _ = FF
  refine Go.aloadN X0 hx (pc' := 1) rfl (hb hby d9_0) rfl rfl ?_
  refine Go.getF X0 hx hZ hown (host := "") (Or.inl (tw_30 hw)) Via.refl e0 P2 (pc' := 4) rfl (hb hby d9_1) ?_
  intro T1 e1 X1
  refine Go.arraylength X1 hx hZ e1 P3 (pc' := 5) rfl (hb hby d9_4) ?_
  refine Go.aloadN X1 hx (pc' := 6) rfl (hb hby d9_5) rfl rfl ?_
  refine Go.callV X1 hx hZ hown (tw_52 hw) (tw_53 hw) (notFace_of_selects (args := #[]) (mvT hZ (tw_55 hw))) (tw_55 hw) (tw_54 hw) (by decide) (tw_56 hw) (tw_12 hw) (au_90 l Z a0 hw x0 gz1 gv5 h0 n0 Z0 O0 G P1) e1 P0 (argsL := []) (rest := [(.int 3)]) (pc' := 9) rfl (by rw [hml]; rfl) (lenOf pd_12 rfl) rfl rfl (W := 1) (Nat.le_of_eq rfl) (by decide) (by decide) (by decide) (by decide) (hb hby d9_6) ?_
  intro v2 T2 L2 q2 X2
  obtain ⟨rfl, N2, e2⟩ := q2
  show Go _ _ _ _ (T2.setTop (mkF m 9 #[.val (.ref x0)] [(.int 0), (.int 3)]))
  refine Go.ishr X2 hx (pc' := 10) rfl (hb hby d9_9) ?_
  rw [show ((3 : Int32) >>> ((0 : Int32) &&& 31)) = (3 : Int32) from by decide]
  subst hFF
  refine Go.retI X2 hx hlk hret (hb hby d9_10) (by decide) (by decide) ?_
  rw [e2]
  exact ⟨rfl, (Fr.app (Fr.nil n0) N2), rfl⟩
-- java/lang/AbstractStringBuilder.init
set_option maxRecDepth 65536 in
set_option maxHeartbeats 4000000 in
theorem au_92 (l : Launch) (Z : State) (a0 : Array Value) (hw : ∀ d ∈ tables_1, d.before a0 Z = true) (x0 : Addr) (gz1 : Int32) (gv5 : Value) (h0 : Heap) (n0 : Nat) (Z0 : n0 ≤ h0.size) (O0 : Old Z n0 h0) (G : Glob Z gz1 gv5) (P0 : Exa Z h0 x0 "java/lang/StringBuilder") (P1 : Fld Z h0 x0 "java/lang/AbstractStringBuilder" "coder" "B" (.int 0)) (P2 : Fld Z h0 x0 "java/lang/AbstractStringBuilder" "count" "I" (.int 0)) (P3 : Fld Z h0 x0 "java/lang/AbstractStringBuilder" "value" "[B" .null) (g_x0 : n0 ≤ x0) :
    Ctr l Z (⟨"java/lang/AbstractStringBuilder", "<init>", "(I)V"⟩ : MethodName) jdk_68_method_2_code 2 none ({ frames := 1, cells := 1, slots := 3, locals := 12 } : Room) #[(.ref x0), (.int 3)] h0 (fun v h L => ∃ (y0 : Addr) (y1 : ClassId), v = none ∧ Fr n0 L ∧ Keep h0 h [x0] ∧ h0.size ≤ y0 ∧ Exa Z h x0 "java/lang/StringBuilder" ∧ Fld Z h x0 "java/lang/AbstractStringBuilder" "coder" "B" (.int 0) ∧ Fld Z h x0 "java/lang/AbstractStringBuilder" "count" "I" (.int 0) ∧ Fld Z h x0 "java/lang/AbstractStringBuilder" "value" "[B" (.ref y0) ∧ Arv Z h y0 y1 .byte (3 : Int32) [(.int 0), (.int 0), (.int 0)] (.int 0) ∧ Exa Z h y0 "[B") := by
  refine Ctr.of (plainFor_of_name pn_c4) ?_
  intro p e s m below meth c T0 hx hZ hby hml hown hnm hret hlk e0 es X0
  have G' := G
  obtain ⟨G0, -, G2, -⟩ := G'
  refine Go.cast (ef_12_RI m x0 (3 : Int32)) ?_
  generalize hFF : EndN s _ _ _ = FF
  refine Go.aloadN X0 hx (pc' := 1) rfl (hb hby d12_0) rfl rfl ?_
  refine Go.initO X0 hx hZ hown (tw_67 hw) (tw_22 hw) (tw_23 hw) e0 (by decide) (W := 0) (by rw [hml]; rfl) (Nat.le_of_eq rfl) (by decide) (pc' := 4) rfl (hb hby d12_1) ?_
  intro T1 e1 X1
  have fk2 : Sta Z h0 "java/lang/String" "COMPACT_STRINGS" "Z" (.int gz1) := G0.ext O0.2
  refine Go.getS X1 hx hZ hown (host := "") (Or.inl (tw_68 hw)) Via.refl e1 fk2 (pc' := 7) rfl (hb hby d12_4) ?_
  intro T3 e3 X3
  refine Go.ifNo X3 hx (pc' := 10) rfl (hb hby d12_7) (feq G2).1 ?_
  refine Go.aloadN X3 hx (pc' := 11) rfl (hb hby d12_10) rfl rfl ?_
  refine Go.iloadN X3 hx (pc' := 12) rfl (hb hby d12_11) rfl ?_
  refine Go.newarray X3 hx hZ (ty := .byte) rfl (tw_25 hw) e3 (by decide) (cap := 3) (by decide) (by decide) (by decide) (by decide) (ad := "[B") (by decide) 3 (pc' := 14) rfl (hb hby d12_12) ?_
  intro T4 h4 b4 k4 e4 E4 g4 V4 A4 X4
  have V4' : Arv Z h4 b4 k4 .byte (3 : Int32) [(.int 0), (.int 0), (.int 0)] (.int 0) := V4
  have fk5 : Fld Z h4 x0 "java/lang/AbstractStringBuilder" "value" "[B" .null := (P3.ext E4)
  have fk6 : Exa Z h4 x0 "java/lang/StringBuilder" := (P0.ext E4)
  refine Go.putF X4 hx hZ hown (host := "") (Or.inl (tw_69 hw)) Via.refl e4 fk5 fk6 (Or.inl (tw_70 hw)) (tw_45 hw) (ty := (.array .byte)) (by decide) rfl rfl (pc' := 17) rfl (hb hby d12_14) ?_
  intro T7 h7 e7 W7 F7 X7
  have N7 := Fr.snoc X7 (Fr.nil n0) g_x0
  refine Go.aloadN X7 hx (pc' := 18) rfl (hb hby d12_17) rfl rfl ?_
  refine Go.iconst X7 hx (pc' := 19) rfl (hb hby d12_18) (v := (0 : Int32)) rfl ?_
  have fk8 : Fld Z h7 x0 "java/lang/AbstractStringBuilder" "coder" "B" (.int 0) := ((P1.ext E4).other W7 (Or.inr (slot_ne (Or.inl (tw_72 hw)) (Or.inl (tw_70 hw)) (by decide) (t := .byte) (t' := (.array .byte)) (by decide) (by decide))))
  have fk9 : Exa Z h7 x0 "java/lang/StringBuilder" := (fk6.wr W7)
  refine Go.putFN X7 hx hZ hown (tw_71 hw) Via.refl e7 fk8 fk9 (Or.inl (tw_72 hw)) (tw_45 hw) (ty := .byte) (v' := (.int 0)) (by decide) (by decide) (by decide) (pc' := 22) rfl (hb hby d12_19) ?_
  intro T10 h10 e10 W10 F10 X10
  have N10 := Fr.snoc X10 N7 g_x0
  refine Go.goto X10 hx (pc' := 38) (hb hby d12_22) (by decide) (by decide) ?_
  subst hFF
  refine Go.ret0 X10 hx hlk hret (hb hby d12_38) (by decide) (by decide) ?_
  rw [e10]
  have fk11 : Exa Z h10 x0 "java/lang/StringBuilder" := (fk9.wr W10)
  have fk12 : Fld Z h10 x0 "java/lang/AbstractStringBuilder" "count" "I" (.int 0) := (((P2.ext E4).other W7 (Or.inr (slot_ne (Or.inl (tw_100 hw)) (Or.inl (tw_70 hw)) (by decide) (t := .int) (t' := (.array .byte)) (by decide) (by decide)))).other W10 (Or.inr (slot_ne (Or.inl (tw_100 hw)) (Or.inl (tw_72 hw)) (by decide) (t := .int) (t' := .byte) (by decide) (by decide))))
  have fk13 : Fld Z h10 x0 "java/lang/AbstractStringBuilder" "value" "[B" (.ref b4) := (F7.other W10 (Or.inr (slot_ne (Or.inl (tw_70 hw)) (Or.inl (tw_72 hw)) (by decide) (t := (.array .byte)) (t' := .byte) (by decide) (by decide))))
  have ne14 : x0 ≠ b4 := Nat.ne_of_lt (Nat.lt_of_lt_of_le P0.lt (Nat.le_of_eq g4.symm))
  have fk15 := ((V4'.other W7 (Ne.symm ne14)).other W10 (Ne.symm ne14))
  have fk16 : Exa Z h10 b4 "[B" := ((A4.wr W7).wr W10)
  have Kp17 : Keep h0 h4 [x0] := ((Keep.refl h0 [x0]).ext E4)
  have Kp18 : Keep h0 h7 [x0] := (Kp17.wr W7 (Or.inl (List.mem_of_getElem? (i := 0) rfl)))
  have Kp19 : Keep h0 h10 [x0] := (Kp18.wr W10 (Or.inl (List.mem_of_getElem? (i := 0) rfl)))
  have sz20 : h0.size ≤ b4 := Nat.le_trans (Keep.refl h0 [x0]).1 (Nat.le_of_eq g4.symm)
  exact ⟨b4, k4, rfl, N10, Kp19, sz20, fk11, F10, fk12, fk13, fk15, fk16⟩
-- java/lang/StringBuilder.init
set_option maxRecDepth 65536 in
set_option maxHeartbeats 4000000 in
theorem au_91 (l : Launch) (Z : State) (a0 : Array Value) (hw : ∀ d ∈ tables_1, d.before a0 Z = true) (x0 : Addr) (gz1 : Int32) (gv5 : Value) (h0 : Heap) (n0 : Nat) (Z0 : n0 ≤ h0.size) (O0 : Old Z n0 h0) (G : Glob Z gz1 gv5) (P0 : Exa Z h0 x0 "java/lang/StringBuilder") (P1 : Fld Z h0 x0 "java/lang/AbstractStringBuilder" "coder" "B" (.int 0)) (P2 : Fld Z h0 x0 "java/lang/AbstractStringBuilder" "count" "I" (.int 0)) (P3 : Fld Z h0 x0 "java/lang/AbstractStringBuilder" "value" "[B" .null) (g_x0 : n0 ≤ x0) :
    Ctr l Z (⟨"java/lang/StringBuilder", "<init>", "(I)V"⟩ : MethodName) jdk_67_method_2_code 2 none ({ frames := 2, cells := 1, slots := 3, locals := 25 } : Room) #[(.ref x0), (.int 3)] h0 (fun v h L => ∃ (y0 : Addr) (y1 : ClassId), v = none ∧ Fr n0 L ∧ Keep h0 h [x0] ∧ h0.size ≤ y0 ∧ Exa Z h x0 "java/lang/StringBuilder" ∧ Fld Z h x0 "java/lang/AbstractStringBuilder" "coder" "B" (.int 0) ∧ Fld Z h x0 "java/lang/AbstractStringBuilder" "count" "I" (.int 0) ∧ Fld Z h x0 "java/lang/AbstractStringBuilder" "value" "[B" (.ref y0) ∧ Arv Z h y0 y1 .byte (3 : Int32) [(.int 0), (.int 0), (.int 0)] (.int 0) ∧ Exa Z h y0 "[B") := by
  refine Ctr.of (plainFor_of_name pn_c5) ?_
  intro p e s m below meth c T0 hx hZ hby hml hown hnm hret hlk e0 es X0
  refine Go.cast (ef_11_RI m x0 (3 : Int32)) ?_
  generalize hFF : EndN s _ _ _ = FF
  refine Go.aloadN X0 hx (pc' := 1) rfl (hb hby d11_0) rfl rfl ?_
  refine Go.iloadN X0 hx (pc' := 2) rfl (hb hby d11_1) rfl ?_
  refine Go.callN X0 hx hZ hown rfl (tw_61 hw) (tw_62 hw) (tw_66 hw) (by decide) (tw_66 hw) (tw_65 hw) (au_92 l Z a0 hw x0 gz1 gv5 h0 n0 Z0 O0 G P0 P1 P2 P3 g_x0) e0 (a := x0) (argsL := [(.int 3)]) (rest := []) (pc' := 5) rfl (by rw [hml]; rfl) (lenOf pd_14 rfl) rfl rfl (W := 0) (Nat.le_of_eq rfl) (by decide) (by decide) (by decide) (by decide) (hb hby d11_2) ?_
  intro v1 T1 L1 q1 X1
  obtain ⟨h1, e1⟩ : ∃ z, T1.heap = z := ⟨_, rfl⟩
  rw [e1] at q1
  obtain ⟨b1_0, k1_0, rfl, N1, K1, s1_0, F1_0, F1_1, F1_2, F1_3, F1_4, F1_5⟩ := q1
  show Go _ _ _ _ (T1.setTop (mkF m 5 #[.val (.ref x0), .val (.int 3)] []))
  subst hFF
  refine Go.ret0 X1 hx hlk hret (hb hby d11_5) (by decide) (by decide) ?_
  rw [e1]
  have Kp2 : Keep h0 h1 [x0] := ((Keep.refl h0 [x0]).trans K1 (allS (Or.inl (List.mem_of_getElem? (i := 0) rfl)) all0))
  have sz3 : h0.size ≤ b1_0 := Nat.le_trans (Keep.refl h0 [x0]).1 s1_0
  exact ⟨b1_0, k1_0, rfl, (Fr.app (Fr.nil n0) N1), Kp2, sz3, F1_0, F1_1, F1_2, F1_3, F1_4, F1_5⟩
-- java/lang/String.isLatin1
set_option maxRecDepth 65536 in
set_option maxHeartbeats 4000000 in
theorem au_94 (l : Launch) (Z : State) (a0 : Array Value) (hw : ∀ d ∈ tables_1, d.before a0 Z = true) (x0 : Addr) (gz1 : Int32) (gv5 : Value) (h0 : Heap) (n0 : Nat) (Z0 : n0 ≤ h0.size) (O0 : Old Z n0 h0) (G : Glob Z gz1 gv5) (P1 : Fld Z h0 x0 "java/lang/String" "coder" "B" (.int 0)) :
    Ctr l Z (⟨"java/lang/String", "isLatin1", "()Z"⟩ : MethodName) jdk_42_method_154_code 1 (some .boolean) ({ frames := 0, cells := 0, slots := 0, locals := 0 } : Room) #[(.ref x0)] h0 (fun v h L => v = some (.int 1) ∧ Fr n0 L ∧ h = h0) := by
  refine Ctr.of (plainFor_of_name pn_c1) ?_
  intro p e s m below meth c T0 hx hZ hby hml hown hnm hret hlk e0 es X0
  have G' := G
  obtain ⟨G0, -, G2, -⟩ := G'
  refine Go.cast (ef_31_R m x0) ?_
  generalize hFF : EndN s _ _ _ = FF
  have fk1 : Sta Z h0 "java/lang/String" "COMPACT_STRINGS" "Z" (.int gz1) := G0.ext O0.2
  refine Go.getS X0 hx hZ hown (host := "") (Or.inl (tw_57 hw)) Via.refl e0 fk1 (pc' := 3) rfl (hb hby d31_0) ?_
  intro T2 e2 X2
  refine Go.ifNo X2 hx (pc' := 6) rfl (hb hby d31_3) (feq G2).1 ?_
  refine Go.aloadN X2 hx (pc' := 7) rfl (hb hby d31_6) rfl rfl ?_
  refine Go.getF X2 hx hZ hown (host := "") (Or.inl (tw_31 hw)) Via.refl e2 P1 (pc' := 10) rfl (hb hby d31_7) ?_
  intro T3 e3 X3
  refine Go.ifNo X3 hx (pc' := 13) rfl (hb hby d31_10) (by decide) ?_
  refine Go.iconst X3 hx (pc' := 14) rfl (hb hby d31_13) (v := (1 : Int32)) rfl ?_
  refine Go.goto X3 hx (pc' := 18) (hb hby d31_14) (by decide) (by decide) ?_
  subst hFF
  refine Go.retN X3 hx hlk (t := .boolean) hret (by simp) (hb hby d31_18) (by decide) (by decide) ?_
  rw [e3]
  exact ⟨(congrArg (fun z => some (Value.int z)) (by decide : nar .boolean (1 : Int32) = (1 : Int32))), (Fr.nil n0), rfl⟩
-- jdk/internal/util/Preconditions.checkIndex
set_option maxRecDepth 65536 in
set_option maxHeartbeats 4000000 in
theorem au_97 (l : Launch) (Z : State) (a0 : Array Value) (hw : ∀ d ∈ tables_1, d.before a0 Z = true) (gz1 : Int32) (gv5 : Value) (h0 : Heap) (n0 : Nat) (Z0 : n0 ≤ h0.size) (G : Glob Z gz1 gv5) :
    Ctr l Z (⟨"jdk/internal/util/Preconditions", "checkIndex", "(IILjava/util/function/BiFunction;)I"⟩ : MethodName) jdk_41_method_11_code 3 (some .int) ({ frames := 0, cells := 0, slots := 0, locals := 0 } : Room) #[(.int 0), (.int 3), gv5] h0 (fun v h L => v = some (.int 0) ∧ Fr n0 L ∧ h = h0) := by
  refine Ctr.of (plainFor_of_name pn_c7) ?_
  intro p e s m below meth c T0 hx hZ hby hml hown hnm hret hlk e0 es X0
  have G' := G
  obtain ⟨-, -, -, G3⟩ := G'
  refine Go.cast (ef_34_IIV m (0 : Int32) (3 : Int32) gv5 G3) ?_
  generalize hFF : EndN s _ _ _ = FF
  refine Go.iloadN X0 hx (pc' := 1) rfl (hb hby d34_0) rfl ?_
  refine Go.ifNo X0 hx (pc' := 4) rfl (hb hby d34_1) (by decide) ?_
  refine Go.iloadN X0 hx (pc' := 5) rfl (hb hby d34_4) rfl ?_
  refine Go.iloadN X0 hx (pc' := 6) rfl (hb hby d34_5) rfl ?_
  refine Go.icmpYes X0 hx (pc' := 16) (hb hby d34_6) (by decide) (by decide) (by decide) ?_
  refine Go.iloadN X0 hx (pc' := 17) rfl (hb hby d34_16) rfl ?_
  subst hFF
  refine Go.retI X0 hx hlk hret (hb hby d34_17) (by decide) (by decide) ?_
  rw [e0]
  exact ⟨rfl, (Fr.nil n0), rfl⟩
-- java/lang/String.checkIndex
set_option maxRecDepth 65536 in
set_option maxHeartbeats 4000000 in
theorem au_96 (l : Launch) (Z : State) (a0 : Array Value) (hw : ∀ d ∈ tables_1, d.before a0 Z = true) (gz1 : Int32) (gv5 : Value) (h0 : Heap) (n0 : Nat) (Z0 : n0 ≤ h0.size) (O0 : Old Z n0 h0) (G : Glob Z gz1 gv5) :
    Ctr l Z (⟨"java/lang/String", "checkIndex", "(II)V"⟩ : MethodName) jdk_42_method_155_code 2 none ({ frames := 1, cells := 0, slots := 0, locals := 14 } : Room) #[(.int 0), (.int 3)] h0 (fun v h L => v = none ∧ Fr n0 L ∧ h = h0) := by
  refine Ctr.of (plainFor_of_name pn_c1) ?_
  intro p e s m below meth c T0 hx hZ hby hml hown hnm hret hlk e0 es X0
  have G' := G
  obtain ⟨-, G1, -, -⟩ := G'
  refine Go.cast (ef_33_II m (0 : Int32) (3 : Int32)) ?_
  generalize hFF : EndN s _ _ _ = FF
  refine Go.iloadN X0 hx (pc' := 1) rfl (hb hby d33_0) rfl ?_
  refine Go.iloadN X0 hx (pc' := 2) rfl (hb hby d33_1) rfl ?_
  have fk1 : Sta Z h0 "jdk/internal/util/Preconditions" "SIOOBE_FORMATTER" "Ljava/util/function/BiFunction;" gv5 := G1.ext O0.2
  refine Go.getS X0 hx hZ hown (host := "") (Or.inl (tw_177 hw)) Via.refl e0 fk1 (pc' := 5) rfl (hb hby d33_2) ?_
  intro T2 e2 X2
  refine Go.callS X2 hx hZ hown (tw_179 hw) (tw_180 hw) (tw_178 hw) (tw_181 hw) (by decide) (tw_181 hw) (tw_178 hw) (au_97 l Z a0 hw gz1 gv5 h0 n0 Z0 G) e2 (argsL := [(.int 0), (.int 3), gv5]) (rest := []) (pc' := 8) rfl (by rw [hml]; rfl) (lenOf pd_21 rfl) rfl rfl (W := 0) (Nat.le_of_eq rfl) (by decide) (by decide) (by decide) (by decide) (hb hby d33_5) ?_
  intro v3 T3 L3 q3 X3
  obtain ⟨rfl, N3, e3⟩ := q3
  show Go _ _ _ _ (T3.setTop (mkF m 8 #[.val (.int 0), .val (.int 3)] [(.int 0)]))
  refine Go.pop X3 hx (pc' := 9) rfl (hb hby d33_8) rfl ?_
  subst hFF
  refine Go.ret0 X3 hx hlk hret (hb hby d33_9) (by decide) (by decide) ?_
  rw [e3]
  exact ⟨rfl, (Fr.app (Fr.nil n0) N3), rfl⟩
-- java/lang/StringLatin1.charAt
set_option maxRecDepth 65536 in
set_option maxHeartbeats 4000000 in
theorem au_95 (l : Launch) (Z : State) (a0 : Array Value) (hw : ∀ d ∈ tables_1, d.before a0 Z = true) (x0 : Addr) (kk0 : ClassId) (p0 : Int32) (p1 : Int32) (p2 : Int32) (p3 : Int32) (gz1 : Int32) (gv5 : Value) (h0 : Heap) (n0 : Nat) (Z0 : n0 ≤ h0.size) (O0 : Old Z n0 h0) (G : Glob Z gz1 gv5) (P0 : Arv Z h0 x0 kk0 .byte (3 : Int32) [(.int p0), (.int p1), (.int p2)] (.int 0)) (R_p3 : 0 ≤ p3.toInt ∧ p3.toInt ≤ 255) (B_p0 : (p3.toInt8.toInt32) = p0) :
    Ctr l Z (⟨"java/lang/StringLatin1", "charAt", "([BI)C"⟩ : MethodName) jdk_43_method_2_code 2 (some .char) ({ frames := 2, cells := 0, slots := 0, locals := 27 } : Room) #[(.ref x0), (.int 0)] h0 (fun v h L => v = some (.int p3) ∧ Fr n0 L ∧ h = h0) := by
  refine Ctr.of (plainFor_of_name pn_c2) ?_
  intro p e s m below meth c T0 hx hZ hby hml hown hnm hret hlk e0 es X0
  refine Go.cast (ef_32_RI m x0 (0 : Int32)) ?_
  generalize hFF : EndN s _ _ _ = FF
  refine Go.iloadN X0 hx (pc' := 1) rfl (hb hby d32_0) rfl ?_
  refine Go.aloadN X0 hx (pc' := 2) rfl (hb hby d32_1) rfl rfl ?_
  refine Go.arraylength X0 hx hZ e0 P0 (pc' := 3) rfl (hb hby d32_2) ?_
  refine Go.callS X0 hx hZ hown (tw_174 hw) (tw_175 hw) (tw_12 hw) (tw_176 hw) (by decide) (tw_176 hw) (tw_12 hw) (au_96 l Z a0 hw gz1 gv5 h0 n0 Z0 O0 G) e0 (argsL := [(.int 0), (.int 3)]) (rest := []) (pc' := 6) rfl (by rw [hml]; rfl) (lenOf pd_22 rfl) rfl rfl (W := 0) (Nat.le_of_eq rfl) (by decide) (by decide) (by decide) (by decide) (hb hby d32_3) ?_
  intro v1 T1 L1 q1 X1
  obtain ⟨rfl, N1, e1⟩ := q1
  show Go _ _ _ _ (T1.setTop (mkF m 6 #[.val (.ref x0), .val (.int 0)] []))
  refine Go.aloadN X1 hx (pc' := 7) rfl (hb hby d32_6) rfl rfl ?_
  refine Go.iloadN X1 hx (pc' := 8) rfl (hb hby d32_7) rfl ?_
  refine Go.baload X1 hx hZ e1 P0 (v := (.int p0)) ⟨by decide, by decide⟩ rfl (pc' := 9) rfl (hb hby d32_8) ?_
  refine Go.sipush X1 hx (pc' := 12) rfl (hb hby d32_9) (v := (255 : Int32)) (by decide) ?_
  refine Go.iand X1 hx (pc' := 13) rfl (hb hby d32_12) ?_
  rw [show (p0 &&& (255 : Int32)) = p3 from (own_byte_back B_p0 R_p3 (by decide) (by decide))]
  refine Go.i2c X1 hx (pc' := 14) rfl (hb hby d32_13) ?_
  rw [show (p3.toUInt32.toUInt16.toUInt32.toInt32) = p3 from (own_i2c_id R_p3 (by decide) (by decide))]
  subst hFF
  refine Go.retN X1 hx hlk (t := .char) hret (by simp) (hb hby d32_14) (by decide) (by decide) ?_
  rw [e1]
  exact ⟨(congrArg (fun z => some (Value.int z)) (own_nar_char R_p3 (by decide) (by decide))), (Fr.app (Fr.nil n0) N1), rfl⟩
-- java/lang/String.charAt
set_option maxRecDepth 65536 in
set_option maxHeartbeats 4000000 in
theorem au_93 (l : Launch) (Z : State) (a0 : Array Value) (hw : ∀ d ∈ tables_1, d.before a0 Z = true) (x0 : Addr) (x1 : Addr) (kk0 : ClassId) (p0 : Int32) (p1 : Int32) (p2 : Int32) (p3 : Int32) (gz1 : Int32) (gv5 : Value) (h0 : Heap) (n0 : Nat) (Z0 : n0 ≤ h0.size) (O0 : Old Z n0 h0) (G : Glob Z gz1 gv5) (P0 : Exa Z h0 x0 "java/lang/String") (P1 : Fld Z h0 x0 "java/lang/String" "coder" "B" (.int 0)) (P2 : Fld Z h0 x0 "java/lang/String" "value" "[B" (.ref x1)) (P3 : Arv Z h0 x1 kk0 .byte (3 : Int32) [(.int p0), (.int p1), (.int p2)] (.int 0)) (R_p3 : 0 ≤ p3.toInt ∧ p3.toInt ≤ 255) (B_p0 : (p3.toInt8.toInt32) = p0) :
    Ctr l Z (⟨"java/lang/String", "charAt", "(I)C"⟩ : MethodName) jdk_42_method_56_code 2 (some .char) ({ frames := 3, cells := 0, slots := 0, locals := 40 } : Room) #[(.ref x0), (.int 0)] h0 (fun v h L => v = some (.int p3) ∧ Fr n0 L ∧ h = h0) := by
  refine Ctr.of (plainFor_of_name pn_c1) ?_
  intro p e s m below meth c T0 hx hZ hby hml hown hnm hret hlk e0 es X0
  refine Go.cast (ef_30_RI m x0 (0 : Int32)) ?_
  generalize hFF : EndN s _ _ _ = FF
  refine Go.aloadN X0 hx (pc' := 1) rfl (hb hby d30_0) rfl rfl ?_
  refine Go.callV X0 hx hZ hown (tw_166 hw) (tw_167 hw) (notFace_of_selects (args := #[]) (mvT hZ (tw_169 hw))) (tw_169 hw) (tw_168 hw) (by decide) (tw_170 hw) (tw_12 hw) (au_94 l Z a0 hw x0 gz1 gv5 h0 n0 Z0 O0 G P1) e0 P0 (argsL := []) (rest := []) (pc' := 4) rfl (by rw [hml]; rfl) (lenOf pd_16 rfl) rfl rfl (W := 0) (Nat.le_of_eq rfl) (by decide) (by decide) (by decide) (by decide) (hb hby d30_1) ?_
  intro v1 T1 L1 q1 X1
  obtain ⟨rfl, N1, e1⟩ := q1
  show Go _ _ _ _ (T1.setTop (mkF m 4 #[.val (.ref x0), .val (.int 0)] [(.int 1)]))
  refine Go.ifNo X1 hx (pc' := 7) rfl (hb hby d30_4) (by decide) ?_
  refine Go.aloadN X1 hx (pc' := 8) rfl (hb hby d30_7) rfl rfl ?_
  refine Go.getF X1 hx hZ hown (host := "") (Or.inl (tw_30 hw)) Via.refl e1 P2 (pc' := 11) rfl (hb hby d30_8) ?_
  intro T2 e2 X2
  refine Go.iloadN X2 hx (pc' := 12) rfl (hb hby d30_11) rfl ?_
  refine Go.callS X2 hx hZ hown (tw_171 hw) (tw_172 hw) (tw_152 hw) (tw_173 hw) (by decide) (tw_173 hw) (tw_152 hw) (au_95 l Z a0 hw x1 kk0 p0 p1 p2 p3 gz1 gv5 h0 n0 Z0 O0 G P3 R_p3 B_p0) e2 (argsL := [(.ref x1), (.int 0)]) (rest := []) (pc' := 15) rfl (by rw [hml]; rfl) (lenOf pd_23 rfl) rfl rfl (W := 0) (Nat.le_of_eq rfl) (by decide) (by decide) (by decide) (by decide) (hb hby d30_12) ?_
  intro v3 T3 L3 q3 X3
  obtain ⟨rfl, N3, e3⟩ := q3
  show Go _ _ _ _ (T3.setTop (mkF m 15 #[.val (.ref x0), .val (.int 0)] [(.int p3)]))
  subst hFF
  refine Go.retN X3 hx hlk (t := .char) hret (by simp) (hb hby d30_15) (by decide) (by decide) ?_
  rw [e3]
  exact ⟨(congrArg (fun z => some (Value.int z)) (own_nar_char R_p3 (by decide) (by decide))), (Fr.app (Fr.app (Fr.nil n0) N1) N3), rfl⟩
-- java/lang/AbstractStringBuilder.ensureCapacityInternal
set_option maxRecDepth 65536 in
set_option maxHeartbeats 4000000 in
theorem au_100 (l : Launch) (Z : State) (a0 : Array Value) (hw : ∀ d ∈ tables_1, d.before a0 Z = true) (x0 : Addr) (x1 : Addr) (kk0 : ClassId) (h0 : Heap) (n0 : Nat) (Z0 : n0 ≤ h0.size) (P1 : Fld Z h0 x0 "java/lang/AbstractStringBuilder" "coder" "B" (.int 0)) (P3 : Fld Z h0 x0 "java/lang/AbstractStringBuilder" "value" "[B" (.ref x1)) (P4 : Arv Z h0 x1 kk0 .byte (3 : Int32) [(.int 0), (.int 0), (.int 0)] (.int 0)) :
    Ctr l Z (⟨"java/lang/AbstractStringBuilder", "ensureCapacityInternal", "(I)V"⟩ : MethodName) jdk_68_method_9_code 3 none ({ frames := 0, cells := 0, slots := 0, locals := 0 } : Room) #[(.ref x0), (.int 1)] h0 (fun v h L => v = none ∧ Fr n0 L ∧ h = h0) := by
  refine Ctr.of (plainFor_of_name pn_c4) ?_
  intro p e s m below meth c T0 hx hZ hby hml hown hnm hret hlk e0 es X0
  refine Go.cast (ef_37_RI m x0 (1 : Int32)) ?_
  generalize hFF : EndN s _ _ _ = FF
  refine Go.aloadN X0 hx (pc' := 1) rfl (hb hby d37_0) rfl rfl ?_
  refine Go.getF X0 hx hZ hown (host := "") (Or.inl (tw_69 hw)) Via.refl e0 P3 (pc' := 4) rfl (hb hby d37_1) ?_
  intro T1 e1 X1
  refine Go.arraylength X1 hx hZ e1 P4 (pc' := 5) rfl (hb hby d37_4) ?_
  refine Go.aloadN X1 hx (pc' := 6) rfl (hb hby d37_5) rfl rfl ?_
  refine Go.getF X1 hx hZ hown (host := "") (Or.inl (tw_71 hw)) Via.refl e1 P1 (pc' := 9) rfl (hb hby d37_6) ?_
  intro T2 e2 X2
  refine Go.ishr X2 hx (pc' := 10) rfl (hb hby d37_9) ?_
  rw [show ((3 : Int32) >>> ((0 : Int32) &&& 31)) = (3 : Int32) from by decide]
  refine Go.istoreN X2 hx (pc' := 11) rfl (hb hby d37_10) (Ls' := #[.val (.ref x0), .val (.int 1), .val (.int 3)]) rfl ?_
  refine Go.iloadN X2 hx (pc' := 12) rfl (hb hby d37_11) rfl ?_
  refine Go.iloadN X2 hx (pc' := 13) rfl (hb hby d37_12) rfl ?_
  refine Go.isub X2 hx (pc' := 14) rfl (hb hby d37_13) ?_
  rw [show ((1 : Int32) - (3 : Int32)) = (-2 : Int32) from by decide]
  refine Go.ifYes X2 hx (pc' := 38) (hb hby d37_14) (by decide) (by decide) (by decide) ?_
  subst hFF
  refine Go.ret0 X2 hx hlk hret (hb hby d37_38) (by decide) (by decide) ?_
  rw [e2]
  exact ⟨rfl, (Fr.nil n0), rfl⟩
-- java/lang/AbstractStringBuilder.isLatin1
set_option maxRecDepth 65536 in
set_option maxHeartbeats 4000000 in
theorem au_101 (l : Launch) (Z : State) (a0 : Array Value) (hw : ∀ d ∈ tables_1, d.before a0 Z = true) (x0 : Addr) (gz1 : Int32) (gv5 : Value) (h0 : Heap) (n0 : Nat) (Z0 : n0 ≤ h0.size) (O0 : Old Z n0 h0) (G : Glob Z gz1 gv5) (P1 : Fld Z h0 x0 "java/lang/AbstractStringBuilder" "coder" "B" (.int 0)) :
    Ctr l Z (⟨"java/lang/AbstractStringBuilder", "isLatin1", "()Z"⟩ : MethodName) jdk_68_method_68_code 1 (some .boolean) ({ frames := 0, cells := 0, slots := 0, locals := 0 } : Room) #[(.ref x0)] h0 (fun v h L => v = some (.int 1) ∧ Fr n0 L ∧ h = h0) := by
  refine Ctr.of (plainFor_of_name pn_c4) ?_
  intro p e s m below meth c T0 hx hZ hby hml hown hnm hret hlk e0 es X0
  have G' := G
  obtain ⟨G0, -, G2, -⟩ := G'
  refine Go.cast (ef_19_R m x0) ?_
  generalize hFF : EndN s _ _ _ = FF
  have fk1 : Sta Z h0 "java/lang/String" "COMPACT_STRINGS" "Z" (.int gz1) := G0.ext O0.2
  refine Go.getS X0 hx hZ hown (host := "") (Or.inl (tw_68 hw)) Via.refl e0 fk1 (pc' := 3) rfl (hb hby d19_0) ?_
  intro T2 e2 X2
  refine Go.ifNo X2 hx (pc' := 6) rfl (hb hby d19_3) (feq G2).1 ?_
  refine Go.aloadN X2 hx (pc' := 7) rfl (hb hby d19_6) rfl rfl ?_
  refine Go.getF X2 hx hZ hown (host := "") (Or.inl (tw_71 hw)) Via.refl e2 P1 (pc' := 10) rfl (hb hby d19_7) ?_
  intro T3 e3 X3
  refine Go.ifNo X3 hx (pc' := 13) rfl (hb hby d19_10) (by decide) ?_
  refine Go.iconst X3 hx (pc' := 14) rfl (hb hby d19_13) (v := (1 : Int32)) rfl ?_
  refine Go.goto X3 hx (pc' := 18) (hb hby d19_14) (by decide) (by decide) ?_
  subst hFF
  refine Go.retN X3 hx hlk (t := .boolean) hret (by simp) (hb hby d19_18) (by decide) (by decide) ?_
  rw [e3]
  exact ⟨(congrArg (fun z => some (Value.int z)) (by decide : nar .boolean (1 : Int32) = (1 : Int32))), (Fr.nil n0), rfl⟩
-- java/lang/AbstractStringBuilder.append
set_option maxRecDepth 65536 in
set_option maxHeartbeats 4000000 in
theorem au_99 (l : Launch) (Z : State) (a0 : Array Value) (hw : ∀ d ∈ tables_1, d.before a0 Z = true) (x0 : Addr) (p0 : Int32) (x1 : Addr) (kk0 : ClassId) (gz1 : Int32) (gv5 : Value) (h0 : Heap) (n0 : Nat) (Z0 : n0 ≤ h0.size) (O0 : Old Z n0 h0) (G : Glob Z gz1 gv5) (P0 : Exa Z h0 x0 "java/lang/StringBuilder") (P1 : Fld Z h0 x0 "java/lang/AbstractStringBuilder" "coder" "B" (.int 0)) (P2 : Fld Z h0 x0 "java/lang/AbstractStringBuilder" "count" "I" (.int 0)) (P3 : Fld Z h0 x0 "java/lang/AbstractStringBuilder" "value" "[B" (.ref x1)) (P4 : Arv Z h0 x1 kk0 .byte (3 : Int32) [(.int 0), (.int 0), (.int 0)] (.int 0)) (P5 : Exa Z h0 x1 "[B") (R_p0 : 0 ≤ p0.toInt ∧ p0.toInt ≤ 255) (g_x0 : n0 ≤ x0) (g_x1 : n0 ≤ x1) (ne_x1_x0 : x1 ≠ x0) :
    Ctr l Z (⟨"java/lang/AbstractStringBuilder", "append", "(C)Ljava/lang/AbstractStringBuilder;"⟩ : MethodName) jdk_68_method_31_code 2 (some (.object "java/lang/AbstractStringBuilder")) ({ frames := 1, cells := 0, slots := 0, locals := 14 } : Room) #[(.ref x0), (.int p0)] h0 (fun v h L => ∃ (y0 : Int32), (p0.toInt8.toInt32) = y0 ∧ v = some (.ref x0) ∧ Fr n0 L ∧ Keep h0 h [x0, x1] ∧ Exa Z h x0 "java/lang/StringBuilder" ∧ Fld Z h x0 "java/lang/AbstractStringBuilder" "coder" "B" (.int 0) ∧ Fld Z h x0 "java/lang/AbstractStringBuilder" "count" "I" (.int 1) ∧ Fld Z h x0 "java/lang/AbstractStringBuilder" "value" "[B" (.ref x1) ∧ Arv Z h x1 kk0 .byte (3 : Int32) [(.int y0), (.int 0), (.int 0)] (.int 0) ∧ Exa Z h x1 "[B") := by
  refine Ctr.of (plainFor_of_name pn_c4) ?_
  intro p e s m below meth c T0 hx hZ hby hml hown hnm hret hlk e0 es X0
  refine Go.cast (ef_36_RI m x0 p0) ?_
  generalize hFF : EndN s _ _ _ = FF
  refine Go.aloadN X0 hx (pc' := 1) rfl (hb hby d36_0) rfl rfl ?_
  refine Go.aloadN X0 hx (pc' := 2) rfl (hb hby d36_1) rfl rfl ?_
  refine Go.getF X0 hx hZ hown (host := "") (Or.inl (tw_99 hw)) Via.refl e0 P2 (pc' := 5) rfl (hb hby d36_2) ?_
  intro T1 e1 X1
  refine Go.iconst X1 hx (pc' := 6) rfl (hb hby d36_5) (v := (1 : Int32)) rfl ?_
  refine Go.iadd X1 hx (pc' := 7) rfl (hb hby d36_6) ?_
  rw [show ((0 : Int32) + (1 : Int32)) = (1 : Int32) from by decide]
  refine Go.callP X1 hx hZ hown (tw_191 hw) (tw_192 hw) (tw_194 hw) (tw_193 hw) (tw_195 hw) (by decide) (tw_195 hw) (tw_65 hw) (au_100 l Z a0 hw x0 x1 kk0 h0 n0 Z0 P1 P3 P4) e1 P0 (argsL := [(.int 1)]) (rest := []) (pc' := 10) rfl (by rw [hml]; rfl) (lenOf pd_14 rfl) rfl rfl (W := 0) (Nat.le_of_eq rfl) (by decide) (by decide) (by decide) (by decide) (hb hby d36_7) ?_
  intro v2 T2 L2 q2 X2
  obtain ⟨rfl, N2, e2⟩ := q2
  show Go _ _ _ _ (T2.setTop (mkF m 10 #[.val (.ref x0), .val (.int p0)] []))
  refine Go.aloadN X2 hx (pc' := 11) rfl (hb hby d36_10) rfl rfl ?_
  refine Go.callV X2 hx hZ hown (tw_196 hw) (tw_102 hw) (notFace_of_selects (args := #[]) (mvT hZ (tw_104 hw))) (tw_104 hw) (tw_103 hw) (by decide) (tw_105 hw) (tw_65 hw) (au_101 l Z a0 hw x0 gz1 gv5 h0 n0 Z0 O0 G P1) e2 P0 (argsL := []) (rest := []) (pc' := 14) rfl (by rw [hml]; rfl) (lenOf pd_16 rfl) rfl rfl (W := 0) (Nat.le_of_eq rfl) (by decide) (by decide) (by decide) (by decide) (hb hby d36_11) ?_
  intro v3 T3 L3 q3 X3
  obtain ⟨rfl, N3, e3⟩ := q3
  show Go _ _ _ _ (T3.setTop (mkF m 14 #[.val (.ref x0), .val (.int p0)] [(.int 1)]))
  refine Go.ifNo X3 hx (pc' := 17) rfl (hb hby d36_14) (by decide) ?_
  refine Go.iloadN X3 hx (pc' := 18) rfl (hb hby d36_17) rfl ?_
  refine Go.callS X3 hx hZ hown (tw_197 hw) (tw_151 hw) (tw_152 hw) (tw_153 hw) (by decide) (tw_153 hw) (tw_152 hw) (au_12 l Z a0 hw p0 h0 n0 Z0 R_p0) e3 (argsL := [(.int p0)]) (rest := []) (pc' := 21) rfl (by rw [hml]; rfl) (lenOf pd_4 rfl) rfl rfl (W := 0) (Nat.le_of_eq rfl) (by decide) (by decide) (by decide) (by decide) (hb hby d36_18) ?_
  intro v4 T4 L4 q4 X4
  obtain ⟨rfl, N4, e4⟩ := q4
  show Go _ _ _ _ (T4.setTop (mkF m 21 #[.val (.ref x0), .val (.int p0)] [(.int 1)]))
  refine Go.ifNo X4 hx (pc' := 24) rfl (hb hby d36_21) (by decide) ?_
  refine Go.aloadN X4 hx (pc' := 25) rfl (hb hby d36_24) rfl rfl ?_
  refine Go.getF X4 hx hZ hown (host := "") (Or.inl (tw_69 hw)) Via.refl e4 P3 (pc' := 28) rfl (hb hby d36_25) ?_
  intro T5 e5 X5
  refine Go.aloadN X5 hx (pc' := 29) rfl (hb hby d36_28) rfl rfl ?_
  refine Go.dup X5 hx (pc' := 30) rfl (hb hby d36_29) rfl ?_
  refine Go.getF X5 hx hZ hown (host := "") (Or.inl (tw_99 hw)) Via.refl e5 P2 (pc' := 33) rfl (hb hby d36_30) ?_
  intro T6 e6 X6
  refine Go.dupX1 X6 hx (pc' := 34) rfl (hb hby d36_33) rfl rfl ?_
  refine Go.iconst X6 hx (pc' := 35) rfl (hb hby d36_34) (v := (1 : Int32)) rfl ?_
  refine Go.iadd X6 hx (pc' := 36) rfl (hb hby d36_35) ?_
  rw [show ((0 : Int32) + (1 : Int32)) = (1 : Int32) from by decide]
  refine Go.putF X6 hx hZ hown (host := "") (Or.inl (tw_99 hw)) Via.refl e6 P2 P0 (Or.inl (tw_100 hw)) (tw_45 hw) (ty := .int) (by decide) rfl rfl (pc' := 39) rfl (hb hby d36_36) ?_
  intro T7 h7 e7 W7 F7 X7
  have N7 := Fr.snoc X7 (Fr.app (Fr.app (Fr.app (Fr.nil n0) N2) N3) N4) g_x0
  refine Go.iloadN X7 hx (pc' := 40) rfl (hb hby d36_39) rfl ?_
  refine Go.i2b X7 hx (pc' := 41) rfl (hb hby d36_40) ?_
  generalize hz8 : (p0.toInt8.toInt32) = z8
  have fk9 := (P4.other W7 ne_x1_x0)
  have r10 : -128 ≤ z8.toInt ∧ z8.toInt ≤ 127 := own_ri2b hz8
  refine Go.bastore X7 hx hZ e7 fk9 z8 (own_nar_byte r10 (by decide) (by decide)) ⟨by decide, by decide⟩ 0 rfl (Nat.le_of_ble_eq_true rfl) (pc' := 42) rfl (hb hby d36_41) ?_
  intro T11 h11 e11 W11 V11 X11
  have N11 := Fr.snoc X11 N7 g_x1
  refine Go.goto X11 hx (pc' := 75) (hb hby d36_42) (by decide) (by decide) ?_
  refine Go.aloadN X11 hx (pc' := 76) rfl (hb hby d36_75) rfl rfl ?_
  subst hFF
  refine Go.retR X11 hx hlk (t := (.object "java/lang/AbstractStringBuilder")) hret rfl rfl (hb hby d36_76) (by decide) (by decide) ?_
  rw [e11]
  have fk12 : Exa Z h11 x0 "java/lang/StringBuilder" := ((P0.wr W7).wr W11)
  have fk13 : Fld Z h11 x0 "java/lang/AbstractStringBuilder" "coder" "B" (.int 0) := ((P1.other W7 (Or.inr (slot_ne (Or.inl (tw_72 hw)) (Or.inl (tw_100 hw)) (by decide) (t := .byte) (t' := .int) (by decide) (by decide)))).other W11 (Or.inl (Ne.symm ne_x1_x0)))
  have fk14 : Fld Z h11 x0 "java/lang/AbstractStringBuilder" "count" "I" (.int 1) := (F7.other W11 (Or.inl (Ne.symm ne_x1_x0)))
  have fk15 : Fld Z h11 x0 "java/lang/AbstractStringBuilder" "value" "[B" (.ref x1) := ((P3.other W7 (Or.inr (slot_ne (Or.inl (tw_70 hw)) (Or.inl (tw_100 hw)) (by decide) (t := (.array .byte)) (t' := .int) (by decide) (by decide)))).other W11 (Or.inl (Ne.symm ne_x1_x0)))
  have V16 : Arv Z h11 x1 kk0 .byte (3 : Int32) [(.int z8), (.int 0), (.int 0)] (.int 0) := V11
  have fk17 : Exa Z h11 x1 "[B" := ((P5.wr W7).wr W11)
  have Kp18 : Keep h0 h7 [x0, x1] := ((Keep.refl h0 [x0, x1]).wr W7 (Or.inl (List.mem_of_getElem? (i := 0) rfl)))
  have Kp19 : Keep h0 h11 [x0, x1] := (Kp18.wr W11 (Or.inl (List.mem_of_getElem? (i := 1) rfl)))
  exact ⟨z8, hz8, rfl, N11, Kp19, fk12, fk13, fk14, fk15, V16, fk17⟩
-- java/lang/StringBuilder.append
set_option maxRecDepth 65536 in
set_option maxHeartbeats 4000000 in
theorem au_98 (l : Launch) (Z : State) (a0 : Array Value) (hw : ∀ d ∈ tables_1, d.before a0 Z = true) (x0 : Addr) (p0 : Int32) (x1 : Addr) (kk0 : ClassId) (gz1 : Int32) (gv5 : Value) (h0 : Heap) (n0 : Nat) (Z0 : n0 ≤ h0.size) (O0 : Old Z n0 h0) (G : Glob Z gz1 gv5) (P0 : Exa Z h0 x0 "java/lang/StringBuilder") (P1 : Fld Z h0 x0 "java/lang/AbstractStringBuilder" "coder" "B" (.int 0)) (P2 : Fld Z h0 x0 "java/lang/AbstractStringBuilder" "count" "I" (.int 0)) (P3 : Fld Z h0 x0 "java/lang/AbstractStringBuilder" "value" "[B" (.ref x1)) (P4 : Arv Z h0 x1 kk0 .byte (3 : Int32) [(.int 0), (.int 0), (.int 0)] (.int 0)) (P5 : Exa Z h0 x1 "[B") (R_p0 : 0 ≤ p0.toInt ∧ p0.toInt ≤ 255) (g_x0 : n0 ≤ x0) (g_x1 : n0 ≤ x1) (ne_x1_x0 : x1 ≠ x0) :
    Ctr l Z (⟨"java/lang/StringBuilder", "append", "(C)Ljava/lang/StringBuilder;"⟩ : MethodName) jdk_67_method_14_code 2 (some (.object "java/lang/StringBuilder")) ({ frames := 2, cells := 0, slots := 0, locals := 27 } : Room) #[(.ref x0), (.int p0)] h0 (fun v h L => ∃ (y0 : Int32), (p0.toInt8.toInt32) = y0 ∧ v = some (.ref x0) ∧ Fr n0 L ∧ Keep h0 h [x0, x1] ∧ Exa Z h x0 "java/lang/StringBuilder" ∧ Fld Z h x0 "java/lang/AbstractStringBuilder" "coder" "B" (.int 0) ∧ Fld Z h x0 "java/lang/AbstractStringBuilder" "count" "I" (.int 1) ∧ Fld Z h x0 "java/lang/AbstractStringBuilder" "value" "[B" (.ref x1) ∧ Arv Z h x1 kk0 .byte (3 : Int32) [(.int y0), (.int 0), (.int 0)] (.int 0) ∧ Exa Z h x1 "[B") := by
  refine Ctr.of (plainFor_of_name pn_c5) ?_
  intro p e s m below meth c T0 hx hZ hby hml hown hnm hret hlk e0 es X0
  refine Go.cast (ef_35_RI m x0 p0) ?_
  generalize hFF : EndN s _ _ _ = FF
  refine Go.aloadN X0 hx (pc' := 1) rfl (hb hby d35_0) rfl rfl ?_
  refine Go.iloadN X0 hx (pc' := 2) rfl (hb hby d35_1) rfl ?_
  refine Go.callUp X0 hx hZ hown (tw_187 hw) (own_sameself (tw_88 hw) rfl (tw_188 hw) (by decide)) (tw_188 hw) (tw_97 hw) (by decide) (tw_190 hw) (tw_190 hw) (tw_65 hw) (au_99 l Z a0 hw x0 p0 x1 kk0 gz1 gv5 h0 n0 Z0 O0 G P0 P1 P2 P3 P4 P5 R_p0 g_x0 g_x1 ne_x1_x0) e0 P0 (argsL := [(.int p0)]) (rest := []) (pc' := 5) rfl (by rw [hml]; rfl) (lenOf pd_25 rfl) rfl rfl (W := 0) (Nat.le_of_eq rfl) (by decide) (by decide) (by decide) (by decide) (hb hby d35_2) ?_
  intro v1 T1 L1 q1 X1
  obtain ⟨h1, e1⟩ : ∃ z, T1.heap = z := ⟨_, rfl⟩
  rw [e1] at q1
  obtain ⟨z1_0, d1_0, rfl, N1, K1, F1_0, F1_1, F1_2, F1_3, F1_4, F1_5⟩ := q1
  show Go _ _ _ _ (T1.setTop (mkF m 5 #[.val (.ref x0), .val (.int p0)] [(.ref x0)]))
  refine Go.pop X1 hx (pc' := 6) rfl (hb hby d35_5) rfl ?_
  refine Go.aloadN X1 hx (pc' := 7) rfl (hb hby d35_6) rfl rfl ?_
  subst hFF
  refine Go.retR X1 hx hlk (t := (.object "java/lang/StringBuilder")) hret rfl rfl (hb hby d35_7) (by decide) (by decide) ?_
  rw [e1]
  have Kp2 : Keep h0 h1 [x0, x1] := ((Keep.refl h0 [x0, x1]).trans K1 (allS (Or.inl (List.mem_of_getElem? (i := 0) rfl)) (allS (Or.inl (List.mem_of_getElem? (i := 1) rfl)) all0)))
  exact ⟨z1_0, d1_0, rfl, (Fr.app (Fr.nil n0) N1), Kp2, F1_0, F1_1, F1_2, F1_3, F1_4, F1_5⟩
-- jdk/internal/util/Preconditions.checkIndex
set_option maxRecDepth 65536 in
set_option maxHeartbeats 4000000 in
theorem au_105 (l : Launch) (Z : State) (a0 : Array Value) (hw : ∀ d ∈ tables_1, d.before a0 Z = true) (gz1 : Int32) (gv5 : Value) (h0 : Heap) (n0 : Nat) (Z0 : n0 ≤ h0.size) (G : Glob Z gz1 gv5) :
    Ctr l Z (⟨"jdk/internal/util/Preconditions", "checkIndex", "(IILjava/util/function/BiFunction;)I"⟩ : MethodName) jdk_41_method_11_code 3 (some .int) ({ frames := 0, cells := 0, slots := 0, locals := 0 } : Room) #[(.int 1), (.int 3), gv5] h0 (fun v h L => v = some (.int 1) ∧ Fr n0 L ∧ h = h0) := by
  refine Ctr.of (plainFor_of_name pn_c7) ?_
  intro p e s m below meth c T0 hx hZ hby hml hown hnm hret hlk e0 es X0
  have G' := G
  obtain ⟨-, -, -, G3⟩ := G'
  refine Go.cast (ef_34_IIV m (1 : Int32) (3 : Int32) gv5 G3) ?_
  generalize hFF : EndN s _ _ _ = FF
  refine Go.iloadN X0 hx (pc' := 1) rfl (hb hby d34_0) rfl ?_
  refine Go.ifNo X0 hx (pc' := 4) rfl (hb hby d34_1) (by decide) ?_
  refine Go.iloadN X0 hx (pc' := 5) rfl (hb hby d34_4) rfl ?_
  refine Go.iloadN X0 hx (pc' := 6) rfl (hb hby d34_5) rfl ?_
  refine Go.icmpYes X0 hx (pc' := 16) (hb hby d34_6) (by decide) (by decide) (by decide) ?_
  refine Go.iloadN X0 hx (pc' := 17) rfl (hb hby d34_16) rfl ?_
  subst hFF
  refine Go.retI X0 hx hlk hret (hb hby d34_17) (by decide) (by decide) ?_
  rw [e0]
  exact ⟨rfl, (Fr.nil n0), rfl⟩
-- java/lang/String.checkIndex
set_option maxRecDepth 65536 in
set_option maxHeartbeats 4000000 in
theorem au_104 (l : Launch) (Z : State) (a0 : Array Value) (hw : ∀ d ∈ tables_1, d.before a0 Z = true) (gz1 : Int32) (gv5 : Value) (h0 : Heap) (n0 : Nat) (Z0 : n0 ≤ h0.size) (O0 : Old Z n0 h0) (G : Glob Z gz1 gv5) :
    Ctr l Z (⟨"java/lang/String", "checkIndex", "(II)V"⟩ : MethodName) jdk_42_method_155_code 2 none ({ frames := 1, cells := 0, slots := 0, locals := 14 } : Room) #[(.int 1), (.int 3)] h0 (fun v h L => v = none ∧ Fr n0 L ∧ h = h0) := by
  refine Ctr.of (plainFor_of_name pn_c1) ?_
  intro p e s m below meth c T0 hx hZ hby hml hown hnm hret hlk e0 es X0
  have G' := G
  obtain ⟨-, G1, -, -⟩ := G'
  refine Go.cast (ef_33_II m (1 : Int32) (3 : Int32)) ?_
  generalize hFF : EndN s _ _ _ = FF
  refine Go.iloadN X0 hx (pc' := 1) rfl (hb hby d33_0) rfl ?_
  refine Go.iloadN X0 hx (pc' := 2) rfl (hb hby d33_1) rfl ?_
  have fk1 : Sta Z h0 "jdk/internal/util/Preconditions" "SIOOBE_FORMATTER" "Ljava/util/function/BiFunction;" gv5 := G1.ext O0.2
  refine Go.getS X0 hx hZ hown (host := "") (Or.inl (tw_177 hw)) Via.refl e0 fk1 (pc' := 5) rfl (hb hby d33_2) ?_
  intro T2 e2 X2
  refine Go.callS X2 hx hZ hown (tw_179 hw) (tw_180 hw) (tw_178 hw) (tw_181 hw) (by decide) (tw_181 hw) (tw_178 hw) (au_105 l Z a0 hw gz1 gv5 h0 n0 Z0 G) e2 (argsL := [(.int 1), (.int 3), gv5]) (rest := []) (pc' := 8) rfl (by rw [hml]; rfl) (lenOf pd_21 rfl) rfl rfl (W := 0) (Nat.le_of_eq rfl) (by decide) (by decide) (by decide) (by decide) (hb hby d33_5) ?_
  intro v3 T3 L3 q3 X3
  obtain ⟨rfl, N3, e3⟩ := q3
  show Go _ _ _ _ (T3.setTop (mkF m 8 #[.val (.int 1), .val (.int 3)] [(.int 1)]))
  refine Go.pop X3 hx (pc' := 9) rfl (hb hby d33_8) rfl ?_
  subst hFF
  refine Go.ret0 X3 hx hlk hret (hb hby d33_9) (by decide) (by decide) ?_
  rw [e3]
  exact ⟨rfl, (Fr.app (Fr.nil n0) N3), rfl⟩
-- java/lang/StringLatin1.charAt
set_option maxRecDepth 65536 in
set_option maxHeartbeats 4000000 in
theorem au_103 (l : Launch) (Z : State) (a0 : Array Value) (hw : ∀ d ∈ tables_1, d.before a0 Z = true) (x0 : Addr) (kk0 : ClassId) (p0 : Int32) (p1 : Int32) (p2 : Int32) (p4 : Int32) (gz1 : Int32) (gv5 : Value) (h0 : Heap) (n0 : Nat) (Z0 : n0 ≤ h0.size) (O0 : Old Z n0 h0) (G : Glob Z gz1 gv5) (P0 : Arv Z h0 x0 kk0 .byte (3 : Int32) [(.int p0), (.int p1), (.int p2)] (.int 0)) (R_p4 : 0 ≤ p4.toInt ∧ p4.toInt ≤ 255) (B_p1 : (p4.toInt8.toInt32) = p1) :
    Ctr l Z (⟨"java/lang/StringLatin1", "charAt", "([BI)C"⟩ : MethodName) jdk_43_method_2_code 2 (some .char) ({ frames := 2, cells := 0, slots := 0, locals := 27 } : Room) #[(.ref x0), (.int 1)] h0 (fun v h L => v = some (.int p4) ∧ Fr n0 L ∧ h = h0) := by
  refine Ctr.of (plainFor_of_name pn_c2) ?_
  intro p e s m below meth c T0 hx hZ hby hml hown hnm hret hlk e0 es X0
  refine Go.cast (ef_32_RI m x0 (1 : Int32)) ?_
  generalize hFF : EndN s _ _ _ = FF
  refine Go.iloadN X0 hx (pc' := 1) rfl (hb hby d32_0) rfl ?_
  refine Go.aloadN X0 hx (pc' := 2) rfl (hb hby d32_1) rfl rfl ?_
  refine Go.arraylength X0 hx hZ e0 P0 (pc' := 3) rfl (hb hby d32_2) ?_
  refine Go.callS X0 hx hZ hown (tw_174 hw) (tw_175 hw) (tw_12 hw) (tw_176 hw) (by decide) (tw_176 hw) (tw_12 hw) (au_104 l Z a0 hw gz1 gv5 h0 n0 Z0 O0 G) e0 (argsL := [(.int 1), (.int 3)]) (rest := []) (pc' := 6) rfl (by rw [hml]; rfl) (lenOf pd_22 rfl) rfl rfl (W := 0) (Nat.le_of_eq rfl) (by decide) (by decide) (by decide) (by decide) (hb hby d32_3) ?_
  intro v1 T1 L1 q1 X1
  obtain ⟨rfl, N1, e1⟩ := q1
  show Go _ _ _ _ (T1.setTop (mkF m 6 #[.val (.ref x0), .val (.int 1)] []))
  refine Go.aloadN X1 hx (pc' := 7) rfl (hb hby d32_6) rfl rfl ?_
  refine Go.iloadN X1 hx (pc' := 8) rfl (hb hby d32_7) rfl ?_
  refine Go.baload X1 hx hZ e1 P0 (v := (.int p1)) ⟨by decide, by decide⟩ rfl (pc' := 9) rfl (hb hby d32_8) ?_
  refine Go.sipush X1 hx (pc' := 12) rfl (hb hby d32_9) (v := (255 : Int32)) (by decide) ?_
  refine Go.iand X1 hx (pc' := 13) rfl (hb hby d32_12) ?_
  rw [show (p1 &&& (255 : Int32)) = p4 from (own_byte_back B_p1 R_p4 (by decide) (by decide))]
  refine Go.i2c X1 hx (pc' := 14) rfl (hb hby d32_13) ?_
  rw [show (p4.toUInt32.toUInt16.toUInt32.toInt32) = p4 from (own_i2c_id R_p4 (by decide) (by decide))]
  subst hFF
  refine Go.retN X1 hx hlk (t := .char) hret (by simp) (hb hby d32_14) (by decide) (by decide) ?_
  rw [e1]
  exact ⟨(congrArg (fun z => some (Value.int z)) (own_nar_char R_p4 (by decide) (by decide))), (Fr.app (Fr.nil n0) N1), rfl⟩
-- java/lang/String.charAt
set_option maxRecDepth 65536 in
set_option maxHeartbeats 4000000 in
theorem au_102 (l : Launch) (Z : State) (a0 : Array Value) (hw : ∀ d ∈ tables_1, d.before a0 Z = true) (x0 : Addr) (x1 : Addr) (kk0 : ClassId) (p0 : Int32) (p1 : Int32) (p2 : Int32) (p4 : Int32) (gz1 : Int32) (gv5 : Value) (h0 : Heap) (n0 : Nat) (Z0 : n0 ≤ h0.size) (O0 : Old Z n0 h0) (G : Glob Z gz1 gv5) (P0 : Exa Z h0 x0 "java/lang/String") (P1 : Fld Z h0 x0 "java/lang/String" "coder" "B" (.int 0)) (P2 : Fld Z h0 x0 "java/lang/String" "value" "[B" (.ref x1)) (P3 : Arv Z h0 x1 kk0 .byte (3 : Int32) [(.int p0), (.int p1), (.int p2)] (.int 0)) (R_p4 : 0 ≤ p4.toInt ∧ p4.toInt ≤ 255) (B_p1 : (p4.toInt8.toInt32) = p1) :
    Ctr l Z (⟨"java/lang/String", "charAt", "(I)C"⟩ : MethodName) jdk_42_method_56_code 2 (some .char) ({ frames := 3, cells := 0, slots := 0, locals := 40 } : Room) #[(.ref x0), (.int 1)] h0 (fun v h L => v = some (.int p4) ∧ Fr n0 L ∧ h = h0) := by
  refine Ctr.of (plainFor_of_name pn_c1) ?_
  intro p e s m below meth c T0 hx hZ hby hml hown hnm hret hlk e0 es X0
  refine Go.cast (ef_30_RI m x0 (1 : Int32)) ?_
  generalize hFF : EndN s _ _ _ = FF
  refine Go.aloadN X0 hx (pc' := 1) rfl (hb hby d30_0) rfl rfl ?_
  refine Go.callV X0 hx hZ hown (tw_166 hw) (tw_167 hw) (notFace_of_selects (args := #[]) (mvT hZ (tw_169 hw))) (tw_169 hw) (tw_168 hw) (by decide) (tw_170 hw) (tw_12 hw) (au_94 l Z a0 hw x0 gz1 gv5 h0 n0 Z0 O0 G P1) e0 P0 (argsL := []) (rest := []) (pc' := 4) rfl (by rw [hml]; rfl) (lenOf pd_16 rfl) rfl rfl (W := 0) (Nat.le_of_eq rfl) (by decide) (by decide) (by decide) (by decide) (hb hby d30_1) ?_
  intro v1 T1 L1 q1 X1
  obtain ⟨rfl, N1, e1⟩ := q1
  show Go _ _ _ _ (T1.setTop (mkF m 4 #[.val (.ref x0), .val (.int 1)] [(.int 1)]))
  refine Go.ifNo X1 hx (pc' := 7) rfl (hb hby d30_4) (by decide) ?_
  refine Go.aloadN X1 hx (pc' := 8) rfl (hb hby d30_7) rfl rfl ?_
  refine Go.getF X1 hx hZ hown (host := "") (Or.inl (tw_30 hw)) Via.refl e1 P2 (pc' := 11) rfl (hb hby d30_8) ?_
  intro T2 e2 X2
  refine Go.iloadN X2 hx (pc' := 12) rfl (hb hby d30_11) rfl ?_
  refine Go.callS X2 hx hZ hown (tw_171 hw) (tw_172 hw) (tw_152 hw) (tw_173 hw) (by decide) (tw_173 hw) (tw_152 hw) (au_103 l Z a0 hw x1 kk0 p0 p1 p2 p4 gz1 gv5 h0 n0 Z0 O0 G P3 R_p4 B_p1) e2 (argsL := [(.ref x1), (.int 1)]) (rest := []) (pc' := 15) rfl (by rw [hml]; rfl) (lenOf pd_23 rfl) rfl rfl (W := 0) (Nat.le_of_eq rfl) (by decide) (by decide) (by decide) (by decide) (hb hby d30_12) ?_
  intro v3 T3 L3 q3 X3
  obtain ⟨rfl, N3, e3⟩ := q3
  show Go _ _ _ _ (T3.setTop (mkF m 15 #[.val (.ref x0), .val (.int 1)] [(.int p4)]))
  subst hFF
  refine Go.retN X3 hx hlk (t := .char) hret (by simp) (hb hby d30_15) (by decide) (by decide) ?_
  rw [e3]
  exact ⟨(congrArg (fun z => some (Value.int z)) (own_nar_char R_p4 (by decide) (by decide))), (Fr.app (Fr.app (Fr.nil n0) N1) N3), rfl⟩
-- java/lang/AbstractStringBuilder.ensureCapacityInternal
set_option maxRecDepth 65536 in
set_option maxHeartbeats 4000000 in
theorem au_108 (l : Launch) (Z : State) (a0 : Array Value) (hw : ∀ d ∈ tables_1, d.before a0 Z = true) (x0 : Addr) (x1 : Addr) (kk0 : ClassId) (p0 : Int32) (h0 : Heap) (n0 : Nat) (Z0 : n0 ≤ h0.size) (P1 : Fld Z h0 x0 "java/lang/AbstractStringBuilder" "coder" "B" (.int 0)) (P3 : Fld Z h0 x0 "java/lang/AbstractStringBuilder" "value" "[B" (.ref x1)) (P4 : Arv Z h0 x1 kk0 .byte (3 : Int32) [(.int p0), (.int 0), (.int 0)] (.int 0)) :
    Ctr l Z (⟨"java/lang/AbstractStringBuilder", "ensureCapacityInternal", "(I)V"⟩ : MethodName) jdk_68_method_9_code 3 none ({ frames := 0, cells := 0, slots := 0, locals := 0 } : Room) #[(.ref x0), (.int 2)] h0 (fun v h L => v = none ∧ Fr n0 L ∧ h = h0) := by
  refine Ctr.of (plainFor_of_name pn_c4) ?_
  intro p e s m below meth c T0 hx hZ hby hml hown hnm hret hlk e0 es X0
  refine Go.cast (ef_37_RI m x0 (2 : Int32)) ?_
  generalize hFF : EndN s _ _ _ = FF
  refine Go.aloadN X0 hx (pc' := 1) rfl (hb hby d37_0) rfl rfl ?_
  refine Go.getF X0 hx hZ hown (host := "") (Or.inl (tw_69 hw)) Via.refl e0 P3 (pc' := 4) rfl (hb hby d37_1) ?_
  intro T1 e1 X1
  refine Go.arraylength X1 hx hZ e1 P4 (pc' := 5) rfl (hb hby d37_4) ?_
  refine Go.aloadN X1 hx (pc' := 6) rfl (hb hby d37_5) rfl rfl ?_
  refine Go.getF X1 hx hZ hown (host := "") (Or.inl (tw_71 hw)) Via.refl e1 P1 (pc' := 9) rfl (hb hby d37_6) ?_
  intro T2 e2 X2
  refine Go.ishr X2 hx (pc' := 10) rfl (hb hby d37_9) ?_
  rw [show ((3 : Int32) >>> ((0 : Int32) &&& 31)) = (3 : Int32) from by decide]
  refine Go.istoreN X2 hx (pc' := 11) rfl (hb hby d37_10) (Ls' := #[.val (.ref x0), .val (.int 2), .val (.int 3)]) rfl ?_
  refine Go.iloadN X2 hx (pc' := 12) rfl (hb hby d37_11) rfl ?_
  refine Go.iloadN X2 hx (pc' := 13) rfl (hb hby d37_12) rfl ?_
  refine Go.isub X2 hx (pc' := 14) rfl (hb hby d37_13) ?_
  rw [show ((2 : Int32) - (3 : Int32)) = (-1 : Int32) from by decide]
  refine Go.ifYes X2 hx (pc' := 38) (hb hby d37_14) (by decide) (by decide) (by decide) ?_
  subst hFF
  refine Go.ret0 X2 hx hlk hret (hb hby d37_38) (by decide) (by decide) ?_
  rw [e2]
  exact ⟨rfl, (Fr.nil n0), rfl⟩
-- java/lang/AbstractStringBuilder.isLatin1
set_option maxRecDepth 65536 in
set_option maxHeartbeats 4000000 in
theorem au_109 (l : Launch) (Z : State) (a0 : Array Value) (hw : ∀ d ∈ tables_1, d.before a0 Z = true) (x0 : Addr) (gz1 : Int32) (gv5 : Value) (h0 : Heap) (n0 : Nat) (Z0 : n0 ≤ h0.size) (O0 : Old Z n0 h0) (G : Glob Z gz1 gv5) (P1 : Fld Z h0 x0 "java/lang/AbstractStringBuilder" "coder" "B" (.int 0)) :
    Ctr l Z (⟨"java/lang/AbstractStringBuilder", "isLatin1", "()Z"⟩ : MethodName) jdk_68_method_68_code 1 (some .boolean) ({ frames := 0, cells := 0, slots := 0, locals := 0 } : Room) #[(.ref x0)] h0 (fun v h L => v = some (.int 1) ∧ Fr n0 L ∧ h = h0) := by
  refine Ctr.of (plainFor_of_name pn_c4) ?_
  intro p e s m below meth c T0 hx hZ hby hml hown hnm hret hlk e0 es X0
  have G' := G
  obtain ⟨G0, -, G2, -⟩ := G'
  refine Go.cast (ef_19_R m x0) ?_
  generalize hFF : EndN s _ _ _ = FF
  have fk1 : Sta Z h0 "java/lang/String" "COMPACT_STRINGS" "Z" (.int gz1) := G0.ext O0.2
  refine Go.getS X0 hx hZ hown (host := "") (Or.inl (tw_68 hw)) Via.refl e0 fk1 (pc' := 3) rfl (hb hby d19_0) ?_
  intro T2 e2 X2
  refine Go.ifNo X2 hx (pc' := 6) rfl (hb hby d19_3) (feq G2).1 ?_
  refine Go.aloadN X2 hx (pc' := 7) rfl (hb hby d19_6) rfl rfl ?_
  refine Go.getF X2 hx hZ hown (host := "") (Or.inl (tw_71 hw)) Via.refl e2 P1 (pc' := 10) rfl (hb hby d19_7) ?_
  intro T3 e3 X3
  refine Go.ifNo X3 hx (pc' := 13) rfl (hb hby d19_10) (by decide) ?_
  refine Go.iconst X3 hx (pc' := 14) rfl (hb hby d19_13) (v := (1 : Int32)) rfl ?_
  refine Go.goto X3 hx (pc' := 18) (hb hby d19_14) (by decide) (by decide) ?_
  subst hFF
  refine Go.retN X3 hx hlk (t := .boolean) hret (by simp) (hb hby d19_18) (by decide) (by decide) ?_
  rw [e3]
  exact ⟨(congrArg (fun z => some (Value.int z)) (by decide : nar .boolean (1 : Int32) = (1 : Int32))), (Fr.nil n0), rfl⟩
-- java/lang/AbstractStringBuilder.append
set_option maxRecDepth 65536 in
set_option maxHeartbeats 4000000 in
theorem au_107 (l : Launch) (Z : State) (a0 : Array Value) (hw : ∀ d ∈ tables_1, d.before a0 Z = true) (x0 : Addr) (p0 : Int32) (x1 : Addr) (kk0 : ClassId) (p1 : Int32) (gz1 : Int32) (gv5 : Value) (h0 : Heap) (n0 : Nat) (Z0 : n0 ≤ h0.size) (O0 : Old Z n0 h0) (G : Glob Z gz1 gv5) (P0 : Exa Z h0 x0 "java/lang/StringBuilder") (P1 : Fld Z h0 x0 "java/lang/AbstractStringBuilder" "coder" "B" (.int 0)) (P2 : Fld Z h0 x0 "java/lang/AbstractStringBuilder" "count" "I" (.int 1)) (P3 : Fld Z h0 x0 "java/lang/AbstractStringBuilder" "value" "[B" (.ref x1)) (P4 : Arv Z h0 x1 kk0 .byte (3 : Int32) [(.int p1), (.int 0), (.int 0)] (.int 0)) (P5 : Exa Z h0 x1 "[B") (R_p0 : 0 ≤ p0.toInt ∧ p0.toInt ≤ 255) (g_x0 : n0 ≤ x0) (g_x1 : n0 ≤ x1) (ne_x1_x0 : x1 ≠ x0) :
    Ctr l Z (⟨"java/lang/AbstractStringBuilder", "append", "(C)Ljava/lang/AbstractStringBuilder;"⟩ : MethodName) jdk_68_method_31_code 2 (some (.object "java/lang/AbstractStringBuilder")) ({ frames := 1, cells := 0, slots := 0, locals := 14 } : Room) #[(.ref x0), (.int p0)] h0 (fun v h L => ∃ (y0 : Int32), (p0.toInt8.toInt32) = y0 ∧ v = some (.ref x0) ∧ Fr n0 L ∧ Keep h0 h [x0, x1] ∧ Exa Z h x0 "java/lang/StringBuilder" ∧ Fld Z h x0 "java/lang/AbstractStringBuilder" "coder" "B" (.int 0) ∧ Fld Z h x0 "java/lang/AbstractStringBuilder" "count" "I" (.int 2) ∧ Fld Z h x0 "java/lang/AbstractStringBuilder" "value" "[B" (.ref x1) ∧ Arv Z h x1 kk0 .byte (3 : Int32) [(.int p1), (.int y0), (.int 0)] (.int 0) ∧ Exa Z h x1 "[B") := by
  refine Ctr.of (plainFor_of_name pn_c4) ?_
  intro p e s m below meth c T0 hx hZ hby hml hown hnm hret hlk e0 es X0
  refine Go.cast (ef_36_RI m x0 p0) ?_
  generalize hFF : EndN s _ _ _ = FF
  refine Go.aloadN X0 hx (pc' := 1) rfl (hb hby d36_0) rfl rfl ?_
  refine Go.aloadN X0 hx (pc' := 2) rfl (hb hby d36_1) rfl rfl ?_
  refine Go.getF X0 hx hZ hown (host := "") (Or.inl (tw_99 hw)) Via.refl e0 P2 (pc' := 5) rfl (hb hby d36_2) ?_
  intro T1 e1 X1
  refine Go.iconst X1 hx (pc' := 6) rfl (hb hby d36_5) (v := (1 : Int32)) rfl ?_
  refine Go.iadd X1 hx (pc' := 7) rfl (hb hby d36_6) ?_
  rw [show ((1 : Int32) + (1 : Int32)) = (2 : Int32) from by decide]
  refine Go.callP X1 hx hZ hown (tw_191 hw) (tw_192 hw) (tw_194 hw) (tw_193 hw) (tw_195 hw) (by decide) (tw_195 hw) (tw_65 hw) (au_108 l Z a0 hw x0 x1 kk0 p1 h0 n0 Z0 P1 P3 P4) e1 P0 (argsL := [(.int 2)]) (rest := []) (pc' := 10) rfl (by rw [hml]; rfl) (lenOf pd_14 rfl) rfl rfl (W := 0) (Nat.le_of_eq rfl) (by decide) (by decide) (by decide) (by decide) (hb hby d36_7) ?_
  intro v2 T2 L2 q2 X2
  obtain ⟨rfl, N2, e2⟩ := q2
  show Go _ _ _ _ (T2.setTop (mkF m 10 #[.val (.ref x0), .val (.int p0)] []))
  refine Go.aloadN X2 hx (pc' := 11) rfl (hb hby d36_10) rfl rfl ?_
  refine Go.callV X2 hx hZ hown (tw_196 hw) (tw_102 hw) (notFace_of_selects (args := #[]) (mvT hZ (tw_104 hw))) (tw_104 hw) (tw_103 hw) (by decide) (tw_105 hw) (tw_65 hw) (au_109 l Z a0 hw x0 gz1 gv5 h0 n0 Z0 O0 G P1) e2 P0 (argsL := []) (rest := []) (pc' := 14) rfl (by rw [hml]; rfl) (lenOf pd_16 rfl) rfl rfl (W := 0) (Nat.le_of_eq rfl) (by decide) (by decide) (by decide) (by decide) (hb hby d36_11) ?_
  intro v3 T3 L3 q3 X3
  obtain ⟨rfl, N3, e3⟩ := q3
  show Go _ _ _ _ (T3.setTop (mkF m 14 #[.val (.ref x0), .val (.int p0)] [(.int 1)]))
  refine Go.ifNo X3 hx (pc' := 17) rfl (hb hby d36_14) (by decide) ?_
  refine Go.iloadN X3 hx (pc' := 18) rfl (hb hby d36_17) rfl ?_
  refine Go.callS X3 hx hZ hown (tw_197 hw) (tw_151 hw) (tw_152 hw) (tw_153 hw) (by decide) (tw_153 hw) (tw_152 hw) (au_12 l Z a0 hw p0 h0 n0 Z0 R_p0) e3 (argsL := [(.int p0)]) (rest := []) (pc' := 21) rfl (by rw [hml]; rfl) (lenOf pd_4 rfl) rfl rfl (W := 0) (Nat.le_of_eq rfl) (by decide) (by decide) (by decide) (by decide) (hb hby d36_18) ?_
  intro v4 T4 L4 q4 X4
  obtain ⟨rfl, N4, e4⟩ := q4
  show Go _ _ _ _ (T4.setTop (mkF m 21 #[.val (.ref x0), .val (.int p0)] [(.int 1)]))
  refine Go.ifNo X4 hx (pc' := 24) rfl (hb hby d36_21) (by decide) ?_
  refine Go.aloadN X4 hx (pc' := 25) rfl (hb hby d36_24) rfl rfl ?_
  refine Go.getF X4 hx hZ hown (host := "") (Or.inl (tw_69 hw)) Via.refl e4 P3 (pc' := 28) rfl (hb hby d36_25) ?_
  intro T5 e5 X5
  refine Go.aloadN X5 hx (pc' := 29) rfl (hb hby d36_28) rfl rfl ?_
  refine Go.dup X5 hx (pc' := 30) rfl (hb hby d36_29) rfl ?_
  refine Go.getF X5 hx hZ hown (host := "") (Or.inl (tw_99 hw)) Via.refl e5 P2 (pc' := 33) rfl (hb hby d36_30) ?_
  intro T6 e6 X6
  refine Go.dupX1 X6 hx (pc' := 34) rfl (hb hby d36_33) rfl rfl ?_
  refine Go.iconst X6 hx (pc' := 35) rfl (hb hby d36_34) (v := (1 : Int32)) rfl ?_
  refine Go.iadd X6 hx (pc' := 36) rfl (hb hby d36_35) ?_
  rw [show ((1 : Int32) + (1 : Int32)) = (2 : Int32) from by decide]
  refine Go.putF X6 hx hZ hown (host := "") (Or.inl (tw_99 hw)) Via.refl e6 P2 P0 (Or.inl (tw_100 hw)) (tw_45 hw) (ty := .int) (by decide) rfl rfl (pc' := 39) rfl (hb hby d36_36) ?_
  intro T7 h7 e7 W7 F7 X7
  have N7 := Fr.snoc X7 (Fr.app (Fr.app (Fr.app (Fr.nil n0) N2) N3) N4) g_x0
  refine Go.iloadN X7 hx (pc' := 40) rfl (hb hby d36_39) rfl ?_
  refine Go.i2b X7 hx (pc' := 41) rfl (hb hby d36_40) ?_
  generalize hz8 : (p0.toInt8.toInt32) = z8
  have fk9 := (P4.other W7 ne_x1_x0)
  have r10 : -128 ≤ z8.toInt ∧ z8.toInt ≤ 127 := own_ri2b hz8
  refine Go.bastore X7 hx hZ e7 fk9 z8 (own_nar_byte r10 (by decide) (by decide)) ⟨by decide, by decide⟩ 1 rfl (Nat.le_of_ble_eq_true rfl) (pc' := 42) rfl (hb hby d36_41) ?_
  intro T11 h11 e11 W11 V11 X11
  have N11 := Fr.snoc X11 N7 g_x1
  refine Go.goto X11 hx (pc' := 75) (hb hby d36_42) (by decide) (by decide) ?_
  refine Go.aloadN X11 hx (pc' := 76) rfl (hb hby d36_75) rfl rfl ?_
  subst hFF
  refine Go.retR X11 hx hlk (t := (.object "java/lang/AbstractStringBuilder")) hret rfl rfl (hb hby d36_76) (by decide) (by decide) ?_
  rw [e11]
  have fk12 : Exa Z h11 x0 "java/lang/StringBuilder" := ((P0.wr W7).wr W11)
  have fk13 : Fld Z h11 x0 "java/lang/AbstractStringBuilder" "coder" "B" (.int 0) := ((P1.other W7 (Or.inr (slot_ne (Or.inl (tw_72 hw)) (Or.inl (tw_100 hw)) (by decide) (t := .byte) (t' := .int) (by decide) (by decide)))).other W11 (Or.inl (Ne.symm ne_x1_x0)))
  have fk14 : Fld Z h11 x0 "java/lang/AbstractStringBuilder" "count" "I" (.int 2) := (F7.other W11 (Or.inl (Ne.symm ne_x1_x0)))
  have fk15 : Fld Z h11 x0 "java/lang/AbstractStringBuilder" "value" "[B" (.ref x1) := ((P3.other W7 (Or.inr (slot_ne (Or.inl (tw_70 hw)) (Or.inl (tw_100 hw)) (by decide) (t := (.array .byte)) (t' := .int) (by decide) (by decide)))).other W11 (Or.inl (Ne.symm ne_x1_x0)))
  have V16 : Arv Z h11 x1 kk0 .byte (3 : Int32) [(.int p1), (.int z8), (.int 0)] (.int 0) := V11
  have fk17 : Exa Z h11 x1 "[B" := ((P5.wr W7).wr W11)
  have Kp18 : Keep h0 h7 [x0, x1] := ((Keep.refl h0 [x0, x1]).wr W7 (Or.inl (List.mem_of_getElem? (i := 0) rfl)))
  have Kp19 : Keep h0 h11 [x0, x1] := (Kp18.wr W11 (Or.inl (List.mem_of_getElem? (i := 1) rfl)))
  exact ⟨z8, hz8, rfl, N11, Kp19, fk12, fk13, fk14, fk15, V16, fk17⟩
-- java/lang/StringBuilder.append
set_option maxRecDepth 65536 in
set_option maxHeartbeats 4000000 in
theorem au_106 (l : Launch) (Z : State) (a0 : Array Value) (hw : ∀ d ∈ tables_1, d.before a0 Z = true) (x0 : Addr) (p0 : Int32) (x1 : Addr) (kk0 : ClassId) (p1 : Int32) (gz1 : Int32) (gv5 : Value) (h0 : Heap) (n0 : Nat) (Z0 : n0 ≤ h0.size) (O0 : Old Z n0 h0) (G : Glob Z gz1 gv5) (P0 : Exa Z h0 x0 "java/lang/StringBuilder") (P1 : Fld Z h0 x0 "java/lang/AbstractStringBuilder" "coder" "B" (.int 0)) (P2 : Fld Z h0 x0 "java/lang/AbstractStringBuilder" "count" "I" (.int 1)) (P3 : Fld Z h0 x0 "java/lang/AbstractStringBuilder" "value" "[B" (.ref x1)) (P4 : Arv Z h0 x1 kk0 .byte (3 : Int32) [(.int p1), (.int 0), (.int 0)] (.int 0)) (P5 : Exa Z h0 x1 "[B") (R_p0 : 0 ≤ p0.toInt ∧ p0.toInt ≤ 255) (g_x0 : n0 ≤ x0) (g_x1 : n0 ≤ x1) (ne_x1_x0 : x1 ≠ x0) :
    Ctr l Z (⟨"java/lang/StringBuilder", "append", "(C)Ljava/lang/StringBuilder;"⟩ : MethodName) jdk_67_method_14_code 2 (some (.object "java/lang/StringBuilder")) ({ frames := 2, cells := 0, slots := 0, locals := 27 } : Room) #[(.ref x0), (.int p0)] h0 (fun v h L => ∃ (y0 : Int32), (p0.toInt8.toInt32) = y0 ∧ v = some (.ref x0) ∧ Fr n0 L ∧ Keep h0 h [x0, x1] ∧ Exa Z h x0 "java/lang/StringBuilder" ∧ Fld Z h x0 "java/lang/AbstractStringBuilder" "coder" "B" (.int 0) ∧ Fld Z h x0 "java/lang/AbstractStringBuilder" "count" "I" (.int 2) ∧ Fld Z h x0 "java/lang/AbstractStringBuilder" "value" "[B" (.ref x1) ∧ Arv Z h x1 kk0 .byte (3 : Int32) [(.int p1), (.int y0), (.int 0)] (.int 0) ∧ Exa Z h x1 "[B") := by
  refine Ctr.of (plainFor_of_name pn_c5) ?_
  intro p e s m below meth c T0 hx hZ hby hml hown hnm hret hlk e0 es X0
  refine Go.cast (ef_35_RI m x0 p0) ?_
  generalize hFF : EndN s _ _ _ = FF
  refine Go.aloadN X0 hx (pc' := 1) rfl (hb hby d35_0) rfl rfl ?_
  refine Go.iloadN X0 hx (pc' := 2) rfl (hb hby d35_1) rfl ?_
  refine Go.callUp X0 hx hZ hown (tw_187 hw) (own_sameself (tw_88 hw) rfl (tw_188 hw) (by decide)) (tw_188 hw) (tw_97 hw) (by decide) (tw_190 hw) (tw_190 hw) (tw_65 hw) (au_107 l Z a0 hw x0 p0 x1 kk0 p1 gz1 gv5 h0 n0 Z0 O0 G P0 P1 P2 P3 P4 P5 R_p0 g_x0 g_x1 ne_x1_x0) e0 P0 (argsL := [(.int p0)]) (rest := []) (pc' := 5) rfl (by rw [hml]; rfl) (lenOf pd_25 rfl) rfl rfl (W := 0) (Nat.le_of_eq rfl) (by decide) (by decide) (by decide) (by decide) (hb hby d35_2) ?_
  intro v1 T1 L1 q1 X1
  obtain ⟨h1, e1⟩ : ∃ z, T1.heap = z := ⟨_, rfl⟩
  rw [e1] at q1
  obtain ⟨z1_0, d1_0, rfl, N1, K1, F1_0, F1_1, F1_2, F1_3, F1_4, F1_5⟩ := q1
  show Go _ _ _ _ (T1.setTop (mkF m 5 #[.val (.ref x0), .val (.int p0)] [(.ref x0)]))
  refine Go.pop X1 hx (pc' := 6) rfl (hb hby d35_5) rfl ?_
  refine Go.aloadN X1 hx (pc' := 7) rfl (hb hby d35_6) rfl rfl ?_
  subst hFF
  refine Go.retR X1 hx hlk (t := (.object "java/lang/StringBuilder")) hret rfl rfl (hb hby d35_7) (by decide) (by decide) ?_
  rw [e1]
  have Kp2 : Keep h0 h1 [x0, x1] := ((Keep.refl h0 [x0, x1]).trans K1 (allS (Or.inl (List.mem_of_getElem? (i := 0) rfl)) (allS (Or.inl (List.mem_of_getElem? (i := 1) rfl)) all0)))
  exact ⟨z1_0, d1_0, rfl, (Fr.app (Fr.nil n0) N1), Kp2, F1_0, F1_1, F1_2, F1_3, F1_4, F1_5⟩
-- jdk/internal/util/Preconditions.checkIndex
set_option maxRecDepth 65536 in
set_option maxHeartbeats 4000000 in
theorem au_113 (l : Launch) (Z : State) (a0 : Array Value) (hw : ∀ d ∈ tables_1, d.before a0 Z = true) (gz1 : Int32) (gv5 : Value) (h0 : Heap) (n0 : Nat) (Z0 : n0 ≤ h0.size) (G : Glob Z gz1 gv5) :
    Ctr l Z (⟨"jdk/internal/util/Preconditions", "checkIndex", "(IILjava/util/function/BiFunction;)I"⟩ : MethodName) jdk_41_method_11_code 3 (some .int) ({ frames := 0, cells := 0, slots := 0, locals := 0 } : Room) #[(.int 2), (.int 3), gv5] h0 (fun v h L => v = some (.int 2) ∧ Fr n0 L ∧ h = h0) := by
  refine Ctr.of (plainFor_of_name pn_c7) ?_
  intro p e s m below meth c T0 hx hZ hby hml hown hnm hret hlk e0 es X0
  have G' := G
  obtain ⟨-, -, -, G3⟩ := G'
  refine Go.cast (ef_34_IIV m (2 : Int32) (3 : Int32) gv5 G3) ?_
  generalize hFF : EndN s _ _ _ = FF
  refine Go.iloadN X0 hx (pc' := 1) rfl (hb hby d34_0) rfl ?_
  refine Go.ifNo X0 hx (pc' := 4) rfl (hb hby d34_1) (by decide) ?_
  refine Go.iloadN X0 hx (pc' := 5) rfl (hb hby d34_4) rfl ?_
  refine Go.iloadN X0 hx (pc' := 6) rfl (hb hby d34_5) rfl ?_
  refine Go.icmpYes X0 hx (pc' := 16) (hb hby d34_6) (by decide) (by decide) (by decide) ?_
  refine Go.iloadN X0 hx (pc' := 17) rfl (hb hby d34_16) rfl ?_
  subst hFF
  refine Go.retI X0 hx hlk hret (hb hby d34_17) (by decide) (by decide) ?_
  rw [e0]
  exact ⟨rfl, (Fr.nil n0), rfl⟩
-- java/lang/String.checkIndex
set_option maxRecDepth 65536 in
set_option maxHeartbeats 4000000 in
theorem au_112 (l : Launch) (Z : State) (a0 : Array Value) (hw : ∀ d ∈ tables_1, d.before a0 Z = true) (gz1 : Int32) (gv5 : Value) (h0 : Heap) (n0 : Nat) (Z0 : n0 ≤ h0.size) (O0 : Old Z n0 h0) (G : Glob Z gz1 gv5) :
    Ctr l Z (⟨"java/lang/String", "checkIndex", "(II)V"⟩ : MethodName) jdk_42_method_155_code 2 none ({ frames := 1, cells := 0, slots := 0, locals := 14 } : Room) #[(.int 2), (.int 3)] h0 (fun v h L => v = none ∧ Fr n0 L ∧ h = h0) := by
  refine Ctr.of (plainFor_of_name pn_c1) ?_
  intro p e s m below meth c T0 hx hZ hby hml hown hnm hret hlk e0 es X0
  have G' := G
  obtain ⟨-, G1, -, -⟩ := G'
  refine Go.cast (ef_33_II m (2 : Int32) (3 : Int32)) ?_
  generalize hFF : EndN s _ _ _ = FF
  refine Go.iloadN X0 hx (pc' := 1) rfl (hb hby d33_0) rfl ?_
  refine Go.iloadN X0 hx (pc' := 2) rfl (hb hby d33_1) rfl ?_
  have fk1 : Sta Z h0 "jdk/internal/util/Preconditions" "SIOOBE_FORMATTER" "Ljava/util/function/BiFunction;" gv5 := G1.ext O0.2
  refine Go.getS X0 hx hZ hown (host := "") (Or.inl (tw_177 hw)) Via.refl e0 fk1 (pc' := 5) rfl (hb hby d33_2) ?_
  intro T2 e2 X2
  refine Go.callS X2 hx hZ hown (tw_179 hw) (tw_180 hw) (tw_178 hw) (tw_181 hw) (by decide) (tw_181 hw) (tw_178 hw) (au_113 l Z a0 hw gz1 gv5 h0 n0 Z0 G) e2 (argsL := [(.int 2), (.int 3), gv5]) (rest := []) (pc' := 8) rfl (by rw [hml]; rfl) (lenOf pd_21 rfl) rfl rfl (W := 0) (Nat.le_of_eq rfl) (by decide) (by decide) (by decide) (by decide) (hb hby d33_5) ?_
  intro v3 T3 L3 q3 X3
  obtain ⟨rfl, N3, e3⟩ := q3
  show Go _ _ _ _ (T3.setTop (mkF m 8 #[.val (.int 2), .val (.int 3)] [(.int 2)]))
  refine Go.pop X3 hx (pc' := 9) rfl (hb hby d33_8) rfl ?_
  subst hFF
  refine Go.ret0 X3 hx hlk hret (hb hby d33_9) (by decide) (by decide) ?_
  rw [e3]
  exact ⟨rfl, (Fr.app (Fr.nil n0) N3), rfl⟩
-- java/lang/StringLatin1.charAt
set_option maxRecDepth 65536 in
set_option maxHeartbeats 4000000 in
theorem au_111 (l : Launch) (Z : State) (a0 : Array Value) (hw : ∀ d ∈ tables_1, d.before a0 Z = true) (x0 : Addr) (kk0 : ClassId) (p0 : Int32) (p1 : Int32) (p2 : Int32) (p5 : Int32) (gz1 : Int32) (gv5 : Value) (h0 : Heap) (n0 : Nat) (Z0 : n0 ≤ h0.size) (O0 : Old Z n0 h0) (G : Glob Z gz1 gv5) (P0 : Arv Z h0 x0 kk0 .byte (3 : Int32) [(.int p0), (.int p1), (.int p2)] (.int 0)) (R_p5 : 0 ≤ p5.toInt ∧ p5.toInt ≤ 255) (B_p2 : (p5.toInt8.toInt32) = p2) :
    Ctr l Z (⟨"java/lang/StringLatin1", "charAt", "([BI)C"⟩ : MethodName) jdk_43_method_2_code 2 (some .char) ({ frames := 2, cells := 0, slots := 0, locals := 27 } : Room) #[(.ref x0), (.int 2)] h0 (fun v h L => v = some (.int p5) ∧ Fr n0 L ∧ h = h0) := by
  refine Ctr.of (plainFor_of_name pn_c2) ?_
  intro p e s m below meth c T0 hx hZ hby hml hown hnm hret hlk e0 es X0
  refine Go.cast (ef_32_RI m x0 (2 : Int32)) ?_
  generalize hFF : EndN s _ _ _ = FF
  refine Go.iloadN X0 hx (pc' := 1) rfl (hb hby d32_0) rfl ?_
  refine Go.aloadN X0 hx (pc' := 2) rfl (hb hby d32_1) rfl rfl ?_
  refine Go.arraylength X0 hx hZ e0 P0 (pc' := 3) rfl (hb hby d32_2) ?_
  refine Go.callS X0 hx hZ hown (tw_174 hw) (tw_175 hw) (tw_12 hw) (tw_176 hw) (by decide) (tw_176 hw) (tw_12 hw) (au_112 l Z a0 hw gz1 gv5 h0 n0 Z0 O0 G) e0 (argsL := [(.int 2), (.int 3)]) (rest := []) (pc' := 6) rfl (by rw [hml]; rfl) (lenOf pd_22 rfl) rfl rfl (W := 0) (Nat.le_of_eq rfl) (by decide) (by decide) (by decide) (by decide) (hb hby d32_3) ?_
  intro v1 T1 L1 q1 X1
  obtain ⟨rfl, N1, e1⟩ := q1
  show Go _ _ _ _ (T1.setTop (mkF m 6 #[.val (.ref x0), .val (.int 2)] []))
  refine Go.aloadN X1 hx (pc' := 7) rfl (hb hby d32_6) rfl rfl ?_
  refine Go.iloadN X1 hx (pc' := 8) rfl (hb hby d32_7) rfl ?_
  refine Go.baload X1 hx hZ e1 P0 (v := (.int p2)) ⟨by decide, by decide⟩ rfl (pc' := 9) rfl (hb hby d32_8) ?_
  refine Go.sipush X1 hx (pc' := 12) rfl (hb hby d32_9) (v := (255 : Int32)) (by decide) ?_
  refine Go.iand X1 hx (pc' := 13) rfl (hb hby d32_12) ?_
  rw [show (p2 &&& (255 : Int32)) = p5 from (own_byte_back B_p2 R_p5 (by decide) (by decide))]
  refine Go.i2c X1 hx (pc' := 14) rfl (hb hby d32_13) ?_
  rw [show (p5.toUInt32.toUInt16.toUInt32.toInt32) = p5 from (own_i2c_id R_p5 (by decide) (by decide))]
  subst hFF
  refine Go.retN X1 hx hlk (t := .char) hret (by simp) (hb hby d32_14) (by decide) (by decide) ?_
  rw [e1]
  exact ⟨(congrArg (fun z => some (Value.int z)) (own_nar_char R_p5 (by decide) (by decide))), (Fr.app (Fr.nil n0) N1), rfl⟩
-- java/lang/String.charAt
set_option maxRecDepth 65536 in
set_option maxHeartbeats 4000000 in
theorem au_110 (l : Launch) (Z : State) (a0 : Array Value) (hw : ∀ d ∈ tables_1, d.before a0 Z = true) (x0 : Addr) (x1 : Addr) (kk0 : ClassId) (p0 : Int32) (p1 : Int32) (p2 : Int32) (p5 : Int32) (gz1 : Int32) (gv5 : Value) (h0 : Heap) (n0 : Nat) (Z0 : n0 ≤ h0.size) (O0 : Old Z n0 h0) (G : Glob Z gz1 gv5) (P0 : Exa Z h0 x0 "java/lang/String") (P1 : Fld Z h0 x0 "java/lang/String" "coder" "B" (.int 0)) (P2 : Fld Z h0 x0 "java/lang/String" "value" "[B" (.ref x1)) (P3 : Arv Z h0 x1 kk0 .byte (3 : Int32) [(.int p0), (.int p1), (.int p2)] (.int 0)) (R_p5 : 0 ≤ p5.toInt ∧ p5.toInt ≤ 255) (B_p2 : (p5.toInt8.toInt32) = p2) :
    Ctr l Z (⟨"java/lang/String", "charAt", "(I)C"⟩ : MethodName) jdk_42_method_56_code 2 (some .char) ({ frames := 3, cells := 0, slots := 0, locals := 40 } : Room) #[(.ref x0), (.int 2)] h0 (fun v h L => v = some (.int p5) ∧ Fr n0 L ∧ h = h0) := by
  refine Ctr.of (plainFor_of_name pn_c1) ?_
  intro p e s m below meth c T0 hx hZ hby hml hown hnm hret hlk e0 es X0
  refine Go.cast (ef_30_RI m x0 (2 : Int32)) ?_
  generalize hFF : EndN s _ _ _ = FF
  refine Go.aloadN X0 hx (pc' := 1) rfl (hb hby d30_0) rfl rfl ?_
  refine Go.callV X0 hx hZ hown (tw_166 hw) (tw_167 hw) (notFace_of_selects (args := #[]) (mvT hZ (tw_169 hw))) (tw_169 hw) (tw_168 hw) (by decide) (tw_170 hw) (tw_12 hw) (au_94 l Z a0 hw x0 gz1 gv5 h0 n0 Z0 O0 G P1) e0 P0 (argsL := []) (rest := []) (pc' := 4) rfl (by rw [hml]; rfl) (lenOf pd_16 rfl) rfl rfl (W := 0) (Nat.le_of_eq rfl) (by decide) (by decide) (by decide) (by decide) (hb hby d30_1) ?_
  intro v1 T1 L1 q1 X1
  obtain ⟨rfl, N1, e1⟩ := q1
  show Go _ _ _ _ (T1.setTop (mkF m 4 #[.val (.ref x0), .val (.int 2)] [(.int 1)]))
  refine Go.ifNo X1 hx (pc' := 7) rfl (hb hby d30_4) (by decide) ?_
  refine Go.aloadN X1 hx (pc' := 8) rfl (hb hby d30_7) rfl rfl ?_
  refine Go.getF X1 hx hZ hown (host := "") (Or.inl (tw_30 hw)) Via.refl e1 P2 (pc' := 11) rfl (hb hby d30_8) ?_
  intro T2 e2 X2
  refine Go.iloadN X2 hx (pc' := 12) rfl (hb hby d30_11) rfl ?_
  refine Go.callS X2 hx hZ hown (tw_171 hw) (tw_172 hw) (tw_152 hw) (tw_173 hw) (by decide) (tw_173 hw) (tw_152 hw) (au_111 l Z a0 hw x1 kk0 p0 p1 p2 p5 gz1 gv5 h0 n0 Z0 O0 G P3 R_p5 B_p2) e2 (argsL := [(.ref x1), (.int 2)]) (rest := []) (pc' := 15) rfl (by rw [hml]; rfl) (lenOf pd_23 rfl) rfl rfl (W := 0) (Nat.le_of_eq rfl) (by decide) (by decide) (by decide) (by decide) (hb hby d30_12) ?_
  intro v3 T3 L3 q3 X3
  obtain ⟨rfl, N3, e3⟩ := q3
  show Go _ _ _ _ (T3.setTop (mkF m 15 #[.val (.ref x0), .val (.int 2)] [(.int p5)]))
  subst hFF
  refine Go.retN X3 hx hlk (t := .char) hret (by simp) (hb hby d30_15) (by decide) (by decide) ?_
  rw [e3]
  exact ⟨(congrArg (fun z => some (Value.int z)) (own_nar_char R_p5 (by decide) (by decide))), (Fr.app (Fr.app (Fr.nil n0) N1) N3), rfl⟩
-- java/lang/AbstractStringBuilder.ensureCapacityInternal
set_option maxRecDepth 65536 in
set_option maxHeartbeats 4000000 in
theorem au_116 (l : Launch) (Z : State) (a0 : Array Value) (hw : ∀ d ∈ tables_1, d.before a0 Z = true) (x0 : Addr) (x1 : Addr) (kk0 : ClassId) (p0 : Int32) (p1 : Int32) (h0 : Heap) (n0 : Nat) (Z0 : n0 ≤ h0.size) (P1 : Fld Z h0 x0 "java/lang/AbstractStringBuilder" "coder" "B" (.int 0)) (P3 : Fld Z h0 x0 "java/lang/AbstractStringBuilder" "value" "[B" (.ref x1)) (P4 : Arv Z h0 x1 kk0 .byte (3 : Int32) [(.int p0), (.int p1), (.int 0)] (.int 0)) :
    Ctr l Z (⟨"java/lang/AbstractStringBuilder", "ensureCapacityInternal", "(I)V"⟩ : MethodName) jdk_68_method_9_code 3 none ({ frames := 0, cells := 0, slots := 0, locals := 0 } : Room) #[(.ref x0), (.int 3)] h0 (fun v h L => v = none ∧ Fr n0 L ∧ h = h0) := by
  refine Ctr.of (plainFor_of_name pn_c4) ?_
  intro p e s m below meth c T0 hx hZ hby hml hown hnm hret hlk e0 es X0
  refine Go.cast (ef_37_RI m x0 (3 : Int32)) ?_
  generalize hFF : EndN s _ _ _ = FF
  refine Go.aloadN X0 hx (pc' := 1) rfl (hb hby d37_0) rfl rfl ?_
  refine Go.getF X0 hx hZ hown (host := "") (Or.inl (tw_69 hw)) Via.refl e0 P3 (pc' := 4) rfl (hb hby d37_1) ?_
  intro T1 e1 X1
  refine Go.arraylength X1 hx hZ e1 P4 (pc' := 5) rfl (hb hby d37_4) ?_
  refine Go.aloadN X1 hx (pc' := 6) rfl (hb hby d37_5) rfl rfl ?_
  refine Go.getF X1 hx hZ hown (host := "") (Or.inl (tw_71 hw)) Via.refl e1 P1 (pc' := 9) rfl (hb hby d37_6) ?_
  intro T2 e2 X2
  refine Go.ishr X2 hx (pc' := 10) rfl (hb hby d37_9) ?_
  rw [show ((3 : Int32) >>> ((0 : Int32) &&& 31)) = (3 : Int32) from by decide]
  refine Go.istoreN X2 hx (pc' := 11) rfl (hb hby d37_10) (Ls' := #[.val (.ref x0), .val (.int 3), .val (.int 3)]) rfl ?_
  refine Go.iloadN X2 hx (pc' := 12) rfl (hb hby d37_11) rfl ?_
  refine Go.iloadN X2 hx (pc' := 13) rfl (hb hby d37_12) rfl ?_
  refine Go.isub X2 hx (pc' := 14) rfl (hb hby d37_13) ?_
  rw [show ((3 : Int32) - (3 : Int32)) = (0 : Int32) from by decide]
  refine Go.ifYes X2 hx (pc' := 38) (hb hby d37_14) (by decide) (by decide) (by decide) ?_
  subst hFF
  refine Go.ret0 X2 hx hlk hret (hb hby d37_38) (by decide) (by decide) ?_
  rw [e2]
  exact ⟨rfl, (Fr.nil n0), rfl⟩
-- java/lang/AbstractStringBuilder.isLatin1
set_option maxRecDepth 65536 in
set_option maxHeartbeats 4000000 in
theorem au_117 (l : Launch) (Z : State) (a0 : Array Value) (hw : ∀ d ∈ tables_1, d.before a0 Z = true) (x0 : Addr) (gz1 : Int32) (gv5 : Value) (h0 : Heap) (n0 : Nat) (Z0 : n0 ≤ h0.size) (O0 : Old Z n0 h0) (G : Glob Z gz1 gv5) (P1 : Fld Z h0 x0 "java/lang/AbstractStringBuilder" "coder" "B" (.int 0)) :
    Ctr l Z (⟨"java/lang/AbstractStringBuilder", "isLatin1", "()Z"⟩ : MethodName) jdk_68_method_68_code 1 (some .boolean) ({ frames := 0, cells := 0, slots := 0, locals := 0 } : Room) #[(.ref x0)] h0 (fun v h L => v = some (.int 1) ∧ Fr n0 L ∧ h = h0) := by
  refine Ctr.of (plainFor_of_name pn_c4) ?_
  intro p e s m below meth c T0 hx hZ hby hml hown hnm hret hlk e0 es X0
  have G' := G
  obtain ⟨G0, -, G2, -⟩ := G'
  refine Go.cast (ef_19_R m x0) ?_
  generalize hFF : EndN s _ _ _ = FF
  have fk1 : Sta Z h0 "java/lang/String" "COMPACT_STRINGS" "Z" (.int gz1) := G0.ext O0.2
  refine Go.getS X0 hx hZ hown (host := "") (Or.inl (tw_68 hw)) Via.refl e0 fk1 (pc' := 3) rfl (hb hby d19_0) ?_
  intro T2 e2 X2
  refine Go.ifNo X2 hx (pc' := 6) rfl (hb hby d19_3) (feq G2).1 ?_
  refine Go.aloadN X2 hx (pc' := 7) rfl (hb hby d19_6) rfl rfl ?_
  refine Go.getF X2 hx hZ hown (host := "") (Or.inl (tw_71 hw)) Via.refl e2 P1 (pc' := 10) rfl (hb hby d19_7) ?_
  intro T3 e3 X3
  refine Go.ifNo X3 hx (pc' := 13) rfl (hb hby d19_10) (by decide) ?_
  refine Go.iconst X3 hx (pc' := 14) rfl (hb hby d19_13) (v := (1 : Int32)) rfl ?_
  refine Go.goto X3 hx (pc' := 18) (hb hby d19_14) (by decide) (by decide) ?_
  subst hFF
  refine Go.retN X3 hx hlk (t := .boolean) hret (by simp) (hb hby d19_18) (by decide) (by decide) ?_
  rw [e3]
  exact ⟨(congrArg (fun z => some (Value.int z)) (by decide : nar .boolean (1 : Int32) = (1 : Int32))), (Fr.nil n0), rfl⟩
-- java/lang/AbstractStringBuilder.append
set_option maxRecDepth 65536 in
set_option maxHeartbeats 4000000 in
theorem au_115 (l : Launch) (Z : State) (a0 : Array Value) (hw : ∀ d ∈ tables_1, d.before a0 Z = true) (x0 : Addr) (p0 : Int32) (x1 : Addr) (kk0 : ClassId) (p1 : Int32) (p2 : Int32) (gz1 : Int32) (gv5 : Value) (h0 : Heap) (n0 : Nat) (Z0 : n0 ≤ h0.size) (O0 : Old Z n0 h0) (G : Glob Z gz1 gv5) (P0 : Exa Z h0 x0 "java/lang/StringBuilder") (P1 : Fld Z h0 x0 "java/lang/AbstractStringBuilder" "coder" "B" (.int 0)) (P2 : Fld Z h0 x0 "java/lang/AbstractStringBuilder" "count" "I" (.int 2)) (P3 : Fld Z h0 x0 "java/lang/AbstractStringBuilder" "value" "[B" (.ref x1)) (P4 : Arv Z h0 x1 kk0 .byte (3 : Int32) [(.int p1), (.int p2), (.int 0)] (.int 0)) (P5 : Exa Z h0 x1 "[B") (R_p0 : 0 ≤ p0.toInt ∧ p0.toInt ≤ 255) (g_x0 : n0 ≤ x0) (g_x1 : n0 ≤ x1) (ne_x1_x0 : x1 ≠ x0) :
    Ctr l Z (⟨"java/lang/AbstractStringBuilder", "append", "(C)Ljava/lang/AbstractStringBuilder;"⟩ : MethodName) jdk_68_method_31_code 2 (some (.object "java/lang/AbstractStringBuilder")) ({ frames := 1, cells := 0, slots := 0, locals := 14 } : Room) #[(.ref x0), (.int p0)] h0 (fun v h L => ∃ (y0 : Int32), (p0.toInt8.toInt32) = y0 ∧ v = some (.ref x0) ∧ Fr n0 L ∧ Keep h0 h [x0, x1] ∧ Exa Z h x0 "java/lang/StringBuilder" ∧ Fld Z h x0 "java/lang/AbstractStringBuilder" "coder" "B" (.int 0) ∧ Fld Z h x0 "java/lang/AbstractStringBuilder" "count" "I" (.int 3) ∧ Fld Z h x0 "java/lang/AbstractStringBuilder" "value" "[B" (.ref x1) ∧ Arv Z h x1 kk0 .byte (3 : Int32) [(.int p1), (.int p2), (.int y0)] (.int 0) ∧ Exa Z h x1 "[B") := by
  refine Ctr.of (plainFor_of_name pn_c4) ?_
  intro p e s m below meth c T0 hx hZ hby hml hown hnm hret hlk e0 es X0
  refine Go.cast (ef_36_RI m x0 p0) ?_
  generalize hFF : EndN s _ _ _ = FF
  refine Go.aloadN X0 hx (pc' := 1) rfl (hb hby d36_0) rfl rfl ?_
  refine Go.aloadN X0 hx (pc' := 2) rfl (hb hby d36_1) rfl rfl ?_
  refine Go.getF X0 hx hZ hown (host := "") (Or.inl (tw_99 hw)) Via.refl e0 P2 (pc' := 5) rfl (hb hby d36_2) ?_
  intro T1 e1 X1
  refine Go.iconst X1 hx (pc' := 6) rfl (hb hby d36_5) (v := (1 : Int32)) rfl ?_
  refine Go.iadd X1 hx (pc' := 7) rfl (hb hby d36_6) ?_
  rw [show ((2 : Int32) + (1 : Int32)) = (3 : Int32) from by decide]
  refine Go.callP X1 hx hZ hown (tw_191 hw) (tw_192 hw) (tw_194 hw) (tw_193 hw) (tw_195 hw) (by decide) (tw_195 hw) (tw_65 hw) (au_116 l Z a0 hw x0 x1 kk0 p1 p2 h0 n0 Z0 P1 P3 P4) e1 P0 (argsL := [(.int 3)]) (rest := []) (pc' := 10) rfl (by rw [hml]; rfl) (lenOf pd_14 rfl) rfl rfl (W := 0) (Nat.le_of_eq rfl) (by decide) (by decide) (by decide) (by decide) (hb hby d36_7) ?_
  intro v2 T2 L2 q2 X2
  obtain ⟨rfl, N2, e2⟩ := q2
  show Go _ _ _ _ (T2.setTop (mkF m 10 #[.val (.ref x0), .val (.int p0)] []))
  refine Go.aloadN X2 hx (pc' := 11) rfl (hb hby d36_10) rfl rfl ?_
  refine Go.callV X2 hx hZ hown (tw_196 hw) (tw_102 hw) (notFace_of_selects (args := #[]) (mvT hZ (tw_104 hw))) (tw_104 hw) (tw_103 hw) (by decide) (tw_105 hw) (tw_65 hw) (au_117 l Z a0 hw x0 gz1 gv5 h0 n0 Z0 O0 G P1) e2 P0 (argsL := []) (rest := []) (pc' := 14) rfl (by rw [hml]; rfl) (lenOf pd_16 rfl) rfl rfl (W := 0) (Nat.le_of_eq rfl) (by decide) (by decide) (by decide) (by decide) (hb hby d36_11) ?_
  intro v3 T3 L3 q3 X3
  obtain ⟨rfl, N3, e3⟩ := q3
  show Go _ _ _ _ (T3.setTop (mkF m 14 #[.val (.ref x0), .val (.int p0)] [(.int 1)]))
  refine Go.ifNo X3 hx (pc' := 17) rfl (hb hby d36_14) (by decide) ?_
  refine Go.iloadN X3 hx (pc' := 18) rfl (hb hby d36_17) rfl ?_
  refine Go.callS X3 hx hZ hown (tw_197 hw) (tw_151 hw) (tw_152 hw) (tw_153 hw) (by decide) (tw_153 hw) (tw_152 hw) (au_12 l Z a0 hw p0 h0 n0 Z0 R_p0) e3 (argsL := [(.int p0)]) (rest := []) (pc' := 21) rfl (by rw [hml]; rfl) (lenOf pd_4 rfl) rfl rfl (W := 0) (Nat.le_of_eq rfl) (by decide) (by decide) (by decide) (by decide) (hb hby d36_18) ?_
  intro v4 T4 L4 q4 X4
  obtain ⟨rfl, N4, e4⟩ := q4
  show Go _ _ _ _ (T4.setTop (mkF m 21 #[.val (.ref x0), .val (.int p0)] [(.int 1)]))
  refine Go.ifNo X4 hx (pc' := 24) rfl (hb hby d36_21) (by decide) ?_
  refine Go.aloadN X4 hx (pc' := 25) rfl (hb hby d36_24) rfl rfl ?_
  refine Go.getF X4 hx hZ hown (host := "") (Or.inl (tw_69 hw)) Via.refl e4 P3 (pc' := 28) rfl (hb hby d36_25) ?_
  intro T5 e5 X5
  refine Go.aloadN X5 hx (pc' := 29) rfl (hb hby d36_28) rfl rfl ?_
  refine Go.dup X5 hx (pc' := 30) rfl (hb hby d36_29) rfl ?_
  refine Go.getF X5 hx hZ hown (host := "") (Or.inl (tw_99 hw)) Via.refl e5 P2 (pc' := 33) rfl (hb hby d36_30) ?_
  intro T6 e6 X6
  refine Go.dupX1 X6 hx (pc' := 34) rfl (hb hby d36_33) rfl rfl ?_
  refine Go.iconst X6 hx (pc' := 35) rfl (hb hby d36_34) (v := (1 : Int32)) rfl ?_
  refine Go.iadd X6 hx (pc' := 36) rfl (hb hby d36_35) ?_
  rw [show ((2 : Int32) + (1 : Int32)) = (3 : Int32) from by decide]
  refine Go.putF X6 hx hZ hown (host := "") (Or.inl (tw_99 hw)) Via.refl e6 P2 P0 (Or.inl (tw_100 hw)) (tw_45 hw) (ty := .int) (by decide) rfl rfl (pc' := 39) rfl (hb hby d36_36) ?_
  intro T7 h7 e7 W7 F7 X7
  have N7 := Fr.snoc X7 (Fr.app (Fr.app (Fr.app (Fr.nil n0) N2) N3) N4) g_x0
  refine Go.iloadN X7 hx (pc' := 40) rfl (hb hby d36_39) rfl ?_
  refine Go.i2b X7 hx (pc' := 41) rfl (hb hby d36_40) ?_
  generalize hz8 : (p0.toInt8.toInt32) = z8
  have fk9 := (P4.other W7 ne_x1_x0)
  have r10 : -128 ≤ z8.toInt ∧ z8.toInt ≤ 127 := own_ri2b hz8
  refine Go.bastore X7 hx hZ e7 fk9 z8 (own_nar_byte r10 (by decide) (by decide)) ⟨by decide, by decide⟩ 2 rfl (Nat.le_of_ble_eq_true rfl) (pc' := 42) rfl (hb hby d36_41) ?_
  intro T11 h11 e11 W11 V11 X11
  have N11 := Fr.snoc X11 N7 g_x1
  refine Go.goto X11 hx (pc' := 75) (hb hby d36_42) (by decide) (by decide) ?_
  refine Go.aloadN X11 hx (pc' := 76) rfl (hb hby d36_75) rfl rfl ?_
  subst hFF
  refine Go.retR X11 hx hlk (t := (.object "java/lang/AbstractStringBuilder")) hret rfl rfl (hb hby d36_76) (by decide) (by decide) ?_
  rw [e11]
  have fk12 : Exa Z h11 x0 "java/lang/StringBuilder" := ((P0.wr W7).wr W11)
  have fk13 : Fld Z h11 x0 "java/lang/AbstractStringBuilder" "coder" "B" (.int 0) := ((P1.other W7 (Or.inr (slot_ne (Or.inl (tw_72 hw)) (Or.inl (tw_100 hw)) (by decide) (t := .byte) (t' := .int) (by decide) (by decide)))).other W11 (Or.inl (Ne.symm ne_x1_x0)))
  have fk14 : Fld Z h11 x0 "java/lang/AbstractStringBuilder" "count" "I" (.int 3) := (F7.other W11 (Or.inl (Ne.symm ne_x1_x0)))
  have fk15 : Fld Z h11 x0 "java/lang/AbstractStringBuilder" "value" "[B" (.ref x1) := ((P3.other W7 (Or.inr (slot_ne (Or.inl (tw_70 hw)) (Or.inl (tw_100 hw)) (by decide) (t := (.array .byte)) (t' := .int) (by decide) (by decide)))).other W11 (Or.inl (Ne.symm ne_x1_x0)))
  have V16 : Arv Z h11 x1 kk0 .byte (3 : Int32) [(.int p1), (.int p2), (.int z8)] (.int 0) := V11
  have fk17 : Exa Z h11 x1 "[B" := ((P5.wr W7).wr W11)
  have Kp18 : Keep h0 h7 [x0, x1] := ((Keep.refl h0 [x0, x1]).wr W7 (Or.inl (List.mem_of_getElem? (i := 0) rfl)))
  have Kp19 : Keep h0 h11 [x0, x1] := (Kp18.wr W11 (Or.inl (List.mem_of_getElem? (i := 1) rfl)))
  exact ⟨z8, hz8, rfl, N11, Kp19, fk12, fk13, fk14, fk15, V16, fk17⟩
-- java/lang/StringBuilder.append
set_option maxRecDepth 65536 in
set_option maxHeartbeats 4000000 in
theorem au_114 (l : Launch) (Z : State) (a0 : Array Value) (hw : ∀ d ∈ tables_1, d.before a0 Z = true) (x0 : Addr) (p0 : Int32) (x1 : Addr) (kk0 : ClassId) (p1 : Int32) (p2 : Int32) (gz1 : Int32) (gv5 : Value) (h0 : Heap) (n0 : Nat) (Z0 : n0 ≤ h0.size) (O0 : Old Z n0 h0) (G : Glob Z gz1 gv5) (P0 : Exa Z h0 x0 "java/lang/StringBuilder") (P1 : Fld Z h0 x0 "java/lang/AbstractStringBuilder" "coder" "B" (.int 0)) (P2 : Fld Z h0 x0 "java/lang/AbstractStringBuilder" "count" "I" (.int 2)) (P3 : Fld Z h0 x0 "java/lang/AbstractStringBuilder" "value" "[B" (.ref x1)) (P4 : Arv Z h0 x1 kk0 .byte (3 : Int32) [(.int p1), (.int p2), (.int 0)] (.int 0)) (P5 : Exa Z h0 x1 "[B") (R_p0 : 0 ≤ p0.toInt ∧ p0.toInt ≤ 255) (g_x0 : n0 ≤ x0) (g_x1 : n0 ≤ x1) (ne_x1_x0 : x1 ≠ x0) :
    Ctr l Z (⟨"java/lang/StringBuilder", "append", "(C)Ljava/lang/StringBuilder;"⟩ : MethodName) jdk_67_method_14_code 2 (some (.object "java/lang/StringBuilder")) ({ frames := 2, cells := 0, slots := 0, locals := 27 } : Room) #[(.ref x0), (.int p0)] h0 (fun v h L => ∃ (y0 : Int32), (p0.toInt8.toInt32) = y0 ∧ v = some (.ref x0) ∧ Fr n0 L ∧ Keep h0 h [x0, x1] ∧ Exa Z h x0 "java/lang/StringBuilder" ∧ Fld Z h x0 "java/lang/AbstractStringBuilder" "coder" "B" (.int 0) ∧ Fld Z h x0 "java/lang/AbstractStringBuilder" "count" "I" (.int 3) ∧ Fld Z h x0 "java/lang/AbstractStringBuilder" "value" "[B" (.ref x1) ∧ Arv Z h x1 kk0 .byte (3 : Int32) [(.int p1), (.int p2), (.int y0)] (.int 0) ∧ Exa Z h x1 "[B") := by
  refine Ctr.of (plainFor_of_name pn_c5) ?_
  intro p e s m below meth c T0 hx hZ hby hml hown hnm hret hlk e0 es X0
  refine Go.cast (ef_35_RI m x0 p0) ?_
  generalize hFF : EndN s _ _ _ = FF
  refine Go.aloadN X0 hx (pc' := 1) rfl (hb hby d35_0) rfl rfl ?_
  refine Go.iloadN X0 hx (pc' := 2) rfl (hb hby d35_1) rfl ?_
  refine Go.callUp X0 hx hZ hown (tw_187 hw) (own_sameself (tw_88 hw) rfl (tw_188 hw) (by decide)) (tw_188 hw) (tw_97 hw) (by decide) (tw_190 hw) (tw_190 hw) (tw_65 hw) (au_115 l Z a0 hw x0 p0 x1 kk0 p1 p2 gz1 gv5 h0 n0 Z0 O0 G P0 P1 P2 P3 P4 P5 R_p0 g_x0 g_x1 ne_x1_x0) e0 P0 (argsL := [(.int p0)]) (rest := []) (pc' := 5) rfl (by rw [hml]; rfl) (lenOf pd_25 rfl) rfl rfl (W := 0) (Nat.le_of_eq rfl) (by decide) (by decide) (by decide) (by decide) (hb hby d35_2) ?_
  intro v1 T1 L1 q1 X1
  obtain ⟨h1, e1⟩ : ∃ z, T1.heap = z := ⟨_, rfl⟩
  rw [e1] at q1
  obtain ⟨z1_0, d1_0, rfl, N1, K1, F1_0, F1_1, F1_2, F1_3, F1_4, F1_5⟩ := q1
  show Go _ _ _ _ (T1.setTop (mkF m 5 #[.val (.ref x0), .val (.int p0)] [(.ref x0)]))
  refine Go.pop X1 hx (pc' := 6) rfl (hb hby d35_5) rfl ?_
  refine Go.aloadN X1 hx (pc' := 7) rfl (hb hby d35_6) rfl rfl ?_
  subst hFF
  refine Go.retR X1 hx hlk (t := (.object "java/lang/StringBuilder")) hret rfl rfl (hb hby d35_7) (by decide) (by decide) ?_
  rw [e1]
  have Kp2 : Keep h0 h1 [x0, x1] := ((Keep.refl h0 [x0, x1]).trans K1 (allS (Or.inl (List.mem_of_getElem? (i := 0) rfl)) (allS (Or.inl (List.mem_of_getElem? (i := 1) rfl)) all0)))
  exact ⟨z1_0, d1_0, rfl, (Fr.app (Fr.nil n0) N1), Kp2, F1_0, F1_1, F1_2, F1_3, F1_4, F1_5⟩
-- java/lang/AbstractStringBuilder.getValue
set_option maxRecDepth 65536 in
set_option maxHeartbeats 4000000 in
theorem au_121 (l : Launch) (Z : State) (a0 : Array Value) (hw : ∀ d ∈ tables_1, d.before a0 Z = true) (x0 : Addr) (x1 : Addr) (h0 : Heap) (n0 : Nat) (Z0 : n0 ≤ h0.size) (P3 : Fld Z h0 x0 "java/lang/AbstractStringBuilder" "value" "[B" (.ref x1)) :
    Ctr l Z (⟨"java/lang/AbstractStringBuilder", "getValue", "()[B"⟩ : MethodName) jdk_68_method_64_code 1 (some (.array .byte)) ({ frames := 0, cells := 0, slots := 0, locals := 0 } : Room) #[(.ref x0)] h0 (fun v h L => v = some (.ref x1) ∧ Fr n0 L ∧ h = h0) := by
  refine Ctr.of (plainFor_of_name pn_c4) ?_
  intro p e s m below meth c T0 hx hZ hby hml hown hnm hret hlk e0 es X0
  refine Go.cast (ef_16_R m x0) ?_
  generalize hFF : EndN s _ _ _ = FF
  refine Go.aloadN X0 hx (pc' := 1) rfl (hb hby d16_0) rfl rfl ?_
  refine Go.getF X0 hx hZ hown (host := "") (Or.inl (tw_69 hw)) Via.refl e0 P3 (pc' := 4) rfl (hb hby d16_1) ?_
  intro T1 e1 X1
  subst hFF
  refine Go.retR X1 hx hlk (t := (.array .byte)) hret rfl rfl (hb hby d16_4) (by decide) (by decide) ?_
  rw [e1]
  exact ⟨rfl, (Fr.nil n0), rfl⟩
-- java/lang/AbstractStringBuilder.length
set_option maxRecDepth 65536 in
set_option maxHeartbeats 4000000 in
theorem au_123 (l : Launch) (Z : State) (a0 : Array Value) (hw : ∀ d ∈ tables_1, d.before a0 Z = true) (x0 : Addr) (h0 : Heap) (n0 : Nat) (Z0 : n0 ≤ h0.size) (P2 : Fld Z h0 x0 "java/lang/AbstractStringBuilder" "count" "I" (.int 3)) :
    Ctr l Z (⟨"java/lang/AbstractStringBuilder", "length", "()I"⟩ : MethodName) jdk_68_method_6_code 1 (some .int) ({ frames := 0, cells := 0, slots := 0, locals := 0 } : Room) #[(.ref x0)] h0 (fun v h L => v = some (.int 3) ∧ Fr n0 L ∧ h = h0) := by
  refine Ctr.of (plainFor_of_name pn_c4) ?_
  intro p e s m below meth c T0 hx hZ hby hml hown hnm hret hlk e0 es X0
  refine Go.cast (ef_18_R m x0) ?_
  generalize hFF : EndN s _ _ _ = FF
  refine Go.aloadN X0 hx (pc' := 1) rfl (hb hby d18_0) rfl rfl ?_
  refine Go.getF X0 hx hZ hown (host := "") (Or.inl (tw_99 hw)) Via.refl e0 P2 (pc' := 4) rfl (hb hby d18_1) ?_
  intro T1 e1 X1
  subst hFF
  refine Go.retI X1 hx hlk hret (hb hby d18_4) (by decide) (by decide) ?_
  rw [e1]
  exact ⟨rfl, (Fr.nil n0), rfl⟩
-- java/lang/StringBuilder.length
set_option maxRecDepth 65536 in
set_option maxHeartbeats 4000000 in
theorem au_122 (l : Launch) (Z : State) (a0 : Array Value) (hw : ∀ d ∈ tables_1, d.before a0 Z = true) (x0 : Addr) (h0 : Heap) (n0 : Nat) (Z0 : n0 ≤ h0.size) (P0 : Exa Z h0 x0 "java/lang/StringBuilder") (P2 : Fld Z h0 x0 "java/lang/AbstractStringBuilder" "count" "I" (.int 3)) :
    Ctr l Z (⟨"java/lang/StringBuilder", "length", "()I"⟩ : MethodName) jdk_67_method_93_code 1 (some .int) ({ frames := 1, cells := 0, slots := 0, locals := 12 } : Room) #[(.ref x0)] h0 (fun v h L => v = some (.int 3) ∧ Fr n0 L ∧ h = h0) := by
  refine Ctr.of (plainFor_of_name pn_c5) ?_
  intro p e s m below meth c T0 hx hZ hby hml hown hnm hret hlk e0 es X0
  refine Go.cast (ef_17_R m x0) ?_
  generalize hFF : EndN s _ _ _ = FF
  refine Go.aloadN X0 hx (pc' := 1) rfl (hb hby d17_0) rfl rfl ?_
  refine Go.callUp X0 hx hZ hown (tw_96 hw) (own_sameself (tw_88 hw) rfl (tw_92 hw) (by decide)) (tw_92 hw) (tw_97 hw) (by decide) (tw_98 hw) (tw_98 hw) (tw_65 hw) (au_123 l Z a0 hw x0 h0 n0 Z0 P2) e0 P0 (argsL := []) (rest := []) (pc' := 4) rfl (by rw [hml]; rfl) (lenOf pd_13 rfl) rfl rfl (W := 0) (Nat.le_of_eq rfl) (by decide) (by decide) (by decide) (by decide) (hb hby d17_1) ?_
  intro v1 T1 L1 q1 X1
  obtain ⟨rfl, N1, e1⟩ := q1
  show Go _ _ _ _ (T1.setTop (mkF m 4 #[.val (.ref x0)] [(.int 3)]))
  subst hFF
  refine Go.retI X1 hx hlk hret (hb hby d17_4) (by decide) (by decide) ?_
  rw [e1]
  exact ⟨rfl, (Fr.app (Fr.nil n0) N1), rfl⟩
-- java/lang/AbstractStringBuilder.isLatin1
set_option maxRecDepth 65536 in
set_option maxHeartbeats 4000000 in
theorem au_124 (l : Launch) (Z : State) (a0 : Array Value) (hw : ∀ d ∈ tables_1, d.before a0 Z = true) (x0 : Addr) (gz1 : Int32) (gv5 : Value) (h0 : Heap) (n0 : Nat) (Z0 : n0 ≤ h0.size) (O0 : Old Z n0 h0) (G : Glob Z gz1 gv5) (P1 : Fld Z h0 x0 "java/lang/AbstractStringBuilder" "coder" "B" (.int 0)) :
    Ctr l Z (⟨"java/lang/AbstractStringBuilder", "isLatin1", "()Z"⟩ : MethodName) jdk_68_method_68_code 1 (some .boolean) ({ frames := 0, cells := 0, slots := 0, locals := 0 } : Room) #[(.ref x0)] h0 (fun v h L => v = some (.int 1) ∧ Fr n0 L ∧ h = h0) := by
  refine Ctr.of (plainFor_of_name pn_c4) ?_
  intro p e s m below meth c T0 hx hZ hby hml hown hnm hret hlk e0 es X0
  have G' := G
  obtain ⟨G0, -, G2, -⟩ := G'
  refine Go.cast (ef_19_R m x0) ?_
  generalize hFF : EndN s _ _ _ = FF
  have fk1 : Sta Z h0 "java/lang/String" "COMPACT_STRINGS" "Z" (.int gz1) := G0.ext O0.2
  refine Go.getS X0 hx hZ hown (host := "") (Or.inl (tw_68 hw)) Via.refl e0 fk1 (pc' := 3) rfl (hb hby d19_0) ?_
  intro T2 e2 X2
  refine Go.ifNo X2 hx (pc' := 6) rfl (hb hby d19_3) (feq G2).1 ?_
  refine Go.aloadN X2 hx (pc' := 7) rfl (hb hby d19_6) rfl rfl ?_
  refine Go.getF X2 hx hZ hown (host := "") (Or.inl (tw_71 hw)) Via.refl e2 P1 (pc' := 10) rfl (hb hby d19_7) ?_
  intro T3 e3 X3
  refine Go.ifNo X3 hx (pc' := 13) rfl (hb hby d19_10) (by decide) ?_
  refine Go.iconst X3 hx (pc' := 14) rfl (hb hby d19_13) (v := (1 : Int32)) rfl ?_
  refine Go.goto X3 hx (pc' := 18) (hb hby d19_14) (by decide) (by decide) ?_
  subst hFF
  refine Go.retN X3 hx hlk (t := .boolean) hret (by simp) (hb hby d19_18) (by decide) (by decide) ?_
  rw [e3]
  exact ⟨(congrArg (fun z => some (Value.int z)) (by decide : nar .boolean (1 : Int32) = (1 : Int32))), (Fr.nil n0), rfl⟩
-- java/util/Arrays.copyOfRange
set_option maxRecDepth 65536 in
set_option maxHeartbeats 4000000 in
theorem au_125 (l : Launch) (Z : State) (a0 : Array Value) (hw : ∀ d ∈ tables_1, d.before a0 Z = true) (x0 : Addr) (kk0 : ClassId) (p0 : Int32) (p1 : Int32) (p2 : Int32) (h0 : Heap) (n0 : Nat) (Z0 : n0 ≤ h0.size) (P0 : Arv Z h0 x0 kk0 .byte (3 : Int32) [(.int p0), (.int p1), (.int p2)] (.int 0)) (P1 : Exa Z h0 x0 "[B") :
    Ctr l Z (⟨"java/util/Arrays", "copyOfRange", "([BII)[B"⟩ : MethodName) jdk_65_method_132_code 3 (some (.array .byte)) ({ frames := 1, cells := 1, slots := 3, locals := 14 } : Room) #[(.ref x0), (.int 0), (.int 3)] h0 (fun v h L => ∃ (y0 : Addr), v = some (.ref y0) ∧ Fr n0 L ∧ Keep h0 h [] ∧ h0.size ≤ y0 ∧ Arv Z h y0 kk0 .byte (3 : Int32) [(.int p0), (.int p1), (.int p2)] (.int 0) ∧ Exa Z h y0 "[B") := by
  refine Ctr.of (plainFor_of_name pn_c6) ?_
  intro p e s m below meth c T0 hx hZ hby hml hown hnm hret hlk e0 es X0
  refine Go.cast (ef_20_RII m x0 (0 : Int32) (3 : Int32)) ?_
  generalize hFF : EndN s _ _ _ = FF
  refine Go.iloadN X0 hx (pc' := 1) rfl (hb hby d20_0) rfl ?_
  refine Go.ifNo X0 hx (pc' := 4) rfl (hb hby d20_1) (by decide) ?_
  refine Go.iloadN X0 hx (pc' := 5) rfl (hb hby d20_4) rfl ?_
  refine Go.aloadN X0 hx (pc' := 6) rfl (hb hby d20_5) rfl rfl ?_
  refine Go.arraylength X0 hx hZ e0 P0 (pc' := 7) rfl (hb hby d20_6) ?_
  refine Go.icmpYes X0 hx (pc' := 17) (hb hby d20_7) (by decide) (by decide) (by decide) ?_
  refine Go.aloadN X0 hx (pc' := 18) rfl (hb hby d20_17) rfl rfl ?_
  refine Go.clone X0 hx hZ hown (tw_110 hw) (tw_111 hw) (tw_115 hw) (tw_113 hw) (tw_114 hw) (tw_116 hw) e0 P0 P1 (W := 0) (cap := 3) (by decide) (by rw [hml]; rfl) (Nat.le_of_eq rfl) (by decide) (by decide) (by decide) (by decide) (pc' := 21) rfl (hb hby d20_18) ?_
  intro T1 h1 b1 e1 E1 g1 V1 A1 X1
  refine Go.castY X1 hx hZ hown (tw_117 hw) e1 (Ins.self A1) (pc' := 24) rfl (hb hby d20_21) ?_
  intro T2 e2 X2
  subst hFF
  refine Go.retR X2 hx hlk (t := (.array .byte)) hret rfl rfl (hb hby d20_24) (by decide) (by decide) ?_
  rw [e2]
  have Kp3 : Keep h0 h1 [] := ((Keep.refl h0 []).ext E1)
  have sz4 : h0.size ≤ b1 := Nat.le_trans (Keep.refl h0 []).1 (Nat.le_of_eq g1.symm)
  exact ⟨b1, rfl, (Fr.nil n0), Kp3, sz4, V1, A1⟩
-- java/lang/String.init
set_option maxRecDepth 65536 in
set_option maxHeartbeats 4000000 in
theorem au_120 (l : Launch) (Z : State) (a0 : Array Value) (hw : ∀ d ∈ tables_1, d.before a0 Z = true) (x0 : Addr) (x1 : Addr) (x2 : Addr) (kk0 : ClassId) (p0 : Int32) (p1 : Int32) (p2 : Int32) (gz1 : Int32) (gv5 : Value) (h0 : Heap) (n0 : Nat) (Z0 : n0 ≤ h0.size) (O0 : Old Z n0 h0) (G : Glob Z gz1 gv5) (P0 : Exa Z h0 x0 "java/lang/String") (P1 : Fld Z h0 x0 "java/lang/String" "coder" "B" (.int 0)) (P2 : Fld Z h0 x0 "java/lang/String" "value" "[B" .null) (P3 : Exa Z h0 x1 "java/lang/StringBuilder") (P4 : Fld Z h0 x1 "java/lang/AbstractStringBuilder" "coder" "B" (.int 0)) (P5 : Fld Z h0 x1 "java/lang/AbstractStringBuilder" "count" "I" (.int 3)) (P6 : Fld Z h0 x1 "java/lang/AbstractStringBuilder" "value" "[B" (.ref x2)) (P7 : Arv Z h0 x2 kk0 .byte (3 : Int32) [(.int p0), (.int p1), (.int p2)] (.int 0)) (P8 : Exa Z h0 x2 "[B") (g_x0 : n0 ≤ x0) (ne_x2_x0 : x2 ≠ x0) :
    Ctr l Z (⟨"java/lang/String", "<init>", "(Ljava/lang/AbstractStringBuilder;Ljava/lang/Void;)V"⟩ : MethodName) jdk_42_method_150_code 5 none ({ frames := 2, cells := 1, slots := 3, locals := 29 } : Room) #[(.ref x0), (.ref x1), .null] h0 (fun v h L => ∃ (y0 : Addr), v = none ∧ Fr n0 L ∧ Keep h0 h [x0] ∧ h0.size ≤ y0 ∧ Exa Z h x0 "java/lang/String" ∧ Fld Z h x0 "java/lang/String" "coder" "B" (.int 0) ∧ Fld Z h x0 "java/lang/String" "value" "[B" (.ref y0) ∧ Arv Z h y0 kk0 .byte (3 : Int32) [(.int p0), (.int p1), (.int p2)] (.int 0) ∧ Exa Z h y0 "[B") := by
  refine Ctr.of (plainFor_of_name pn_c1) ?_
  intro p e s m below meth c T0 hx hZ hby hml hown hnm hret hlk e0 es X0
  refine Go.cast (ef_15_RRN m x0 x1) ?_
  generalize hFF : EndN s _ _ _ = FF
  refine Go.aloadN X0 hx (pc' := 1) rfl (hb hby d15_0) rfl rfl ?_
  refine Go.initO X0 hx hZ hown (tw_21 hw) (tw_22 hw) (tw_23 hw) e0 (by decide) (W := 0) (by rw [hml]; rfl) (Nat.le_of_eq rfl) (by decide) (pc' := 4) rfl (hb hby d15_1) ?_
  intro T1 e1 X1
  refine Go.aloadN X1 hx (pc' := 5) rfl (hb hby d15_4) rfl rfl ?_
  refine Go.callV X1 hx hZ hown (tw_85 hw) (tw_86 hw) (notFace_of_selects (args := #[]) (mvT hZ (tw_88 hw))) (tw_88 hw) (tw_87 hw) (by decide) (tw_89 hw) (tw_65 hw) (au_121 l Z a0 hw x1 x2 h0 n0 Z0 P6) e1 P3 (argsL := []) (rest := []) (pc' := 8) rfl (by rw [hml]; rfl) (lenOf pd_15 rfl) rfl rfl (W := 0) (Nat.le_of_eq rfl) (by decide) (by decide) (by decide) (by decide) (hb hby d15_5) ?_
  intro v2 T2 L2 q2 X2
  obtain ⟨rfl, N2, e2⟩ := q2
  show Go _ _ _ _ (T2.setTop (mkF m 8 #[.val (.ref x0), .val (.ref x1), .val .null, .unset, .unset] [(.ref x2)]))
  refine Go.astoreN X2 hx (pc' := 9) rfl (hb hby d15_8) (Ls' := #[.val (.ref x0), .val (.ref x1), .val .null, .val (.ref x2), .unset]) rfl rfl ?_
  refine Go.aloadN X2 hx (pc' := 10) rfl (hb hby d15_9) rfl rfl ?_
  refine Go.callV X2 hx hZ hown (tw_90 hw) (tw_91 hw) (own_nf (args := #[]) (mvT hZ (tw_88 hw)) rfl) (tw_93 hw) (tw_94 hw) (by decide) (tw_95 hw) (tw_46 hw) (au_122 l Z a0 hw x1 h0 n0 Z0 P3 P5) e2 P3 (argsL := []) (rest := []) (pc' := 13) rfl (by rw [hml]; rfl) (lenOf pd_13 rfl) rfl rfl (W := 0) (Nat.le_of_eq rfl) (by decide) (by decide) (by decide) (by decide) (hb hby d15_10) ?_
  intro v3 T3 L3 q3 X3
  obtain ⟨rfl, N3, e3⟩ := q3
  show Go _ _ _ _ (T3.setTop (mkF m 13 #[.val (.ref x0), .val (.ref x1), .val .null, .val (.ref x2), .unset] [(.int 3)]))
  refine Go.istore X3 hx (pc' := 15) rfl (hb hby d15_13) (Ls' := #[.val (.ref x0), .val (.ref x1), .val .null, .val (.ref x2), .val (.int 3)]) rfl ?_
  refine Go.aloadN X3 hx (pc' := 16) rfl (hb hby d15_15) rfl rfl ?_
  refine Go.callV X3 hx hZ hown (tw_101 hw) (tw_102 hw) (notFace_of_selects (args := #[]) (mvT hZ (tw_104 hw))) (tw_104 hw) (tw_103 hw) (by decide) (tw_105 hw) (tw_65 hw) (au_124 l Z a0 hw x1 gz1 gv5 h0 n0 Z0 O0 G P4) e3 P3 (argsL := []) (rest := []) (pc' := 19) rfl (by rw [hml]; rfl) (lenOf pd_16 rfl) rfl rfl (W := 0) (Nat.le_of_eq rfl) (by decide) (by decide) (by decide) (by decide) (hb hby d15_16) ?_
  intro v4 T4 L4 q4 X4
  obtain ⟨rfl, N4, e4⟩ := q4
  show Go _ _ _ _ (T4.setTop (mkF m 19 #[.val (.ref x0), .val (.ref x1), .val .null, .val (.ref x2), .val (.int 3)] [(.int 1)]))
  refine Go.ifNo X4 hx (pc' := 22) rfl (hb hby d15_19) (by decide) ?_
  refine Go.aloadN X4 hx (pc' := 23) rfl (hb hby d15_22) rfl rfl ?_
  refine Go.iconst X4 hx (pc' := 24) rfl (hb hby d15_23) (v := (0 : Int32)) rfl ?_
  refine Go.putFN X4 hx hZ hown (tw_31 hw) Via.refl e4 P1 P0 (Or.inr ⟨(tw_27 hw), rfl, hnm⟩) (tw_11 hw) (ty := .byte) (v' := (.int 0)) (by decide) (by decide) (by decide) (pc' := 27) rfl (hb hby d15_24) ?_
  intro T5 h5 e5 W5 F5 X5
  have N5 := Fr.snoc X5 (Fr.app (Fr.app (Fr.app (Fr.nil n0) N2) N3) N4) g_x0
  refine Go.aloadN X5 hx (pc' := 28) rfl (hb hby d15_27) rfl rfl ?_
  refine Go.aloadN X5 hx (pc' := 29) rfl (hb hby d15_28) rfl rfl ?_
  refine Go.iconst X5 hx (pc' := 30) rfl (hb hby d15_29) (v := (0 : Int32)) rfl ?_
  refine Go.iload X5 hx (pc' := 32) rfl (hb hby d15_30) rfl ?_
  have Kp7 : Keep h0 h5 [x0] := ((Keep.refl h0 [x0]).wr W5 (Or.inl (List.mem_of_getElem? (i := 0) rfl)))
  have Zn6 : n0 ≤ h5.size := Nat.le_trans Z0 Kp7.1
  have fk8 := (P7.other W5 ne_x2_x0)
  have fk9 : Exa Z h5 x2 "[B" := (P8.wr W5)
  refine Go.callS X5 hx hZ hown (tw_106 hw) (tw_107 hw) (tw_108 hw) (tw_109 hw) (by decide) (tw_109 hw) (tw_108 hw) (au_125 l Z a0 hw x2 kk0 p0 p1 p2 h5 n0 Zn6 fk8 fk9) e5 (argsL := [(.ref x2), (.int 0), (.int 3)]) (rest := [(.ref x0)]) (pc' := 35) rfl (by rw [hml]; rfl) (lenOf pd_17 rfl) rfl rfl (W := 1) (Nat.le_of_eq rfl) (by decide) (by decide) (by decide) (by decide) (hb hby d15_32) ?_
  intro v10 T10 L10 q10 X10
  obtain ⟨h10, e10⟩ : ∃ z, T10.heap = z := ⟨_, rfl⟩
  rw [e10] at q10
  obtain ⟨b10_0, rfl, N10, K10, s10_0, F10_0, F10_1⟩ := q10
  show Go _ _ _ _ (T10.setTop (mkF m 35 #[.val (.ref x0), .val (.ref x1), .val .null, .val (.ref x2), .val (.int 3)] [(.ref b10_0), (.ref x0)]))
  have fk11 : Fld Z h10 x0 "java/lang/String" "value" "[B" .null := ((P2.other W5 (Or.inr (slot_ne (Or.inr (tw_26 hw)) (Or.inr (tw_27 hw)) (by decide) (t := (.array .byte)) (t' := .byte) (by decide) (by decide)))).keep K10 nin0)
  have fk12 : Exa Z h10 x0 "java/lang/String" := ((P0.wr W5).keep K10)
  refine Go.putF X10 hx hZ hown (host := "") (Or.inl (tw_30 hw)) Via.refl e10 fk11 fk12 (Or.inr ⟨(tw_26 hw), rfl, hnm⟩) (tw_11 hw) (ty := (.array .byte)) (by decide) rfl rfl (pc' := 38) rfl (hb hby d15_35) ?_
  intro T13 h13 e13 W13 F13 X13
  have N13 := Fr.snoc X13 (Fr.app N5 N10) g_x0
  refine Go.goto X13 hx (pc' := 97) (hb hby d15_38) (by decide) (by decide) ?_
  subst hFF
  refine Go.ret0 X13 hx hlk hret (hb hby d15_97) (by decide) (by decide) ?_
  rw [e13]
  have fk14 : Exa Z h13 x0 "java/lang/String" := (fk12.wr W13)
  have fk15 : Fld Z h13 x0 "java/lang/String" "coder" "B" (.int 0) := ((F5.keep K10 nin0).other W13 (Or.inr (slot_ne (Or.inr (tw_27 hw)) (Or.inr (tw_26 hw)) (by decide) (t := .byte) (t' := (.array .byte)) (by decide) (by decide))))
  have fk17 : Exa Z h5 x0 "java/lang/String" := (P0.wr W5)
  have ne16 : x0 ≠ b10_0 := Nat.ne_of_lt (Nat.lt_of_lt_of_le fk17.lt s10_0)
  have fk18 := (F10_0.other W13 (Ne.symm ne16))
  have fk19 : Exa Z h13 b10_0 "[B" := (F10_1.wr W13)
  have Kp20 : Keep h0 h10 [x0] := (Kp7.trans K10 all0)
  have Kp21 : Keep h0 h13 [x0] := (Kp20.wr W13 (Or.inl (List.mem_of_getElem? (i := 0) rfl)))
  have sz22 : h0.size ≤ b10_0 := Nat.le_trans Kp7.1 s10_0
  exact ⟨b10_0, rfl, N13, Kp21, sz22, fk14, fk15, F13, fk18, fk19⟩
-- java/lang/String.init
set_option maxRecDepth 65536 in
set_option maxHeartbeats 4000000 in
theorem au_119 (l : Launch) (Z : State) (a0 : Array Value) (hw : ∀ d ∈ tables_1, d.before a0 Z = true) (x0 : Addr) (x1 : Addr) (x2 : Addr) (kk0 : ClassId) (p0 : Int32) (p1 : Int32) (p2 : Int32) (gz1 : Int32) (gv5 : Value) (h0 : Heap) (n0 : Nat) (Z0 : n0 ≤ h0.size) (O0 : Old Z n0 h0) (G : Glob Z gz1 gv5) (P0 : Exa Z h0 x0 "java/lang/String") (P1 : Fld Z h0 x0 "java/lang/String" "coder" "B" (.int 0)) (P2 : Fld Z h0 x0 "java/lang/String" "value" "[B" .null) (P3 : Exa Z h0 x1 "java/lang/StringBuilder") (P4 : Fld Z h0 x1 "java/lang/AbstractStringBuilder" "coder" "B" (.int 0)) (P5 : Fld Z h0 x1 "java/lang/AbstractStringBuilder" "count" "I" (.int 3)) (P6 : Fld Z h0 x1 "java/lang/AbstractStringBuilder" "value" "[B" (.ref x2)) (P7 : Arv Z h0 x2 kk0 .byte (3 : Int32) [(.int p0), (.int p1), (.int p2)] (.int 0)) (P8 : Exa Z h0 x2 "[B") (g_x0 : n0 ≤ x0) (ne_x2_x0 : x2 ≠ x0) :
    Ctr l Z (⟨"java/lang/String", "<init>", "(Ljava/lang/StringBuilder;)V"⟩ : MethodName) jdk_42_method_53_code 2 none ({ frames := 3, cells := 1, slots := 3, locals := 45 } : Room) #[(.ref x0), (.ref x1)] h0 (fun v h L => ∃ (y0 : Addr), v = none ∧ Fr n0 L ∧ Keep h0 h [x0] ∧ h0.size ≤ y0 ∧ Exa Z h x0 "java/lang/String" ∧ Fld Z h x0 "java/lang/String" "coder" "B" (.int 0) ∧ Fld Z h x0 "java/lang/String" "value" "[B" (.ref y0) ∧ Arv Z h y0 kk0 .byte (3 : Int32) [(.int p0), (.int p1), (.int p2)] (.int 0) ∧ Exa Z h y0 "[B") := by
  refine Ctr.of (plainFor_of_name pn_c1) ?_
  intro p e s m below meth c T0 hx hZ hby hml hown hnm hret hlk e0 es X0
  refine Go.cast (ef_14_RR m x0 x1) ?_
  generalize hFF : EndN s _ _ _ = FF
  refine Go.aloadN X0 hx (pc' := 1) rfl (hb hby d14_0) rfl rfl ?_
  refine Go.aloadN X0 hx (pc' := 2) rfl (hb hby d14_1) rfl rfl ?_
  refine Go.anull X0 hx (pc' := 3) rfl (hb hby d14_2) ?_
  refine Go.callN X0 hx hZ hown rfl (tw_82 hw) (tw_83 hw) (tw_84 hw) (by decide) (tw_84 hw) (tw_12 hw) (au_120 l Z a0 hw x0 x1 x2 kk0 p0 p1 p2 gz1 gv5 h0 n0 Z0 O0 G P0 P1 P2 P3 P4 P5 P6 P7 P8 g_x0 ne_x2_x0) e0 (a := x0) (argsL := [(.ref x1), .null]) (rest := []) (pc' := 6) rfl (by rw [hml]; rfl) (lenOf pd_18 rfl) rfl rfl (W := 0) (Nat.le_of_eq rfl) (by decide) (by decide) (by decide) (by decide) (hb hby d14_3) ?_
  intro v1 T1 L1 q1 X1
  obtain ⟨h1, e1⟩ : ∃ z, T1.heap = z := ⟨_, rfl⟩
  rw [e1] at q1
  obtain ⟨b1_0, rfl, N1, K1, s1_0, F1_0, F1_1, F1_2, F1_3, F1_4⟩ := q1
  show Go _ _ _ _ (T1.setTop (mkF m 6 #[.val (.ref x0), .val (.ref x1)] []))
  subst hFF
  refine Go.ret0 X1 hx hlk hret (hb hby d14_6) (by decide) (by decide) ?_
  rw [e1]
  have Kp2 : Keep h0 h1 [x0] := ((Keep.refl h0 [x0]).trans K1 (allS (Or.inl (List.mem_of_getElem? (i := 0) rfl)) all0))
  have sz3 : h0.size ≤ b1_0 := Nat.le_trans (Keep.refl h0 [x0]).1 s1_0
  exact ⟨b1_0, rfl, (Fr.app (Fr.nil n0) N1), Kp2, sz3, F1_0, F1_1, F1_2, F1_3, F1_4⟩
-- java/lang/StringBuilder.toString
set_option maxRecDepth 65536 in
set_option maxHeartbeats 4000000 in
theorem au_118 (l : Launch) (Z : State) (a0 : Array Value) (hw : ∀ d ∈ tables_1, d.before a0 Z = true) (x0 : Addr) (x1 : Addr) (kk0 : ClassId) (p0 : Int32) (p1 : Int32) (p2 : Int32) (gz1 : Int32) (gv5 : Value) (h0 : Heap) (n0 : Nat) (Z0 : n0 ≤ h0.size) (O0 : Old Z n0 h0) (G : Glob Z gz1 gv5) (P0 : Exa Z h0 x0 "java/lang/StringBuilder") (P1 : Fld Z h0 x0 "java/lang/AbstractStringBuilder" "coder" "B" (.int 0)) (P2 : Fld Z h0 x0 "java/lang/AbstractStringBuilder" "count" "I" (.int 3)) (P3 : Fld Z h0 x0 "java/lang/AbstractStringBuilder" "value" "[B" (.ref x1)) (P4 : Arv Z h0 x1 kk0 .byte (3 : Int32) [(.int p0), (.int p1), (.int p2)] (.int 0)) (P5 : Exa Z h0 x1 "[B") :
    Ctr l Z (⟨"java/lang/StringBuilder", "toString", "()Ljava/lang/String;"⟩ : MethodName) jdk_67_method_42_code 1 (some (.object "java/lang/String")) ({ frames := 4, cells := 2, slots := 7, locals := 59 } : Room) #[(.ref x0)] h0 (fun v h L => ∃ (y0 : Addr) (y1 : Addr), v = some (.ref y0) ∧ Fr n0 L ∧ Keep h0 h [] ∧ h0.size ≤ y0 ∧ h0.size ≤ y1 ∧ y1 ≠ y0 ∧ Exa Z h y0 "java/lang/String" ∧ Fld Z h y0 "java/lang/String" "coder" "B" (.int 0) ∧ Fld Z h y0 "java/lang/String" "value" "[B" (.ref y1) ∧ Arv Z h y1 kk0 .byte (3 : Int32) [(.int p0), (.int p1), (.int p2)] (.int 0) ∧ Exa Z h y1 "[B") := by
  refine Ctr.of (plainFor_of_name pn_c5) ?_
  intro p e s m below meth c T0 hx hZ hby hml hown hnm hret hlk e0 es X0
  refine Go.cast (ef_13_R m x0) ?_
  generalize hFF : EndN s _ _ _ = FF
  refine Go.new X0 hx hZ hown (tw_78 hw) (tw_11 hw) (tw_12 hw) e0 (by decide) (by decide) (pc' := 3) rfl (hb hby d13_0) ?_
  intro T1 h1 b1 e1 E1 g1 A1 D1 X1
  have b1_value : Fld Z h1 b1 "java/lang/String" "value" "[B" .null := D1 (Or.inr (tw_26 hw)) (ty := (.array .byte)) (by decide)
  have b1_coder : Fld Z h1 b1 "java/lang/String" "coder" "B" (.int 0) := D1 (Or.inr (tw_27 hw)) (ty := .byte) (by decide)
  refine Go.dup X1 hx (pc' := 4) rfl (hb hby d13_3) rfl ?_
  refine Go.aloadN X1 hx (pc' := 5) rfl (hb hby d13_4) rfl rfl ?_
  have Kp3 : Keep h0 h1 [] := ((Keep.refl h0 []).ext E1)
  have Zn2 : n0 ≤ h1.size := Nat.le_trans Z0 Kp3.1
  have O4 := (O0.ext E1)
  have fk5 : Exa Z h1 x0 "java/lang/StringBuilder" := (P0.ext E1)
  have fk6 : Fld Z h1 x0 "java/lang/AbstractStringBuilder" "coder" "B" (.int 0) := (P1.ext E1)
  have fk7 : Fld Z h1 x0 "java/lang/AbstractStringBuilder" "count" "I" (.int 3) := (P2.ext E1)
  have fk8 : Fld Z h1 x0 "java/lang/AbstractStringBuilder" "value" "[B" (.ref x1) := (P3.ext E1)
  have fk9 := (P4.ext E1)
  have fk10 : Exa Z h1 x1 "[B" := (P5.ext E1)
  have sz12 : h0.size ≤ b1 := Nat.le_trans (Keep.refl h0 []).1 (Nat.le_of_eq g1.symm)
  have ge11 : n0 ≤ b1 := Nat.le_trans Z0 sz12
  have ne13 : x1 ≠ b1 := Nat.ne_of_lt (Nat.lt_of_lt_of_le P4.lt (Nat.le_of_eq g1.symm))
  refine Go.callN X1 hx hZ hown rfl (tw_79 hw) (tw_80 hw) (tw_81 hw) (by decide) (tw_81 hw) (tw_12 hw) (au_119 l Z a0 hw b1 x0 x1 kk0 p0 p1 p2 gz1 gv5 h1 n0 Zn2 O4 G A1 b1_coder b1_value fk5 fk6 fk7 fk8 fk9 fk10 ge11 ne13) e1 (a := b1) (argsL := [(.ref x0)]) (rest := [(.ref b1)]) (pc' := 8) rfl (by rw [hml]; rfl) (lenOf pd_19 rfl) rfl rfl (W := 1) (Nat.le_of_eq rfl) (by decide) (by decide) (by decide) (by decide) (hb hby d13_5) ?_
  intro v14 T14 L14 q14 X14
  obtain ⟨h14, e14⟩ : ∃ z, T14.heap = z := ⟨_, rfl⟩
  rw [e14] at q14
  obtain ⟨b14_0, rfl, N14, K14, s14_0, F14_0, F14_1, F14_2, F14_3, F14_4⟩ := q14
  show Go _ _ _ _ (T14.setTop (mkF m 8 #[.val (.ref x0)] [(.ref b1)]))
  subst hFF
  refine Go.retR X14 hx hlk (t := (.object "java/lang/String")) hret rfl rfl (hb hby d13_8) (by decide) (by decide) ?_
  rw [e14]
  have Kp15 : Keep h0 h14 [] := (Kp3.trans K14 (allS (Or.inr sz12) all0))
  have sz16 : h0.size ≤ b14_0 := Nat.le_trans Kp3.1 s14_0
  have ne17 : b1 ≠ b14_0 := Nat.ne_of_lt (Nat.lt_of_lt_of_le A1.lt s14_0)
  exact ⟨b1, b14_0, rfl, (Fr.app (Fr.nil n0) N14), Kp15, sz12, sz16, (Ne.symm ne17), F14_0, F14_1, F14_2, F14_3, F14_4⟩
theorem ef_8_R (m : MethodId) (x0 : Addr) : entryFrame m #[(.ref x0)] 4 = mkF m 0 #[.val (.ref x0), .unset, .unset, .unset] [] := by first | (simp [entryFrame, mkF, argsToLocals, Value.category]; done) | rfl
theorem pn_c8 : plainName "com/example/dirbound/dirbound/ldap/HostPort" = true := by first | (simp [plainName, overriddenIn]; done) | decide +kernel
-- com/example/dirbound/dirbound/ldap/HostPort.folded
set_option maxRecDepth 65536 in
set_option maxHeartbeats 4000000 in
theorem au_26 (l : Launch) (Z : State) (a0 : Array Value) (hw : ∀ d ∈ tables_1, d.before a0 Z = true) (x0 : Addr) (x1 : Addr) (kk0 : ClassId) (us0 : List Int32) (p1 : Int32) (gz1 : Int32) (gv5 : Value) (h0 : Heap) (n0 : Nat) (Z0 : n0 ≤ h0.size) (O0 : Old Z n0 h0) (G : Glob Z gz1 gv5) (P0 : Exa Z h0 x0 "java/lang/String") (P1 : Fld Z h0 x0 "java/lang/String" "coder" "B" (.int 0)) (P2 : Fld Z h0 x0 "java/lang/String" "value" "[B" (.ref x1)) (P3 : Arv Z h0 x1 kk0 .byte p1 (us0.map own_vb) (.int 0)) (H0 : p1.toInt = us0.length) (H1 : own_lat us0) :
    Ctr l Z (⟨"com/example/dirbound/dirbound/ldap/HostPort", "folded", "(Ljava/lang/String;)Ljava/lang/String;"⟩ : MethodName) prog_48_method_11_code 4 (some (.object "java/lang/String")) ({ frames := 5, cells := 4, slots := 14, locals := 71 } : Room) #[(.ref x0)] h0 (fun v h L => ∃ (y0 : Int32) (y1 : List Int32) (y2 : Addr) (y3 : Addr) (y4 : ClassId), (us0.map own_fold) = y1 ∧ y0.toInt = y1.length ∧ own_lat y1 ∧ v = some (.ref y2) ∧ Fr n0 L ∧ Keep h0 h [] ∧ h0.size ≤ y2 ∧ h0.size ≤ y3 ∧ y3 ≠ y2 ∧ Exa Z h y2 "java/lang/String" ∧ Fld Z h y2 "java/lang/String" "coder" "B" (.int 0) ∧ Fld Z h y2 "java/lang/String" "value" "[B" (.ref y3) ∧ Arv Z h y3 y4 .byte y0 (y1.map own_vb) (.int 0)) := by
  refine Ctr.of (plainFor_of_name pn_c8) ?_
  intro p e s m below meth c T0 hx hZ hby hml hown hnm hret hlk e0 es X0
  refine Go.cast (ef_8_R m x0) ?_
  generalize hFF : EndN s _ _ _ = FF
  rcases own_lat_cases H1 H0 with ⟨rfl, rfl⟩ | ⟨ca0, rfl, rfl, cr0⟩ | ⟨ca0, ca1, rfl, rfl, cr0, cr1⟩ | ⟨ca0, ca1, ca2, rfl, rfl, cr0, cr1, cr2⟩
  · have cV : Arv Z h0 x1 kk0 .byte (0 : Int32) [] (.int 0) := by
      exact P3
    refine Go.new X0 hx hZ hown (tw_44 hw) (tw_45 hw) (tw_46 hw) e0 (by decide) (by decide) (pc' := 3) rfl (hb hby d8_0) ?_
    intro T1 h1 b1 e1 E1 g1 A1 D1 X1
    have b1_value : Fld Z h1 b1 "java/lang/AbstractStringBuilder" "value" "[B" .null := D1 (Or.inl (tw_70 hw)) (ty := (.array .byte)) (by decide)
    have b1_coder : Fld Z h1 b1 "java/lang/AbstractStringBuilder" "coder" "B" (.int 0) := D1 (Or.inl (tw_72 hw)) (ty := .byte) (by decide)
    have b1_count : Fld Z h1 b1 "java/lang/AbstractStringBuilder" "count" "I" (.int 0) := D1 (Or.inl (tw_100 hw)) (ty := .int) (by decide)
    refine Go.dup X1 hx (pc' := 4) rfl (hb hby d8_3) rfl ?_
    refine Go.aloadN X1 hx (pc' := 5) rfl (hb hby d8_4) rfl rfl ?_
    have Kp3 : Keep h0 h1 [] := ((Keep.refl h0 []).ext E1)
    have Zn2 : n0 ≤ h1.size := Nat.le_trans Z0 Kp3.1
    have O4 := (O0.ext E1)
    have fk5 : Exa Z h1 x0 "java/lang/String" := (P0.ext E1)
    have fk6 : Fld Z h1 x0 "java/lang/String" "coder" "B" (.int 0) := (P1.ext E1)
    have fk7 : Fld Z h1 x0 "java/lang/String" "value" "[B" (.ref x1) := (P2.ext E1)
    have fk8 := (cV.ext E1)
    refine Go.callV X1 hx hZ hown (tw_47 hw) (tw_48 hw) (notFace_of_selects (args := #[]) (mvT hZ (tw_50 hw))) (tw_50 hw) (tw_49 hw) (by decide) (tw_51 hw) (tw_12 hw) (au_27 l Z a0 hw x0 x1 kk0 gz1 gv5 h1 n0 Zn2 O4 G fk5 fk6 fk7 fk8) e1 fk5 (argsL := []) (rest := [(.ref b1), (.ref b1)]) (pc' := 8) rfl (by rw [hml]; rfl) (lenOf pd_13 rfl) rfl rfl (W := 2) (Nat.le_of_eq rfl) (by decide) (by decide) (by decide) (by decide) (hb hby d8_5) ?_
    intro v9 T9 L9 q9 X9
    obtain ⟨rfl, N9, e9⟩ := q9
    show Go _ _ _ _ (T9.setTop (mkF m 8 #[.val (.ref x0), .unset, .unset, .unset] [(.int 0), (.ref b1), (.ref b1)]))
    have sz11 : h0.size ≤ b1 := Nat.le_trans (Keep.refl h0 []).1 (Nat.le_of_eq g1.symm)
    have ge10 : n0 ≤ b1 := Nat.le_trans Z0 sz11
    refine Go.callN X9 hx hZ hown rfl (tw_58 hw) (tw_59 hw) (tw_60 hw) (by decide) (tw_60 hw) (tw_46 hw) (au_29 l Z a0 hw b1 gz1 gv5 h1 n0 Zn2 O4 G A1 b1_coder b1_count b1_value ge10) e9 (a := b1) (argsL := [(.int 0)]) (rest := [(.ref b1)]) (pc' := 11) rfl (by rw [hml]; rfl) (lenOf pd_14 rfl) rfl rfl (W := 1) (Nat.le_of_eq rfl) (by decide) (by decide) (by decide) (by decide) (hb hby d8_8) ?_
    intro v12 T12 L12 q12 X12
    obtain ⟨h12, e12⟩ : ∃ z, T12.heap = z := ⟨_, rfl⟩
    rw [e12] at q12
    obtain ⟨b12_0, k12_0, rfl, N12, K12, s12_0, F12_0, F12_1, F12_2, F12_3, F12_4, F12_5⟩ := q12
    show Go _ _ _ _ (T12.setTop (mkF m 11 #[.val (.ref x0), .unset, .unset, .unset] [(.ref b1)]))
    refine Go.astoreN X12 hx (pc' := 12) rfl (hb hby d8_11) (Ls' := #[.val (.ref x0), .val (.ref b1), .unset, .unset]) rfl rfl ?_
    refine Go.iconst X12 hx (pc' := 13) rfl (hb hby d8_12) (v := (0 : Int32)) rfl ?_
    refine Go.istoreN X12 hx (pc' := 14) rfl (hb hby d8_13) (Ls' := #[.val (.ref x0), .val (.ref b1), .val (.int 0), .unset]) rfl ?_
    refine Go.iloadN X12 hx (pc' := 15) rfl (hb hby d8_14) rfl ?_
    refine Go.aloadN X12 hx (pc' := 16) rfl (hb hby d8_15) rfl rfl ?_
    have Kp14 : Keep h0 h12 [] := (Kp3.trans K12 (allS (Or.inr sz11) all0))
    have Zn13 : n0 ≤ h12.size := Nat.le_trans Z0 Kp14.1
    have O15 := (O4.keep K12 (allS ge10 all0))
    have fk16 : Exa Z h12 x0 "java/lang/String" := (fk5.keep K12)
    have ne17 : x0 ≠ b1 := Nat.ne_of_lt (Nat.lt_of_lt_of_le P0.lt (Nat.le_of_eq g1.symm))
    have fk18 : Fld Z h12 x0 "java/lang/String" "coder" "B" (.int 0) := (fk6.keep K12 (ninS ne17 nin0))
    have fk19 : Fld Z h12 x0 "java/lang/String" "value" "[B" (.ref x1) := (fk7.keep K12 (ninS ne17 nin0))
    have ne20 : x1 ≠ b1 := Nat.ne_of_lt (Nat.lt_of_lt_of_le cV.lt (Nat.le_of_eq g1.symm))
    have fk21 := (fk8.keep K12 (ninS ne20 nin0))
    refine Go.callV X12 hx hZ hown (tw_47 hw) (tw_48 hw) (notFace_of_selects (args := #[]) (mvT hZ (tw_50 hw))) (tw_50 hw) (tw_49 hw) (by decide) (tw_51 hw) (tw_12 hw) (au_27 l Z a0 hw x0 x1 kk0 gz1 gv5 h12 n0 Zn13 O15 G fk16 fk18 fk19 fk21) e12 fk16 (argsL := []) (rest := [(.int 0)]) (pc' := 19) rfl (by rw [hml]; rfl) (lenOf pd_13 rfl) rfl rfl (W := 1) (Nat.le_of_eq rfl) (by decide) (by decide) (by decide) (by decide) (hb hby d8_16) ?_
    intro v22 T22 L22 q22 X22
    obtain ⟨rfl, N22, e22⟩ := q22
    show Go _ _ _ _ (T22.setTop (mkF m 19 #[.val (.ref x0), .val (.ref b1), .val (.int 0), .unset] [(.int 0), (.int 0)]))
    refine Go.icmpYes X22 hx (pc' := 63) (hb hby d8_19) (by decide) (by decide) (by decide) ?_
    refine Go.aloadN X22 hx (pc' := 64) rfl (hb hby d8_63) rfl rfl ?_
    refine Go.callV X22 hx hZ hown (tw_73 hw) (tw_74 hw) (notFace_of_selects (args := #[]) (mvT hZ (tw_76 hw))) (tw_76 hw) (tw_75 hw) (by decide) (tw_77 hw) (tw_46 hw) (au_31 l Z a0 hw b1 b12_0 k12_0 gz1 gv5 h12 n0 Zn13 O15 G F12_0 F12_1 F12_2 F12_3 F12_4 F12_5) e22 F12_0 (argsL := []) (rest := []) (pc' := 67) rfl (by rw [hml]; rfl) (lenOf pd_20 rfl) rfl rfl (W := 0) (Nat.le_of_eq rfl) (by decide) (by decide) (by decide) (by decide) (hb hby d8_64) ?_
    intro v23 T23 L23 q23 X23
    obtain ⟨h23, e23⟩ : ∃ z, T23.heap = z := ⟨_, rfl⟩
    rw [e23] at q23
    obtain ⟨b23_0, b23_1, rfl, N23, K23, s23_0, s23_1, n23_0, F23_0, F23_1, F23_2, F23_3, F23_4⟩ := q23
    show Go _ _ _ _ (T23.setTop (mkF m 67 #[.val (.ref x0), .val (.ref b1), .val (.int 0), .unset] [(.ref b23_0)]))
    subst hFF
    refine Go.retR X23 hx hlk (t := (.object "java/lang/String")) hret rfl rfl (hb hby d8_67) (by decide) (by decide) ?_
    rw [e23]
    obtain ⟨ll, hll⟩ : ∃ u, (([] : List Int32).map own_fold) = u := ⟨_, rfl⟩
    have hl : ll = [] := hll.symm.trans (rfl)
    obtain ⟨lz, hlz⟩ : ∃ z : Int32, (0 : Int32) = z := ⟨_, rfl⟩
    have lV : Arv Z h23 b23_1 k12_0 .byte lz (ll.map own_vb) (.int 0) := by
      rw [hl, ← hlz]
      show Arv Z h23 b23_1 k12_0 .byte (0 : Int32) [] (.int 0)
      exact F23_3
    have lln : lz.toInt = ll.length := by rw [hl, ← hlz]; rfl
    have lla : own_lat ll := by rw [hl]; exact own_lat_0 
    have Kp24 : Keep h0 h23 [] := (Kp14.trans K23 all0)
    have sz25 : h0.size ≤ b23_0 := Nat.le_trans Kp14.1 s23_0
    have sz26 : h0.size ≤ b23_1 := Nat.le_trans Kp14.1 s23_1
    exact ⟨lz, ll, b23_0, b23_1, k12_0, hll, lln, lla, rfl, (Fr.app (Fr.app (Fr.app (Fr.app (Fr.nil n0) N9) N12) N22) N23), Kp24, sz25, sz26, n23_0, F23_0, F23_1, F23_2, lV⟩
  · obtain ⟨cb0, hcb0⟩ : ∃ y, (ca0.toInt8.toInt32) = y := ⟨_, rfl⟩
    have cV : Arv Z h0 x1 kk0 .byte (1 : Int32) [(.int cb0)] (.int 0) := by
      rw [← hcb0]; exact P3
    refine Go.new X0 hx hZ hown (tw_44 hw) (tw_45 hw) (tw_46 hw) e0 (by decide) (by decide) (pc' := 3) rfl (hb hby d8_0) ?_
    intro T27 h27 b27 e27 E27 g27 A27 D27 X27
    have b27_value : Fld Z h27 b27 "java/lang/AbstractStringBuilder" "value" "[B" .null := D27 (Or.inl (tw_70 hw)) (ty := (.array .byte)) (by decide)
    have b27_coder : Fld Z h27 b27 "java/lang/AbstractStringBuilder" "coder" "B" (.int 0) := D27 (Or.inl (tw_72 hw)) (ty := .byte) (by decide)
    have b27_count : Fld Z h27 b27 "java/lang/AbstractStringBuilder" "count" "I" (.int 0) := D27 (Or.inl (tw_100 hw)) (ty := .int) (by decide)
    refine Go.dup X27 hx (pc' := 4) rfl (hb hby d8_3) rfl ?_
    refine Go.aloadN X27 hx (pc' := 5) rfl (hb hby d8_4) rfl rfl ?_
    have r28 : -128 ≤ cb0.toInt ∧ cb0.toInt ≤ 127 := own_ri2b hcb0
    have Kp30 : Keep h0 h27 [] := ((Keep.refl h0 []).ext E27)
    have Zn29 : n0 ≤ h27.size := Nat.le_trans Z0 Kp30.1
    have O31 := (O0.ext E27)
    have fk32 : Exa Z h27 x0 "java/lang/String" := (P0.ext E27)
    have fk33 : Fld Z h27 x0 "java/lang/String" "coder" "B" (.int 0) := (P1.ext E27)
    have fk34 : Fld Z h27 x0 "java/lang/String" "value" "[B" (.ref x1) := (P2.ext E27)
    have fk35 := (cV.ext E27)
    refine Go.callV X27 hx hZ hown (tw_47 hw) (tw_48 hw) (notFace_of_selects (args := #[]) (mvT hZ (tw_50 hw))) (tw_50 hw) (tw_49 hw) (by decide) (tw_51 hw) (tw_12 hw) (au_39 l Z a0 hw x0 x1 kk0 cb0 gz1 gv5 h27 n0 Zn29 O31 G fk32 fk33 fk34 fk35) e27 fk32 (argsL := []) (rest := [(.ref b27), (.ref b27)]) (pc' := 8) rfl (by rw [hml]; rfl) (lenOf pd_13 rfl) rfl rfl (W := 2) (Nat.le_of_eq rfl) (by decide) (by decide) (by decide) (by decide) (hb hby d8_5) ?_
    intro v36 T36 L36 q36 X36
    obtain ⟨rfl, N36, e36⟩ := q36
    show Go _ _ _ _ (T36.setTop (mkF m 8 #[.val (.ref x0), .unset, .unset, .unset] [(.int 1), (.ref b27), (.ref b27)]))
    have sz38 : h0.size ≤ b27 := Nat.le_trans (Keep.refl h0 []).1 (Nat.le_of_eq g27.symm)
    have ge37 : n0 ≤ b27 := Nat.le_trans Z0 sz38
    refine Go.callN X36 hx hZ hown rfl (tw_58 hw) (tw_59 hw) (tw_60 hw) (by decide) (tw_60 hw) (tw_46 hw) (au_41 l Z a0 hw b27 gz1 gv5 h27 n0 Zn29 O31 G A27 b27_coder b27_count b27_value ge37) e36 (a := b27) (argsL := [(.int 1)]) (rest := [(.ref b27)]) (pc' := 11) rfl (by rw [hml]; rfl) (lenOf pd_14 rfl) rfl rfl (W := 1) (Nat.le_of_eq rfl) (by decide) (by decide) (by decide) (by decide) (hb hby d8_8) ?_
    intro v39 T39 L39 q39 X39
    obtain ⟨h39, e39⟩ : ∃ z, T39.heap = z := ⟨_, rfl⟩
    rw [e39] at q39
    obtain ⟨b39_0, k39_0, rfl, N39, K39, s39_0, F39_0, F39_1, F39_2, F39_3, F39_4, F39_5⟩ := q39
    show Go _ _ _ _ (T39.setTop (mkF m 11 #[.val (.ref x0), .unset, .unset, .unset] [(.ref b27)]))
    refine Go.astoreN X39 hx (pc' := 12) rfl (hb hby d8_11) (Ls' := #[.val (.ref x0), .val (.ref b27), .unset, .unset]) rfl rfl ?_
    refine Go.iconst X39 hx (pc' := 13) rfl (hb hby d8_12) (v := (0 : Int32)) rfl ?_
    refine Go.istoreN X39 hx (pc' := 14) rfl (hb hby d8_13) (Ls' := #[.val (.ref x0), .val (.ref b27), .val (.int 0), .unset]) rfl ?_
    refine Go.iloadN X39 hx (pc' := 15) rfl (hb hby d8_14) rfl ?_
    refine Go.aloadN X39 hx (pc' := 16) rfl (hb hby d8_15) rfl rfl ?_
    have Kp41 : Keep h0 h39 [] := (Kp30.trans K39 (allS (Or.inr sz38) all0))
    have Zn40 : n0 ≤ h39.size := Nat.le_trans Z0 Kp41.1
    have O42 := (O31.keep K39 (allS ge37 all0))
    have fk43 : Exa Z h39 x0 "java/lang/String" := (fk32.keep K39)
    have ne44 : x0 ≠ b27 := Nat.ne_of_lt (Nat.lt_of_lt_of_le P0.lt (Nat.le_of_eq g27.symm))
    have fk45 : Fld Z h39 x0 "java/lang/String" "coder" "B" (.int 0) := (fk33.keep K39 (ninS ne44 nin0))
    have fk46 : Fld Z h39 x0 "java/lang/String" "value" "[B" (.ref x1) := (fk34.keep K39 (ninS ne44 nin0))
    have ne47 : x1 ≠ b27 := Nat.ne_of_lt (Nat.lt_of_lt_of_le cV.lt (Nat.le_of_eq g27.symm))
    have fk48 := (fk35.keep K39 (ninS ne47 nin0))
    refine Go.callV X39 hx hZ hown (tw_47 hw) (tw_48 hw) (notFace_of_selects (args := #[]) (mvT hZ (tw_50 hw))) (tw_50 hw) (tw_49 hw) (by decide) (tw_51 hw) (tw_12 hw) (au_39 l Z a0 hw x0 x1 kk0 cb0 gz1 gv5 h39 n0 Zn40 O42 G fk43 fk45 fk46 fk48) e39 fk43 (argsL := []) (rest := [(.int 0)]) (pc' := 19) rfl (by rw [hml]; rfl) (lenOf pd_13 rfl) rfl rfl (W := 1) (Nat.le_of_eq rfl) (by decide) (by decide) (by decide) (by decide) (hb hby d8_16) ?_
    intro v49 T49 L49 q49 X49
    obtain ⟨rfl, N49, e49⟩ := q49
    show Go _ _ _ _ (T49.setTop (mkF m 19 #[.val (.ref x0), .val (.ref b27), .val (.int 0), .unset] [(.int 1), (.int 0)]))
    refine Go.icmpNo X49 hx (pc' := 22) rfl (hb hby d8_19) (by decide) ?_
    refine Go.aloadN X49 hx (pc' := 23) rfl (hb hby d8_22) rfl rfl ?_
    refine Go.iloadN X49 hx (pc' := 24) rfl (hb hby d8_23) rfl ?_
    refine Go.callV X49 hx hZ hown (tw_161 hw) (tw_162 hw) (notFace_of_selects (args := #[]) (mvT hZ (tw_164 hw))) (tw_164 hw) (tw_163 hw) (by decide) (tw_165 hw) (tw_12 hw) (au_43 l Z a0 hw x0 x1 kk0 cb0 ca0 gz1 gv5 h39 n0 Zn40 O42 G fk43 fk45 fk46 fk48 cr0 hcb0) e49 fk43 (argsL := [(.int 0)]) (rest := []) (pc' := 27) rfl (by rw [hml]; rfl) (lenOf pd_24 rfl) rfl rfl (W := 0) (Nat.le_of_eq rfl) (by decide) (by decide) (by decide) (by decide) (hb hby d8_24) ?_
    intro v50 T50 L50 q50 X50
    obtain ⟨rfl, N50, e50⟩ := q50
    show Go _ _ _ _ (T50.setTop (mkF m 27 #[.val (.ref x0), .val (.ref b27), .val (.int 0), .unset] [(.int ca0)]))
    refine Go.istoreN X50 hx (pc' := 28) rfl (hb hby d8_27) (Ls' := #[.val (.ref x0), .val (.ref b27), .val (.int 0), .val (.int ca0)]) rfl ?_
    refine Go.aloadN X50 hx (pc' := 29) rfl (hb hby d8_28) rfl rfl ?_
    have J51 : ∀ (jf51 : Int32), (own_fold ca0) = jf51 → Go p e below FF (T50.setTop (mkF m 53 #[.val (.ref x0), .val (.ref b27), .val (.int 0), .val (.int ca0)] [(.int jf51), (.ref b27)])) := by
      intro jf51 jh51
      have r52 : 0 ≤ jf51.toInt ∧ jf51.toInt ≤ 255 := own_rfold jh51 (own_rw cr0 (by decide) (by decide))
      have sz54 : h0.size ≤ b39_0 := Nat.le_trans Kp30.1 s39_0
      have ge53 : n0 ≤ b39_0 := Nat.le_trans Z0 sz54
      have ne55 : b27 ≠ b39_0 := Nat.ne_of_lt (Nat.lt_of_lt_of_le A27.lt s39_0)
      refine Go.callV X50 hx hZ hown (tw_182 hw) (tw_183 hw) (notFace_of_selects (args := #[]) (mvT hZ (tw_185 hw))) (tw_185 hw) (tw_184 hw) (by decide) (tw_186 hw) (tw_46 hw) (au_48 l Z a0 hw b27 jf51 b39_0 k39_0 gz1 gv5 h39 n0 Zn40 O42 G F39_0 F39_1 F39_2 F39_3 F39_4 F39_5 r52 ge37 ge53 (Ne.symm ne55)) e50 F39_0 (argsL := [(.int jf51)]) (rest := []) (pc' := 56) rfl (by rw [hml]; rfl) (lenOf pd_26 rfl) rfl rfl (W := 0) (Nat.le_of_eq rfl) (by decide) (by decide) (by decide) (by decide) (hb hby d8_53) ?_
      intro v56 T56 L56 q56 X56
      obtain ⟨h56, e56⟩ : ∃ z, T56.heap = z := ⟨_, rfl⟩
      rw [e56] at q56
      obtain ⟨z56_0, d56_0, rfl, N56, K56, F56_0, F56_1, F56_2, F56_3, F56_4, F56_5⟩ := q56
      show Go _ _ _ _ (T56.setTop (mkF m 56 #[.val (.ref x0), .val (.ref b27), .val (.int 0), .val (.int ca0)] [(.ref b27)]))
      refine Go.pop X56 hx (pc' := 57) rfl (hb hby d8_56) rfl ?_
      refine Go.iinc X56 hx (pc' := 60) rfl (hb hby d8_57) rfl (y := (1 : Int32)) (by decide) (Ls' := #[.val (.ref x0), .val (.ref b27), .val (.int 1), .val (.int ca0)]) rfl ?_
      refine Go.goto X56 hx (pc' := 14) (hb hby d8_60) (by decide) (by decide) ?_
      refine Go.iloadN X56 hx (pc' := 15) rfl (hb hby d8_14) rfl ?_
      refine Go.aloadN X56 hx (pc' := 16) rfl (hb hby d8_15) rfl rfl ?_
      have Kp58 : Keep h0 h56 [] := (Kp41.trans K56 (allS (Or.inr sz38) (allS (Or.inr sz54) all0)))
      have Zn57 : n0 ≤ h56.size := Nat.le_trans Z0 Kp58.1
      have O59 := (O42.keep K56 (allS ge37 (allS ge53 all0)))
      have fk60 : Exa Z h56 x0 "java/lang/String" := (fk43.keep K56)
      have ne61 : x0 ≠ b39_0 := Nat.ne_of_lt (Nat.lt_of_lt_of_le fk32.lt s39_0)
      have fk62 : Fld Z h56 x0 "java/lang/String" "coder" "B" (.int 0) := (fk45.keep K56 (ninS ne44 (ninS ne61 nin0)))
      have fk63 : Fld Z h56 x0 "java/lang/String" "value" "[B" (.ref x1) := (fk46.keep K56 (ninS ne44 (ninS ne61 nin0)))
      have ne64 : x1 ≠ b39_0 := Nat.ne_of_lt (Nat.lt_of_lt_of_le fk35.lt s39_0)
      have fk65 := (fk48.keep K56 (ninS ne47 (ninS ne64 nin0)))
      refine Go.callV X56 hx hZ hown (tw_47 hw) (tw_48 hw) (notFace_of_selects (args := #[]) (mvT hZ (tw_50 hw))) (tw_50 hw) (tw_49 hw) (by decide) (tw_51 hw) (tw_12 hw) (au_39 l Z a0 hw x0 x1 kk0 cb0 gz1 gv5 h56 n0 Zn57 O59 G fk60 fk62 fk63 fk65) e56 fk60 (argsL := []) (rest := [(.int 1)]) (pc' := 19) rfl (by rw [hml]; rfl) (lenOf pd_13 rfl) rfl rfl (W := 1) (Nat.le_of_eq rfl) (by decide) (by decide) (by decide) (by decide) (hb hby d8_16) ?_
      intro v66 T66 L66 q66 X66
      obtain ⟨rfl, N66, e66⟩ := q66
      show Go _ _ _ _ (T66.setTop (mkF m 19 #[.val (.ref x0), .val (.ref b27), .val (.int 1), .val (.int ca0)] [(.int 1), (.int 1)]))
      refine Go.icmpYes X66 hx (pc' := 63) (hb hby d8_19) (by decide) (by decide) (by decide) ?_
      refine Go.aloadN X66 hx (pc' := 64) rfl (hb hby d8_63) rfl rfl ?_
      have r67 : -128 ≤ z56_0.toInt ∧ z56_0.toInt ≤ 127 := own_ri2b d56_0
      refine Go.callV X66 hx hZ hown (tw_73 hw) (tw_74 hw) (notFace_of_selects (args := #[]) (mvT hZ (tw_76 hw))) (tw_76 hw) (tw_75 hw) (by decide) (tw_77 hw) (tw_46 hw) (au_52 l Z a0 hw b27 b39_0 k39_0 z56_0 gz1 gv5 h56 n0 Zn57 O59 G F56_0 F56_1 F56_2 F56_3 F56_4 F56_5) e66 F56_0 (argsL := []) (rest := []) (pc' := 67) rfl (by rw [hml]; rfl) (lenOf pd_20 rfl) rfl rfl (W := 0) (Nat.le_of_eq rfl) (by decide) (by decide) (by decide) (by decide) (hb hby d8_64) ?_
      intro v68 T68 L68 q68 X68
      obtain ⟨h68, e68⟩ : ∃ z, T68.heap = z := ⟨_, rfl⟩
      rw [e68] at q68
      obtain ⟨b68_0, b68_1, rfl, N68, K68, s68_0, s68_1, n68_0, F68_0, F68_1, F68_2, F68_3, F68_4⟩ := q68
      show Go _ _ _ _ (T68.setTop (mkF m 67 #[.val (.ref x0), .val (.ref b27), .val (.int 1), .val (.int ca0)] [(.ref b68_0)]))
      subst hFF
      refine Go.retR X68 hx hlk (t := (.object "java/lang/String")) hret rfl rfl (hb hby d8_67) (by decide) (by decide) ?_
      rw [e68]
      obtain ⟨ll, hll⟩ : ∃ u, (([ca0] : List Int32).map own_fold) = u := ⟨_, rfl⟩
      have hl : ll = [jf51] := hll.symm.trans (by show [own_fold ca0] = _; rw [jh51])
      obtain ⟨lz, hlz⟩ : ∃ z : Int32, (1 : Int32) = z := ⟨_, rfl⟩
      have lV : Arv Z h68 b68_1 k39_0 .byte lz (ll.map own_vb) (.int 0) := by
        rw [hl, ← hlz]
        show Arv Z h68 b68_1 k39_0 .byte (1 : Int32) [.int (jf51.toInt8.toInt32)] (.int 0)
        rw [d56_0]
        exact F68_3
      have lln : lz.toInt = ll.length := by rw [hl, ← hlz]; rfl
      have lla : own_lat ll := by rw [hl]; exact own_lat_1 (own_rw r52 (by decide) (by decide))
      have Kp69 : Keep h0 h68 [] := (Kp58.trans K68 all0)
      have sz70 : h0.size ≤ b68_0 := Nat.le_trans Kp58.1 s68_0
      have sz71 : h0.size ≤ b68_1 := Nat.le_trans Kp58.1 s68_1
      exact ⟨lz, ll, b68_0, b68_1, k39_0, hll, lln, lla, rfl, (Fr.app (Fr.app (Fr.app (Fr.app (Fr.app (Fr.app (Fr.app (Fr.nil n0) N36) N39) N49) N50) N56) N66) N68), Kp69, sz70, sz71, n68_0, F68_0, F68_1, F68_2, lV⟩
    refine Go.iloadN X50 hx (pc' := 30) rfl (hb hby d8_29) rfl ?_
    refine Go.bipush X50 hx (pc' := 32) rfl (hb hby d8_30) (v := (65 : Int32)) (by decide) ?_
    by_cases hc72 : ca0 < (65 : Int32)
    · refine Go.icmpYes X50 hx (pc' := 52) (hb hby d8_32) (tlt hc72).1 (by decide) (by decide) ?_
      refine Go.iloadN X50 hx (pc' := 53) rfl (hb hby d8_52) rfl ?_
      exact J51 ca0 (own_fold_lt hc72)
    · refine Go.icmpNo X50 hx (pc' := 35) rfl (hb hby d8_32) (flt hc72).1 ?_
      refine Go.iloadN X50 hx (pc' := 36) rfl (hb hby d8_35) rfl ?_
      refine Go.bipush X50 hx (pc' := 38) rfl (hb hby d8_36) (v := (90 : Int32)) (by decide) ?_
      by_cases hc73 : (90 : Int32) < ca0
      · refine Go.icmpYes X50 hx (pc' := 52) (hb hby d8_38) (tlt hc73).2.2.1 (by decide) (by decide) ?_
        refine Go.iloadN X50 hx (pc' := 53) rfl (hb hby d8_52) rfl ?_
        exact J51 ca0 (own_fold_gt hc72 hc73)
      · refine Go.icmpNo X50 hx (pc' := 41) rfl (hb hby d8_38) (flt hc73).2.2.1 ?_
        refine Go.iloadN X50 hx (pc' := 42) rfl (hb hby d8_41) rfl ?_
        refine Go.bipush X50 hx (pc' := 44) rfl (hb hby d8_42) (v := (65 : Int32)) (by decide) ?_
        refine Go.isub X50 hx (pc' := 45) rfl (hb hby d8_44) ?_
        generalize hz74 : (ca0 - (65 : Int32)) = z74
        refine Go.bipush X50 hx (pc' := 47) rfl (hb hby d8_45) (v := (97 : Int32)) (by decide) ?_
        refine Go.iadd X50 hx (pc' := 48) rfl (hb hby d8_47) ?_
        have r75 : -65 ≤ z74.toInt ∧ z74.toInt ≤ 190 := own_rsub hz74 cr0 (own_rlit (n := 65) (by decide)) (by decide) (by decide)
        generalize hz76 : (z74 + (97 : Int32)) = z76
        refine Go.i2c X50 hx (pc' := 49) rfl (hb hby d8_48) ?_
        have r77 : 32 ≤ z76.toInt ∧ z76.toInt ≤ 287 := own_radd hz76 r75 (own_rlit (n := 97) (by decide)) (by decide) (by decide)
        rw [show (z76.toUInt32.toUInt16.toUInt32.toInt32) = z76 from (own_i2c_id r77 (by decide) (by decide))]
        refine Go.goto X50 hx (pc' := 53) (hb hby d8_49) (by decide) (by decide) ?_
        exact J51 z76 (own_fold_up hc72 hc73 hz74 hz76)
  · obtain ⟨cb0, hcb0⟩ : ∃ y, (ca0.toInt8.toInt32) = y := ⟨_, rfl⟩
    obtain ⟨cb1, hcb1⟩ : ∃ y, (ca1.toInt8.toInt32) = y := ⟨_, rfl⟩
    have cV : Arv Z h0 x1 kk0 .byte (2 : Int32) [(.int cb0), (.int cb1)] (.int 0) := by
      rw [← hcb0, ← hcb1]; exact P3
    refine Go.new X0 hx hZ hown (tw_44 hw) (tw_45 hw) (tw_46 hw) e0 (by decide) (by decide) (pc' := 3) rfl (hb hby d8_0) ?_
    intro T78 h78 b78 e78 E78 g78 A78 D78 X78
    have b78_value : Fld Z h78 b78 "java/lang/AbstractStringBuilder" "value" "[B" .null := D78 (Or.inl (tw_70 hw)) (ty := (.array .byte)) (by decide)
    have b78_coder : Fld Z h78 b78 "java/lang/AbstractStringBuilder" "coder" "B" (.int 0) := D78 (Or.inl (tw_72 hw)) (ty := .byte) (by decide)
    have b78_count : Fld Z h78 b78 "java/lang/AbstractStringBuilder" "count" "I" (.int 0) := D78 (Or.inl (tw_100 hw)) (ty := .int) (by decide)
    refine Go.dup X78 hx (pc' := 4) rfl (hb hby d8_3) rfl ?_
    refine Go.aloadN X78 hx (pc' := 5) rfl (hb hby d8_4) rfl rfl ?_
    have r79 : -128 ≤ cb0.toInt ∧ cb0.toInt ≤ 127 := own_ri2b hcb0
    have r80 : -128 ≤ cb1.toInt ∧ cb1.toInt ≤ 127 := own_ri2b hcb1
    have Kp82 : Keep h0 h78 [] := ((Keep.refl h0 []).ext E78)
    have Zn81 : n0 ≤ h78.size := Nat.le_trans Z0 Kp82.1
    have O83 := (O0.ext E78)
    have fk84 : Exa Z h78 x0 "java/lang/String" := (P0.ext E78)
    have fk85 : Fld Z h78 x0 "java/lang/String" "coder" "B" (.int 0) := (P1.ext E78)
    have fk86 : Fld Z h78 x0 "java/lang/String" "value" "[B" (.ref x1) := (P2.ext E78)
    have fk87 := (cV.ext E78)
    refine Go.callV X78 hx hZ hown (tw_47 hw) (tw_48 hw) (notFace_of_selects (args := #[]) (mvT hZ (tw_50 hw))) (tw_50 hw) (tw_49 hw) (by decide) (tw_51 hw) (tw_12 hw) (au_60 l Z a0 hw x0 x1 kk0 cb0 cb1 gz1 gv5 h78 n0 Zn81 O83 G fk84 fk85 fk86 fk87) e78 fk84 (argsL := []) (rest := [(.ref b78), (.ref b78)]) (pc' := 8) rfl (by rw [hml]; rfl) (lenOf pd_13 rfl) rfl rfl (W := 2) (Nat.le_of_eq rfl) (by decide) (by decide) (by decide) (by decide) (hb hby d8_5) ?_
    intro v88 T88 L88 q88 X88
    obtain ⟨rfl, N88, e88⟩ := q88
    show Go _ _ _ _ (T88.setTop (mkF m 8 #[.val (.ref x0), .unset, .unset, .unset] [(.int 2), (.ref b78), (.ref b78)]))
    have sz90 : h0.size ≤ b78 := Nat.le_trans (Keep.refl h0 []).1 (Nat.le_of_eq g78.symm)
    have ge89 : n0 ≤ b78 := Nat.le_trans Z0 sz90
    refine Go.callN X88 hx hZ hown rfl (tw_58 hw) (tw_59 hw) (tw_60 hw) (by decide) (tw_60 hw) (tw_46 hw) (au_62 l Z a0 hw b78 gz1 gv5 h78 n0 Zn81 O83 G A78 b78_coder b78_count b78_value ge89) e88 (a := b78) (argsL := [(.int 2)]) (rest := [(.ref b78)]) (pc' := 11) rfl (by rw [hml]; rfl) (lenOf pd_14 rfl) rfl rfl (W := 1) (Nat.le_of_eq rfl) (by decide) (by decide) (by decide) (by decide) (hb hby d8_8) ?_
    intro v91 T91 L91 q91 X91
    obtain ⟨h91, e91⟩ : ∃ z, T91.heap = z := ⟨_, rfl⟩
    rw [e91] at q91
    obtain ⟨b91_0, k91_0, rfl, N91, K91, s91_0, F91_0, F91_1, F91_2, F91_3, F91_4, F91_5⟩ := q91
    show Go _ _ _ _ (T91.setTop (mkF m 11 #[.val (.ref x0), .unset, .unset, .unset] [(.ref b78)]))
    refine Go.astoreN X91 hx (pc' := 12) rfl (hb hby d8_11) (Ls' := #[.val (.ref x0), .val (.ref b78), .unset, .unset]) rfl rfl ?_
    refine Go.iconst X91 hx (pc' := 13) rfl (hb hby d8_12) (v := (0 : Int32)) rfl ?_
    refine Go.istoreN X91 hx (pc' := 14) rfl (hb hby d8_13) (Ls' := #[.val (.ref x0), .val (.ref b78), .val (.int 0), .unset]) rfl ?_
    refine Go.iloadN X91 hx (pc' := 15) rfl (hb hby d8_14) rfl ?_
    refine Go.aloadN X91 hx (pc' := 16) rfl (hb hby d8_15) rfl rfl ?_
    have Kp93 : Keep h0 h91 [] := (Kp82.trans K91 (allS (Or.inr sz90) all0))
    have Zn92 : n0 ≤ h91.size := Nat.le_trans Z0 Kp93.1
    have O94 := (O83.keep K91 (allS ge89 all0))
    have fk95 : Exa Z h91 x0 "java/lang/String" := (fk84.keep K91)
    have ne96 : x0 ≠ b78 := Nat.ne_of_lt (Nat.lt_of_lt_of_le P0.lt (Nat.le_of_eq g78.symm))
    have fk97 : Fld Z h91 x0 "java/lang/String" "coder" "B" (.int 0) := (fk85.keep K91 (ninS ne96 nin0))
    have fk98 : Fld Z h91 x0 "java/lang/String" "value" "[B" (.ref x1) := (fk86.keep K91 (ninS ne96 nin0))
    have ne99 : x1 ≠ b78 := Nat.ne_of_lt (Nat.lt_of_lt_of_le cV.lt (Nat.le_of_eq g78.symm))
    have fk100 := (fk87.keep K91 (ninS ne99 nin0))
    refine Go.callV X91 hx hZ hown (tw_47 hw) (tw_48 hw) (notFace_of_selects (args := #[]) (mvT hZ (tw_50 hw))) (tw_50 hw) (tw_49 hw) (by decide) (tw_51 hw) (tw_12 hw) (au_60 l Z a0 hw x0 x1 kk0 cb0 cb1 gz1 gv5 h91 n0 Zn92 O94 G fk95 fk97 fk98 fk100) e91 fk95 (argsL := []) (rest := [(.int 0)]) (pc' := 19) rfl (by rw [hml]; rfl) (lenOf pd_13 rfl) rfl rfl (W := 1) (Nat.le_of_eq rfl) (by decide) (by decide) (by decide) (by decide) (hb hby d8_16) ?_
    intro v101 T101 L101 q101 X101
    obtain ⟨rfl, N101, e101⟩ := q101
    show Go _ _ _ _ (T101.setTop (mkF m 19 #[.val (.ref x0), .val (.ref b78), .val (.int 0), .unset] [(.int 2), (.int 0)]))
    refine Go.icmpNo X101 hx (pc' := 22) rfl (hb hby d8_19) (by decide) ?_
    refine Go.aloadN X101 hx (pc' := 23) rfl (hb hby d8_22) rfl rfl ?_
    refine Go.iloadN X101 hx (pc' := 24) rfl (hb hby d8_23) rfl ?_
    refine Go.callV X101 hx hZ hown (tw_161 hw) (tw_162 hw) (notFace_of_selects (args := #[]) (mvT hZ (tw_164 hw))) (tw_164 hw) (tw_163 hw) (by decide) (tw_165 hw) (tw_12 hw) (au_64 l Z a0 hw x0 x1 kk0 cb0 cb1 ca0 gz1 gv5 h91 n0 Zn92 O94 G fk95 fk97 fk98 fk100 cr0 hcb0) e101 fk95 (argsL := [(.int 0)]) (rest := []) (pc' := 27) rfl (by rw [hml]; rfl) (lenOf pd_24 rfl) rfl rfl (W := 0) (Nat.le_of_eq rfl) (by decide) (by decide) (by decide) (by decide) (hb hby d8_24) ?_
    intro v102 T102 L102 q102 X102
    obtain ⟨rfl, N102, e102⟩ := q102
    show Go _ _ _ _ (T102.setTop (mkF m 27 #[.val (.ref x0), .val (.ref b78), .val (.int 0), .unset] [(.int ca0)]))
    refine Go.istoreN X102 hx (pc' := 28) rfl (hb hby d8_27) (Ls' := #[.val (.ref x0), .val (.ref b78), .val (.int 0), .val (.int ca0)]) rfl ?_
    refine Go.aloadN X102 hx (pc' := 29) rfl (hb hby d8_28) rfl rfl ?_
    have J103 : ∀ (jf103 : Int32), (own_fold ca0) = jf103 → Go p e below FF (T102.setTop (mkF m 53 #[.val (.ref x0), .val (.ref b78), .val (.int 0), .val (.int ca0)] [(.int jf103), (.ref b78)])) := by
      intro jf103 jh103
      have r104 : 0 ≤ jf103.toInt ∧ jf103.toInt ≤ 255 := own_rfold jh103 (own_rw cr0 (by decide) (by decide))
      have sz106 : h0.size ≤ b91_0 := Nat.le_trans Kp82.1 s91_0
      have ge105 : n0 ≤ b91_0 := Nat.le_trans Z0 sz106
      have ne107 : b78 ≠ b91_0 := Nat.ne_of_lt (Nat.lt_of_lt_of_le A78.lt s91_0)
      refine Go.callV X102 hx hZ hown (tw_182 hw) (tw_183 hw) (notFace_of_selects (args := #[]) (mvT hZ (tw_185 hw))) (tw_185 hw) (tw_184 hw) (by decide) (tw_186 hw) (tw_46 hw) (au_69 l Z a0 hw b78 jf103 b91_0 k91_0 gz1 gv5 h91 n0 Zn92 O94 G F91_0 F91_1 F91_2 F91_3 F91_4 F91_5 r104 ge89 ge105 (Ne.symm ne107)) e102 F91_0 (argsL := [(.int jf103)]) (rest := []) (pc' := 56) rfl (by rw [hml]; rfl) (lenOf pd_26 rfl) rfl rfl (W := 0) (Nat.le_of_eq rfl) (by decide) (by decide) (by decide) (by decide) (hb hby d8_53) ?_
      intro v108 T108 L108 q108 X108
      obtain ⟨h108, e108⟩ : ∃ z, T108.heap = z := ⟨_, rfl⟩
      rw [e108] at q108
      obtain ⟨z108_0, d108_0, rfl, N108, K108, F108_0, F108_1, F108_2, F108_3, F108_4, F108_5⟩ := q108
      show Go _ _ _ _ (T108.setTop (mkF m 56 #[.val (.ref x0), .val (.ref b78), .val (.int 0), .val (.int ca0)] [(.ref b78)]))
      refine Go.pop X108 hx (pc' := 57) rfl (hb hby d8_56) rfl ?_
      refine Go.iinc X108 hx (pc' := 60) rfl (hb hby d8_57) rfl (y := (1 : Int32)) (by decide) (Ls' := #[.val (.ref x0), .val (.ref b78), .val (.int 1), .val (.int ca0)]) rfl ?_
      refine Go.goto X108 hx (pc' := 14) (hb hby d8_60) (by decide) (by decide) ?_
      refine Go.iloadN X108 hx (pc' := 15) rfl (hb hby d8_14) rfl ?_
      refine Go.aloadN X108 hx (pc' := 16) rfl (hb hby d8_15) rfl rfl ?_
      have Kp110 : Keep h0 h108 [] := (Kp93.trans K108 (allS (Or.inr sz90) (allS (Or.inr sz106) all0)))
      have Zn109 : n0 ≤ h108.size := Nat.le_trans Z0 Kp110.1
      have O111 := (O94.keep K108 (allS ge89 (allS ge105 all0)))
      have fk112 : Exa Z h108 x0 "java/lang/String" := (fk95.keep K108)
      have ne113 : x0 ≠ b91_0 := Nat.ne_of_lt (Nat.lt_of_lt_of_le fk84.lt s91_0)
      have fk114 : Fld Z h108 x0 "java/lang/String" "coder" "B" (.int 0) := (fk97.keep K108 (ninS ne96 (ninS ne113 nin0)))
      have fk115 : Fld Z h108 x0 "java/lang/String" "value" "[B" (.ref x1) := (fk98.keep K108 (ninS ne96 (ninS ne113 nin0)))
      have ne116 : x1 ≠ b91_0 := Nat.ne_of_lt (Nat.lt_of_lt_of_le fk87.lt s91_0)
      have fk117 := (fk100.keep K108 (ninS ne99 (ninS ne116 nin0)))
      refine Go.callV X108 hx hZ hown (tw_47 hw) (tw_48 hw) (notFace_of_selects (args := #[]) (mvT hZ (tw_50 hw))) (tw_50 hw) (tw_49 hw) (by decide) (tw_51 hw) (tw_12 hw) (au_60 l Z a0 hw x0 x1 kk0 cb0 cb1 gz1 gv5 h108 n0 Zn109 O111 G fk112 fk114 fk115 fk117) e108 fk112 (argsL := []) (rest := [(.int 1)]) (pc' := 19) rfl (by rw [hml]; rfl) (lenOf pd_13 rfl) rfl rfl (W := 1) (Nat.le_of_eq rfl) (by decide) (by decide) (by decide) (by decide) (hb hby d8_16) ?_
      intro v118 T118 L118 q118 X118
      obtain ⟨rfl, N118, e118⟩ := q118
      show Go _ _ _ _ (T118.setTop (mkF m 19 #[.val (.ref x0), .val (.ref b78), .val (.int 1), .val (.int ca0)] [(.int 2), (.int 1)]))
      refine Go.icmpNo X118 hx (pc' := 22) rfl (hb hby d8_19) (by decide) ?_
      refine Go.aloadN X118 hx (pc' := 23) rfl (hb hby d8_22) rfl rfl ?_
      refine Go.iloadN X118 hx (pc' := 24) rfl (hb hby d8_23) rfl ?_
      refine Go.callV X118 hx hZ hown (tw_161 hw) (tw_162 hw) (notFace_of_selects (args := #[]) (mvT hZ (tw_164 hw))) (tw_164 hw) (tw_163 hw) (by decide) (tw_165 hw) (tw_12 hw) (au_73 l Z a0 hw x0 x1 kk0 cb0 cb1 ca1 gz1 gv5 h108 n0 Zn109 O111 G fk112 fk114 fk115 fk117 cr1 hcb1) e118 fk112 (argsL := [(.int 1)]) (rest := []) (pc' := 27) rfl (by rw [hml]; rfl) (lenOf pd_24 rfl) rfl rfl (W := 0) (Nat.le_of_eq rfl) (by decide) (by decide) (by decide) (by decide) (hb hby d8_24) ?_
      intro v119 T119 L119 q119 X119
      obtain ⟨rfl, N119, e119⟩ := q119
      show Go _ _ _ _ (T119.setTop (mkF m 27 #[.val (.ref x0), .val (.ref b78), .val (.int 1), .val (.int ca0)] [(.int ca1)]))
      refine Go.istoreN X119 hx (pc' := 28) rfl (hb hby d8_27) (Ls' := #[.val (.ref x0), .val (.ref b78), .val (.int 1), .val (.int ca1)]) rfl ?_
      refine Go.aloadN X119 hx (pc' := 29) rfl (hb hby d8_28) rfl rfl ?_
      have J120 : ∀ (jf120 : Int32), (own_fold ca1) = jf120 → Go p e below FF (T119.setTop (mkF m 53 #[.val (.ref x0), .val (.ref b78), .val (.int 1), .val (.int ca1)] [(.int jf120), (.ref b78)])) := by
        intro jf120 jh120
        have r121 : 0 ≤ jf120.toInt ∧ jf120.toInt ≤ 255 := own_rfold jh120 (own_rw cr1 (by decide) (by decide))
        have r122 : -128 ≤ z108_0.toInt ∧ z108_0.toInt ≤ 127 := own_ri2b d108_0
        refine Go.callV X119 hx hZ hown (tw_182 hw) (tw_183 hw) (notFace_of_selects (args := #[]) (mvT hZ (tw_185 hw))) (tw_185 hw) (tw_184 hw) (by decide) (tw_186 hw) (tw_46 hw) (au_77 l Z a0 hw b78 jf120 b91_0 k91_0 z108_0 gz1 gv5 h108 n0 Zn109 O111 G F108_0 F108_1 F108_2 F108_3 F108_4 F108_5 r121 ge89 ge105 (Ne.symm ne107)) e119 F108_0 (argsL := [(.int jf120)]) (rest := []) (pc' := 56) rfl (by rw [hml]; rfl) (lenOf pd_26 rfl) rfl rfl (W := 0) (Nat.le_of_eq rfl) (by decide) (by decide) (by decide) (by decide) (hb hby d8_53) ?_
        intro v123 T123 L123 q123 X123
        obtain ⟨h123, e123⟩ : ∃ z, T123.heap = z := ⟨_, rfl⟩
        rw [e123] at q123
        obtain ⟨z123_0, d123_0, rfl, N123, K123, F123_0, F123_1, F123_2, F123_3, F123_4, F123_5⟩ := q123
        show Go _ _ _ _ (T123.setTop (mkF m 56 #[.val (.ref x0), .val (.ref b78), .val (.int 1), .val (.int ca1)] [(.ref b78)]))
        refine Go.pop X123 hx (pc' := 57) rfl (hb hby d8_56) rfl ?_
        refine Go.iinc X123 hx (pc' := 60) rfl (hb hby d8_57) rfl (y := (2 : Int32)) (by decide) (Ls' := #[.val (.ref x0), .val (.ref b78), .val (.int 2), .val (.int ca1)]) rfl ?_
        refine Go.goto X123 hx (pc' := 14) (hb hby d8_60) (by decide) (by decide) ?_
        refine Go.iloadN X123 hx (pc' := 15) rfl (hb hby d8_14) rfl ?_
        refine Go.aloadN X123 hx (pc' := 16) rfl (hb hby d8_15) rfl rfl ?_
        have Kp125 : Keep h0 h123 [] := (Kp110.trans K123 (allS (Or.inr sz90) (allS (Or.inr sz106) all0)))
        have Zn124 : n0 ≤ h123.size := Nat.le_trans Z0 Kp125.1
        have O126 := (O111.keep K123 (allS ge89 (allS ge105 all0)))
        have fk127 : Exa Z h123 x0 "java/lang/String" := (fk112.keep K123)
        have fk128 : Fld Z h123 x0 "java/lang/String" "coder" "B" (.int 0) := (fk114.keep K123 (ninS ne96 (ninS ne113 nin0)))
        have fk129 : Fld Z h123 x0 "java/lang/String" "value" "[B" (.ref x1) := (fk115.keep K123 (ninS ne96 (ninS ne113 nin0)))
        have fk130 := (fk117.keep K123 (ninS ne99 (ninS ne116 nin0)))
        refine Go.callV X123 hx hZ hown (tw_47 hw) (tw_48 hw) (notFace_of_selects (args := #[]) (mvT hZ (tw_50 hw))) (tw_50 hw) (tw_49 hw) (by decide) (tw_51 hw) (tw_12 hw) (au_60 l Z a0 hw x0 x1 kk0 cb0 cb1 gz1 gv5 h123 n0 Zn124 O126 G fk127 fk128 fk129 fk130) e123 fk127 (argsL := []) (rest := [(.int 2)]) (pc' := 19) rfl (by rw [hml]; rfl) (lenOf pd_13 rfl) rfl rfl (W := 1) (Nat.le_of_eq rfl) (by decide) (by decide) (by decide) (by decide) (hb hby d8_16) ?_
        intro v131 T131 L131 q131 X131
        obtain ⟨rfl, N131, e131⟩ := q131
        show Go _ _ _ _ (T131.setTop (mkF m 19 #[.val (.ref x0), .val (.ref b78), .val (.int 2), .val (.int ca1)] [(.int 2), (.int 2)]))
        refine Go.icmpYes X131 hx (pc' := 63) (hb hby d8_19) (by decide) (by decide) (by decide) ?_
        refine Go.aloadN X131 hx (pc' := 64) rfl (hb hby d8_63) rfl rfl ?_
        have r132 : -128 ≤ z123_0.toInt ∧ z123_0.toInt ≤ 127 := own_ri2b d123_0
        refine Go.callV X131 hx hZ hown (tw_73 hw) (tw_74 hw) (notFace_of_selects (args := #[]) (mvT hZ (tw_76 hw))) (tw_76 hw) (tw_75 hw) (by decide) (tw_77 hw) (tw_46 hw) (au_81 l Z a0 hw b78 b91_0 k91_0 z108_0 z123_0 gz1 gv5 h123 n0 Zn124 O126 G F123_0 F123_1 F123_2 F123_3 F123_4 F123_5) e131 F123_0 (argsL := []) (rest := []) (pc' := 67) rfl (by rw [hml]; rfl) (lenOf pd_20 rfl) rfl rfl (W := 0) (Nat.le_of_eq rfl) (by decide) (by decide) (by decide) (by decide) (hb hby d8_64) ?_
        intro v133 T133 L133 q133 X133
        obtain ⟨h133, e133⟩ : ∃ z, T133.heap = z := ⟨_, rfl⟩
        rw [e133] at q133
        obtain ⟨b133_0, b133_1, rfl, N133, K133, s133_0, s133_1, n133_0, F133_0, F133_1, F133_2, F133_3, F133_4⟩ := q133
        show Go _ _ _ _ (T133.setTop (mkF m 67 #[.val (.ref x0), .val (.ref b78), .val (.int 2), .val (.int ca1)] [(.ref b133_0)]))
        subst hFF
        refine Go.retR X133 hx hlk (t := (.object "java/lang/String")) hret rfl rfl (hb hby d8_67) (by decide) (by decide) ?_
        rw [e133]
        obtain ⟨ll, hll⟩ : ∃ u, (([ca0, ca1] : List Int32).map own_fold) = u := ⟨_, rfl⟩
        have hl : ll = [jf103, jf120] := hll.symm.trans (by show [own_fold ca0, own_fold ca1] = _; rw [jh103, jh120])
        obtain ⟨lz, hlz⟩ : ∃ z : Int32, (2 : Int32) = z := ⟨_, rfl⟩
        have lV : Arv Z h133 b133_1 k91_0 .byte lz (ll.map own_vb) (.int 0) := by
          rw [hl, ← hlz]
          show Arv Z h133 b133_1 k91_0 .byte (2 : Int32) [.int (jf103.toInt8.toInt32), .int (jf120.toInt8.toInt32)] (.int 0)
          rw [d108_0, d123_0]
          exact F133_3
        have lln : lz.toInt = ll.length := by rw [hl, ← hlz]; rfl
        have lla : own_lat ll := by rw [hl]; exact own_lat_2 (own_rw r104 (by decide) (by decide)) (own_rw r121 (by decide) (by decide))
        have Kp134 : Keep h0 h133 [] := (Kp125.trans K133 all0)
        have sz135 : h0.size ≤ b133_0 := Nat.le_trans Kp125.1 s133_0
        have sz136 : h0.size ≤ b133_1 := Nat.le_trans Kp125.1 s133_1
        exact ⟨lz, ll, b133_0, b133_1, k91_0, hll, lln, lla, rfl, (Fr.app (Fr.app (Fr.app (Fr.app (Fr.app (Fr.app (Fr.app (Fr.app (Fr.app (Fr.app (Fr.nil n0) N88) N91) N101) N102) N108) N118) N119) N123) N131) N133), Kp134, sz135, sz136, n133_0, F133_0, F133_1, F133_2, lV⟩
      refine Go.iloadN X119 hx (pc' := 30) rfl (hb hby d8_29) rfl ?_
      refine Go.bipush X119 hx (pc' := 32) rfl (hb hby d8_30) (v := (65 : Int32)) (by decide) ?_
      by_cases hc137 : ca1 < (65 : Int32)
      · refine Go.icmpYes X119 hx (pc' := 52) (hb hby d8_32) (tlt hc137).1 (by decide) (by decide) ?_
        refine Go.iloadN X119 hx (pc' := 53) rfl (hb hby d8_52) rfl ?_
        exact J120 ca1 (own_fold_lt hc137)
      · refine Go.icmpNo X119 hx (pc' := 35) rfl (hb hby d8_32) (flt hc137).1 ?_
        refine Go.iloadN X119 hx (pc' := 36) rfl (hb hby d8_35) rfl ?_
        refine Go.bipush X119 hx (pc' := 38) rfl (hb hby d8_36) (v := (90 : Int32)) (by decide) ?_
        by_cases hc138 : (90 : Int32) < ca1
        · refine Go.icmpYes X119 hx (pc' := 52) (hb hby d8_38) (tlt hc138).2.2.1 (by decide) (by decide) ?_
          refine Go.iloadN X119 hx (pc' := 53) rfl (hb hby d8_52) rfl ?_
          exact J120 ca1 (own_fold_gt hc137 hc138)
        · refine Go.icmpNo X119 hx (pc' := 41) rfl (hb hby d8_38) (flt hc138).2.2.1 ?_
          refine Go.iloadN X119 hx (pc' := 42) rfl (hb hby d8_41) rfl ?_
          refine Go.bipush X119 hx (pc' := 44) rfl (hb hby d8_42) (v := (65 : Int32)) (by decide) ?_
          refine Go.isub X119 hx (pc' := 45) rfl (hb hby d8_44) ?_
          generalize hz139 : (ca1 - (65 : Int32)) = z139
          refine Go.bipush X119 hx (pc' := 47) rfl (hb hby d8_45) (v := (97 : Int32)) (by decide) ?_
          refine Go.iadd X119 hx (pc' := 48) rfl (hb hby d8_47) ?_
          have r140 : -65 ≤ z139.toInt ∧ z139.toInt ≤ 190 := own_rsub hz139 cr1 (own_rlit (n := 65) (by decide)) (by decide) (by decide)
          generalize hz141 : (z139 + (97 : Int32)) = z141
          refine Go.i2c X119 hx (pc' := 49) rfl (hb hby d8_48) ?_
          have r142 : 32 ≤ z141.toInt ∧ z141.toInt ≤ 287 := own_radd hz141 r140 (own_rlit (n := 97) (by decide)) (by decide) (by decide)
          rw [show (z141.toUInt32.toUInt16.toUInt32.toInt32) = z141 from (own_i2c_id r142 (by decide) (by decide))]
          refine Go.goto X119 hx (pc' := 53) (hb hby d8_49) (by decide) (by decide) ?_
          exact J120 z141 (own_fold_up hc137 hc138 hz139 hz141)
    refine Go.iloadN X102 hx (pc' := 30) rfl (hb hby d8_29) rfl ?_
    refine Go.bipush X102 hx (pc' := 32) rfl (hb hby d8_30) (v := (65 : Int32)) (by decide) ?_
    by_cases hc143 : ca0 < (65 : Int32)
    · refine Go.icmpYes X102 hx (pc' := 52) (hb hby d8_32) (tlt hc143).1 (by decide) (by decide) ?_
      refine Go.iloadN X102 hx (pc' := 53) rfl (hb hby d8_52) rfl ?_
      exact J103 ca0 (own_fold_lt hc143)
    · refine Go.icmpNo X102 hx (pc' := 35) rfl (hb hby d8_32) (flt hc143).1 ?_
      refine Go.iloadN X102 hx (pc' := 36) rfl (hb hby d8_35) rfl ?_
      refine Go.bipush X102 hx (pc' := 38) rfl (hb hby d8_36) (v := (90 : Int32)) (by decide) ?_
      by_cases hc144 : (90 : Int32) < ca0
      · refine Go.icmpYes X102 hx (pc' := 52) (hb hby d8_38) (tlt hc144).2.2.1 (by decide) (by decide) ?_
        refine Go.iloadN X102 hx (pc' := 53) rfl (hb hby d8_52) rfl ?_
        exact J103 ca0 (own_fold_gt hc143 hc144)
      · refine Go.icmpNo X102 hx (pc' := 41) rfl (hb hby d8_38) (flt hc144).2.2.1 ?_
        refine Go.iloadN X102 hx (pc' := 42) rfl (hb hby d8_41) rfl ?_
        refine Go.bipush X102 hx (pc' := 44) rfl (hb hby d8_42) (v := (65 : Int32)) (by decide) ?_
        refine Go.isub X102 hx (pc' := 45) rfl (hb hby d8_44) ?_
        generalize hz145 : (ca0 - (65 : Int32)) = z145
        refine Go.bipush X102 hx (pc' := 47) rfl (hb hby d8_45) (v := (97 : Int32)) (by decide) ?_
        refine Go.iadd X102 hx (pc' := 48) rfl (hb hby d8_47) ?_
        have r146 : -65 ≤ z145.toInt ∧ z145.toInt ≤ 190 := own_rsub hz145 cr0 (own_rlit (n := 65) (by decide)) (by decide) (by decide)
        generalize hz147 : (z145 + (97 : Int32)) = z147
        refine Go.i2c X102 hx (pc' := 49) rfl (hb hby d8_48) ?_
        have r148 : 32 ≤ z147.toInt ∧ z147.toInt ≤ 287 := own_radd hz147 r146 (own_rlit (n := 97) (by decide)) (by decide) (by decide)
        rw [show (z147.toUInt32.toUInt16.toUInt32.toInt32) = z147 from (own_i2c_id r148 (by decide) (by decide))]
        refine Go.goto X102 hx (pc' := 53) (hb hby d8_49) (by decide) (by decide) ?_
        exact J103 z147 (own_fold_up hc143 hc144 hz145 hz147)
  · obtain ⟨cb0, hcb0⟩ : ∃ y, (ca0.toInt8.toInt32) = y := ⟨_, rfl⟩
    obtain ⟨cb1, hcb1⟩ : ∃ y, (ca1.toInt8.toInt32) = y := ⟨_, rfl⟩
    obtain ⟨cb2, hcb2⟩ : ∃ y, (ca2.toInt8.toInt32) = y := ⟨_, rfl⟩
    have cV : Arv Z h0 x1 kk0 .byte (3 : Int32) [(.int cb0), (.int cb1), (.int cb2)] (.int 0) := by
      rw [← hcb0, ← hcb1, ← hcb2]; exact P3
    refine Go.new X0 hx hZ hown (tw_44 hw) (tw_45 hw) (tw_46 hw) e0 (by decide) (by decide) (pc' := 3) rfl (hb hby d8_0) ?_
    intro T149 h149 b149 e149 E149 g149 A149 D149 X149
    have b149_value : Fld Z h149 b149 "java/lang/AbstractStringBuilder" "value" "[B" .null := D149 (Or.inl (tw_70 hw)) (ty := (.array .byte)) (by decide)
    have b149_coder : Fld Z h149 b149 "java/lang/AbstractStringBuilder" "coder" "B" (.int 0) := D149 (Or.inl (tw_72 hw)) (ty := .byte) (by decide)
    have b149_count : Fld Z h149 b149 "java/lang/AbstractStringBuilder" "count" "I" (.int 0) := D149 (Or.inl (tw_100 hw)) (ty := .int) (by decide)
    refine Go.dup X149 hx (pc' := 4) rfl (hb hby d8_3) rfl ?_
    refine Go.aloadN X149 hx (pc' := 5) rfl (hb hby d8_4) rfl rfl ?_
    have r150 : -128 ≤ cb0.toInt ∧ cb0.toInt ≤ 127 := own_ri2b hcb0
    have r151 : -128 ≤ cb1.toInt ∧ cb1.toInt ≤ 127 := own_ri2b hcb1
    have r152 : -128 ≤ cb2.toInt ∧ cb2.toInt ≤ 127 := own_ri2b hcb2
    have Kp154 : Keep h0 h149 [] := ((Keep.refl h0 []).ext E149)
    have Zn153 : n0 ≤ h149.size := Nat.le_trans Z0 Kp154.1
    have O155 := (O0.ext E149)
    have fk156 : Exa Z h149 x0 "java/lang/String" := (P0.ext E149)
    have fk157 : Fld Z h149 x0 "java/lang/String" "coder" "B" (.int 0) := (P1.ext E149)
    have fk158 : Fld Z h149 x0 "java/lang/String" "value" "[B" (.ref x1) := (P2.ext E149)
    have fk159 := (cV.ext E149)
    refine Go.callV X149 hx hZ hown (tw_47 hw) (tw_48 hw) (notFace_of_selects (args := #[]) (mvT hZ (tw_50 hw))) (tw_50 hw) (tw_49 hw) (by decide) (tw_51 hw) (tw_12 hw) (au_89 l Z a0 hw x0 x1 kk0 cb0 cb1 cb2 gz1 gv5 h149 n0 Zn153 O155 G fk156 fk157 fk158 fk159) e149 fk156 (argsL := []) (rest := [(.ref b149), (.ref b149)]) (pc' := 8) rfl (by rw [hml]; rfl) (lenOf pd_13 rfl) rfl rfl (W := 2) (Nat.le_of_eq rfl) (by decide) (by decide) (by decide) (by decide) (hb hby d8_5) ?_
    intro v160 T160 L160 q160 X160
    obtain ⟨rfl, N160, e160⟩ := q160
    show Go _ _ _ _ (T160.setTop (mkF m 8 #[.val (.ref x0), .unset, .unset, .unset] [(.int 3), (.ref b149), (.ref b149)]))
    have sz162 : h0.size ≤ b149 := Nat.le_trans (Keep.refl h0 []).1 (Nat.le_of_eq g149.symm)
    have ge161 : n0 ≤ b149 := Nat.le_trans Z0 sz162
    refine Go.callN X160 hx hZ hown rfl (tw_58 hw) (tw_59 hw) (tw_60 hw) (by decide) (tw_60 hw) (tw_46 hw) (au_91 l Z a0 hw b149 gz1 gv5 h149 n0 Zn153 O155 G A149 b149_coder b149_count b149_value ge161) e160 (a := b149) (argsL := [(.int 3)]) (rest := [(.ref b149)]) (pc' := 11) rfl (by rw [hml]; rfl) (lenOf pd_14 rfl) rfl rfl (W := 1) (Nat.le_of_eq rfl) (by decide) (by decide) (by decide) (by decide) (hb hby d8_8) ?_
    intro v163 T163 L163 q163 X163
    obtain ⟨h163, e163⟩ : ∃ z, T163.heap = z := ⟨_, rfl⟩
    rw [e163] at q163
    obtain ⟨b163_0, k163_0, rfl, N163, K163, s163_0, F163_0, F163_1, F163_2, F163_3, F163_4, F163_5⟩ := q163
    show Go _ _ _ _ (T163.setTop (mkF m 11 #[.val (.ref x0), .unset, .unset, .unset] [(.ref b149)]))
    refine Go.astoreN X163 hx (pc' := 12) rfl (hb hby d8_11) (Ls' := #[.val (.ref x0), .val (.ref b149), .unset, .unset]) rfl rfl ?_
    refine Go.iconst X163 hx (pc' := 13) rfl (hb hby d8_12) (v := (0 : Int32)) rfl ?_
    refine Go.istoreN X163 hx (pc' := 14) rfl (hb hby d8_13) (Ls' := #[.val (.ref x0), .val (.ref b149), .val (.int 0), .unset]) rfl ?_
    refine Go.iloadN X163 hx (pc' := 15) rfl (hb hby d8_14) rfl ?_
    refine Go.aloadN X163 hx (pc' := 16) rfl (hb hby d8_15) rfl rfl ?_
    have Kp165 : Keep h0 h163 [] := (Kp154.trans K163 (allS (Or.inr sz162) all0))
    have Zn164 : n0 ≤ h163.size := Nat.le_trans Z0 Kp165.1
    have O166 := (O155.keep K163 (allS ge161 all0))
    have fk167 : Exa Z h163 x0 "java/lang/String" := (fk156.keep K163)
    have ne168 : x0 ≠ b149 := Nat.ne_of_lt (Nat.lt_of_lt_of_le P0.lt (Nat.le_of_eq g149.symm))
    have fk169 : Fld Z h163 x0 "java/lang/String" "coder" "B" (.int 0) := (fk157.keep K163 (ninS ne168 nin0))
    have fk170 : Fld Z h163 x0 "java/lang/String" "value" "[B" (.ref x1) := (fk158.keep K163 (ninS ne168 nin0))
    have ne171 : x1 ≠ b149 := Nat.ne_of_lt (Nat.lt_of_lt_of_le cV.lt (Nat.le_of_eq g149.symm))
    have fk172 := (fk159.keep K163 (ninS ne171 nin0))
    refine Go.callV X163 hx hZ hown (tw_47 hw) (tw_48 hw) (notFace_of_selects (args := #[]) (mvT hZ (tw_50 hw))) (tw_50 hw) (tw_49 hw) (by decide) (tw_51 hw) (tw_12 hw) (au_89 l Z a0 hw x0 x1 kk0 cb0 cb1 cb2 gz1 gv5 h163 n0 Zn164 O166 G fk167 fk169 fk170 fk172) e163 fk167 (argsL := []) (rest := [(.int 0)]) (pc' := 19) rfl (by rw [hml]; rfl) (lenOf pd_13 rfl) rfl rfl (W := 1) (Nat.le_of_eq rfl) (by decide) (by decide) (by decide) (by decide) (hb hby d8_16) ?_
    intro v173 T173 L173 q173 X173
    obtain ⟨rfl, N173, e173⟩ := q173
    show Go _ _ _ _ (T173.setTop (mkF m 19 #[.val (.ref x0), .val (.ref b149), .val (.int 0), .unset] [(.int 3), (.int 0)]))
    refine Go.icmpNo X173 hx (pc' := 22) rfl (hb hby d8_19) (by decide) ?_
    refine Go.aloadN X173 hx (pc' := 23) rfl (hb hby d8_22) rfl rfl ?_
    refine Go.iloadN X173 hx (pc' := 24) rfl (hb hby d8_23) rfl ?_
    refine Go.callV X173 hx hZ hown (tw_161 hw) (tw_162 hw) (notFace_of_selects (args := #[]) (mvT hZ (tw_164 hw))) (tw_164 hw) (tw_163 hw) (by decide) (tw_165 hw) (tw_12 hw) (au_93 l Z a0 hw x0 x1 kk0 cb0 cb1 cb2 ca0 gz1 gv5 h163 n0 Zn164 O166 G fk167 fk169 fk170 fk172 cr0 hcb0) e173 fk167 (argsL := [(.int 0)]) (rest := []) (pc' := 27) rfl (by rw [hml]; rfl) (lenOf pd_24 rfl) rfl rfl (W := 0) (Nat.le_of_eq rfl) (by decide) (by decide) (by decide) (by decide) (hb hby d8_24) ?_
    intro v174 T174 L174 q174 X174
    obtain ⟨rfl, N174, e174⟩ := q174
    show Go _ _ _ _ (T174.setTop (mkF m 27 #[.val (.ref x0), .val (.ref b149), .val (.int 0), .unset] [(.int ca0)]))
    refine Go.istoreN X174 hx (pc' := 28) rfl (hb hby d8_27) (Ls' := #[.val (.ref x0), .val (.ref b149), .val (.int 0), .val (.int ca0)]) rfl ?_
    refine Go.aloadN X174 hx (pc' := 29) rfl (hb hby d8_28) rfl rfl ?_
    have J175 : ∀ (jf175 : Int32), (own_fold ca0) = jf175 → Go p e below FF (T174.setTop (mkF m 53 #[.val (.ref x0), .val (.ref b149), .val (.int 0), .val (.int ca0)] [(.int jf175), (.ref b149)])) := by
      intro jf175 jh175
      have r176 : 0 ≤ jf175.toInt ∧ jf175.toInt ≤ 255 := own_rfold jh175 (own_rw cr0 (by decide) (by decide))
      have sz178 : h0.size ≤ b163_0 := Nat.le_trans Kp154.1 s163_0
      have ge177 : n0 ≤ b163_0 := Nat.le_trans Z0 sz178
      have ne179 : b149 ≠ b163_0 := Nat.ne_of_lt (Nat.lt_of_lt_of_le A149.lt s163_0)
      refine Go.callV X174 hx hZ hown (tw_182 hw) (tw_183 hw) (notFace_of_selects (args := #[]) (mvT hZ (tw_185 hw))) (tw_185 hw) (tw_184 hw) (by decide) (tw_186 hw) (tw_46 hw) (au_98 l Z a0 hw b149 jf175 b163_0 k163_0 gz1 gv5 h163 n0 Zn164 O166 G F163_0 F163_1 F163_2 F163_3 F163_4 F163_5 r176 ge161 ge177 (Ne.symm ne179)) e174 F163_0 (argsL := [(.int jf175)]) (rest := []) (pc' := 56) rfl (by rw [hml]; rfl) (lenOf pd_26 rfl) rfl rfl (W := 0) (Nat.le_of_eq rfl) (by decide) (by decide) (by decide) (by decide) (hb hby d8_53) ?_
      intro v180 T180 L180 q180 X180
      obtain ⟨h180, e180⟩ : ∃ z, T180.heap = z := ⟨_, rfl⟩
      rw [e180] at q180
      obtain ⟨z180_0, d180_0, rfl, N180, K180, F180_0, F180_1, F180_2, F180_3, F180_4, F180_5⟩ := q180
      show Go _ _ _ _ (T180.setTop (mkF m 56 #[.val (.ref x0), .val (.ref b149), .val (.int 0), .val (.int ca0)] [(.ref b149)]))
      refine Go.pop X180 hx (pc' := 57) rfl (hb hby d8_56) rfl ?_
      refine Go.iinc X180 hx (pc' := 60) rfl (hb hby d8_57) rfl (y := (1 : Int32)) (by decide) (Ls' := #[.val (.ref x0), .val (.ref b149), .val (.int 1), .val (.int ca0)]) rfl ?_
      refine Go.goto X180 hx (pc' := 14) (hb hby d8_60) (by decide) (by decide) ?_
      refine Go.iloadN X180 hx (pc' := 15) rfl (hb hby d8_14) rfl ?_
      refine Go.aloadN X180 hx (pc' := 16) rfl (hb hby d8_15) rfl rfl ?_
      have Kp182 : Keep h0 h180 [] := (Kp165.trans K180 (allS (Or.inr sz162) (allS (Or.inr sz178) all0)))
      have Zn181 : n0 ≤ h180.size := Nat.le_trans Z0 Kp182.1
      have O183 := (O166.keep K180 (allS ge161 (allS ge177 all0)))
      have fk184 : Exa Z h180 x0 "java/lang/String" := (fk167.keep K180)
      have ne185 : x0 ≠ b163_0 := Nat.ne_of_lt (Nat.lt_of_lt_of_le fk156.lt s163_0)
      have fk186 : Fld Z h180 x0 "java/lang/String" "coder" "B" (.int 0) := (fk169.keep K180 (ninS ne168 (ninS ne185 nin0)))
      have fk187 : Fld Z h180 x0 "java/lang/String" "value" "[B" (.ref x1) := (fk170.keep K180 (ninS ne168 (ninS ne185 nin0)))
      have ne188 : x1 ≠ b163_0 := Nat.ne_of_lt (Nat.lt_of_lt_of_le fk159.lt s163_0)
      have fk189 := (fk172.keep K180 (ninS ne171 (ninS ne188 nin0)))
      refine Go.callV X180 hx hZ hown (tw_47 hw) (tw_48 hw) (notFace_of_selects (args := #[]) (mvT hZ (tw_50 hw))) (tw_50 hw) (tw_49 hw) (by decide) (tw_51 hw) (tw_12 hw) (au_89 l Z a0 hw x0 x1 kk0 cb0 cb1 cb2 gz1 gv5 h180 n0 Zn181 O183 G fk184 fk186 fk187 fk189) e180 fk184 (argsL := []) (rest := [(.int 1)]) (pc' := 19) rfl (by rw [hml]; rfl) (lenOf pd_13 rfl) rfl rfl (W := 1) (Nat.le_of_eq rfl) (by decide) (by decide) (by decide) (by decide) (hb hby d8_16) ?_
      intro v190 T190 L190 q190 X190
      obtain ⟨rfl, N190, e190⟩ := q190
      show Go _ _ _ _ (T190.setTop (mkF m 19 #[.val (.ref x0), .val (.ref b149), .val (.int 1), .val (.int ca0)] [(.int 3), (.int 1)]))
      refine Go.icmpNo X190 hx (pc' := 22) rfl (hb hby d8_19) (by decide) ?_
      refine Go.aloadN X190 hx (pc' := 23) rfl (hb hby d8_22) rfl rfl ?_
      refine Go.iloadN X190 hx (pc' := 24) rfl (hb hby d8_23) rfl ?_
      refine Go.callV X190 hx hZ hown (tw_161 hw) (tw_162 hw) (notFace_of_selects (args := #[]) (mvT hZ (tw_164 hw))) (tw_164 hw) (tw_163 hw) (by decide) (tw_165 hw) (tw_12 hw) (au_102 l Z a0 hw x0 x1 kk0 cb0 cb1 cb2 ca1 gz1 gv5 h180 n0 Zn181 O183 G fk184 fk186 fk187 fk189 cr1 hcb1) e190 fk184 (argsL := [(.int 1)]) (rest := []) (pc' := 27) rfl (by rw [hml]; rfl) (lenOf pd_24 rfl) rfl rfl (W := 0) (Nat.le_of_eq rfl) (by decide) (by decide) (by decide) (by decide) (hb hby d8_24) ?_
      intro v191 T191 L191 q191 X191
      obtain ⟨rfl, N191, e191⟩ := q191
      show Go _ _ _ _ (T191.setTop (mkF m 27 #[.val (.ref x0), .val (.ref b149), .val (.int 1), .val (.int ca0)] [(.int ca1)]))
      refine Go.istoreN X191 hx (pc' := 28) rfl (hb hby d8_27) (Ls' := #[.val (.ref x0), .val (.ref b149), .val (.int 1), .val (.int ca1)]) rfl ?_
      refine Go.aloadN X191 hx (pc' := 29) rfl (hb hby d8_28) rfl rfl ?_
      have J192 : ∀ (jf192 : Int32), (own_fold ca1) = jf192 → Go p e below FF (T191.setTop (mkF m 53 #[.val (.ref x0), .val (.ref b149), .val (.int 1), .val (.int ca1)] [(.int jf192), (.ref b149)])) := by
        intro jf192 jh192
        have r193 : 0 ≤ jf192.toInt ∧ jf192.toInt ≤ 255 := own_rfold jh192 (own_rw cr1 (by decide) (by decide))
        have r194 : -128 ≤ z180_0.toInt ∧ z180_0.toInt ≤ 127 := own_ri2b d180_0
        refine Go.callV X191 hx hZ hown (tw_182 hw) (tw_183 hw) (notFace_of_selects (args := #[]) (mvT hZ (tw_185 hw))) (tw_185 hw) (tw_184 hw) (by decide) (tw_186 hw) (tw_46 hw) (au_106 l Z a0 hw b149 jf192 b163_0 k163_0 z180_0 gz1 gv5 h180 n0 Zn181 O183 G F180_0 F180_1 F180_2 F180_3 F180_4 F180_5 r193 ge161 ge177 (Ne.symm ne179)) e191 F180_0 (argsL := [(.int jf192)]) (rest := []) (pc' := 56) rfl (by rw [hml]; rfl) (lenOf pd_26 rfl) rfl rfl (W := 0) (Nat.le_of_eq rfl) (by decide) (by decide) (by decide) (by decide) (hb hby d8_53) ?_
        intro v195 T195 L195 q195 X195
        obtain ⟨h195, e195⟩ : ∃ z, T195.heap = z := ⟨_, rfl⟩
        rw [e195] at q195
        obtain ⟨z195_0, d195_0, rfl, N195, K195, F195_0, F195_1, F195_2, F195_3, F195_4, F195_5⟩ := q195
        show Go _ _ _ _ (T195.setTop (mkF m 56 #[.val (.ref x0), .val (.ref b149), .val (.int 1), .val (.int ca1)] [(.ref b149)]))
        refine Go.pop X195 hx (pc' := 57) rfl (hb hby d8_56) rfl ?_
        refine Go.iinc X195 hx (pc' := 60) rfl (hb hby d8_57) rfl (y := (2 : Int32)) (by decide) (Ls' := #[.val (.ref x0), .val (.ref b149), .val (.int 2), .val (.int ca1)]) rfl ?_
        refine Go.goto X195 hx (pc' := 14) (hb hby d8_60) (by decide) (by decide) ?_
        refine Go.iloadN X195 hx (pc' := 15) rfl (hb hby d8_14) rfl ?_
        refine Go.aloadN X195 hx (pc' := 16) rfl (hb hby d8_15) rfl rfl ?_
        have Kp197 : Keep h0 h195 [] := (Kp182.trans K195 (allS (Or.inr sz162) (allS (Or.inr sz178) all0)))
        have Zn196 : n0 ≤ h195.size := Nat.le_trans Z0 Kp197.1
        have O198 := (O183.keep K195 (allS ge161 (allS ge177 all0)))
        have fk199 : Exa Z h195 x0 "java/lang/String" := (fk184.keep K195)
        have fk200 : Fld Z h195 x0 "java/lang/String" "coder" "B" (.int 0) := (fk186.keep K195 (ninS ne168 (ninS ne185 nin0)))
        have fk201 : Fld Z h195 x0 "java/lang/String" "value" "[B" (.ref x1) := (fk187.keep K195 (ninS ne168 (ninS ne185 nin0)))
        have fk202 := (fk189.keep K195 (ninS ne171 (ninS ne188 nin0)))
        refine Go.callV X195 hx hZ hown (tw_47 hw) (tw_48 hw) (notFace_of_selects (args := #[]) (mvT hZ (tw_50 hw))) (tw_50 hw) (tw_49 hw) (by decide) (tw_51 hw) (tw_12 hw) (au_89 l Z a0 hw x0 x1 kk0 cb0 cb1 cb2 gz1 gv5 h195 n0 Zn196 O198 G fk199 fk200 fk201 fk202) e195 fk199 (argsL := []) (rest := [(.int 2)]) (pc' := 19) rfl (by rw [hml]; rfl) (lenOf pd_13 rfl) rfl rfl (W := 1) (Nat.le_of_eq rfl) (by decide) (by decide) (by decide) (by decide) (hb hby d8_16) ?_
        intro v203 T203 L203 q203 X203
        obtain ⟨rfl, N203, e203⟩ := q203
        show Go _ _ _ _ (T203.setTop (mkF m 19 #[.val (.ref x0), .val (.ref b149), .val (.int 2), .val (.int ca1)] [(.int 3), (.int 2)]))
        refine Go.icmpNo X203 hx (pc' := 22) rfl (hb hby d8_19) (by decide) ?_
        refine Go.aloadN X203 hx (pc' := 23) rfl (hb hby d8_22) rfl rfl ?_
        refine Go.iloadN X203 hx (pc' := 24) rfl (hb hby d8_23) rfl ?_
        refine Go.callV X203 hx hZ hown (tw_161 hw) (tw_162 hw) (notFace_of_selects (args := #[]) (mvT hZ (tw_164 hw))) (tw_164 hw) (tw_163 hw) (by decide) (tw_165 hw) (tw_12 hw) (au_110 l Z a0 hw x0 x1 kk0 cb0 cb1 cb2 ca2 gz1 gv5 h195 n0 Zn196 O198 G fk199 fk200 fk201 fk202 cr2 hcb2) e203 fk199 (argsL := [(.int 2)]) (rest := []) (pc' := 27) rfl (by rw [hml]; rfl) (lenOf pd_24 rfl) rfl rfl (W := 0) (Nat.le_of_eq rfl) (by decide) (by decide) (by decide) (by decide) (hb hby d8_24) ?_
        intro v204 T204 L204 q204 X204
        obtain ⟨rfl, N204, e204⟩ := q204
        show Go _ _ _ _ (T204.setTop (mkF m 27 #[.val (.ref x0), .val (.ref b149), .val (.int 2), .val (.int ca1)] [(.int ca2)]))
        refine Go.istoreN X204 hx (pc' := 28) rfl (hb hby d8_27) (Ls' := #[.val (.ref x0), .val (.ref b149), .val (.int 2), .val (.int ca2)]) rfl ?_
        refine Go.aloadN X204 hx (pc' := 29) rfl (hb hby d8_28) rfl rfl ?_
        have J205 : ∀ (jf205 : Int32), (own_fold ca2) = jf205 → Go p e below FF (T204.setTop (mkF m 53 #[.val (.ref x0), .val (.ref b149), .val (.int 2), .val (.int ca2)] [(.int jf205), (.ref b149)])) := by
          intro jf205 jh205
          have r206 : 0 ≤ jf205.toInt ∧ jf205.toInt ≤ 255 := own_rfold jh205 (own_rw cr2 (by decide) (by decide))
          have r207 : -128 ≤ z195_0.toInt ∧ z195_0.toInt ≤ 127 := own_ri2b d195_0
          refine Go.callV X204 hx hZ hown (tw_182 hw) (tw_183 hw) (notFace_of_selects (args := #[]) (mvT hZ (tw_185 hw))) (tw_185 hw) (tw_184 hw) (by decide) (tw_186 hw) (tw_46 hw) (au_114 l Z a0 hw b149 jf205 b163_0 k163_0 z180_0 z195_0 gz1 gv5 h195 n0 Zn196 O198 G F195_0 F195_1 F195_2 F195_3 F195_4 F195_5 r206 ge161 ge177 (Ne.symm ne179)) e204 F195_0 (argsL := [(.int jf205)]) (rest := []) (pc' := 56) rfl (by rw [hml]; rfl) (lenOf pd_26 rfl) rfl rfl (W := 0) (Nat.le_of_eq rfl) (by decide) (by decide) (by decide) (by decide) (hb hby d8_53) ?_
          intro v208 T208 L208 q208 X208
          obtain ⟨h208, e208⟩ : ∃ z, T208.heap = z := ⟨_, rfl⟩
          rw [e208] at q208
          obtain ⟨z208_0, d208_0, rfl, N208, K208, F208_0, F208_1, F208_2, F208_3, F208_4, F208_5⟩ := q208
          show Go _ _ _ _ (T208.setTop (mkF m 56 #[.val (.ref x0), .val (.ref b149), .val (.int 2), .val (.int ca2)] [(.ref b149)]))
          refine Go.pop X208 hx (pc' := 57) rfl (hb hby d8_56) rfl ?_
          refine Go.iinc X208 hx (pc' := 60) rfl (hb hby d8_57) rfl (y := (3 : Int32)) (by decide) (Ls' := #[.val (.ref x0), .val (.ref b149), .val (.int 3), .val (.int ca2)]) rfl ?_
          refine Go.goto X208 hx (pc' := 14) (hb hby d8_60) (by decide) (by decide) ?_
          refine Go.iloadN X208 hx (pc' := 15) rfl (hb hby d8_14) rfl ?_
          refine Go.aloadN X208 hx (pc' := 16) rfl (hb hby d8_15) rfl rfl ?_
          have Kp210 : Keep h0 h208 [] := (Kp197.trans K208 (allS (Or.inr sz162) (allS (Or.inr sz178) all0)))
          have Zn209 : n0 ≤ h208.size := Nat.le_trans Z0 Kp210.1
          have O211 := (O198.keep K208 (allS ge161 (allS ge177 all0)))
          have fk212 : Exa Z h208 x0 "java/lang/String" := (fk199.keep K208)
          have fk213 : Fld Z h208 x0 "java/lang/String" "coder" "B" (.int 0) := (fk200.keep K208 (ninS ne168 (ninS ne185 nin0)))
          have fk214 : Fld Z h208 x0 "java/lang/String" "value" "[B" (.ref x1) := (fk201.keep K208 (ninS ne168 (ninS ne185 nin0)))
          have fk215 := (fk202.keep K208 (ninS ne171 (ninS ne188 nin0)))
          refine Go.callV X208 hx hZ hown (tw_47 hw) (tw_48 hw) (notFace_of_selects (args := #[]) (mvT hZ (tw_50 hw))) (tw_50 hw) (tw_49 hw) (by decide) (tw_51 hw) (tw_12 hw) (au_89 l Z a0 hw x0 x1 kk0 cb0 cb1 cb2 gz1 gv5 h208 n0 Zn209 O211 G fk212 fk213 fk214 fk215) e208 fk212 (argsL := []) (rest := [(.int 3)]) (pc' := 19) rfl (by rw [hml]; rfl) (lenOf pd_13 rfl) rfl rfl (W := 1) (Nat.le_of_eq rfl) (by decide) (by decide) (by decide) (by decide) (hb hby d8_16) ?_
          intro v216 T216 L216 q216 X216
          obtain ⟨rfl, N216, e216⟩ := q216
          show Go _ _ _ _ (T216.setTop (mkF m 19 #[.val (.ref x0), .val (.ref b149), .val (.int 3), .val (.int ca2)] [(.int 3), (.int 3)]))
          refine Go.icmpYes X216 hx (pc' := 63) (hb hby d8_19) (by decide) (by decide) (by decide) ?_
          refine Go.aloadN X216 hx (pc' := 64) rfl (hb hby d8_63) rfl rfl ?_
          have r217 : -128 ≤ z208_0.toInt ∧ z208_0.toInt ≤ 127 := own_ri2b d208_0
          refine Go.callV X216 hx hZ hown (tw_73 hw) (tw_74 hw) (notFace_of_selects (args := #[]) (mvT hZ (tw_76 hw))) (tw_76 hw) (tw_75 hw) (by decide) (tw_77 hw) (tw_46 hw) (au_118 l Z a0 hw b149 b163_0 k163_0 z180_0 z195_0 z208_0 gz1 gv5 h208 n0 Zn209 O211 G F208_0 F208_1 F208_2 F208_3 F208_4 F208_5) e216 F208_0 (argsL := []) (rest := []) (pc' := 67) rfl (by rw [hml]; rfl) (lenOf pd_20 rfl) rfl rfl (W := 0) (Nat.le_of_eq rfl) (by decide) (by decide) (by decide) (by decide) (hb hby d8_64) ?_
          intro v218 T218 L218 q218 X218
          obtain ⟨h218, e218⟩ : ∃ z, T218.heap = z := ⟨_, rfl⟩
          rw [e218] at q218
          obtain ⟨b218_0, b218_1, rfl, N218, K218, s218_0, s218_1, n218_0, F218_0, F218_1, F218_2, F218_3, F218_4⟩ := q218
          show Go _ _ _ _ (T218.setTop (mkF m 67 #[.val (.ref x0), .val (.ref b149), .val (.int 3), .val (.int ca2)] [(.ref b218_0)]))
          subst hFF
          refine Go.retR X218 hx hlk (t := (.object "java/lang/String")) hret rfl rfl (hb hby d8_67) (by decide) (by decide) ?_
          rw [e218]
          obtain ⟨ll, hll⟩ : ∃ u, (([ca0, ca1, ca2] : List Int32).map own_fold) = u := ⟨_, rfl⟩
          have hl : ll = [jf175, jf192, jf205] := hll.symm.trans (by show [own_fold ca0, own_fold ca1, own_fold ca2] = _; rw [jh175, jh192, jh205])
          obtain ⟨lz, hlz⟩ : ∃ z : Int32, (3 : Int32) = z := ⟨_, rfl⟩
          have lV : Arv Z h218 b218_1 k163_0 .byte lz (ll.map own_vb) (.int 0) := by
            rw [hl, ← hlz]
            show Arv Z h218 b218_1 k163_0 .byte (3 : Int32) [.int (jf175.toInt8.toInt32), .int (jf192.toInt8.toInt32), .int (jf205.toInt8.toInt32)] (.int 0)
            rw [d180_0, d195_0, d208_0]
            exact F218_3
          have lln : lz.toInt = ll.length := by rw [hl, ← hlz]; rfl
          have lla : own_lat ll := by rw [hl]; exact own_lat_3 (own_rw r176 (by decide) (by decide)) (own_rw r193 (by decide) (by decide)) (own_rw r206 (by decide) (by decide))
          have Kp219 : Keep h0 h218 [] := (Kp210.trans K218 all0)
          have sz220 : h0.size ≤ b218_0 := Nat.le_trans Kp210.1 s218_0
          have sz221 : h0.size ≤ b218_1 := Nat.le_trans Kp210.1 s218_1
          exact ⟨lz, ll, b218_0, b218_1, k163_0, hll, lln, lla, rfl, (Fr.app (Fr.app (Fr.app (Fr.app (Fr.app (Fr.app (Fr.app (Fr.app (Fr.app (Fr.app (Fr.app (Fr.app (Fr.app (Fr.nil n0) N160) N163) N173) N174) N180) N190) N191) N195) N203) N204) N208) N216) N218), Kp219, sz220, sz221, n218_0, F218_0, F218_1, F218_2, lV⟩
        refine Go.iloadN X204 hx (pc' := 30) rfl (hb hby d8_29) rfl ?_
        refine Go.bipush X204 hx (pc' := 32) rfl (hb hby d8_30) (v := (65 : Int32)) (by decide) ?_
        by_cases hc222 : ca2 < (65 : Int32)
        · refine Go.icmpYes X204 hx (pc' := 52) (hb hby d8_32) (tlt hc222).1 (by decide) (by decide) ?_
          refine Go.iloadN X204 hx (pc' := 53) rfl (hb hby d8_52) rfl ?_
          exact J205 ca2 (own_fold_lt hc222)
        · refine Go.icmpNo X204 hx (pc' := 35) rfl (hb hby d8_32) (flt hc222).1 ?_
          refine Go.iloadN X204 hx (pc' := 36) rfl (hb hby d8_35) rfl ?_
          refine Go.bipush X204 hx (pc' := 38) rfl (hb hby d8_36) (v := (90 : Int32)) (by decide) ?_
          by_cases hc223 : (90 : Int32) < ca2
          · refine Go.icmpYes X204 hx (pc' := 52) (hb hby d8_38) (tlt hc223).2.2.1 (by decide) (by decide) ?_
            refine Go.iloadN X204 hx (pc' := 53) rfl (hb hby d8_52) rfl ?_
            exact J205 ca2 (own_fold_gt hc222 hc223)
          · refine Go.icmpNo X204 hx (pc' := 41) rfl (hb hby d8_38) (flt hc223).2.2.1 ?_
            refine Go.iloadN X204 hx (pc' := 42) rfl (hb hby d8_41) rfl ?_
            refine Go.bipush X204 hx (pc' := 44) rfl (hb hby d8_42) (v := (65 : Int32)) (by decide) ?_
            refine Go.isub X204 hx (pc' := 45) rfl (hb hby d8_44) ?_
            generalize hz224 : (ca2 - (65 : Int32)) = z224
            refine Go.bipush X204 hx (pc' := 47) rfl (hb hby d8_45) (v := (97 : Int32)) (by decide) ?_
            refine Go.iadd X204 hx (pc' := 48) rfl (hb hby d8_47) ?_
            have r225 : -65 ≤ z224.toInt ∧ z224.toInt ≤ 190 := own_rsub hz224 cr2 (own_rlit (n := 65) (by decide)) (by decide) (by decide)
            generalize hz226 : (z224 + (97 : Int32)) = z226
            refine Go.i2c X204 hx (pc' := 49) rfl (hb hby d8_48) ?_
            have r227 : 32 ≤ z226.toInt ∧ z226.toInt ≤ 287 := own_radd hz226 r225 (own_rlit (n := 97) (by decide)) (by decide) (by decide)
            rw [show (z226.toUInt32.toUInt16.toUInt32.toInt32) = z226 from (own_i2c_id r227 (by decide) (by decide))]
            refine Go.goto X204 hx (pc' := 53) (hb hby d8_49) (by decide) (by decide) ?_
            exact J205 z226 (own_fold_up hc222 hc223 hz224 hz226)
      refine Go.iloadN X191 hx (pc' := 30) rfl (hb hby d8_29) rfl ?_
      refine Go.bipush X191 hx (pc' := 32) rfl (hb hby d8_30) (v := (65 : Int32)) (by decide) ?_
      by_cases hc228 : ca1 < (65 : Int32)
      · refine Go.icmpYes X191 hx (pc' := 52) (hb hby d8_32) (tlt hc228).1 (by decide) (by decide) ?_
        refine Go.iloadN X191 hx (pc' := 53) rfl (hb hby d8_52) rfl ?_
        exact J192 ca1 (own_fold_lt hc228)
      · refine Go.icmpNo X191 hx (pc' := 35) rfl (hb hby d8_32) (flt hc228).1 ?_
        refine Go.iloadN X191 hx (pc' := 36) rfl (hb hby d8_35) rfl ?_
        refine Go.bipush X191 hx (pc' := 38) rfl (hb hby d8_36) (v := (90 : Int32)) (by decide) ?_
        by_cases hc229 : (90 : Int32) < ca1
        · refine Go.icmpYes X191 hx (pc' := 52) (hb hby d8_38) (tlt hc229).2.2.1 (by decide) (by decide) ?_
          refine Go.iloadN X191 hx (pc' := 53) rfl (hb hby d8_52) rfl ?_
          exact J192 ca1 (own_fold_gt hc228 hc229)
        · refine Go.icmpNo X191 hx (pc' := 41) rfl (hb hby d8_38) (flt hc229).2.2.1 ?_
          refine Go.iloadN X191 hx (pc' := 42) rfl (hb hby d8_41) rfl ?_
          refine Go.bipush X191 hx (pc' := 44) rfl (hb hby d8_42) (v := (65 : Int32)) (by decide) ?_
          refine Go.isub X191 hx (pc' := 45) rfl (hb hby d8_44) ?_
          generalize hz230 : (ca1 - (65 : Int32)) = z230
          refine Go.bipush X191 hx (pc' := 47) rfl (hb hby d8_45) (v := (97 : Int32)) (by decide) ?_
          refine Go.iadd X191 hx (pc' := 48) rfl (hb hby d8_47) ?_
          have r231 : -65 ≤ z230.toInt ∧ z230.toInt ≤ 190 := own_rsub hz230 cr1 (own_rlit (n := 65) (by decide)) (by decide) (by decide)
          generalize hz232 : (z230 + (97 : Int32)) = z232
          refine Go.i2c X191 hx (pc' := 49) rfl (hb hby d8_48) ?_
          have r233 : 32 ≤ z232.toInt ∧ z232.toInt ≤ 287 := own_radd hz232 r231 (own_rlit (n := 97) (by decide)) (by decide) (by decide)
          rw [show (z232.toUInt32.toUInt16.toUInt32.toInt32) = z232 from (own_i2c_id r233 (by decide) (by decide))]
          refine Go.goto X191 hx (pc' := 53) (hb hby d8_49) (by decide) (by decide) ?_
          exact J192 z232 (own_fold_up hc228 hc229 hz230 hz232)
    refine Go.iloadN X174 hx (pc' := 30) rfl (hb hby d8_29) rfl ?_
    refine Go.bipush X174 hx (pc' := 32) rfl (hb hby d8_30) (v := (65 : Int32)) (by decide) ?_
    by_cases hc234 : ca0 < (65 : Int32)
    · refine Go.icmpYes X174 hx (pc' := 52) (hb hby d8_32) (tlt hc234).1 (by decide) (by decide) ?_
      refine Go.iloadN X174 hx (pc' := 53) rfl (hb hby d8_52) rfl ?_
      exact J175 ca0 (own_fold_lt hc234)
    · refine Go.icmpNo X174 hx (pc' := 35) rfl (hb hby d8_32) (flt hc234).1 ?_
      refine Go.iloadN X174 hx (pc' := 36) rfl (hb hby d8_35) rfl ?_
      refine Go.bipush X174 hx (pc' := 38) rfl (hb hby d8_36) (v := (90 : Int32)) (by decide) ?_
      by_cases hc235 : (90 : Int32) < ca0
      · refine Go.icmpYes X174 hx (pc' := 52) (hb hby d8_38) (tlt hc235).2.2.1 (by decide) (by decide) ?_
        refine Go.iloadN X174 hx (pc' := 53) rfl (hb hby d8_52) rfl ?_
        exact J175 ca0 (own_fold_gt hc234 hc235)
      · refine Go.icmpNo X174 hx (pc' := 41) rfl (hb hby d8_38) (flt hc235).2.2.1 ?_
        refine Go.iloadN X174 hx (pc' := 42) rfl (hb hby d8_41) rfl ?_
        refine Go.bipush X174 hx (pc' := 44) rfl (hb hby d8_42) (v := (65 : Int32)) (by decide) ?_
        refine Go.isub X174 hx (pc' := 45) rfl (hb hby d8_44) ?_
        generalize hz236 : (ca0 - (65 : Int32)) = z236
        refine Go.bipush X174 hx (pc' := 47) rfl (hb hby d8_45) (v := (97 : Int32)) (by decide) ?_
        refine Go.iadd X174 hx (pc' := 48) rfl (hb hby d8_47) ?_
        have r237 : -65 ≤ z236.toInt ∧ z236.toInt ≤ 190 := own_rsub hz236 cr0 (own_rlit (n := 65) (by decide)) (by decide) (by decide)
        generalize hz238 : (z236 + (97 : Int32)) = z238
        refine Go.i2c X174 hx (pc' := 49) rfl (hb hby d8_48) ?_
        have r239 : 32 ≤ z238.toInt ∧ z238.toInt ≤ 287 := own_radd hz238 r237 (own_rlit (n := 97) (by decide)) (by decide) (by decide)
        rw [show (z238.toUInt32.toUInt16.toUInt32.toInt32) = z238 from (own_i2c_id r239 (by decide) (by decide))]
        refine Go.goto X174 hx (pc' := 53) (hb hby d8_49) (by decide) (by decide) ?_
        exact J175 z238 (own_fold_up hc234 hc235 hz236 hz238)
theorem pd_27 : parseMethodDescriptor "(Ljava/lang/String;)Ljava/lang/String;" = some ⟨[(.object "java/lang/String")], some (.object "java/lang/String")⟩ := by decide +kernel
theorem d7_11 : decode prog_48_method_1_code 11 = .ok (.invokestatic 13, 3) := by decide +kernel
theorem d7_14 : decode prog_48_method_1_code 14 = .ok (.putfield 17, 3) := by decide +kernel
theorem d7_17 : decode prog_48_method_1_code 17 = .ok (.aload_n 0, 1) := by decide +kernel
theorem d7_18 : decode prog_48_method_1_code 18 = .ok (.iload_n 2, 1) := by decide +kernel
theorem d7_19 : decode prog_48_method_1_code 19 = .ok (.putfield 19, 3) := by decide +kernel
theorem d7_22 : decode prog_48_method_1_code 22 = .ok (.return_, 1) := by decide +kernel
theorem ef_7_RRI (m : MethodId) (x0 : Addr) (x1 : Addr) (x2 : Int32) : entryFrame m #[(.ref x0), (.ref x1), (.int x2)] 3 = mkF m 0 #[.val (.ref x0), .val (.ref x1), .val (.int x2)] [] := by first | (simp [entryFrame, mkF, argsToLocals, Value.category]; done) | rfl
-- com/example/dirbound/dirbound/ldap/HostPort.init
set_option maxRecDepth 65536 in
set_option maxHeartbeats 4000000 in
theorem au_25 (l : Launch) (Z : State) (a0 : Array Value) (hw : ∀ d ∈ tables_1, d.before a0 Z = true) (x0 : Addr) (x1 : Addr) (p0 : Int32) (x2 : Addr) (kk0 : ClassId) (us1 : List Int32) (p2 : Int32) (gz1 : Int32) (gv5 : Value) (h0 : Heap) (n0 : Nat) (Z0 : n0 ≤ h0.size) (O0 : Old Z n0 h0) (G : Glob Z gz1 gv5) (P0 : Exa Z h0 x0 "com/example/dirbound/dirbound/ldap/HostPort") (P1 : Fld Z h0 x0 "com/example/dirbound/dirbound/ldap/HostPort" "folded" "Ljava/lang/String;" .null) (P2 : Fld Z h0 x0 "com/example/dirbound/dirbound/ldap/HostPort" "host" "Ljava/lang/String;" .null) (P3 : Fld Z h0 x0 "com/example/dirbound/dirbound/ldap/HostPort" "port" "I" (.int 0)) (P4 : Exa Z h0 x1 "java/lang/String") (P5 : Fld Z h0 x1 "java/lang/String" "coder" "B" (.int 0)) (P6 : Fld Z h0 x1 "java/lang/String" "value" "[B" (.ref x2)) (P7 : Arv Z h0 x2 kk0 .byte p2 (us1.map own_vb) (.int 0)) (H0 : p2.toInt = us1.length) (H1 : own_lat us1) (g_x0 : n0 ≤ x0) (ne_x1_x0 : x1 ≠ x0) (ne_x2_x0 : x2 ≠ x0) :
    Ctr l Z (⟨"com/example/dirbound/dirbound/ldap/HostPort", "<init>", "(Ljava/lang/String;I)V"⟩ : MethodName) prog_48_method_1_code 3 none ({ frames := 6, cells := 4, slots := 14, locals := 87 } : Room) #[(.ref x0), (.ref x1), (.int p0)] h0 (fun v h L => ∃ (y0 : Int32) (y1 : List Int32) (y2 : Addr) (y3 : Addr) (y4 : ClassId), (us1.map own_fold) = y1 ∧ y0.toInt = y1.length ∧ own_lat y1 ∧ v = none ∧ Fr n0 L ∧ Keep h0 h [x0] ∧ h0.size ≤ y2 ∧ h0.size ≤ y3 ∧ y3 ≠ y2 ∧ Exa Z h x0 "com/example/dirbound/dirbound/ldap/HostPort" ∧ Fld Z h x0 "com/example/dirbound/dirbound/ldap/HostPort" "folded" "Ljava/lang/String;" (.ref y2) ∧ Fld Z h x0 "com/example/dirbound/dirbound/ldap/HostPort" "host" "Ljava/lang/String;" (.ref x1) ∧ Fld Z h x0 "com/example/dirbound/dirbound/ldap/HostPort" "port" "I" (.int p0) ∧ Exa Z h y2 "java/lang/String" ∧ Fld Z h y2 "java/lang/String" "coder" "B" (.int 0) ∧ Fld Z h y2 "java/lang/String" "value" "[B" (.ref y3) ∧ Arv Z h y3 y4 .byte y0 (y1.map own_vb) (.int 0)) := by
  refine Ctr.of (plainFor_of_name pn_c8) ?_
  intro p e s m below meth c T0 hx hZ hby hml hown hnm hret hlk e0 es X0
  refine Go.cast (ef_7_RRI m x0 x1 p0) ?_
  generalize hFF : EndN s _ _ _ = FF
  refine Go.aloadN X0 hx (pc' := 1) rfl (hb hby d7_0) rfl rfl ?_
  refine Go.initO X0 hx hZ hown (tw_38 hw) (tw_22 hw) (tw_23 hw) e0 (by decide) (W := 0) (by rw [hml]; rfl) (Nat.le_of_eq rfl) (by decide) (pc' := 4) rfl (hb hby d7_1) ?_
  intro T1 e1 X1
  refine Go.aloadN X1 hx (pc' := 5) rfl (hb hby d7_4) rfl rfl ?_
  refine Go.aloadN X1 hx (pc' := 6) rfl (hb hby d7_5) rfl rfl ?_
  refine Go.putF X1 hx hZ hown (host := "") (Or.inl (tw_39 hw)) Via.refl e1 P2 P0 (Or.inr ⟨(tw_40 hw), rfl, hnm⟩) (tw_33 hw) (ty := (.object "java/lang/String")) (by decide) rfl rfl (pc' := 9) rfl (hb hby d7_6) ?_
  intro T2 h2 e2 W2 F2 X2
  have N2 := Fr.snoc X2 (Fr.nil n0) g_x0
  refine Go.aloadN X2 hx (pc' := 10) rfl (hb hby d7_9) rfl rfl ?_
  refine Go.aloadN X2 hx (pc' := 11) rfl (hb hby d7_10) rfl rfl ?_
  have Kp4 : Keep h0 h2 [x0] := ((Keep.refl h0 [x0]).wr W2 (Or.inl (List.mem_of_getElem? (i := 0) rfl)))
  have Zn3 : n0 ≤ h2.size := Nat.le_trans Z0 Kp4.1
  have O5 := (O0.wr W2 g_x0)
  have fk6 : Exa Z h2 x1 "java/lang/String" := (P4.wr W2)
  have fk7 : Fld Z h2 x1 "java/lang/String" "coder" "B" (.int 0) := (P5.other W2 (Or.inl ne_x1_x0))
  have fk8 : Fld Z h2 x1 "java/lang/String" "value" "[B" (.ref x2) := (P6.other W2 (Or.inl ne_x1_x0))
  have fk9 := (P7.other W2 ne_x2_x0)
  refine Go.callS X2 hx hZ hown (tw_41 hw) (tw_42 hw) (tw_34 hw) (tw_43 hw) (by decide) (tw_43 hw) (tw_34 hw) (au_26 l Z a0 hw x1 x2 kk0 us1 p2 gz1 gv5 h2 n0 Zn3 O5 G fk6 fk7 fk8 fk9 H0 H1) e2 (argsL := [(.ref x1)]) (rest := [(.ref x0)]) (pc' := 14) rfl (by rw [hml]; rfl) (lenOf pd_27 rfl) rfl rfl (W := 1) (Nat.le_of_eq rfl) (by decide) (by decide) (by decide) (by decide) (hb hby d7_11) ?_
  intro v10 T10 L10 q10 X10
  obtain ⟨h10, e10⟩ : ∃ z, T10.heap = z := ⟨_, rfl⟩
  rw [e10] at q10
  obtain ⟨z10_0, z10_1, b10_0, b10_1, k10_0, d10_0, c10_0, c10_1, rfl, N10, K10, s10_0, s10_1, n10_0, F10_0, F10_1, F10_2, F10_3⟩ := q10
  show Go _ _ _ _ (T10.setTop (mkF m 14 #[.val (.ref x0), .val (.ref x1), .val (.int p0)] [(.ref b10_0), (.ref x0)]))
  have fk11 : Fld Z h10 x0 "com/example/dirbound/dirbound/ldap/HostPort" "folded" "Ljava/lang/String;" .null := ((P1.other W2 (Or.inr (slot_ne (Or.inr (tw_120 hw)) (Or.inr (tw_40 hw)) (by decide) (t := (.object "java/lang/String")) (t' := (.object "java/lang/String")) (by decide) (by decide)))).keep K10 nin0)
  have fk12 : Exa Z h10 x0 "com/example/dirbound/dirbound/ldap/HostPort" := ((P0.wr W2).keep K10)
  refine Go.putF X10 hx hZ hown (host := "") (Or.inl (tw_119 hw)) Via.refl e10 fk11 fk12 (Or.inr ⟨(tw_120 hw), rfl, hnm⟩) (tw_33 hw) (ty := (.object "java/lang/String")) (by decide) rfl rfl (pc' := 17) rfl (hb hby d7_14) ?_
  intro T13 h13 e13 W13 F13 X13
  have N13 := Fr.snoc X13 (Fr.app N2 N10) g_x0
  refine Go.aloadN X13 hx (pc' := 18) rfl (hb hby d7_17) rfl rfl ?_
  refine Go.iloadN X13 hx (pc' := 19) rfl (hb hby d7_18) rfl ?_
  have fk14 : Fld Z h13 x0 "com/example/dirbound/dirbound/ldap/HostPort" "port" "I" (.int 0) := (((P3.other W2 (Or.inr (slot_ne (Or.inr (tw_122 hw)) (Or.inr (tw_40 hw)) (by decide) (t := .int) (t' := (.object "java/lang/String")) (by decide) (by decide)))).keep K10 nin0).other W13 (Or.inr (slot_ne (Or.inr (tw_122 hw)) (Or.inr (tw_120 hw)) (by decide) (t := .int) (t' := (.object "java/lang/String")) (by decide) (by decide))))
  have fk15 : Exa Z h13 x0 "com/example/dirbound/dirbound/ldap/HostPort" := (fk12.wr W13)
  refine Go.putF X13 hx hZ hown (host := "") (Or.inl (tw_121 hw)) Via.refl e13 fk14 fk15 (Or.inr ⟨(tw_122 hw), rfl, hnm⟩) (tw_33 hw) (ty := .int) (by decide) rfl rfl (pc' := 22) rfl (hb hby d7_19) ?_
  intro T16 h16 e16 W16 F16 X16
  have N16 := Fr.snoc X16 N13 g_x0
  subst hFF
  refine Go.ret0 X16 hx hlk hret (hb hby d7_22) (by decide) (by decide) ?_
  rw [e16]
  have fk17 : Exa Z h16 x0 "com/example/dirbound/dirbound/ldap/HostPort" := (fk15.wr W16)
  have fk18 : Fld Z h16 x0 "com/example/dirbound/dirbound/ldap/HostPort" "folded" "Ljava/lang/String;" (.ref b10_0) := (F13.other W16 (Or.inr (slot_ne (Or.inr (tw_120 hw)) (Or.inr (tw_122 hw)) (by decide) (t := (.object "java/lang/String")) (t' := .int) (by decide) (by decide))))
  have fk19 : Fld Z h16 x0 "com/example/dirbound/dirbound/ldap/HostPort" "host" "Ljava/lang/String;" (.ref x1) := (((F2.keep K10 nin0).other W13 (Or.inr (slot_ne (Or.inr (tw_40 hw)) (Or.inr (tw_120 hw)) (by decide) (t := (.object "java/lang/String")) (t' := (.object "java/lang/String")) (by decide) (by decide)))).other W16 (Or.inr (slot_ne (Or.inr (tw_40 hw)) (Or.inr (tw_122 hw)) (by decide) (t := (.object "java/lang/String")) (t' := .int) (by decide) (by decide))))
  have fk20 : Exa Z h16 b10_0 "java/lang/String" := ((F10_0.wr W13).wr W16)
  have fk22 : Exa Z h2 x0 "com/example/dirbound/dirbound/ldap/HostPort" := (P0.wr W2)
  have ne21 : x0 ≠ b10_0 := Nat.ne_of_lt (Nat.lt_of_lt_of_le fk22.lt s10_0)
  have fk23 : Fld Z h16 b10_0 "java/lang/String" "coder" "B" (.int 0) := ((F10_1.other W13 (Or.inl (Ne.symm ne21))).other W16 (Or.inl (Ne.symm ne21)))
  have fk24 : Fld Z h16 b10_0 "java/lang/String" "value" "[B" (.ref b10_1) := ((F10_2.other W13 (Or.inl (Ne.symm ne21))).other W16 (Or.inl (Ne.symm ne21)))
  have ne25 : x0 ≠ b10_1 := Nat.ne_of_lt (Nat.lt_of_lt_of_le fk22.lt s10_1)
  have fk26 := ((F10_3.other W13 (Ne.symm ne25)).other W16 (Ne.symm ne25))
  have Kp27 : Keep h0 h10 [x0] := (Kp4.trans K10 all0)
  have Kp28 : Keep h0 h13 [x0] := (Kp27.wr W13 (Or.inl (List.mem_of_getElem? (i := 0) rfl)))
  have Kp29 : Keep h0 h16 [x0] := (Kp28.wr W16 (Or.inl (List.mem_of_getElem? (i := 0) rfl)))
  have sz30 : h0.size ≤ b10_0 := Nat.le_trans Kp4.1 s10_0
  have sz31 : h0.size ≤ b10_1 := Nat.le_trans Kp4.1 s10_1
  exact ⟨z10_0, z10_1, b10_0, b10_1, k10_0, d10_0, c10_0, c10_1, rfl, N16, Kp29, sz30, sz31, n10_0, fk17, fk18, fk19, F16, fk20, fk23, fk24, fk26⟩
theorem pd_28 : parseMethodDescriptor "(Ljava/lang/String;I)V" = some ⟨[(.object "java/lang/String"), .int], none⟩ := by decide +kernel
theorem d21_0 : decode prog_48_method_9_code 0 = .ok (.aload_n 1, 1) := by decide +kernel
theorem d21_1 : decode prog_48_method_9_code 1 = .ok (.instanceof 8, 3) := by decide +kernel
theorem d21_4 : decode prog_48_method_9_code 4 = .ok (.ifCond .eq 37, 3) := by decide +kernel
theorem d21_7 : decode prog_48_method_9_code 7 = .ok (.aload_n 1, 1) := by decide +kernel
theorem d21_8 : decode prog_48_method_9_code 8 = .ok (.checkcast 8, 3) := by decide +kernel
theorem d21_11 : decode prog_48_method_9_code 11 = .ok (.astore_n 2, 1) := by decide +kernel
theorem d21_12 : decode prog_48_method_9_code 12 = .ok (.aload_n 0, 1) := by decide +kernel
theorem d21_13 : decode prog_48_method_9_code 13 = .ok (.getfield 19, 3) := by decide +kernel
theorem d21_16 : decode prog_48_method_9_code 16 = .ok (.aload_n 2, 1) := by decide +kernel
theorem d21_17 : decode prog_48_method_9_code 17 = .ok (.getfield 19, 3) := by decide +kernel
theorem d21_20 : decode prog_48_method_9_code 20 = .ok (.if_icmp .ne 21, 3) := by decide +kernel
theorem d21_23 : decode prog_48_method_9_code 23 = .ok (.aload_n 0, 1) := by decide +kernel
theorem d21_24 : decode prog_48_method_9_code 24 = .ok (.getfield 17, 3) := by decide +kernel
theorem d21_27 : decode prog_48_method_9_code 27 = .ok (.aload_n 2, 1) := by decide +kernel
theorem d21_28 : decode prog_48_method_9_code 28 = .ok (.getfield 17, 3) := by decide +kernel
theorem d22_0 : decode jdk_42_method_66_code 0 = .ok (.aload_n 0, 1) := by decide +kernel
theorem d22_1 : decode jdk_42_method_66_code 1 = .ok (.aload_n 1, 1) := by decide +kernel
theorem d22_2 : decode jdk_42_method_66_code 2 = .ok (.if_acmp .ne 5, 3) := by decide +kernel
theorem d22_7 : decode jdk_42_method_66_code 7 = .ok (.aload_n 1, 1) := by decide +kernel
theorem d22_8 : decode jdk_42_method_66_code 8 = .ok (.instanceof 10, 3) := by decide +kernel
theorem d22_11 : decode jdk_42_method_66_code 11 = .ok (.ifCond .eq 43, 3) := by decide +kernel
theorem d22_14 : decode jdk_42_method_66_code 14 = .ok (.aload_n 1, 1) := by decide +kernel
theorem d22_15 : decode jdk_42_method_66_code 15 = .ok (.checkcast 10, 3) := by decide +kernel
theorem d22_18 : decode jdk_42_method_66_code 18 = .ok (.astore_n 2, 1) := by decide +kernel
theorem d22_19 : decode jdk_42_method_66_code 19 = .ok (.getstatic 38, 3) := by decide +kernel
theorem d22_22 : decode jdk_42_method_66_code 22 = .ok (.ifCond .eq 14, 3) := by decide +kernel
theorem d22_25 : decode jdk_42_method_66_code 25 = .ok (.aload_n 0, 1) := by decide +kernel
theorem d22_26 : decode jdk_42_method_66_code 26 = .ok (.getfield 15, 3) := by decide +kernel
theorem d22_29 : decode jdk_42_method_66_code 29 = .ok (.aload_n 2, 1) := by decide +kernel
theorem d22_30 : decode jdk_42_method_66_code 30 = .ok (.getfield 15, 3) := by decide +kernel
theorem d22_33 : decode jdk_42_method_66_code 33 = .ok (.if_icmp .ne 21, 3) := by decide +kernel
theorem d22_36 : decode jdk_42_method_66_code 36 = .ok (.aload_n 0, 1) := by decide +kernel
theorem d22_37 : decode jdk_42_method_66_code 37 = .ok (.getfield 9, 3) := by decide +kernel
theorem d22_40 : decode jdk_42_method_66_code 40 = .ok (.aload_n 2, 1) := by decide +kernel
theorem d22_41 : decode jdk_42_method_66_code 41 = .ok (.getfield 9, 3) := by decide +kernel
theorem ef_39_RR (m : MethodId) (x0 : Addr) (x1 : Addr) : entryFrame m #[(.ref x0), (.ref x1)] 3 = mkF m 0 #[.val (.ref x0), .val (.ref x1), .unset] [] := by first | (simp [entryFrame, mkF, argsToLocals, Value.category]; done) | rfl
theorem d39_0 : decode jdk_43_method_13_code 0 = .ok (.aload_n 0, 1) := by decide +kernel
theorem d39_1 : decode jdk_43_method_13_code 1 = .ok (.arraylength, 1) := by decide +kernel
theorem d39_2 : decode jdk_43_method_13_code 2 = .ok (.aload_n 1, 1) := by decide +kernel
theorem d39_3 : decode jdk_43_method_13_code 3 = .ok (.arraylength, 1) := by decide +kernel
theorem d39_4 : decode jdk_43_method_13_code 4 = .ok (.if_icmp .ne 30, 3) := by decide +kernel
theorem d39_7 : decode jdk_43_method_13_code 7 = .ok (.iconst 0, 1) := by decide +kernel
theorem d39_8 : decode jdk_43_method_13_code 8 = .ok (.istore_n 2, 1) := by decide +kernel
theorem d39_9 : decode jdk_43_method_13_code 9 = .ok (.iload_n 2, 1) := by decide +kernel
theorem d39_10 : decode jdk_43_method_13_code 10 = .ok (.aload_n 0, 1) := by decide +kernel
theorem d39_11 : decode jdk_43_method_13_code 11 = .ok (.arraylength, 1) := by decide +kernel
theorem d39_12 : decode jdk_43_method_13_code 12 = .ok (.if_icmp .ge 20, 3) := by decide +kernel
theorem d39_32 : decode jdk_43_method_13_code 32 = .ok (.iconst 1, 1) := by decide +kernel
theorem d39_33 : decode jdk_43_method_13_code 33 = .ok (.ireturn, 1) := by decide +kernel
theorem d39_15 : decode jdk_43_method_13_code 15 = .ok (.aload_n 0, 1) := by decide +kernel
theorem d39_16 : decode jdk_43_method_13_code 16 = .ok (.iload_n 2, 1) := by decide +kernel
theorem d39_17 : decode jdk_43_method_13_code 17 = .ok (.baload, 1) := by decide +kernel
theorem d39_18 : decode jdk_43_method_13_code 18 = .ok (.aload_n 1, 1) := by decide +kernel
theorem d39_19 : decode jdk_43_method_13_code 19 = .ok (.iload_n 2, 1) := by decide +kernel
theorem d39_20 : decode jdk_43_method_13_code 20 = .ok (.baload, 1) := by decide +kernel
theorem d39_21 : decode jdk_43_method_13_code 21 = .ok (.if_icmp .eq 5, 3) := by decide +kernel
theorem d39_26 : decode jdk_43_method_13_code 26 = .ok (.iinc 2 1, 3) := by decide +kernel
theorem d39_29 : decode jdk_43_method_13_code 29 = .ok (.goto (-20), 3) := by decide +kernel
theorem d39_24 : decode jdk_43_method_13_code 24 = .ok (.iconst 0, 1) := by decide +kernel
theorem d39_25 : decode jdk_43_method_13_code 25 = .ok (.ireturn, 1) := by decide +kernel
theorem d39_34 : decode jdk_43_method_13_code 34 = .ok (.iconst 0, 1) := by decide +kernel
theorem d39_35 : decode jdk_43_method_13_code 35 = .ok (.ireturn, 1) := by decide +kernel
set_option maxRecDepth 65536 in
set_option maxHeartbeats 4000000 in
theorem gl_eq (l : Launch) (Z : State) (a0 : Array Value) (hw : ∀ d ∈ tables_1, d.before a0 Z = true) (x0 x1 : Addr) (k0 k1 : ClassId) (za zb : Int32) (us vs : List Int32) (h0 : Heap) (P0 : Arv Z h0 x0 k0 .byte za (us.map Value.int) (.int 0)) (P1 : Arv Z h0 x1 k1 .byte zb (vs.map Value.int) (.int 0)) (ha : za.toInt = us.length) (hv : zb.toInt = vs.length) :
    Ctr l Z (⟨"java/lang/StringLatin1", "equals", "([B[B)Z"⟩ : MethodName) jdk_43_method_13_code 3 (some .boolean) ({ frames := 0, cells := 0, slots := 0, locals := 0 } : Room) #[(.ref x0), (.ref x1)] h0 (fun v h L => v = some (.int (if us = vs then 1 else 0)) ∧ L = [] ∧ h = h0) := by
  refine Ctr.of (plainFor_of_name pn_c2) ?_
  intro p e s m below meth c T0 hx hZ hby hml hown hnm hret hlk e0 es X0
  refine Go.cast (ef_39_RR m x0 x1) ?_
  generalize hFF : EndN s _ _ _ = FF
  have hN := own_ltN ha
  refine Go.aloadN X0 hx (pc' := 1) rfl (hb hby d39_0) rfl rfl ?_
  refine Go.arraylength X0 hx hZ e0 P0 (pc' := 2) rfl (hb hby d39_1) ?_
  refine Go.aloadN X0 hx (pc' := 3) rfl (hb hby d39_2) rfl rfl ?_
  refine Go.arraylength X0 hx hZ e0 P1 (pc' := 4) rfl (hb hby d39_3) ?_
  by_cases hz : za = zb
  · have hl : us.length = vs.length := by subst hz; omega
    refine Go.icmpNo X0 hx (pc' := 7) rfl (hb hby d39_4) (teq hz).2 ?_
    refine Go.iconst X0 hx (pc' := 8) rfl (hb hby d39_7) (v := (0 : Int32)) rfl ?_
    refine Go.istoreN X0 hx (pc' := 9) rfl (hb hby d39_8) (Ls' := #[.val (.ref x0), .val (.ref x1), .val (.int 0)]) rfl ?_
    have loop : ∀ (k i : Nat), i + k = us.length → us.take i = vs.take i → Go p e below FF (T0.setTop (mkF m 9 #[.val (.ref x0), .val (.ref x1), .val (.int (Int32.ofNat i))] [])) := by
      intro k
      induction k with
      | zero =>
        intro i hi ht
        have e1 : us = vs := by rw [List.take_of_length_le (by omega), List.take_of_length_le (by omega)] at ht; exact ht
        refine Go.iloadN X0 hx (pc' := 10) rfl (hb hby d39_9) rfl ?_
        refine Go.aloadN X0 hx (pc' := 11) rfl (hb hby d39_10) rfl rfl ?_
        refine Go.arraylength X0 hx hZ e0 P0 (pc' := 12) rfl (hb hby d39_11) ?_
        refine Go.icmpYes X0 hx (pc' := 32) (hb hby d39_12) (flt (own_ofNge (by omega) (by omega))).2.1 (by decide) (by decide) ?_
        refine Go.iconst X0 hx (pc' := 33) rfl (hb hby d39_32) (v := (1 : Int32)) rfl ?_
        subst hFF
        refine Go.retN X0 hx hlk (t := .boolean) hret (by simp) (hb hby d39_33) (by decide) (by decide) ?_
        rw [e0, if_pos e1]
        exact ⟨rfl, rfl, rfl⟩
      | succ k ih =>
        intro i hi ht
        have hj : ¬ Int32.ofNat i < 0 ∧ Int32.ofNat i < za := ⟨own_ofN0 (by omega), own_ofNlt (by omega) (by omega)⟩
        have hc := own_ofNc (i := i) (by omega)
        refine Go.iloadN X0 hx (pc' := 10) rfl (hb hby d39_9) rfl ?_
        refine Go.aloadN X0 hx (pc' := 11) rfl (hb hby d39_10) rfl rfl ?_
        refine Go.arraylength X0 hx hZ e0 P0 (pc' := 12) rfl (hb hby d39_11) ?_
        refine Go.icmpNo X0 hx (pc' := 15) rfl (hb hby d39_12) (tlt hj.2).2.1 ?_
        refine Go.aloadN X0 hx (pc' := 16) rfl (hb hby d39_15) rfl rfl ?_
        refine Go.iloadN X0 hx (pc' := 17) rfl (hb hby d39_16) rfl ?_
        refine Go.baload X0 hx hZ e0 P0 (v := (.int (us.getD i 0))) hj (by rw [hc]; exact own_getDI' _ _ _) (pc' := 18) rfl (hb hby d39_17) ?_
        refine Go.aloadN X0 hx (pc' := 19) rfl (hb hby d39_18) rfl rfl ?_
        refine Go.iloadN X0 hx (pc' := 20) rfl (hb hby d39_19) rfl ?_
        refine Go.baload X0 hx hZ e0 P1 (v := (.int (vs.getD i 0))) ⟨hj.1, by rw [← hz]; exact hj.2⟩ (by rw [hc]; exact own_getDI' _ _ _) (pc' := 21) rfl (hb hby d39_20) ?_
        by_cases hq : us.getD i 0 = vs.getD i 0
        · refine Go.icmpYes X0 hx (pc' := 26) (hb hby d39_21) (teq hq).1 (by decide) (by decide) ?_
          refine Go.iinc X0 hx (pc' := 29) rfl (hb hby d39_26) rfl (y := Int32.ofNat (i + 1)) (own_ofNs i) (Ls' := #[.val (.ref x0), .val (.ref x1), .val (.int (Int32.ofNat (i + 1)))]) rfl ?_
          refine Go.goto X0 hx (pc' := 9) (hb hby d39_29) (by decide) (by decide) ?_
          exact ih (i + 1) (by omega) (own_takeS (by omega) (by omega) ht hq)
        · refine Go.icmpNo X0 hx (pc' := 24) rfl (hb hby d39_21) (feq hq).1 ?_
          refine Go.iconst X0 hx (pc' := 25) rfl (hb hby d39_24) (v := (0 : Int32)) rfl ?_
          subst hFF
          refine Go.retN X0 hx hlk (t := .boolean) hret (by simp) (hb hby d39_25) (by decide) (by decide) ?_
          rw [e0, if_neg (fun z => hq (by rw [z]))]
          exact ⟨rfl, rfl, rfl⟩
    exact loop us.length 0 (by omega) (by simp)
  · refine Go.icmpYes X0 hx (pc' := 34) (hb hby d39_4) (feq hz).2 (by decide) (by decide) ?_
    refine Go.iconst X0 hx (pc' := 35) rfl (hb hby d39_34) (v := (0 : Int32)) rfl ?_
    subst hFF
    refine Go.retN X0 hx hlk (t := .boolean) hret (by simp) (hb hby d39_35) (by decide) (by decide) ?_
    rw [e0, if_neg (fun z => hz (by apply Int32.toInt_inj.mp; rw [ha, hv, z]))]
    exact ⟨rfl, rfl, rfl⟩
theorem gl_eqv (l : Launch) (Z : State) (a0 : Array Value) (hw : ∀ d ∈ tables_1, d.before a0 Z = true) (x0 x1 : Addr) (k0 k1 : ClassId) (za zb : Int32) (us vs : List Int32) (h0 : Heap) (P0 : Arv Z h0 x0 k0 .byte za (us.map own_vb) (.int 0)) (P1 : Arv Z h0 x1 k1 .byte zb (vs.map own_vb) (.int 0)) (ha : za.toInt = us.length) (hv : zb.toInt = vs.length) (lu : own_lat us) (lv : own_lat vs) :
    Ctr l Z (⟨"java/lang/StringLatin1", "equals", "([B[B)Z"⟩ : MethodName) jdk_43_method_13_code 3 (some .boolean) ({ frames := 0, cells := 0, slots := 0, locals := 0 } : Room) #[(.ref x0), (.ref x1)] h0 (fun v h L => v = some (.int (if us = vs then 1 else 0)) ∧ L = [] ∧ h = h0) := by
  rw [own_mapvb] at P0 P1
  refine Ctr.weak (gl_eq l Z a0 hw x0 x1 k0 k1 za zb (us.map own_b) (vs.map own_b) h0 P0 P1 (by rw [List.length_map]; exact ha) (by rw [List.length_map]; exact hv)) ?_
  rintro v h L ⟨q1, q2, q3⟩
  refine ⟨?_, q2, q3⟩
  rw [q1]
  by_cases e : us = vs
  · rw [if_pos e, if_pos (by rw [e])]
  · rw [if_neg e, if_neg (fun z => e (own_b_inj lu.2 lv.2 z))]
theorem pd_29 : parseMethodDescriptor "([B[B)Z" = some ⟨[(.array .byte), (.array .byte)], some .boolean⟩ := by decide +kernel
theorem d22_44 : decode jdk_42_method_66_code 44 = .ok (.invokestatic 541, 3) := by decide +kernel
theorem d22_47 : decode jdk_42_method_66_code 47 = .ok (.ifCond .eq 7, 3) := by decide +kernel
theorem d22_50 : decode jdk_42_method_66_code 50 = .ok (.iconst 1, 1) := by decide +kernel
theorem d22_51 : decode jdk_42_method_66_code 51 = .ok (.goto 4, 3) := by decide +kernel
theorem d22_55 : decode jdk_42_method_66_code 55 = .ok (.ireturn, 1) := by decide +kernel
theorem d22_54 : decode jdk_42_method_66_code 54 = .ok (.iconst 0, 1) := by decide +kernel
theorem ef_22_RR (m : MethodId) (x0 : Addr) (x1 : Addr) : entryFrame m #[(.ref x0), (.ref x1)] 3 = mkF m 0 #[.val (.ref x0), .val (.ref x1), .unset] [] := by first | (simp [entryFrame, mkF, argsToLocals, Value.category]; done) | rfl
-- java/lang/String.equals
set_option maxRecDepth 65536 in
set_option maxHeartbeats 4000000 in
theorem au_127 (l : Launch) (Z : State) (a0 : Array Value) (hw : ∀ d ∈ tables_1, d.before a0 Z = true) (x0 : Addr) (x1 : Addr) (x2 : Addr) (x3 : Addr) (kk0 : ClassId) (us0 : List Int32) (p1 : Int32) (kk1 : ClassId) (us2 : List Int32) (p3 : Int32) (gz1 : Int32) (gv5 : Value) (h0 : Heap) (n0 : Nat) (Z0 : n0 ≤ h0.size) (O0 : Old Z n0 h0) (G : Glob Z gz1 gv5) (P1 : Fld Z h0 x0 "java/lang/String" "coder" "B" (.int 0)) (P2 : Fld Z h0 x0 "java/lang/String" "value" "[B" (.ref x2)) (P3 : Exa Z h0 x1 "java/lang/String") (P4 : Fld Z h0 x1 "java/lang/String" "coder" "B" (.int 0)) (P5 : Fld Z h0 x1 "java/lang/String" "value" "[B" (.ref x3)) (P6 : Arv Z h0 x2 kk0 .byte p1 (us0.map own_vb) (.int 0)) (P7 : Arv Z h0 x3 kk1 .byte p3 (us2.map own_vb) (.int 0)) (H0 : p1.toInt = us0.length) (H1 : own_lat us0) (H2 : p3.toInt = us2.length) (H3 : own_lat us2) (ne_x0_x1 : x0 ≠ x1) :
    Ctr l Z (⟨"java/lang/String", "equals", "(Ljava/lang/Object;)Z"⟩ : MethodName) jdk_42_method_66_code 3 (some .boolean) ({ frames := 1, cells := 0, slots := 0, locals := 14 } : Room) #[(.ref x0), (.ref x1)] h0 (fun v h L => (us0 = us2 ∧ v = some (.int 1) ∧ Fr n0 L ∧ h = h0) ∨ (¬ (us0 = us2) ∧ v = some (.int 0) ∧ Fr n0 L ∧ h = h0)) := by
  refine Ctr.of (plainFor_of_name pn_c1) ?_
  intro p e s m below meth c T0 hx hZ hby hml hown hnm hret hlk e0 es X0
  have G' := G
  obtain ⟨G0, -, G2, -⟩ := G'
  refine Go.cast (ef_22_RR m x0 x1) ?_
  generalize hFF : EndN s _ _ _ = FF
  refine Go.aloadN X0 hx (pc' := 1) rfl (hb hby d22_0) rfl rfl ?_
  refine Go.aloadN X0 hx (pc' := 2) rfl (hb hby d22_1) rfl rfl ?_
  refine Go.acmp X0 hx (pc' := 7) (same := false) (hb hby d22_2) rfl rfl (decide_eq_false (fun q => ne_x0_x1 (Value.ref.inj q))) (by decide) (by decide) ?_
  refine Go.aloadN X0 hx (pc' := 8) rfl (hb hby d22_7) rfl rfl ?_
  refine Go.instY X0 hx hZ hown (tw_154 hw) e0 (Ins.self P3) (pc' := 11) rfl (hb hby d22_8) ?_
  intro T1 e1 X1
  refine Go.ifNo X1 hx (pc' := 14) rfl (hb hby d22_11) (by decide) ?_
  refine Go.aloadN X1 hx (pc' := 15) rfl (hb hby d22_14) rfl rfl ?_
  refine Go.castY X1 hx hZ hown (tw_154 hw) e1 (Ins.self P3) (pc' := 18) rfl (hb hby d22_15) ?_
  intro T2 e2 X2
  refine Go.astoreN X2 hx (pc' := 19) rfl (hb hby d22_18) (Ls' := #[.val (.ref x0), .val (.ref x1), .val (.ref x1)]) rfl rfl ?_
  have fk3 : Sta Z h0 "java/lang/String" "COMPACT_STRINGS" "Z" (.int gz1) := G0.ext O0.2
  refine Go.getS X2 hx hZ hown (host := "") (Or.inl (tw_57 hw)) Via.refl e2 fk3 (pc' := 22) rfl (hb hby d22_19) ?_
  intro T4 e4 X4
  refine Go.ifNo X4 hx (pc' := 25) rfl (hb hby d22_22) (feq G2).1 ?_
  refine Go.aloadN X4 hx (pc' := 26) rfl (hb hby d22_25) rfl rfl ?_
  refine Go.getF X4 hx hZ hown (host := "") (Or.inl (tw_31 hw)) Via.refl e4 P1 (pc' := 29) rfl (hb hby d22_26) ?_
  intro T5 e5 X5
  refine Go.aloadN X5 hx (pc' := 30) rfl (hb hby d22_29) rfl rfl ?_
  refine Go.getF X5 hx hZ hown (host := "") (Or.inl (tw_31 hw)) Via.refl e5 P4 (pc' := 33) rfl (hb hby d22_30) ?_
  intro T6 e6 X6
  refine Go.icmpNo X6 hx (pc' := 36) rfl (hb hby d22_33) (by decide) ?_
  refine Go.aloadN X6 hx (pc' := 37) rfl (hb hby d22_36) rfl rfl ?_
  refine Go.getF X6 hx hZ hown (host := "") (Or.inl (tw_30 hw)) Via.refl e6 P2 (pc' := 40) rfl (hb hby d22_37) ?_
  intro T7 e7 X7
  refine Go.aloadN X7 hx (pc' := 41) rfl (hb hby d22_40) rfl rfl ?_
  refine Go.getF X7 hx hZ hown (host := "") (Or.inl (tw_30 hw)) Via.refl e7 P5 (pc' := 44) rfl (hb hby d22_41) ?_
  intro T8 e8 X8
  refine Go.callS X8 hx hZ hown (tw_201 hw) (tw_202 hw) (tw_152 hw) (tw_203 hw) (by decide) (tw_203 hw) (tw_152 hw) (gl_eqv l Z a0 hw x2 x3 kk0 kk1 p1 p3 us0 us2 h0 P6 P7 H0 H2 H1 H3) e8 (argsL := [(.ref x2), (.ref x3)]) (rest := []) (pc' := 47) rfl (by rw [hml]; rfl) (lenOf pd_29 rfl) rfl rfl (W := 0) (Nat.le_of_eq rfl) (by decide) (by decide) (by decide) (by decide) (hb hby d22_44) ?_
  intro v9 T9 L9 q9 X9
  obtain ⟨rfl, rfl, e9⟩ := q9
  by_cases hc10 : us0 = us2
  · rw [if_pos hc10]
    show Go _ _ _ _ (T9.setTop (mkF m 47 #[.val (.ref x0), .val (.ref x1), .val (.ref x1)] [(.int 1)]))
    refine Go.ifNo X9 hx (pc' := 50) rfl (hb hby d22_47) (by decide) ?_
    refine Go.iconst X9 hx (pc' := 51) rfl (hb hby d22_50) (v := (1 : Int32)) rfl ?_
    refine Go.goto X9 hx (pc' := 55) (hb hby d22_51) (by decide) (by decide) ?_
    subst hFF
    refine Go.retN X9 hx hlk (t := .boolean) hret (by simp) (hb hby d22_55) (by decide) (by decide) ?_
    rw [e9]
    exact Or.inl ⟨hc10, (congrArg (fun z => some (Value.int z)) (by decide : nar .boolean (1 : Int32) = (1 : Int32))), (Fr.app (Fr.nil n0) (Fr.nil n0)), rfl⟩
  · rw [if_neg hc10]
    show Go _ _ _ _ (T9.setTop (mkF m 47 #[.val (.ref x0), .val (.ref x1), .val (.ref x1)] [(.int 0)]))
    refine Go.ifYes X9 hx (pc' := 54) (hb hby d22_47) (by decide) (by decide) (by decide) ?_
    refine Go.iconst X9 hx (pc' := 55) rfl (hb hby d22_54) (v := (0 : Int32)) rfl ?_
    subst hFF
    refine Go.retN X9 hx hlk (t := .boolean) hret (by simp) (hb hby d22_55) (by decide) (by decide) ?_
    rw [e9]
    exact Or.inr (⟨hc10, (congrArg (fun z => some (Value.int z)) (by decide : nar .boolean (0 : Int32) = (0 : Int32))), (Fr.app (Fr.nil n0) (Fr.nil n0)), rfl⟩)
theorem pd_30 : parseMethodDescriptor "(Ljava/lang/Object;)Z" = some ⟨[(.object "java/lang/Object")], some .boolean⟩ := by decide +kernel
theorem d21_31 : decode prog_48_method_9_code 31 = .ok (.invokevirtual 71, 3) := by decide +kernel
theorem d21_34 : decode prog_48_method_9_code 34 = .ok (.ifCond .eq 7, 3) := by decide +kernel
theorem d21_37 : decode prog_48_method_9_code 37 = .ok (.iconst 1, 1) := by decide +kernel
theorem d21_38 : decode prog_48_method_9_code 38 = .ok (.goto 4, 3) := by decide +kernel
theorem d21_42 : decode prog_48_method_9_code 42 = .ok (.ireturn, 1) := by decide +kernel
theorem d21_41 : decode prog_48_method_9_code 41 = .ok (.iconst 0, 1) := by decide +kernel
theorem ef_21_RR (m : MethodId) (x0 : Addr) (x1 : Addr) : entryFrame m #[(.ref x0), (.ref x1)] 3 = mkF m 0 #[.val (.ref x0), .val (.ref x1), .unset] [] := by first | (simp [entryFrame, mkF, argsToLocals, Value.category]; done) | rfl
-- com/example/dirbound/dirbound/ldap/HostPort.equals
set_option maxRecDepth 65536 in
set_option maxHeartbeats 4000000 in
theorem au_126 (l : Launch) (Z : State) (a0 : Array Value) (hw : ∀ d ∈ tables_1, d.before a0 Z = true) (x0 : Addr) (x1 : Addr) (x2 : Addr) (p0 : Int32) (x4 : Addr) (p1 : Int32) (x6 : Addr) (x8 : Addr) (kk0 : ClassId) (us2 : List Int32) (p3 : Int32) (kk2 : ClassId) (us6 : List Int32) (p7 : Int32) (gz1 : Int32) (gv5 : Value) (h0 : Heap) (n0 : Nat) (Z0 : n0 ≤ h0.size) (O0 : Old Z n0 h0) (G : Glob Z gz1 gv5) (P1 : Fld Z h0 x0 "com/example/dirbound/dirbound/ldap/HostPort" "folded" "Ljava/lang/String;" (.ref x2)) (P3 : Fld Z h0 x0 "com/example/dirbound/dirbound/ldap/HostPort" "port" "I" (.int p0)) (P4 : Exa Z h0 x1 "com/example/dirbound/dirbound/ldap/HostPort") (P5 : Fld Z h0 x1 "com/example/dirbound/dirbound/ldap/HostPort" "folded" "Ljava/lang/String;" (.ref x4)) (P7 : Fld Z h0 x1 "com/example/dirbound/dirbound/ldap/HostPort" "port" "I" (.int p1)) (P8 : Exa Z h0 x2 "java/lang/String") (P9 : Fld Z h0 x2 "java/lang/String" "coder" "B" (.int 0)) (P10 : Fld Z h0 x2 "java/lang/String" "value" "[B" (.ref x6)) (P14 : Exa Z h0 x4 "java/lang/String") (P15 : Fld Z h0 x4 "java/lang/String" "coder" "B" (.int 0)) (P16 : Fld Z h0 x4 "java/lang/String" "value" "[B" (.ref x8)) (P20 : Arv Z h0 x6 kk0 .byte p3 (us2.map own_vb) (.int 0)) (P22 : Arv Z h0 x8 kk2 .byte p7 (us6.map own_vb) (.int 0)) (H0 : p3.toInt = us2.length) (H1 : own_lat us2) (H4 : p7.toInt = us6.length) (H5 : own_lat us6) (ne_x2_x4 : x2 ≠ x4) :
    Ctr l Z (⟨"com/example/dirbound/dirbound/ldap/HostPort", "equals", "(Ljava/lang/Object;)Z"⟩ : MethodName) prog_48_method_9_code 3 (some .boolean) ({ frames := 2, cells := 0, slots := 0, locals := 28 } : Room) #[(.ref x0), (.ref x1)] h0 (fun v h L => (p0 = p1 ∧ us2 = us6 ∧ v = some (.int 1) ∧ Fr n0 L ∧ h = h0) ∨ (p0 = p1 ∧ ¬ (us2 = us6) ∧ v = some (.int 0) ∧ Fr n0 L ∧ h = h0) ∨ (¬ (p0 = p1) ∧ v = some (.int 0) ∧ Fr n0 L ∧ h = h0)) := by
  refine Ctr.of (plainFor_of_name pn_c8) ?_
  intro p e s m below meth c T0 hx hZ hby hml hown hnm hret hlk e0 es X0
  refine Go.cast (ef_21_RR m x0 x1) ?_
  generalize hFF : EndN s _ _ _ = FF
  refine Go.aloadN X0 hx (pc' := 1) rfl (hb hby d21_0) rfl rfl ?_
  refine Go.instY X0 hx hZ hown (tw_128 hw) e0 (Ins.self P4) (pc' := 4) rfl (hb hby d21_1) ?_
  intro T1 e1 X1
  refine Go.ifNo X1 hx (pc' := 7) rfl (hb hby d21_4) (by decide) ?_
  refine Go.aloadN X1 hx (pc' := 8) rfl (hb hby d21_7) rfl rfl ?_
  refine Go.castY X1 hx hZ hown (tw_128 hw) e1 (Ins.self P4) (pc' := 11) rfl (hb hby d21_8) ?_
  intro T2 e2 X2
  refine Go.astoreN X2 hx (pc' := 12) rfl (hb hby d21_11) (Ls' := #[.val (.ref x0), .val (.ref x1), .val (.ref x1)]) rfl rfl ?_
  refine Go.aloadN X2 hx (pc' := 13) rfl (hb hby d21_12) rfl rfl ?_
  refine Go.getF X2 hx hZ hown (host := "") (Or.inl (tw_121 hw)) Via.refl e2 P3 (pc' := 16) rfl (hb hby d21_13) ?_
  intro T3 e3 X3
  refine Go.aloadN X3 hx (pc' := 17) rfl (hb hby d21_16) rfl rfl ?_
  refine Go.getF X3 hx hZ hown (host := "") (Or.inl (tw_121 hw)) Via.refl e3 P7 (pc' := 20) rfl (hb hby d21_17) ?_
  intro T4 e4 X4
  by_cases hc5 : p0 = p1
  · refine Go.icmpNo X4 hx (pc' := 23) rfl (hb hby d21_20) (teq hc5).2 ?_
    refine Go.aloadN X4 hx (pc' := 24) rfl (hb hby d21_23) rfl rfl ?_
    refine Go.getF X4 hx hZ hown (host := "") (Or.inl (tw_119 hw)) Via.refl e4 P1 (pc' := 27) rfl (hb hby d21_24) ?_
    intro T6 e6 X6
    refine Go.aloadN X6 hx (pc' := 28) rfl (hb hby d21_27) rfl rfl ?_
    refine Go.getF X6 hx hZ hown (host := "") (Or.inl (tw_119 hw)) Via.refl e6 P5 (pc' := 31) rfl (hb hby d21_28) ?_
    intro T7 e7 X7
    refine Go.callV X7 hx hZ hown (tw_130 hw) (tw_131 hw) (notFace_of_selects (args := #[]) (mvT hZ (tw_133 hw))) (tw_133 hw) (tw_132 hw) (by decide) (tw_134 hw) (tw_12 hw) (au_127 l Z a0 hw x2 x4 x6 x8 kk0 us2 p3 kk2 us6 p7 gz1 gv5 h0 n0 Z0 O0 G P9 P10 P14 P15 P16 P20 P22 H0 H1 H4 H5 ne_x2_x4) e7 P8 (argsL := [(.ref x4)]) (rest := []) (pc' := 34) rfl (by rw [hml]; rfl) (lenOf pd_30 rfl) rfl rfl (W := 0) (Nat.le_of_eq rfl) (by decide) (by decide) (by decide) (by decide) (hb hby d21_31) ?_
    intro v8 T8 L8 q8 X8
    rcases q8 with ⟨c8_0_0, rfl, N8_0, e8_0⟩ | ⟨c8_1_0, rfl, N8_1, e8_1⟩
    · show Go _ _ _ _ (T8.setTop (mkF m 34 #[.val (.ref x0), .val (.ref x1), .val (.ref x1)] [(.int 1)]))
      refine Go.ifNo X8 hx (pc' := 37) rfl (hb hby d21_34) (by decide) ?_
      refine Go.iconst X8 hx (pc' := 38) rfl (hb hby d21_37) (v := (1 : Int32)) rfl ?_
      refine Go.goto X8 hx (pc' := 42) (hb hby d21_38) (by decide) (by decide) ?_
      subst hFF
      refine Go.retN X8 hx hlk (t := .boolean) hret (by simp) (hb hby d21_42) (by decide) (by decide) ?_
      rw [e8_0]
      exact Or.inl ⟨hc5, c8_0_0, (congrArg (fun z => some (Value.int z)) (by decide : nar .boolean (1 : Int32) = (1 : Int32))), (Fr.app (Fr.nil n0) N8_0), rfl⟩
    · show Go _ _ _ _ (T8.setTop (mkF m 34 #[.val (.ref x0), .val (.ref x1), .val (.ref x1)] [(.int 0)]))
      refine Go.ifYes X8 hx (pc' := 41) (hb hby d21_34) (by decide) (by decide) (by decide) ?_
      refine Go.iconst X8 hx (pc' := 42) rfl (hb hby d21_41) (v := (0 : Int32)) rfl ?_
      subst hFF
      refine Go.retN X8 hx hlk (t := .boolean) hret (by simp) (hb hby d21_42) (by decide) (by decide) ?_
      rw [e8_1]
      exact Or.inr (Or.inl ⟨hc5, c8_1_0, (congrArg (fun z => some (Value.int z)) (by decide : nar .boolean (0 : Int32) = (0 : Int32))), (Fr.app (Fr.nil n0) N8_1), rfl⟩)
  · refine Go.icmpYes X4 hx (pc' := 41) (hb hby d21_20) (feq hc5).2 (by decide) (by decide) ?_
    refine Go.iconst X4 hx (pc' := 42) rfl (hb hby d21_41) (v := (0 : Int32)) rfl ?_
    subst hFF
    refine Go.retN X4 hx hlk (t := .boolean) hret (by simp) (hb hby d21_42) (by decide) (by decide) ?_
    rw [e4]
    exact Or.inr (Or.inr (⟨hc5, (congrArg (fun z => some (Value.int z)) (by decide : nar .boolean (0 : Int32) = (0 : Int32))), (Fr.nil n0), rfl⟩))
theorem d22_5 : decode jdk_42_method_66_code 5 = .ok (.iconst 1, 1) := by decide +kernel
theorem d22_6 : decode jdk_42_method_66_code 6 = .ok (.ireturn, 1) := by decide +kernel
-- java/lang/String.equals
set_option maxRecDepth 65536 in
set_option maxHeartbeats 4000000 in
theorem au_129 (l : Launch) (Z : State) (a0 : Array Value) (hw : ∀ d ∈ tables_1, d.before a0 Z = true) (x0 : Addr) (h0 : Heap) (n0 : Nat) (Z0 : n0 ≤ h0.size) :
    Ctr l Z (⟨"java/lang/String", "equals", "(Ljava/lang/Object;)Z"⟩ : MethodName) jdk_42_method_66_code 3 (some .boolean) ({ frames := 0, cells := 0, slots := 0, locals := 0 } : Room) #[(.ref x0), (.ref x0)] h0 (fun v h L => v = some (.int 1) ∧ Fr n0 L ∧ h = h0) := by
  refine Ctr.of (plainFor_of_name pn_c1) ?_
  intro p e s m below meth c T0 hx hZ hby hml hown hnm hret hlk e0 es X0
  refine Go.cast (ef_22_RR m x0 x0) ?_
  generalize hFF : EndN s _ _ _ = FF
  refine Go.aloadN X0 hx (pc' := 1) rfl (hb hby d22_0) rfl rfl ?_
  refine Go.aloadN X0 hx (pc' := 2) rfl (hb hby d22_1) rfl rfl ?_
  refine Go.acmp X0 hx (pc' := 5) (same := true) (hb hby d22_2) rfl rfl (decide_eq_true rfl) (by decide) (by decide) ?_
  refine Go.iconst X0 hx (pc' := 6) rfl (hb hby d22_5) (v := (1 : Int32)) rfl ?_
  subst hFF
  refine Go.retN X0 hx hlk (t := .boolean) hret (by simp) (hb hby d22_6) (by decide) (by decide) ?_
  rw [e0]
  exact ⟨(congrArg (fun z => some (Value.int z)) (by decide : nar .boolean (1 : Int32) = (1 : Int32))), (Fr.nil n0), rfl⟩
-- com/example/dirbound/dirbound/ldap/HostPort.equals
set_option maxRecDepth 65536 in
set_option maxHeartbeats 4000000 in
theorem au_128 (l : Launch) (Z : State) (a0 : Array Value) (hw : ∀ d ∈ tables_1, d.before a0 Z = true) (x0 : Addr) (x1 : Addr) (p0 : Int32) (h0 : Heap) (n0 : Nat) (Z0 : n0 ≤ h0.size) (P0 : Exa Z h0 x0 "com/example/dirbound/dirbound/ldap/HostPort") (P1 : Fld Z h0 x0 "com/example/dirbound/dirbound/ldap/HostPort" "folded" "Ljava/lang/String;" (.ref x1)) (P3 : Fld Z h0 x0 "com/example/dirbound/dirbound/ldap/HostPort" "port" "I" (.int p0)) (P4 : Exa Z h0 x1 "java/lang/String") :
    Ctr l Z (⟨"com/example/dirbound/dirbound/ldap/HostPort", "equals", "(Ljava/lang/Object;)Z"⟩ : MethodName) prog_48_method_9_code 3 (some .boolean) ({ frames := 1, cells := 0, slots := 0, locals := 14 } : Room) #[(.ref x0), (.ref x0)] h0 (fun v h L => v = some (.int 1) ∧ Fr n0 L ∧ h = h0) := by
  refine Ctr.of (plainFor_of_name pn_c8) ?_
  intro p e s m below meth c T0 hx hZ hby hml hown hnm hret hlk e0 es X0
  refine Go.cast (ef_21_RR m x0 x0) ?_
  generalize hFF : EndN s _ _ _ = FF
  refine Go.aloadN X0 hx (pc' := 1) rfl (hb hby d21_0) rfl rfl ?_
  refine Go.instY X0 hx hZ hown (tw_128 hw) e0 (Ins.self P0) (pc' := 4) rfl (hb hby d21_1) ?_
  intro T1 e1 X1
  refine Go.ifNo X1 hx (pc' := 7) rfl (hb hby d21_4) (by decide) ?_
  refine Go.aloadN X1 hx (pc' := 8) rfl (hb hby d21_7) rfl rfl ?_
  refine Go.castY X1 hx hZ hown (tw_128 hw) e1 (Ins.self P0) (pc' := 11) rfl (hb hby d21_8) ?_
  intro T2 e2 X2
  refine Go.astoreN X2 hx (pc' := 12) rfl (hb hby d21_11) (Ls' := #[.val (.ref x0), .val (.ref x0), .val (.ref x0)]) rfl rfl ?_
  refine Go.aloadN X2 hx (pc' := 13) rfl (hb hby d21_12) rfl rfl ?_
  refine Go.getF X2 hx hZ hown (host := "") (Or.inl (tw_121 hw)) Via.refl e2 P3 (pc' := 16) rfl (hb hby d21_13) ?_
  intro T3 e3 X3
  refine Go.aloadN X3 hx (pc' := 17) rfl (hb hby d21_16) rfl rfl ?_
  refine Go.getF X3 hx hZ hown (host := "") (Or.inl (tw_121 hw)) Via.refl e3 P3 (pc' := 20) rfl (hb hby d21_17) ?_
  intro T4 e4 X4
  refine Go.icmpNo X4 hx (pc' := 23) rfl (hb hby d21_20) (teq rfl).2 ?_
  refine Go.aloadN X4 hx (pc' := 24) rfl (hb hby d21_23) rfl rfl ?_
  refine Go.getF X4 hx hZ hown (host := "") (Or.inl (tw_119 hw)) Via.refl e4 P1 (pc' := 27) rfl (hb hby d21_24) ?_
  intro T5 e5 X5
  refine Go.aloadN X5 hx (pc' := 28) rfl (hb hby d21_27) rfl rfl ?_
  refine Go.getF X5 hx hZ hown (host := "") (Or.inl (tw_119 hw)) Via.refl e5 P1 (pc' := 31) rfl (hb hby d21_28) ?_
  intro T6 e6 X6
  refine Go.callV X6 hx hZ hown (tw_130 hw) (tw_131 hw) (notFace_of_selects (args := #[]) (mvT hZ (tw_133 hw))) (tw_133 hw) (tw_132 hw) (by decide) (tw_134 hw) (tw_12 hw) (au_129 l Z a0 hw x1 h0 n0 Z0) e6 P4 (argsL := [(.ref x1)]) (rest := []) (pc' := 34) rfl (by rw [hml]; rfl) (lenOf pd_30 rfl) rfl rfl (W := 0) (Nat.le_of_eq rfl) (by decide) (by decide) (by decide) (by decide) (hb hby d21_31) ?_
  intro v7 T7 L7 q7 X7
  obtain ⟨rfl, N7, e7⟩ := q7
  show Go _ _ _ _ (T7.setTop (mkF m 34 #[.val (.ref x0), .val (.ref x0), .val (.ref x0)] [(.int 1)]))
  refine Go.ifNo X7 hx (pc' := 37) rfl (hb hby d21_34) (by decide) ?_
  refine Go.iconst X7 hx (pc' := 38) rfl (hb hby d21_37) (v := (1 : Int32)) rfl ?_
  refine Go.goto X7 hx (pc' := 42) (hb hby d21_38) (by decide) (by decide) ?_
  subst hFF
  refine Go.retN X7 hx hlk (t := .boolean) hret (by simp) (hb hby d21_42) (by decide) (by decide) ?_
  rw [e7]
  exact ⟨(congrArg (fun z => some (Value.int z)) (by decide : nar .boolean (1 : Int32) = (1 : Int32))), (Fr.app (Fr.nil n0) N7), rfl⟩
theorem ef_21_RN (m : MethodId) (x0 : Addr)  : entryFrame m #[(.ref x0), .null] 3 = mkF m 0 #[.val (.ref x0), .val .null, .unset] [] := by first | (simp [entryFrame, mkF, argsToLocals, Value.category]; done) | rfl
-- com/example/dirbound/dirbound/ldap/HostPort.equals
set_option maxRecDepth 65536 in
set_option maxHeartbeats 4000000 in
theorem au_130 (l : Launch) (Z : State) (a0 : Array Value) (hw : ∀ d ∈ tables_1, d.before a0 Z = true) (x0 : Addr) (h0 : Heap) (n0 : Nat) (Z0 : n0 ≤ h0.size) :
    Ctr l Z (⟨"com/example/dirbound/dirbound/ldap/HostPort", "equals", "(Ljava/lang/Object;)Z"⟩ : MethodName) prog_48_method_9_code 3 (some .boolean) ({ frames := 0, cells := 0, slots := 0, locals := 0 } : Room) #[(.ref x0), .null] h0 (fun v h L => v = some (.int 0) ∧ Fr n0 L ∧ h = h0) := by
  refine Ctr.of (plainFor_of_name pn_c8) ?_
  intro p e s m below meth c T0 hx hZ hby hml hown hnm hret hlk e0 es X0
  refine Go.cast (ef_21_RN m x0) ?_
  generalize hFF : EndN s _ _ _ = FF
  refine Go.aloadN X0 hx (pc' := 1) rfl (hb hby d21_0) rfl rfl ?_
  refine Go.step (fun t kt => X0.instanceofNull hx (g := (mkF m 1 #[.val (.ref x0), .val .null, .unset] [.null])) rfl rfl (hb hby d21_1) t kt) ?_
  show Go _ _ _ _ (T0.setTop (mkF m 4 #[.val (.ref x0), .val .null, .unset] [(.int 0)]))
  refine Go.ifYes X0 hx (pc' := 41) (hb hby d21_4) (by decide) (by decide) (by decide) ?_
  refine Go.iconst X0 hx (pc' := 42) rfl (hb hby d21_41) (v := (0 : Int32)) rfl ?_
  subst hFF
  refine Go.retN X0 hx hlk (t := .boolean) hret (by simp) (hb hby d21_42) (by decide) (by decide) ?_
  rw [e0]
  exact ⟨(congrArg (fun z => some (Value.int z)) (by decide : nar .boolean (0 : Int32) = (0 : Int32))), (Fr.nil n0), rfl⟩
-- com/example/dirbound/dirbound/ldap/HostPort.equals
set_option maxRecDepth 65536 in
set_option maxHeartbeats 4000000 in
theorem au_131 (l : Launch) (Z : State) (a0 : Array Value) (hw : ∀ d ∈ tables_1, d.before a0 Z = true) (x0 : Addr) (x1 : Addr) (h0 : Heap) (n0 : Nat) (Z0 : n0 ≤ h0.size) (P4 : Exa Z h0 x1 "java/lang/String") :
    Ctr l Z (⟨"com/example/dirbound/dirbound/ldap/HostPort", "equals", "(Ljava/lang/Object;)Z"⟩ : MethodName) prog_48_method_9_code 3 (some .boolean) ({ frames := 0, cells := 0, slots := 0, locals := 0 } : Room) #[(.ref x0), (.ref x1)] h0 (fun v h L => v = some (.int 0) ∧ Fr n0 L ∧ h = h0) := by
  refine Ctr.of (plainFor_of_name pn_c8) ?_
  intro p e s m below meth c T0 hx hZ hby hml hown hnm hret hlk e0 es X0
  refine Go.cast (ef_21_RR m x0 x1) ?_
  generalize hFF : EndN s _ _ _ = FF
  refine Go.aloadN X0 hx (pc' := 1) rfl (hb hby d21_0) rfl rfl ?_
  refine Go.instN X0 hx hZ hown (tw_128 hw) e0 P4 (own_NSno (tw_135 hw) (tw_33 hw) (NS.step (tw_135 hw) (own_NSroot (tw_136 hw) (tw_33 hw) (by decide)) (by decide)) (by decide)) (pc' := 4) rfl (hb hby d21_1) ?_
  intro T1 e1 X1
  refine Go.ifYes X1 hx (pc' := 41) (hb hby d21_4) (by decide) (by decide) (by decide) ?_
  refine Go.iconst X1 hx (pc' := 42) rfl (hb hby d21_41) (v := (0 : Int32)) rfl ?_
  subst hFF
  refine Go.retN X1 hx hlk (t := .boolean) hret (by simp) (hb hby d21_42) (by decide) (by decide) ?_
  rw [e1]
  exact ⟨(congrArg (fun z => some (Value.int z)) (by decide : nar .boolean (0 : Int32) = (0 : Int32))), (Fr.nil n0), rfl⟩
theorem d38_0 : decode method_5_code 0 = .ok (.iload_n 0, 1) := by decide +kernel
theorem d38_1 : decode method_5_code 1 = .ok (.iload_n 1, 1) := by decide +kernel
theorem d38_2 : decode method_5_code 2 = .ok (.if_icmp .ne 5, 3) := by decide +kernel
theorem d38_5 : decode method_5_code 5 = .ok (.iconst 1, 1) := by decide +kernel
theorem d38_6 : decode method_5_code 6 = .ok (.ireturn, 1) := by decide +kernel
theorem d38_7 : decode method_5_code 7 = .ok (.iload_n 0, 1) := by decide +kernel
theorem d38_8 : decode method_5_code 8 = .ok (.bipush 32, 2) := by decide +kernel
theorem d38_10 : decode method_5_code 10 = .ok (.ior, 1) := by decide +kernel
theorem d38_11 : decode method_5_code 11 = .ok (.istore_n 2, 1) := by decide +kernel
theorem d38_12 : decode method_5_code 12 = .ok (.iload_n 0, 1) := by decide +kernel
theorem d38_13 : decode method_5_code 13 = .ok (.iload_n 1, 1) := by decide +kernel
theorem d38_14 : decode method_5_code 14 = .ok (.ixor, 1) := by decide +kernel
theorem d38_15 : decode method_5_code 15 = .ok (.bipush 32, 2) := by decide +kernel
theorem d38_17 : decode method_5_code 17 = .ok (.if_icmp .ne 19, 3) := by decide +kernel
theorem d38_20 : decode method_5_code 20 = .ok (.iload_n 2, 1) := by decide +kernel
theorem d38_21 : decode method_5_code 21 = .ok (.bipush 97, 2) := by decide +kernel
theorem d38_23 : decode method_5_code 23 = .ok (.if_icmp .lt 13, 3) := by decide +kernel
theorem d38_36 : decode method_5_code 36 = .ok (.iconst 0, 1) := by decide +kernel
theorem d38_37 : decode method_5_code 37 = .ok (.ireturn, 1) := by decide +kernel
theorem d38_26 : decode method_5_code 26 = .ok (.iload_n 2, 1) := by decide +kernel
theorem d38_27 : decode method_5_code 27 = .ok (.bipush 122, 2) := by decide +kernel
theorem d38_29 : decode method_5_code 29 = .ok (.if_icmp .gt 7, 3) := by decide +kernel
theorem d38_32 : decode method_5_code 32 = .ok (.iconst 1, 1) := by decide +kernel
theorem d38_33 : decode method_5_code 33 = .ok (.goto 4, 3) := by decide +kernel
theorem ef_38_II (m : MethodId) (x0 : Int32) (x1 : Int32) : entryFrame m #[(.int x0), (.int x1)] 3 = mkF m 0 #[.val (.int x0), .val (.int x1), .unset] [] := by first | (simp [entryFrame, mkF, argsToLocals, Value.category]; done) | rfl
-- com/example/dirbound/dirbound/ldap/HostPortEqualsPinLaw.same
set_option maxRecDepth 65536 in
set_option maxHeartbeats 4000000 in
theorem au_132 (l : Launch) (Z : State) (a0 : Array Value) (hw : ∀ d ∈ tables_1, d.before a0 Z = true) (p0 : Int32) (p1 : Int32) (h0 : Heap) (n0 : Nat) (Z0 : n0 ≤ h0.size) (R_p0 : 0 ≤ p0.toInt ∧ p0.toInt ≤ 255) (R_p1 : 0 ≤ p1.toInt ∧ p1.toInt ≤ 255) :
    Ctr l Z (⟨"com/example/dirbound/dirbound/ldap/HostPortEqualsPinLaw", "same", "(CC)Z"⟩ : MethodName) method_5_code 3 (some .boolean) ({ frames := 0, cells := 0, slots := 0, locals := 0 } : Room) #[(.int p0), (.int p1)] h0 (fun v h L => (∃ (y0 : Int32) (y1 : Int32), (own_fold p0) = y0 ∧ (own_fold p1) = y1 ∧ y0 = y1 ∧ v = some (.int 1) ∧ Fr n0 L ∧ h = h0) ∨ (∃ (y0 : Int32) (y1 : Int32), (own_fold p0) = y0 ∧ (own_fold p1) = y1 ∧ ¬ (y0 = y1) ∧ v = some (.int 0) ∧ Fr n0 L ∧ h = h0)) := by
  refine Ctr.of (plainFor_of_name pn_c0) ?_
  intro p e s m below meth c T0 hx hZ hby hml hown hnm hret hlk e0 es X0
  refine Go.cast (ef_38_II m p0 p1) ?_
  generalize hFF : EndN s _ _ _ = FF
  refine Go.iloadN X0 hx (pc' := 1) rfl (hb hby d38_0) rfl ?_
  refine Go.iloadN X0 hx (pc' := 2) rfl (hb hby d38_1) rfl ?_
  by_cases hc1 : p0 = p1
  · refine Go.icmpNo X0 hx (pc' := 5) rfl (hb hby d38_2) (teq hc1).2 ?_
    refine Go.iconst X0 hx (pc' := 6) rfl (hb hby d38_5) (v := (1 : Int32)) rfl ?_
    subst hFF
    refine Go.retN X0 hx hlk (t := .boolean) hret (by simp) (hb hby d38_6) (by decide) (by decide) ?_
    rw [e0]
    obtain ⟨lf, hlf⟩ : ∃ z, (own_fold p0) = z := ⟨_, rfl⟩
    obtain ⟨lg, hlg⟩ : ∃ z, (own_fold p1) = z := ⟨_, rfl⟩
    have hfg : lf = lg := by rw [← hlf, ← hlg, hc1]
    exact Or.inl ⟨lf, lg, hlf, hlg, hfg, (congrArg (fun z => some (Value.int z)) (by decide : nar .boolean (1 : Int32) = (1 : Int32))), (Fr.nil n0), rfl⟩
  · refine Go.icmpYes X0 hx (pc' := 7) (hb hby d38_2) (feq hc1).2 (by decide) (by decide) ?_
    refine Go.iloadN X0 hx (pc' := 8) rfl (hb hby d38_7) rfl ?_
    refine Go.bipush X0 hx (pc' := 10) rfl (hb hby d38_8) (v := (32 : Int32)) (by decide) ?_
    refine Go.ior X0 hx (pc' := 11) rfl (hb hby d38_10) ?_
    generalize hz2 : (p0 ||| (32 : Int32)) = z2
    refine Go.istoreN X0 hx (pc' := 12) rfl (hb hby d38_11) (Ls' := #[.val (.int p0), .val (.int p1), .val (.int z2)]) rfl ?_
    refine Go.iloadN X0 hx (pc' := 13) rfl (hb hby d38_12) rfl ?_
    refine Go.iloadN X0 hx (pc' := 14) rfl (hb hby d38_13) rfl ?_
    refine Go.ixor X0 hx (pc' := 15) rfl (hb hby d38_14) ?_
    generalize hz3 : (p0 ^^^ p1) = z3
    refine Go.bipush X0 hx (pc' := 17) rfl (hb hby d38_15) (v := (32 : Int32)) (by decide) ?_
    have r4 : 0 ≤ z3.toInt ∧ z3.toInt ≤ 255 := own_rxor hz3 (own_rw R_p0 (by decide) (by decide)) (own_rw R_p1 (by decide) (by decide))
    by_cases hc5 : z3 = (32 : Int32)
    · refine Go.icmpNo X0 hx (pc' := 20) rfl (hb hby d38_17) (teq hc5).2 ?_
      refine Go.iloadN X0 hx (pc' := 21) rfl (hb hby d38_20) rfl ?_
      refine Go.bipush X0 hx (pc' := 23) rfl (hb hby d38_21) (v := (97 : Int32)) (by decide) ?_
      have r6 : 0 ≤ z2.toInt ∧ z2.toInt ≤ 255 := own_ror hz2 (own_rw R_p0 (by decide) (by decide)) (own_rw (own_rlit (n := 32) (by decide)) (by decide) (by decide))
      by_cases hc7 : z2 < (97 : Int32)
      · refine Go.icmpYes X0 hx (pc' := 36) (hb hby d38_23) (tlt hc7).1 (by decide) (by decide) ?_
        refine Go.iconst X0 hx (pc' := 37) rfl (hb hby d38_36) (v := (0 : Int32)) rfl ?_
        subst hFF
        refine Go.retN X0 hx hlk (t := .boolean) hret (by simp) (hb hby d38_37) (by decide) (by decide) ?_
        rw [e0]
        obtain ⟨lf, hlf⟩ : ∃ z, (own_fold p0) = z := ⟨_, rfl⟩
        obtain ⟨lg, hlg⟩ : ∃ z, (own_fold p1) = z := ⟨_, rfl⟩
        have hfg : ¬ lf = lg := by
          intro q; rw [← hlf, ← hlg] at q; have m := own_fold_mate (own_rw R_p0 (by decide) (by decide)) (own_rw R_p1 (by decide) (by decide)) q hc1
          rw [hz3, hz2] at m
          exact absurd m.2.1 (Classical.not_not.mpr hc7)
        exact Or.inr (⟨lf, lg, hlf, hlg, hfg, (congrArg (fun z => some (Value.int z)) (by decide : nar .boolean (0 : Int32) = (0 : Int32))), (Fr.nil n0), rfl⟩)
      · refine Go.icmpNo X0 hx (pc' := 26) rfl (hb hby d38_23) (flt hc7).1 ?_
        refine Go.iloadN X0 hx (pc' := 27) rfl (hb hby d38_26) rfl ?_
        refine Go.bipush X0 hx (pc' := 29) rfl (hb hby d38_27) (v := (122 : Int32)) (by decide) ?_
        by_cases hc8 : (122 : Int32) < z2
        · refine Go.icmpYes X0 hx (pc' := 36) (hb hby d38_29) (tlt hc8).2.2.1 (by decide) (by decide) ?_
          refine Go.iconst X0 hx (pc' := 37) rfl (hb hby d38_36) (v := (0 : Int32)) rfl ?_
          subst hFF
          refine Go.retN X0 hx hlk (t := .boolean) hret (by simp) (hb hby d38_37) (by decide) (by decide) ?_
          rw [e0]
          obtain ⟨lf, hlf⟩ : ∃ z, (own_fold p0) = z := ⟨_, rfl⟩
          obtain ⟨lg, hlg⟩ : ∃ z, (own_fold p1) = z := ⟨_, rfl⟩
          have hfg : ¬ lf = lg := by
            intro q; rw [← hlf, ← hlg] at q; have m := own_fold_mate (own_rw R_p0 (by decide) (by decide)) (own_rw R_p1 (by decide) (by decide)) q hc1
            rw [hz3, hz2] at m
            exact absurd m.2.2 (Classical.not_not.mpr hc8)
          exact Or.inr (⟨lf, lg, hlf, hlg, hfg, (congrArg (fun z => some (Value.int z)) (by decide : nar .boolean (0 : Int32) = (0 : Int32))), (Fr.nil n0), rfl⟩)
        · refine Go.icmpNo X0 hx (pc' := 32) rfl (hb hby d38_29) (flt hc8).2.2.1 ?_
          refine Go.iconst X0 hx (pc' := 33) rfl (hb hby d38_32) (v := (1 : Int32)) rfl ?_
          refine Go.goto X0 hx (pc' := 37) (hb hby d38_33) (by decide) (by decide) ?_
          subst hFF
          refine Go.retN X0 hx hlk (t := .boolean) hret (by simp) (hb hby d38_37) (by decide) (by decide) ?_
          rw [e0]
          obtain ⟨lf, hlf⟩ : ∃ z, (own_fold p0) = z := ⟨_, rfl⟩
          obtain ⟨lg, hlg⟩ : ∃ z, (own_fold p1) = z := ⟨_, rfl⟩
          have hfg : lf = lg := by rw [← hlf, ← hlg]; exact own_fold_case (own_rw R_p0 (by decide) (by decide)) (hz3.trans hc5) (by rw [hz2]; exact hc7) (by rw [hz2]; exact hc8)
          exact Or.inl ⟨lf, lg, hlf, hlg, hfg, (congrArg (fun z => some (Value.int z)) (by decide : nar .boolean (1 : Int32) = (1 : Int32))), (Fr.nil n0), rfl⟩
    · refine Go.icmpYes X0 hx (pc' := 36) (hb hby d38_17) (feq hc5).2 (by decide) (by decide) ?_
      refine Go.iconst X0 hx (pc' := 37) rfl (hb hby d38_36) (v := (0 : Int32)) rfl ?_
      subst hFF
      refine Go.retN X0 hx hlk (t := .boolean) hret (by simp) (hb hby d38_37) (by decide) (by decide) ?_
      rw [e0]
      obtain ⟨lf, hlf⟩ : ∃ z, (own_fold p0) = z := ⟨_, rfl⟩
      obtain ⟨lg, hlg⟩ : ∃ z, (own_fold p1) = z := ⟨_, rfl⟩
      have r9 : 0 ≤ z2.toInt ∧ z2.toInt ≤ 255 := own_ror hz2 (own_rw R_p0 (by decide) (by decide)) (own_rw (own_rlit (n := 32) (by decide)) (by decide) (by decide))
      have hfg : ¬ lf = lg := by
        intro q; rw [← hlf, ← hlg] at q; have m := own_fold_mate (own_rw R_p0 (by decide) (by decide)) (own_rw R_p1 (by decide) (by decide)) q hc1
        rw [hz3, hz2] at m
        exact absurd m.1 hc5
      exact Or.inr (⟨lf, lg, hlf, hlg, hfg, (congrArg (fun z => some (Value.int z)) (by decide : nar .boolean (0 : Int32) = (0 : Int32))), (Fr.nil n0), rfl⟩)
theorem pd_31 : parseMethodDescriptor "(CC)Z" = some ⟨[.char, .char], some .boolean⟩ := by decide +kernel
theorem ef_0_IIIII (m : MethodId) (x0 : Int32) (x1 : Int32) (x2 : Int32) (x3 : Int32) (x4 : Int32) : entryFrame m #[(.int x0), (.int x1), (.int x2), (.int x3), (.int x4)] maxLocals = mkF m 0 #[.val (.int x0), .val (.int x1), .val (.int x2), .val (.int x3), .val (.int x4), .unset, .unset, .unset, .unset, .unset, .unset, .unset, .unset, .unset, .unset, .unset, .unset, .unset, .unset] [] := by first | (simp [entryFrame, mkF, argsToLocals, Value.category, maxLocals]; done) | rfl
set_option maxRecDepth 65536 in
set_option maxHeartbeats 40000000 in
theorem rm0 (l : Launch) (Z : State) (a0 : Array Value) (hw : ∀ d ∈ tables_1, d.before a0 Z = true) (p0 : Int32) (p1 : Int32) (p2 : Int32) (p3 : Int32) (p4 : Int32) (gz1 : Int32) (gv5 : Value) (h0 : Heap) (n0 : Nat) (Z0 : n0 ≤ h0.size) (O0 : Old Z n0 h0) (G : Glob Z gz1 gv5) :
    CtrW l Z EL0 x code maxLocals ret room_1 #[(.int p0), (.int p1), (.int p2), (.int p3), (.int p4)] h0 [] (fun v vm h L => v = some (.int (1 : Int32)) ∧ Fr n0 L) := by
  refine CtrW.of (plainFor_of_name pn_c0) ?_
  intro p e s m below meth c T0 hx hZ hby hml hown hnm hret hlk e0 es hS0 C0 hsf X0
  refine Go.cast (ef_0_IIIII m p0 p1 p2 p3 p4) ?_
  refine Go.iload X0 hx (pc' := 2) rfl (hb hby at_0) rfl ?_
  refine Go.iconst X0 hx (pc' := 3) rfl (hb hby at_2) (v := (3 : Int32)) rfl ?_
  refine Go.iand X0 hx (pc' := 4) rfl (hb hby at_3) ?_
  generalize hz1 : (p4 &&& (3 : Int32)) = z1
  refine Go.istore X0 hx (pc' := 6) rfl (hb hby at_4) (Ls' := #[.val (.int p0), .val (.int p1), .val (.int p2), .val (.int p3), .val (.int p4), .val (.int z1), .unset, .unset, .unset, .unset, .unset, .unset, .unset, .unset, .unset, .unset, .unset, .unset, .unset]) rfl ?_
  have J2 : ∀ (jv2_6 : Int32), (0 ≤ jv2_6.toInt ∧ jv2_6.toInt ≤ 3) → Go p e below (EndW Z EL0 s (fun v vm h L => v = some (.int (1 : Int32)) ∧ Fr n0 L) room_1.cells room_1.slots) (T0.setTop (mkF m 29 #[.val (.int p0), .val (.int p1), .val (.int p2), .val (.int p3), .val (.int p4), .val (.int z1), .val (.int jv2_6), .unset, .unset, .unset, .unset, .unset, .unset, .unset, .unset, .unset, .unset, .unset, .unset] [])) := by
    intro jv2_6 jr2_6
    refine Go.iloadN X0 hx (pc' := 30) rfl (hb hby at_29) rfl ?_
    refine Go.iconst X0 hx (pc' := 31) rfl (hb hby at_30) (v := (0 : Int32)) rfl ?_
    refine Go.callS X0 hx hZ hown (tw_0 hw) (tw_1 hw) (tw_2 hw) (tw_3 hw) (by decide) (tw_3 hw) (tw_2 hw) (au_1 l Z a0 hw p0 h0 n0 Z0) e0 (argsL := [(.int p0), (.int 0)]) (rest := []) (pc' := 34) rfl (by rw [hml]; rfl) (lenOf pd_0 rfl) rfl rfl (W := 0) (Nat.le_of_eq rfl) (by decide) (by decide) (by decide) (by decide) (hb hby at_31) ?_
    intro v3 T3 L3 q3 X3
    obtain ⟨z3_0, z3_1, d3_0, d3_1, rfl, N3, e3⟩ := q3
    show Go _ _ _ _ (T3.setTop (mkF m 34 #[.val (.int p0), .val (.int p1), .val (.int p2), .val (.int p3), .val (.int p4), .val (.int z1), .val (.int jv2_6), .unset, .unset, .unset, .unset, .unset, .unset, .unset, .unset, .unset, .unset, .unset, .unset] [(.int z3_0)]))
    refine Go.istore X3 hx (pc' := 36) rfl (hb hby at_34) (Ls' := #[.val (.int p0), .val (.int p1), .val (.int p2), .val (.int p3), .val (.int p4), .val (.int z1), .val (.int jv2_6), .val (.int z3_0), .unset, .unset, .unset, .unset, .unset, .unset, .unset, .unset, .unset, .unset, .unset]) rfl ?_
    refine Go.iloadN X3 hx (pc' := 37) rfl (hb hby at_36) rfl ?_
    refine Go.iconst X3 hx (pc' := 38) rfl (hb hby at_37) (v := (1 : Int32)) rfl ?_
    refine Go.callS X3 hx hZ hown (tw_0 hw) (tw_1 hw) (tw_2 hw) (tw_3 hw) (by decide) (tw_3 hw) (tw_2 hw) (au_2 l Z a0 hw p0 h0 n0 Z0) e3 (argsL := [(.int p0), (.int 1)]) (rest := []) (pc' := 41) rfl (by rw [hml]; rfl) (lenOf pd_0 rfl) rfl rfl (W := 0) (Nat.le_of_eq rfl) (by decide) (by decide) (by decide) (by decide) (hb hby at_38) ?_
    intro v4 T4 L4 q4 X4
    obtain ⟨z4_0, z4_1, d4_0, d4_1, rfl, N4, e4⟩ := q4
    show Go _ _ _ _ (T4.setTop (mkF m 41 #[.val (.int p0), .val (.int p1), .val (.int p2), .val (.int p3), .val (.int p4), .val (.int z1), .val (.int jv2_6), .val (.int z3_0), .unset, .unset, .unset, .unset, .unset, .unset, .unset, .unset, .unset, .unset, .unset] [(.int z4_0)]))
    refine Go.istore X4 hx (pc' := 43) rfl (hb hby at_41) (Ls' := #[.val (.int p0), .val (.int p1), .val (.int p2), .val (.int p3), .val (.int p4), .val (.int z1), .val (.int jv2_6), .val (.int z3_0), .val (.int z4_0), .unset, .unset, .unset, .unset, .unset, .unset, .unset, .unset, .unset, .unset]) rfl ?_
    refine Go.iloadN X4 hx (pc' := 44) rfl (hb hby at_43) rfl ?_
    refine Go.iconst X4 hx (pc' := 45) rfl (hb hby at_44) (v := (2 : Int32)) rfl ?_
    refine Go.callS X4 hx hZ hown (tw_0 hw) (tw_1 hw) (tw_2 hw) (tw_3 hw) (by decide) (tw_3 hw) (tw_2 hw) (au_3 l Z a0 hw p0 h0 n0 Z0) e4 (argsL := [(.int p0), (.int 2)]) (rest := []) (pc' := 48) rfl (by rw [hml]; rfl) (lenOf pd_0 rfl) rfl rfl (W := 0) (Nat.le_of_eq rfl) (by decide) (by decide) (by decide) (by decide) (hb hby at_45) ?_
    intro v5 T5 L5 q5 X5
    obtain ⟨z5_0, z5_1, d5_0, d5_1, rfl, N5, e5⟩ := q5
    show Go _ _ _ _ (T5.setTop (mkF m 48 #[.val (.int p0), .val (.int p1), .val (.int p2), .val (.int p3), .val (.int p4), .val (.int z1), .val (.int jv2_6), .val (.int z3_0), .val (.int z4_0), .unset, .unset, .unset, .unset, .unset, .unset, .unset, .unset, .unset, .unset] [(.int z5_0)]))
    refine Go.istore X5 hx (pc' := 50) rfl (hb hby at_48) (Ls' := #[.val (.int p0), .val (.int p1), .val (.int p2), .val (.int p3), .val (.int p4), .val (.int z1), .val (.int jv2_6), .val (.int z3_0), .val (.int z4_0), .val (.int z5_0), .unset, .unset, .unset, .unset, .unset, .unset, .unset, .unset, .unset]) rfl ?_
    refine Go.iload X5 hx (pc' := 52) rfl (hb hby at_50) rfl ?_
    refine Go.iloadN X5 hx (pc' := 53) rfl (hb hby at_52) rfl ?_
    refine Go.iconst X5 hx (pc' := 54) rfl (hb hby at_53) (v := (0 : Int32)) rfl ?_
    refine Go.callS X5 hx hZ hown (tw_0 hw) (tw_1 hw) (tw_2 hw) (tw_3 hw) (by decide) (tw_3 hw) (tw_2 hw) (au_1 l Z a0 hw p1 h0 n0 Z0) e5 (argsL := [(.int p1), (.int 0)]) (rest := [(.int z3_0)]) (pc' := 57) rfl (by rw [hml]; rfl) (lenOf pd_0 rfl) rfl rfl (W := 1) (Nat.le_of_eq rfl) (by decide) (by decide) (by decide) (by decide) (hb hby at_54) ?_
    intro v6 T6 L6 q6 X6
    obtain ⟨z6_0, z6_1, d6_0, d6_1, rfl, N6, e6⟩ := q6
    show Go _ _ _ _ (T6.setTop (mkF m 57 #[.val (.int p0), .val (.int p1), .val (.int p2), .val (.int p3), .val (.int p4), .val (.int z1), .val (.int jv2_6), .val (.int z3_0), .val (.int z4_0), .val (.int z5_0), .unset, .unset, .unset, .unset, .unset, .unset, .unset, .unset, .unset] [(.int z6_0), (.int z3_0)]))
    refine Go.iload X6 hx (pc' := 59) rfl (hb hby at_57) rfl ?_
    refine Go.iconst X6 hx (pc' := 60) rfl (hb hby at_59) (v := (4 : Int32)) rfl ?_
    refine Go.iushr X6 hx (pc' := 61) rfl (hb hby at_60) ?_
    generalize hz7 : ((p4.toUInt32 >>> ((4 : Int32) &&& 31).toUInt32).toInt32) = z7
    refine Go.iconst X6 hx (pc' := 62) rfl (hb hby at_61) (v := (3 : Int32)) rfl ?_
    refine Go.iand X6 hx (pc' := 63) rfl (hb hby at_62) ?_
    have r8 : 0 ≤ z7.toInt ∧ z7.toInt ≤ 268435455 := own_rushr hz7 (k := 4) (by decide) (by decide) (by decide)
    generalize hz9 : (z7 &&& (3 : Int32)) = z9
    have r10 : 0 ≤ z3_0.toInt ∧ z3_0.toInt ≤ 255 := own_rand d3_1 (by decide)
    have r11 : 0 ≤ z6_0.toInt ∧ z6_0.toInt ≤ 255 := own_rand d6_1 (by decide)
    have r12 : 0 ≤ z9.toInt ∧ z9.toInt ≤ 3 := own_rand hz9 (by decide)
    refine Go.callS X6 hx hZ hown (tw_4 hw) (tw_5 hw) (tw_2 hw) (tw_6 hw) (by decide) (tw_6 hw) (tw_2 hw) (au_4 l Z a0 hw z3_0 z6_0 z9 h0 n0 Z0 r10 r11) e6 (argsL := [(.int z3_0), (.int z6_0), (.int z9)]) (rest := []) (pc' := 66) rfl (by rw [hml]; rfl) (lenOf pd_1 rfl) rfl rfl (W := 0) (Nat.le_of_eq rfl) (by decide) (by decide) (by decide) (by decide) (hb hby at_63) ?_
    intro v13 T13 L13 q13 X13
    obtain ⟨z13_0, w13, rfl, N13, e13⟩ := q13
    show Go _ _ _ _ (T13.setTop (mkF m 66 #[.val (.int p0), .val (.int p1), .val (.int p2), .val (.int p3), .val (.int p4), .val (.int z1), .val (.int jv2_6), .val (.int z3_0), .val (.int z4_0), .val (.int z5_0), .unset, .unset, .unset, .unset, .unset, .unset, .unset, .unset, .unset] [(.int z13_0)]))
    refine Go.istore X13 hx (pc' := 68) rfl (hb hby at_66) (Ls' := #[.val (.int p0), .val (.int p1), .val (.int p2), .val (.int p3), .val (.int p4), .val (.int z1), .val (.int jv2_6), .val (.int z3_0), .val (.int z4_0), .val (.int z5_0), .val (.int z13_0), .unset, .unset, .unset, .unset, .unset, .unset, .unset, .unset]) rfl ?_
    refine Go.iload X13 hx (pc' := 70) rfl (hb hby at_68) rfl ?_
    refine Go.iloadN X13 hx (pc' := 71) rfl (hb hby at_70) rfl ?_
    refine Go.iconst X13 hx (pc' := 72) rfl (hb hby at_71) (v := (1 : Int32)) rfl ?_
    refine Go.callS X13 hx hZ hown (tw_0 hw) (tw_1 hw) (tw_2 hw) (tw_3 hw) (by decide) (tw_3 hw) (tw_2 hw) (au_2 l Z a0 hw p1 h0 n0 Z0) e13 (argsL := [(.int p1), (.int 1)]) (rest := [(.int z4_0)]) (pc' := 75) rfl (by rw [hml]; rfl) (lenOf pd_0 rfl) rfl rfl (W := 1) (Nat.le_of_eq rfl) (by decide) (by decide) (by decide) (by decide) (hb hby at_72) ?_
    intro v14 T14 L14 q14 X14
    obtain ⟨z14_0, z14_1, d14_0, d14_1, rfl, N14, e14⟩ := q14
    show Go _ _ _ _ (T14.setTop (mkF m 75 #[.val (.int p0), .val (.int p1), .val (.int p2), .val (.int p3), .val (.int p4), .val (.int z1), .val (.int jv2_6), .val (.int z3_0), .val (.int z4_0), .val (.int z5_0), .val (.int z13_0), .unset, .unset, .unset, .unset, .unset, .unset, .unset, .unset] [(.int z14_0), (.int z4_0)]))
    refine Go.iload X14 hx (pc' := 77) rfl (hb hby at_75) rfl ?_
    refine Go.bipush X14 hx (pc' := 79) rfl (hb hby at_77) (v := (6 : Int32)) (by decide) ?_
    refine Go.iushr X14 hx (pc' := 80) rfl (hb hby at_79) ?_
    generalize hz15 : ((p4.toUInt32 >>> ((6 : Int32) &&& 31).toUInt32).toInt32) = z15
    refine Go.iconst X14 hx (pc' := 81) rfl (hb hby at_80) (v := (3 : Int32)) rfl ?_
    refine Go.iand X14 hx (pc' := 82) rfl (hb hby at_81) ?_
    have r16 : 0 ≤ z15.toInt ∧ z15.toInt ≤ 67108863 := own_rushr hz15 (k := 6) (by decide) (by decide) (by decide)
    generalize hz17 : (z15 &&& (3 : Int32)) = z17
    have r18 : 0 ≤ z4_0.toInt ∧ z4_0.toInt ≤ 255 := own_rand d4_1 (by decide)
    have r19 : 0 ≤ z14_0.toInt ∧ z14_0.toInt ≤ 255 := own_rand d14_1 (by decide)
    have r20 : 0 ≤ z17.toInt ∧ z17.toInt ≤ 3 := own_rand hz17 (by decide)
    refine Go.callS X14 hx hZ hown (tw_4 hw) (tw_5 hw) (tw_2 hw) (tw_6 hw) (by decide) (tw_6 hw) (tw_2 hw) (au_4 l Z a0 hw z4_0 z14_0 z17 h0 n0 Z0 r18 r19) e14 (argsL := [(.int z4_0), (.int z14_0), (.int z17)]) (rest := []) (pc' := 85) rfl (by rw [hml]; rfl) (lenOf pd_1 rfl) rfl rfl (W := 0) (Nat.le_of_eq rfl) (by decide) (by decide) (by decide) (by decide) (hb hby at_82) ?_
    intro v21 T21 L21 q21 X21
    obtain ⟨z21_0, w21, rfl, N21, e21⟩ := q21
    show Go _ _ _ _ (T21.setTop (mkF m 85 #[.val (.int p0), .val (.int p1), .val (.int p2), .val (.int p3), .val (.int p4), .val (.int z1), .val (.int jv2_6), .val (.int z3_0), .val (.int z4_0), .val (.int z5_0), .val (.int z13_0), .unset, .unset, .unset, .unset, .unset, .unset, .unset, .unset] [(.int z21_0)]))
    refine Go.istore X21 hx (pc' := 87) rfl (hb hby at_85) (Ls' := #[.val (.int p0), .val (.int p1), .val (.int p2), .val (.int p3), .val (.int p4), .val (.int z1), .val (.int jv2_6), .val (.int z3_0), .val (.int z4_0), .val (.int z5_0), .val (.int z13_0), .val (.int z21_0), .unset, .unset, .unset, .unset, .unset, .unset, .unset]) rfl ?_
    refine Go.iload X21 hx (pc' := 89) rfl (hb hby at_87) rfl ?_
    refine Go.iloadN X21 hx (pc' := 90) rfl (hb hby at_89) rfl ?_
    refine Go.iconst X21 hx (pc' := 91) rfl (hb hby at_90) (v := (2 : Int32)) rfl ?_
    refine Go.callS X21 hx hZ hown (tw_0 hw) (tw_1 hw) (tw_2 hw) (tw_3 hw) (by decide) (tw_3 hw) (tw_2 hw) (au_3 l Z a0 hw p1 h0 n0 Z0) e21 (argsL := [(.int p1), (.int 2)]) (rest := [(.int z5_0)]) (pc' := 94) rfl (by rw [hml]; rfl) (lenOf pd_0 rfl) rfl rfl (W := 1) (Nat.le_of_eq rfl) (by decide) (by decide) (by decide) (by decide) (hb hby at_91) ?_
    intro v22 T22 L22 q22 X22
    obtain ⟨z22_0, z22_1, d22_0, d22_1, rfl, N22, e22⟩ := q22
    show Go _ _ _ _ (T22.setTop (mkF m 94 #[.val (.int p0), .val (.int p1), .val (.int p2), .val (.int p3), .val (.int p4), .val (.int z1), .val (.int jv2_6), .val (.int z3_0), .val (.int z4_0), .val (.int z5_0), .val (.int z13_0), .val (.int z21_0), .unset, .unset, .unset, .unset, .unset, .unset, .unset] [(.int z22_0), (.int z5_0)]))
    refine Go.iload X22 hx (pc' := 96) rfl (hb hby at_94) rfl ?_
    refine Go.bipush X22 hx (pc' := 98) rfl (hb hby at_96) (v := (8 : Int32)) (by decide) ?_
    refine Go.iushr X22 hx (pc' := 99) rfl (hb hby at_98) ?_
    generalize hz23 : ((p4.toUInt32 >>> ((8 : Int32) &&& 31).toUInt32).toInt32) = z23
    refine Go.iconst X22 hx (pc' := 100) rfl (hb hby at_99) (v := (3 : Int32)) rfl ?_
    refine Go.iand X22 hx (pc' := 101) rfl (hb hby at_100) ?_
    have r24 : 0 ≤ z23.toInt ∧ z23.toInt ≤ 16777215 := own_rushr hz23 (k := 8) (by decide) (by decide) (by decide)
    generalize hz25 : (z23 &&& (3 : Int32)) = z25
    have r26 : 0 ≤ z5_0.toInt ∧ z5_0.toInt ≤ 255 := own_rand d5_1 (by decide)
    have r27 : 0 ≤ z22_0.toInt ∧ z22_0.toInt ≤ 255 := own_rand d22_1 (by decide)
    have r28 : 0 ≤ z25.toInt ∧ z25.toInt ≤ 3 := own_rand hz25 (by decide)
    refine Go.callS X22 hx hZ hown (tw_4 hw) (tw_5 hw) (tw_2 hw) (tw_6 hw) (by decide) (tw_6 hw) (tw_2 hw) (au_4 l Z a0 hw z5_0 z22_0 z25 h0 n0 Z0 r26 r27) e22 (argsL := [(.int z5_0), (.int z22_0), (.int z25)]) (rest := []) (pc' := 104) rfl (by rw [hml]; rfl) (lenOf pd_1 rfl) rfl rfl (W := 0) (Nat.le_of_eq rfl) (by decide) (by decide) (by decide) (by decide) (hb hby at_101) ?_
    intro v29 T29 L29 q29 X29
    obtain ⟨z29_0, w29, rfl, N29, e29⟩ := q29
    show Go _ _ _ _ (T29.setTop (mkF m 104 #[.val (.int p0), .val (.int p1), .val (.int p2), .val (.int p3), .val (.int p4), .val (.int z1), .val (.int jv2_6), .val (.int z3_0), .val (.int z4_0), .val (.int z5_0), .val (.int z13_0), .val (.int z21_0), .unset, .unset, .unset, .unset, .unset, .unset, .unset] [(.int z29_0)]))
    refine Go.istore X29 hx (pc' := 106) rfl (hb hby at_104) (Ls' := #[.val (.int p0), .val (.int p1), .val (.int p2), .val (.int p3), .val (.int p4), .val (.int z1), .val (.int jv2_6), .val (.int z3_0), .val (.int z4_0), .val (.int z5_0), .val (.int z13_0), .val (.int z21_0), .val (.int z29_0), .unset, .unset, .unset, .unset, .unset, .unset]) rfl ?_
    have J30 : ∀ (jv30_13 : Int32),  Go p e below (EndW Z EL0 s (fun v vm h L => v = some (.int (1 : Int32)) ∧ Fr n0 L) room_1.cells room_1.slots) (T29.setTop (mkF m 123 #[.val (.int p0), .val (.int p1), .val (.int p2), .val (.int p3), .val (.int p4), .val (.int z1), .val (.int jv2_6), .val (.int z3_0), .val (.int z4_0), .val (.int z5_0), .val (.int z13_0), .val (.int z21_0), .val (.int z29_0), .val (.int jv30_13), .unset, .unset, .unset, .unset, .unset] [])) := by
      intro jv30_13 
      refine Go.iload X29 hx (pc' := 125) rfl (hb hby at_123) rfl ?_
      refine Go.iload X29 hx (pc' := 127) rfl (hb hby at_125) rfl ?_
      refine Go.iload X29 hx (pc' := 129) rfl (hb hby at_127) rfl ?_
      refine Go.iload X29 hx (pc' := 131) rfl (hb hby at_129) rfl ?_
      have r31 : 0 ≤ z1.toInt ∧ z1.toInt ≤ 3 := own_rand hz1 (by decide)
      refine Go.callSW X29 hx hZ hown (tw_7 hw) (tw_8 hw) (tw_2 hw) (tw_9 hw) (by decide) (tw_9 hw) (tw_2 hw) (au_10 l Z a0 hw z1 z3_0 z4_0 z5_0 gz1 gv5 h0 n0 Z0 O0 G r31 r10 r18 r26) (own_EW hw) C0.1 all0 hS0 (Nat.le_refl _) e29 (argsL := [(.int z1), (.int z3_0), (.int z4_0), (.int z5_0)]) (rest := []) (pc' := 134) rfl (by rw [hml]; rfl) (lenOf pd_11 rfl) rfl rfl (W := 0) (Nat.le_of_eq rfl) (by decide) (by decide) (by decide) (by decide) (hb hby at_131) ?_
      intro v32 T32 L32 h32 e32 q32 C32 S32 Z32 O32 X32
      obtain ⟨z32_0, z32_1, b32_0, b32_1, k32_0, d32_0, c32_0, c32_1, rfl, N32, K32, s32_0, y32_0, F32_0, F32_1, F32_2, F32_3⟩ := q32
      show Go _ _ _ _ (T32.setTop (mkF m 134 #[.val (.int p0), .val (.int p1), .val (.int p2), .val (.int p3), .val (.int p4), .val (.int z1), .val (.int jv2_6), .val (.int z3_0), .val (.int z4_0), .val (.int z5_0), .val (.int z13_0), .val (.int z21_0), .val (.int z29_0), .val (.int jv30_13), .unset, .unset, .unset, .unset, .unset] [(.ref b32_0)]))
      refine Go.astore X32 hx (pc' := 136) rfl (hb hby at_134) (Ls' := #[.val (.int p0), .val (.int p1), .val (.int p2), .val (.int p3), .val (.int p4), .val (.int z1), .val (.int jv2_6), .val (.int z3_0), .val (.int z4_0), .val (.int z5_0), .val (.int z13_0), .val (.int z21_0), .val (.int z29_0), .val (.int jv30_13), .val (.ref b32_0), .unset, .unset, .unset, .unset]) rfl rfl ?_
      refine Go.iload X32 hx (pc' := 138) rfl (hb hby at_136) rfl ?_
      refine Go.iload X32 hx (pc' := 140) rfl (hb hby at_138) rfl ?_
      refine Go.iload X32 hx (pc' := 142) rfl (hb hby at_140) rfl ?_
      refine Go.iload X32 hx (pc' := 144) rfl (hb hby at_142) rfl ?_
      have Kp34 : Keep h0 h32 [] := ((Keep.refl h0 []).trans K32 all0)
      have Zn33 : n0 ≤ h32.size := Nat.le_trans Z0 Kp34.1
      have O35 := (O0.keep K32 all0)
      have C36 : CHr Z EL0 s.vm s.heap T32.vm h32 := (C0.trans C32)
      refine Go.callSW X32 hx Z32 O32 (tw_7 hw) (tw_8 hw) (tw_2 hw) (tw_9 hw) (by decide) (tw_9 hw) (tw_2 hw) (au_10 l Z a0 hw jv2_6 z13_0 z21_0 z29_0 gz1 gv5 h32 n0 Zn33 O35 G jr2_6 w13 w21 w29) (own_EW hw) C36.1 all0 S32 (Nat.le_refl _) e32 (argsL := [(.int jv2_6), (.int z13_0), (.int z21_0), (.int z29_0)]) (rest := []) (pc' := 147) rfl (by rw [hml]; rfl) (lenOf pd_11 rfl) rfl rfl (W := 0) (Nat.le_of_eq rfl) (by decide) (by decide) (by decide) (by decide) (hb hby at_144) ?_
      intro v37 T37 L37 h37 e37 q37 C37 S37 Z37 O37 X37
      obtain ⟨z37_0, z37_1, b37_0, b37_1, k37_0, d37_0, c37_0, c37_1, rfl, N37, K37, s37_0, y37_0, F37_0, F37_1, F37_2, F37_3⟩ := q37
      show Go _ _ _ _ (T37.setTop (mkF m 147 #[.val (.int p0), .val (.int p1), .val (.int p2), .val (.int p3), .val (.int p4), .val (.int z1), .val (.int jv2_6), .val (.int z3_0), .val (.int z4_0), .val (.int z5_0), .val (.int z13_0), .val (.int z21_0), .val (.int z29_0), .val (.int jv30_13), .val (.ref b32_0), .unset, .unset, .unset, .unset] [(.ref b37_0)]))
      refine Go.astore X37 hx (pc' := 149) rfl (hb hby at_147) (Ls' := #[.val (.int p0), .val (.int p1), .val (.int p2), .val (.int p3), .val (.int p4), .val (.int z1), .val (.int jv2_6), .val (.int z3_0), .val (.int z4_0), .val (.int z5_0), .val (.int z13_0), .val (.int z21_0), .val (.int z29_0), .val (.int jv30_13), .val (.ref b32_0), .val (.ref b37_0), .unset, .unset, .unset]) rfl rfl ?_
      refine Go.new X37 hx Z37 O37 (tw_32 hw) (tw_33 hw) (tw_34 hw) e37 (by decide) (by decide) (pc' := 152) rfl (hb hby at_149) ?_
      intro T38 h38 b38 e38 E38 g38 A38 D38 X38
      have b38_host : Fld Z h38 b38 "com/example/dirbound/dirbound/ldap/HostPort" "host" "Ljava/lang/String;" .null := D38 (Or.inr (tw_40 hw)) (ty := (.object "java/lang/String")) (by decide)
      have b38_folded : Fld Z h38 b38 "com/example/dirbound/dirbound/ldap/HostPort" "folded" "Ljava/lang/String;" .null := D38 (Or.inr (tw_120 hw)) (ty := (.object "java/lang/String")) (by decide)
      have b38_port : Fld Z h38 b38 "com/example/dirbound/dirbound/ldap/HostPort" "port" "I" (.int 0) := D38 (Or.inr (tw_122 hw)) (ty := .int) (by decide)
      refine Go.dup X38 hx (pc' := 153) rfl (hb hby at_152) rfl ?_
      refine Go.aload X38 hx (pc' := 155) rfl (hb hby at_153) rfl rfl ?_
      refine Go.iloadN X38 hx (pc' := 156) rfl (hb hby at_155) rfl ?_
      have Kp40 : Keep h0 h37 [] := (Kp34.trans K37 all0)
      have Kp41 : Keep h0 h38 [] := (Kp40.ext E38)
      have Zn39 : n0 ≤ h38.size := Nat.le_trans Z0 Kp41.1
      have O42 := (O35.keep K37 all0)
      have O43 := (O42.ext E38)
      have fk44 : Exa Z h38 b32_0 "java/lang/String" := ((F32_0.keep K37).ext E38)
      have fk45 : Fld Z h38 b32_0 "java/lang/String" "coder" "B" (.int 0) := ((F32_1.keep K37 nin0).ext E38)
      have fk46 : Fld Z h38 b32_0 "java/lang/String" "value" "[B" (.ref b32_1) := ((F32_2.keep K37 nin0).ext E38)
      have fk47 := ((F32_3.keep K37 nin0).ext E38)
      have sz49 : h0.size ≤ b38 := Nat.le_trans Kp40.1 (Nat.le_of_eq g38.symm)
      have ge48 : n0 ≤ b38 := Nat.le_trans Z0 sz49
      have fk51 : Exa Z h37 b32_0 "java/lang/String" := (F32_0.keep K37)
      have ne50 : b32_0 ≠ b38 := Nat.ne_of_lt (Nat.lt_of_lt_of_le fk51.lt (Nat.le_of_eq g38.symm))
      have fk53 := (F32_3.keep K37 nin0)
      have ne52 : b32_1 ≠ b38 := Nat.ne_of_lt (Nat.lt_of_lt_of_le fk53.lt (Nat.le_of_eq g38.symm))
      refine Go.callN X38 hx Z37 O37 rfl (tw_35 hw) (tw_36 hw) (tw_37 hw) (by decide) (tw_37 hw) (tw_34 hw) (au_25 l Z a0 hw b38 b32_0 p2 b32_1 k32_0 z32_1 z32_0 gz1 gv5 h38 n0 Zn39 O43 G A38 b38_folded b38_host b38_port fk44 fk45 fk46 fk47 c32_0 c32_1 ge48 ne50 ne52) e38 (a := b38) (argsL := [(.ref b32_0), (.int p2)]) (rest := [(.ref b38)]) (pc' := 159) rfl (by rw [hml]; rfl) (lenOf pd_28 rfl) rfl rfl (W := 1) (Nat.le_of_eq rfl) (by decide) (by decide) (by decide) (by decide) (hb hby at_156) ?_
      intro v54 T54 L54 q54 X54
      obtain ⟨h54, e54⟩ : ∃ z, T54.heap = z := ⟨_, rfl⟩
      rw [e54] at q54
      obtain ⟨z54_0, z54_1, b54_0, b54_1, k54_0, d54_0, c54_0, c54_1, rfl, N54, K54, s54_0, s54_1, n54_0, F54_0, F54_1, F54_2, F54_3, F54_4, F54_5, F54_6, F54_7⟩ := q54
      show Go _ _ _ _ (T54.setTop (mkF m 159 #[.val (.int p0), .val (.int p1), .val (.int p2), .val (.int p3), .val (.int p4), .val (.int z1), .val (.int jv2_6), .val (.int z3_0), .val (.int z4_0), .val (.int z5_0), .val (.int z13_0), .val (.int z21_0), .val (.int z29_0), .val (.int jv30_13), .val (.ref b32_0), .val (.ref b37_0), .unset, .unset, .unset] [(.ref b38)]))
      refine Go.astore X54 hx (pc' := 161) rfl (hb hby at_159) (Ls' := #[.val (.int p0), .val (.int p1), .val (.int p2), .val (.int p3), .val (.int p4), .val (.int z1), .val (.int jv2_6), .val (.int z3_0), .val (.int z4_0), .val (.int z5_0), .val (.int z13_0), .val (.int z21_0), .val (.int z29_0), .val (.int jv30_13), .val (.ref b32_0), .val (.ref b37_0), .val (.ref b38), .unset, .unset]) rfl rfl ?_
      refine Go.new X54 hx Z37 O37 (tw_32 hw) (tw_33 hw) (tw_34 hw) e54 (by decide) (by decide) (pc' := 164) rfl (hb hby at_161) ?_
      intro T55 h55 b55 e55 E55 g55 A55 D55 X55
      have b55_host : Fld Z h55 b55 "com/example/dirbound/dirbound/ldap/HostPort" "host" "Ljava/lang/String;" .null := D55 (Or.inr (tw_40 hw)) (ty := (.object "java/lang/String")) (by decide)
      have b55_folded : Fld Z h55 b55 "com/example/dirbound/dirbound/ldap/HostPort" "folded" "Ljava/lang/String;" .null := D55 (Or.inr (tw_120 hw)) (ty := (.object "java/lang/String")) (by decide)
      have b55_port : Fld Z h55 b55 "com/example/dirbound/dirbound/ldap/HostPort" "port" "I" (.int 0) := D55 (Or.inr (tw_122 hw)) (ty := .int) (by decide)
      refine Go.dup X55 hx (pc' := 165) rfl (hb hby at_164) rfl ?_
      refine Go.aload X55 hx (pc' := 167) rfl (hb hby at_165) rfl rfl ?_
      refine Go.iload X55 hx (pc' := 169) rfl (hb hby at_167) rfl ?_
      have Kp57 : Keep h0 h54 [] := (Kp41.trans K54 (allS (Or.inr sz49) all0))
      have Kp58 : Keep h0 h55 [] := (Kp57.ext E55)
      have Zn56 : n0 ≤ h55.size := Nat.le_trans Z0 Kp58.1
      have O59 := (O43.keep K54 (allS ge48 all0))
      have O60 := (O59.ext E55)
      have fk61 : Exa Z h55 b37_0 "java/lang/String" := (((F37_0.ext E38).keep K54).ext E55)
      have ne62 : b37_0 ≠ b38 := Nat.ne_of_lt (Nat.lt_of_lt_of_le F37_0.lt (Nat.le_of_eq g38.symm))
      have fk63 : Fld Z h55 b37_0 "java/lang/String" "coder" "B" (.int 0) := (((F37_1.ext E38).keep K54 (ninS ne62 nin0)).ext E55)
      have fk64 : Fld Z h55 b37_0 "java/lang/String" "value" "[B" (.ref b37_1) := (((F37_2.ext E38).keep K54 (ninS ne62 nin0)).ext E55)
      have ne65 : b37_1 ≠ b38 := Nat.ne_of_lt (Nat.lt_of_lt_of_le F37_3.lt (Nat.le_of_eq g38.symm))
      have fk66 := (((F37_3.ext E38).keep K54 (ninS ne65 nin0)).ext E55)
      have sz68 : h0.size ≤ b55 := Nat.le_trans Kp57.1 (Nat.le_of_eq g55.symm)
      have ge67 : n0 ≤ b55 := Nat.le_trans Z0 sz68
      have fk70 : Exa Z h54 b37_0 "java/lang/String" := ((F37_0.ext E38).keep K54)
      have ne69 : b37_0 ≠ b55 := Nat.ne_of_lt (Nat.lt_of_lt_of_le fk70.lt (Nat.le_of_eq g55.symm))
      have fk72 := ((F37_3.ext E38).keep K54 (ninS ne65 nin0))
      have ne71 : b37_1 ≠ b55 := Nat.ne_of_lt (Nat.lt_of_lt_of_le fk72.lt (Nat.le_of_eq g55.symm))
      refine Go.callN X55 hx Z37 O37 rfl (tw_35 hw) (tw_36 hw) (tw_37 hw) (by decide) (tw_37 hw) (tw_34 hw) (au_25 l Z a0 hw b55 b37_0 jv30_13 b37_1 k37_0 z37_1 z37_0 gz1 gv5 h55 n0 Zn56 O60 G A55 b55_folded b55_host b55_port fk61 fk63 fk64 fk66 c37_0 c37_1 ge67 ne69 ne71) e55 (a := b55) (argsL := [(.ref b37_0), (.int jv30_13)]) (rest := [(.ref b55)]) (pc' := 172) rfl (by rw [hml]; rfl) (lenOf pd_28 rfl) rfl rfl (W := 1) (Nat.le_of_eq rfl) (by decide) (by decide) (by decide) (by decide) (hb hby at_169) ?_
      intro v73 T73 L73 q73 X73
      obtain ⟨h73, e73⟩ : ∃ z, T73.heap = z := ⟨_, rfl⟩
      rw [e73] at q73
      obtain ⟨z73_0, z73_1, b73_0, b73_1, k73_0, d73_0, c73_0, c73_1, rfl, N73, K73, s73_0, s73_1, n73_0, F73_0, F73_1, F73_2, F73_3, F73_4, F73_5, F73_6, F73_7⟩ := q73
      show Go _ _ _ _ (T73.setTop (mkF m 172 #[.val (.int p0), .val (.int p1), .val (.int p2), .val (.int p3), .val (.int p4), .val (.int z1), .val (.int jv2_6), .val (.int z3_0), .val (.int z4_0), .val (.int z5_0), .val (.int z13_0), .val (.int z21_0), .val (.int z29_0), .val (.int jv30_13), .val (.ref b32_0), .val (.ref b37_0), .val (.ref b38), .unset, .unset] [(.ref b55)]))
      refine Go.astore X73 hx (pc' := 174) rfl (hb hby at_172) (Ls' := #[.val (.int p0), .val (.int p1), .val (.int p2), .val (.int p3), .val (.int p4), .val (.int z1), .val (.int jv2_6), .val (.int z3_0), .val (.int z4_0), .val (.int z5_0), .val (.int z13_0), .val (.int z21_0), .val (.int z29_0), .val (.int jv30_13), .val (.ref b32_0), .val (.ref b37_0), .val (.ref b38), .val (.ref b55), .unset]) rfl rfl ?_
      refine Go.iloadN X73 hx (pc' := 175) rfl (hb hby at_174) rfl ?_
      refine Go.iload X73 hx (pc' := 177) rfl (hb hby at_175) rfl ?_
      by_cases hc74 : p2 = jv30_13
      · refine Go.icmpNo X73 hx (pc' := 180) rfl (hb hby at_177) (teq hc74).2 ?_
        refine Go.iload X73 hx (pc' := 182) rfl (hb hby at_180) rfl ?_
        refine Go.iload X73 hx (pc' := 184) rfl (hb hby at_182) rfl ?_
        by_cases hc75 : z1 = jv2_6
        · refine Go.icmpNo X73 hx (pc' := 187) rfl (hb hby at_184) (teq hc75).2 ?_
          subst hc75
          rcases own_cs_0_3 r31 with rfl | rfl | rfl | rfl
          · refine Go.iload X73 hx (pc' := 189) rfl (hb hby at_187) rfl ?_
            refine Go.iconst X73 hx (pc' := 190) rfl (hb hby at_189) (v := (1 : Int32)) rfl ?_
            refine Go.icmpYes X73 hx (pc' := 203) (hb hby at_190) (by decide) (by decide) (by decide) ?_
            refine Go.iload X73 hx (pc' := 205) rfl (hb hby at_203) rfl ?_
            refine Go.iconst X73 hx (pc' := 206) rfl (hb hby at_205) (v := (2 : Int32)) rfl ?_
            refine Go.icmpYes X73 hx (pc' := 219) (hb hby at_206) (by decide) (by decide) (by decide) ?_
            refine Go.iload X73 hx (pc' := 221) rfl (hb hby at_219) rfl ?_
            refine Go.iconst X73 hx (pc' := 222) rfl (hb hby at_221) (v := (3 : Int32)) rfl ?_
            refine Go.icmpYes X73 hx (pc' := 235) (hb hby at_222) (by decide) (by decide) (by decide) ?_
            refine Go.iconst X73 hx (pc' := 236) rfl (hb hby at_235) (v := (1 : Int32)) rfl ?_
            refine Go.goto X73 hx (pc' := 240) (hb hby at_236) (by decide) (by decide) ?_
            refine Go.istore X73 hx (pc' := 242) rfl (hb hby at_240) (Ls' := #[.val (.int p0), .val (.int p1), .val (.int p2), .val (.int p3), .val (.int p4), .val (.int 0), .val (.int 0), .val (.int z3_0), .val (.int z4_0), .val (.int z5_0), .val (.int z13_0), .val (.int z21_0), .val (.int z29_0), .val (.int jv30_13), .val (.ref b32_0), .val (.ref b37_0), .val (.ref b38), .val (.ref b55), .val (.int 1)]) rfl ?_
            refine Go.aload X73 hx (pc' := 244) rfl (hb hby at_242) rfl rfl ?_
            refine Go.aload X73 hx (pc' := 246) rfl (hb hby at_244) rfl rfl ?_
            have Kp77 : Keep h0 h73 [] := (Kp58.trans K73 (allS (Or.inr sz68) all0))
            have Zn76 : n0 ≤ h73.size := Nat.le_trans Z0 Kp77.1
            have O78 := (O60.keep K73 (allS ge67 all0))
            have ne79 : b38 ≠ b55 := Nat.ne_of_lt (Nat.lt_of_lt_of_le F54_0.lt (Nat.le_of_eq g55.symm))
            have fk80 : Fld Z h73 b38 "com/example/dirbound/dirbound/ldap/HostPort" "folded" "Ljava/lang/String;" (.ref b54_0) := ((F54_1.ext E55).keep K73 (ninS ne79 nin0))
            have fk81 : Fld Z h73 b38 "com/example/dirbound/dirbound/ldap/HostPort" "port" "I" (.int p2) := ((F54_3.ext E55).keep K73 (ninS ne79 nin0))
            have fk82 : Exa Z h73 b54_0 "java/lang/String" := ((F54_4.ext E55).keep K73)
            have ne83 : b54_0 ≠ b55 := Nat.ne_of_lt (Nat.lt_of_lt_of_le F54_4.lt (Nat.le_of_eq g55.symm))
            have fk84 : Fld Z h73 b54_0 "java/lang/String" "coder" "B" (.int 0) := ((F54_5.ext E55).keep K73 (ninS ne83 nin0))
            have fk85 : Fld Z h73 b54_0 "java/lang/String" "value" "[B" (.ref b54_1) := ((F54_6.ext E55).keep K73 (ninS ne83 nin0))
            have ne86 : b54_1 ≠ b55 := Nat.ne_of_lt (Nat.lt_of_lt_of_le F54_7.lt (Nat.le_of_eq g55.symm))
            have fk87 := ((F54_7.ext E55).keep K73 (ninS ne86 nin0))
            have fk89 : Exa Z h55 b54_0 "java/lang/String" := (F54_4.ext E55)
            have ne88 : b54_0 ≠ b73_0 := Nat.ne_of_lt (Nat.lt_of_lt_of_le fk89.lt s73_0)
            have fk90 : Exa Z h73 b38 "com/example/dirbound/dirbound/ldap/HostPort" := ((F54_0.ext E55).keep K73)
            refine Go.callV X73 hx Z37 O37 (tw_123 hw) (tw_124 hw) (notFace_of_selects (args := #[]) (mvT Z37 (tw_126 hw))) (tw_126 hw) (tw_125 hw) (by decide) (tw_127 hw) (tw_34 hw) (au_126 l Z a0 hw b38 b55 b54_0 p2 b73_0 jv30_13 b54_1 b73_1 k54_0 z54_1 z54_0 k73_0 z73_1 z73_0 gz1 gv5 h73 n0 Zn76 O78 G fk80 fk81 F73_0 F73_1 F73_3 fk82 fk84 fk85 F73_4 F73_5 F73_6 fk87 F73_7 c54_0 c54_1 c73_0 c73_1 ne88) e73 fk90 (argsL := [(.ref b55)]) (rest := []) (pc' := 249) rfl (by rw [hml]; rfl) (lenOf pd_30 rfl) rfl rfl (W := 0) (Nat.le_of_eq rfl) (by decide) (by decide) (by decide) (by decide) (hb hby at_246) ?_
            intro v91 T91 L91 q91 X91
            rcases q91 with ⟨c91_0_0, c91_0_1, rfl, N91_0, e91_0⟩ | ⟨c91_1_0, c91_1_1, rfl, N91_1, e91_1⟩ | ⟨c91_2_0, rfl, N91_2, e91_2⟩
            · show Go _ _ _ _ (T91.setTop (mkF m 249 #[.val (.int p0), .val (.int p1), .val (.int p2), .val (.int p3), .val (.int p4), .val (.int 0), .val (.int 0), .val (.int z3_0), .val (.int z4_0), .val (.int z5_0), .val (.int z13_0), .val (.int z21_0), .val (.int z29_0), .val (.int jv30_13), .val (.ref b32_0), .val (.ref b37_0), .val (.ref b38), .val (.ref b55), .val (.int 1)] [(.int 1)]))
              refine Go.iload X91 hx (pc' := 251) rfl (hb hby at_249) rfl ?_
              refine Go.icmpNo X91 hx (pc' := 254) rfl (hb hby at_251) (by decide) ?_
              refine Go.aload X91 hx (pc' := 256) rfl (hb hby at_254) rfl rfl ?_
              refine Go.aload X91 hx (pc' := 258) rfl (hb hby at_256) rfl rfl ?_
              refine Go.callV X91 hx Z37 O37 (tw_123 hw) (tw_124 hw) (notFace_of_selects (args := #[]) (mvT Z37 (tw_126 hw))) (tw_126 hw) (tw_125 hw) (by decide) (tw_127 hw) (tw_34 hw) (au_126 l Z a0 hw b55 b38 b73_0 jv30_13 b54_0 p2 b73_1 b54_1 k73_0 z73_1 z73_0 k54_0 z54_1 z54_0 gz1 gv5 h73 n0 Zn76 O78 G F73_1 F73_3 fk90 fk80 fk81 F73_4 F73_5 F73_6 fk82 fk84 fk85 F73_7 fk87 c73_0 c73_1 c54_0 c54_1 (Ne.symm ne88)) e91_0 F73_0 (argsL := [(.ref b38)]) (rest := []) (pc' := 261) rfl (by rw [hml]; rfl) (lenOf pd_30 rfl) rfl rfl (W := 0) (Nat.le_of_eq rfl) (by decide) (by decide) (by decide) (by decide) (hb hby at_258) ?_
              intro v92 T92 L92 q92 X92
              rcases q92 with ⟨c92_0_0, c92_0_1, rfl, N92_0, e92_0⟩ | ⟨c92_1_0, c92_1_1, rfl, N92_1, e92_1⟩ | ⟨c92_2_0, rfl, N92_2, e92_2⟩
              · show Go _ _ _ _ (T92.setTop (mkF m 261 #[.val (.int p0), .val (.int p1), .val (.int p2), .val (.int p3), .val (.int p4), .val (.int 0), .val (.int 0), .val (.int z3_0), .val (.int z4_0), .val (.int z5_0), .val (.int z13_0), .val (.int z21_0), .val (.int z29_0), .val (.int jv30_13), .val (.ref b32_0), .val (.ref b37_0), .val (.ref b38), .val (.ref b55), .val (.int 1)] [(.int 1)]))
                refine Go.iload X92 hx (pc' := 263) rfl (hb hby at_261) rfl ?_
                refine Go.icmpNo X92 hx (pc' := 266) rfl (hb hby at_263) (by decide) ?_
                refine Go.aload X92 hx (pc' := 268) rfl (hb hby at_266) rfl rfl ?_
                refine Go.aload X92 hx (pc' := 270) rfl (hb hby at_268) rfl rfl ?_
                refine Go.callV X92 hx Z37 O37 (tw_123 hw) (tw_124 hw) (notFace_of_selects (args := #[]) (mvT Z37 (tw_126 hw))) (tw_126 hw) (tw_125 hw) (by decide) (tw_127 hw) (tw_34 hw) (au_128 l Z a0 hw b38 b54_0 p2 h73 n0 Zn76 fk90 fk80 fk81 fk82) e92_0 fk90 (argsL := [(.ref b38)]) (rest := []) (pc' := 273) rfl (by rw [hml]; rfl) (lenOf pd_30 rfl) rfl rfl (W := 0) (Nat.le_of_eq rfl) (by decide) (by decide) (by decide) (by decide) (hb hby at_270) ?_
                intro v93 T93 L93 q93 X93
                obtain ⟨rfl, N93, e93⟩ := q93
                show Go _ _ _ _ (T93.setTop (mkF m 273 #[.val (.int p0), .val (.int p1), .val (.int p2), .val (.int p3), .val (.int p4), .val (.int 0), .val (.int 0), .val (.int z3_0), .val (.int z4_0), .val (.int z5_0), .val (.int z13_0), .val (.int z21_0), .val (.int z29_0), .val (.int jv30_13), .val (.ref b32_0), .val (.ref b37_0), .val (.ref b38), .val (.ref b55), .val (.int 1)] [(.int 1)]))
                refine Go.ifNo X93 hx (pc' := 276) rfl (hb hby at_273) (by decide) ?_
                refine Go.aload X93 hx (pc' := 278) rfl (hb hby at_276) rfl rfl ?_
                refine Go.anull X93 hx (pc' := 279) rfl (hb hby at_278) ?_
                refine Go.callV X93 hx Z37 O37 (tw_123 hw) (tw_124 hw) (notFace_of_selects (args := #[]) (mvT Z37 (tw_126 hw))) (tw_126 hw) (tw_125 hw) (by decide) (tw_127 hw) (tw_34 hw) (au_130 l Z a0 hw b38 h73 n0 Zn76) e93 fk90 (argsL := [.null]) (rest := []) (pc' := 282) rfl (by rw [hml]; rfl) (lenOf pd_30 rfl) rfl rfl (W := 0) (Nat.le_of_eq rfl) (by decide) (by decide) (by decide) (by decide) (hb hby at_279) ?_
                intro v94 T94 L94 q94 X94
                obtain ⟨rfl, N94, e94⟩ := q94
                show Go _ _ _ _ (T94.setTop (mkF m 282 #[.val (.int p0), .val (.int p1), .val (.int p2), .val (.int p3), .val (.int p4), .val (.int 0), .val (.int 0), .val (.int z3_0), .val (.int z4_0), .val (.int z5_0), .val (.int z13_0), .val (.int z21_0), .val (.int z29_0), .val (.int jv30_13), .val (.ref b32_0), .val (.ref b37_0), .val (.ref b38), .val (.ref b55), .val (.int 1)] [(.int 0)]))
                refine Go.ifNo X94 hx (pc' := 285) rfl (hb hby at_282) (by decide) ?_
                refine Go.aload X94 hx (pc' := 287) rfl (hb hby at_285) rfl rfl ?_
                refine Go.aload X94 hx (pc' := 289) rfl (hb hby at_287) rfl rfl ?_
                have fk95 : Exa Z h73 b32_0 "java/lang/String" := (((fk44.keep K54).ext E55).keep K73)
                refine Go.callV X94 hx Z37 O37 (tw_123 hw) (tw_124 hw) (notFace_of_selects (args := #[]) (mvT Z37 (tw_126 hw))) (tw_126 hw) (tw_125 hw) (by decide) (tw_127 hw) (tw_34 hw) (au_131 l Z a0 hw b38 b32_0 h73 n0 Zn76 fk95) e94 fk90 (argsL := [(.ref b32_0)]) (rest := []) (pc' := 292) rfl (by rw [hml]; rfl) (lenOf pd_30 rfl) rfl rfl (W := 0) (Nat.le_of_eq rfl) (by decide) (by decide) (by decide) (by decide) (hb hby at_289) ?_
                intro v96 T96 L96 q96 X96
                obtain ⟨rfl, N96, e96⟩ := q96
                show Go _ _ _ _ (T96.setTop (mkF m 292 #[.val (.int p0), .val (.int p1), .val (.int p2), .val (.int p3), .val (.int p4), .val (.int 0), .val (.int 0), .val (.int z3_0), .val (.int z4_0), .val (.int z5_0), .val (.int z13_0), .val (.int z21_0), .val (.int z29_0), .val (.int jv30_13), .val (.ref b32_0), .val (.ref b37_0), .val (.ref b38), .val (.ref b55), .val (.int 1)] [(.int 0)]))
                refine Go.ifNo X96 hx (pc' := 295) rfl (hb hby at_292) (by decide) ?_
                refine Go.iconst X96 hx (pc' := 296) rfl (hb hby at_295) (v := (1 : Int32)) rfl ?_
                refine Go.goto X96 hx (pc' := 300) (hb hby at_296) (by decide) (by decide) ?_
                have C97 : CHr Z EL0 s.vm s.heap T37.vm h37 := (C36.trans C37)
                have C98 : CHr Z EL0 s.vm s.heap T37.vm h38 := (C97.trans (CHr.ext E38 C97.1))
                have fk99 : Safe Z EL0 T37.vm h38 b38 := (Safe.ext E38 C97.1 (Safe.new (Nat.le_of_eq g38.symm) : Safe Z EL0 T37.vm h37 b38))
                have C100 : CHr Z EL0 s.vm s.heap T37.vm h54 := (C98.trans (CHr.keep K54 (sfS fk99 sf0) C98.1))
                have C101 : CHr Z EL0 s.vm s.heap T37.vm h55 := (C100.trans (CHr.ext E55 C100.1))
                have fk102 : Safe Z EL0 T37.vm h55 b55 := (Safe.ext E55 C100.1 (Safe.new (Nat.le_of_eq g55.symm) : Safe Z EL0 T37.vm h54 b55))
                have C103 : CHr Z EL0 s.vm s.heap T37.vm h73 := (C101.trans (CHr.keep K73 (sfS fk102 sf0) C101.1))
                have hk104 := (Nat.le_trans (Nat.le_trans (Nat.le_trans (Nat.le_trans (Nat.le_refl _) E38.1) K54.1) E55.1) K73.1)
                refine Go.retNW X96 hx hlk Z37 (own_EW hw) e96 S37 hk104 C103 (t := .boolean) hret (by simp) (hb hby at_300) (by decide) (by decide) (fun hat => ?_)
                exact ⟨rfl, (Fr.app (Fr.app (Fr.app (Fr.app (Fr.app (Fr.app (Fr.app (Fr.app (Fr.app (Fr.app (Fr.app (Fr.app (Fr.app (Fr.app (Fr.app (Fr.app (Fr.app (Fr.app (Fr.nil n0) N3) N4) N5) N6) N13) N14) N21) N22) N29) N32) N37) N54) N73) N91_0) N92_0) N93) N94) N96)⟩
              · exact absurd ((own_ds0 d37_0 d73_0 ).trans (rfl.trans (own_ds0 d32_0 d54_0 ).symm)) c92_1_1
              · exact absurd hc74.symm c92_2_0
            · exact absurd ((own_ds0 d32_0 d54_0 ).trans (rfl.trans (own_ds0 d37_0 d73_0 ).symm)) c91_1_1
            · exact absurd hc74 c91_2_0
          · refine Go.iload X73 hx (pc' := 189) rfl (hb hby at_187) rfl ?_
            refine Go.iconst X73 hx (pc' := 190) rfl (hb hby at_189) (v := (1 : Int32)) rfl ?_
            refine Go.icmpNo X73 hx (pc' := 193) rfl (hb hby at_190) (by decide) ?_
            refine Go.iload X73 hx (pc' := 195) rfl (hb hby at_193) rfl ?_
            refine Go.iload X73 hx (pc' := 197) rfl (hb hby at_195) rfl ?_
            have Kp106 : Keep h0 h73 [] := (Kp58.trans K73 (allS (Or.inr sz68) all0))
            have Zn105 : n0 ≤ h73.size := Nat.le_trans Z0 Kp106.1
            refine Go.callS X73 hx Z37 O37 (tw_198 hw) (tw_199 hw) (tw_2 hw) (tw_200 hw) (by decide) (tw_200 hw) (tw_2 hw) (au_132 l Z a0 hw z3_0 z13_0 h73 n0 Zn105 r10 w13) e73 (argsL := [(.int z3_0), (.int z13_0)]) (rest := []) (pc' := 200) rfl (by rw [hml]; rfl) (lenOf pd_31 rfl) rfl rfl (W := 0) (Nat.le_of_eq rfl) (by decide) (by decide) (by decide) (by decide) (hb hby at_197) ?_
            intro v107 T107 L107 q107 X107
            rcases q107 with ⟨z107_0_0, z107_0_1, d107_0_0, d107_0_1, c107_0_0, rfl, N107_0, e107_0⟩ | ⟨z107_1_0, z107_1_1, d107_1_0, d107_1_1, c107_1_0, rfl, N107_1, e107_1⟩
            · have r108 : 0 ≤ z107_0_0.toInt ∧ z107_0_0.toInt ≤ 255 := own_rfold d107_0_0 (own_rw r10 (by decide) (by decide))
              have r109 : 0 ≤ z107_0_1.toInt ∧ z107_0_1.toInt ≤ 255 := own_rfold d107_0_1 (own_rw w13 (by decide) (by decide))
              show Go _ _ _ _ (T107.setTop (mkF m 200 #[.val (.int p0), .val (.int p1), .val (.int p2), .val (.int p3), .val (.int p4), .val (.int 1), .val (.int 1), .val (.int z3_0), .val (.int z4_0), .val (.int z5_0), .val (.int z13_0), .val (.int z21_0), .val (.int z29_0), .val (.int jv30_13), .val (.ref b32_0), .val (.ref b37_0), .val (.ref b38), .val (.ref b55), .unset] [(.int 1)]))
              refine Go.ifNo X107 hx (pc' := 203) rfl (hb hby at_200) (by decide) ?_
              refine Go.iload X107 hx (pc' := 205) rfl (hb hby at_203) rfl ?_
              refine Go.iconst X107 hx (pc' := 206) rfl (hb hby at_205) (v := (2 : Int32)) rfl ?_
              refine Go.icmpYes X107 hx (pc' := 219) (hb hby at_206) (by decide) (by decide) (by decide) ?_
              refine Go.iload X107 hx (pc' := 221) rfl (hb hby at_219) rfl ?_
              refine Go.iconst X107 hx (pc' := 222) rfl (hb hby at_221) (v := (3 : Int32)) rfl ?_
              refine Go.icmpYes X107 hx (pc' := 235) (hb hby at_222) (by decide) (by decide) (by decide) ?_
              refine Go.iconst X107 hx (pc' := 236) rfl (hb hby at_235) (v := (1 : Int32)) rfl ?_
              refine Go.goto X107 hx (pc' := 240) (hb hby at_236) (by decide) (by decide) ?_
              refine Go.istore X107 hx (pc' := 242) rfl (hb hby at_240) (Ls' := #[.val (.int p0), .val (.int p1), .val (.int p2), .val (.int p3), .val (.int p4), .val (.int 1), .val (.int 1), .val (.int z3_0), .val (.int z4_0), .val (.int z5_0), .val (.int z13_0), .val (.int z21_0), .val (.int z29_0), .val (.int jv30_13), .val (.ref b32_0), .val (.ref b37_0), .val (.ref b38), .val (.ref b55), .val (.int 1)]) rfl ?_
              refine Go.aload X107 hx (pc' := 244) rfl (hb hby at_242) rfl rfl ?_
              refine Go.aload X107 hx (pc' := 246) rfl (hb hby at_244) rfl rfl ?_
              have O110 := (O60.keep K73 (allS ge67 all0))
              have ne111 : b38 ≠ b55 := Nat.ne_of_lt (Nat.lt_of_lt_of_le F54_0.lt (Nat.le_of_eq g55.symm))
              have fk112 : Fld Z h73 b38 "com/example/dirbound/dirbound/ldap/HostPort" "folded" "Ljava/lang/String;" (.ref b54_0) := ((F54_1.ext E55).keep K73 (ninS ne111 nin0))
              have fk113 : Fld Z h73 b38 "com/example/dirbound/dirbound/ldap/HostPort" "port" "I" (.int p2) := ((F54_3.ext E55).keep K73 (ninS ne111 nin0))
              have fk114 : Exa Z h73 b54_0 "java/lang/String" := ((F54_4.ext E55).keep K73)
              have ne115 : b54_0 ≠ b55 := Nat.ne_of_lt (Nat.lt_of_lt_of_le F54_4.lt (Nat.le_of_eq g55.symm))
              have fk116 : Fld Z h73 b54_0 "java/lang/String" "coder" "B" (.int 0) := ((F54_5.ext E55).keep K73 (ninS ne115 nin0))
              have fk117 : Fld Z h73 b54_0 "java/lang/String" "value" "[B" (.ref b54_1) := ((F54_6.ext E55).keep K73 (ninS ne115 nin0))
              have ne118 : b54_1 ≠ b55 := Nat.ne_of_lt (Nat.lt_of_lt_of_le F54_7.lt (Nat.le_of_eq g55.symm))
              have fk119 := ((F54_7.ext E55).keep K73 (ninS ne118 nin0))
              have fk121 : Exa Z h55 b54_0 "java/lang/String" := (F54_4.ext E55)
              have ne120 : b54_0 ≠ b73_0 := Nat.ne_of_lt (Nat.lt_of_lt_of_le fk121.lt s73_0)
              have fk122 : Exa Z h73 b38 "com/example/dirbound/dirbound/ldap/HostPort" := ((F54_0.ext E55).keep K73)
              refine Go.callV X107 hx Z37 O37 (tw_123 hw) (tw_124 hw) (notFace_of_selects (args := #[]) (mvT Z37 (tw_126 hw))) (tw_126 hw) (tw_125 hw) (by decide) (tw_127 hw) (tw_34 hw) (au_126 l Z a0 hw b38 b55 b54_0 p2 b73_0 jv30_13 b54_1 b73_1 k54_0 z54_1 z54_0 k73_0 z73_1 z73_0 gz1 gv5 h73 n0 Zn105 O110 G fk112 fk113 F73_0 F73_1 F73_3 fk114 fk116 fk117 F73_4 F73_5 F73_6 fk119 F73_7 c54_0 c54_1 c73_0 c73_1 ne120) e107_0 fk122 (argsL := [(.ref b55)]) (rest := []) (pc' := 249) rfl (by rw [hml]; rfl) (lenOf pd_30 rfl) rfl rfl (W := 0) (Nat.le_of_eq rfl) (by decide) (by decide) (by decide) (by decide) (hb hby at_246) ?_
              intro v123 T123 L123 q123 X123
              rcases q123 with ⟨c123_0_0, c123_0_1, rfl, N123_0, e123_0⟩ | ⟨c123_1_0, c123_1_1, rfl, N123_1, e123_1⟩ | ⟨c123_2_0, rfl, N123_2, e123_2⟩
              · show Go _ _ _ _ (T123.setTop (mkF m 249 #[.val (.int p0), .val (.int p1), .val (.int p2), .val (.int p3), .val (.int p4), .val (.int 1), .val (.int 1), .val (.int z3_0), .val (.int z4_0), .val (.int z5_0), .val (.int z13_0), .val (.int z21_0), .val (.int z29_0), .val (.int jv30_13), .val (.ref b32_0), .val (.ref b37_0), .val (.ref b38), .val (.ref b55), .val (.int 1)] [(.int 1)]))
                refine Go.iload X123 hx (pc' := 251) rfl (hb hby at_249) rfl ?_
                refine Go.icmpNo X123 hx (pc' := 254) rfl (hb hby at_251) (by decide) ?_
                refine Go.aload X123 hx (pc' := 256) rfl (hb hby at_254) rfl rfl ?_
                refine Go.aload X123 hx (pc' := 258) rfl (hb hby at_256) rfl rfl ?_
                refine Go.callV X123 hx Z37 O37 (tw_123 hw) (tw_124 hw) (notFace_of_selects (args := #[]) (mvT Z37 (tw_126 hw))) (tw_126 hw) (tw_125 hw) (by decide) (tw_127 hw) (tw_34 hw) (au_126 l Z a0 hw b55 b38 b73_0 jv30_13 b54_0 p2 b73_1 b54_1 k73_0 z73_1 z73_0 k54_0 z54_1 z54_0 gz1 gv5 h73 n0 Zn105 O110 G F73_1 F73_3 fk122 fk112 fk113 F73_4 F73_5 F73_6 fk114 fk116 fk117 F73_7 fk119 c73_0 c73_1 c54_0 c54_1 (Ne.symm ne120)) e123_0 F73_0 (argsL := [(.ref b38)]) (rest := []) (pc' := 261) rfl (by rw [hml]; rfl) (lenOf pd_30 rfl) rfl rfl (W := 0) (Nat.le_of_eq rfl) (by decide) (by decide) (by decide) (by decide) (hb hby at_258) ?_
                intro v124 T124 L124 q124 X124
                rcases q124 with ⟨c124_0_0, c124_0_1, rfl, N124_0, e124_0⟩ | ⟨c124_1_0, c124_1_1, rfl, N124_1, e124_1⟩ | ⟨c124_2_0, rfl, N124_2, e124_2⟩
                · show Go _ _ _ _ (T124.setTop (mkF m 261 #[.val (.int p0), .val (.int p1), .val (.int p2), .val (.int p3), .val (.int p4), .val (.int 1), .val (.int 1), .val (.int z3_0), .val (.int z4_0), .val (.int z5_0), .val (.int z13_0), .val (.int z21_0), .val (.int z29_0), .val (.int jv30_13), .val (.ref b32_0), .val (.ref b37_0), .val (.ref b38), .val (.ref b55), .val (.int 1)] [(.int 1)]))
                  refine Go.iload X124 hx (pc' := 263) rfl (hb hby at_261) rfl ?_
                  refine Go.icmpNo X124 hx (pc' := 266) rfl (hb hby at_263) (by decide) ?_
                  refine Go.aload X124 hx (pc' := 268) rfl (hb hby at_266) rfl rfl ?_
                  refine Go.aload X124 hx (pc' := 270) rfl (hb hby at_268) rfl rfl ?_
                  refine Go.callV X124 hx Z37 O37 (tw_123 hw) (tw_124 hw) (notFace_of_selects (args := #[]) (mvT Z37 (tw_126 hw))) (tw_126 hw) (tw_125 hw) (by decide) (tw_127 hw) (tw_34 hw) (au_128 l Z a0 hw b38 b54_0 p2 h73 n0 Zn105 fk122 fk112 fk113 fk114) e124_0 fk122 (argsL := [(.ref b38)]) (rest := []) (pc' := 273) rfl (by rw [hml]; rfl) (lenOf pd_30 rfl) rfl rfl (W := 0) (Nat.le_of_eq rfl) (by decide) (by decide) (by decide) (by decide) (hb hby at_270) ?_
                  intro v125 T125 L125 q125 X125
                  obtain ⟨rfl, N125, e125⟩ := q125
                  show Go _ _ _ _ (T125.setTop (mkF m 273 #[.val (.int p0), .val (.int p1), .val (.int p2), .val (.int p3), .val (.int p4), .val (.int 1), .val (.int 1), .val (.int z3_0), .val (.int z4_0), .val (.int z5_0), .val (.int z13_0), .val (.int z21_0), .val (.int z29_0), .val (.int jv30_13), .val (.ref b32_0), .val (.ref b37_0), .val (.ref b38), .val (.ref b55), .val (.int 1)] [(.int 1)]))
                  refine Go.ifNo X125 hx (pc' := 276) rfl (hb hby at_273) (by decide) ?_
                  refine Go.aload X125 hx (pc' := 278) rfl (hb hby at_276) rfl rfl ?_
                  refine Go.anull X125 hx (pc' := 279) rfl (hb hby at_278) ?_
                  refine Go.callV X125 hx Z37 O37 (tw_123 hw) (tw_124 hw) (notFace_of_selects (args := #[]) (mvT Z37 (tw_126 hw))) (tw_126 hw) (tw_125 hw) (by decide) (tw_127 hw) (tw_34 hw) (au_130 l Z a0 hw b38 h73 n0 Zn105) e125 fk122 (argsL := [.null]) (rest := []) (pc' := 282) rfl (by rw [hml]; rfl) (lenOf pd_30 rfl) rfl rfl (W := 0) (Nat.le_of_eq rfl) (by decide) (by decide) (by decide) (by decide) (hb hby at_279) ?_
                  intro v126 T126 L126 q126 X126
                  obtain ⟨rfl, N126, e126⟩ := q126
                  show Go _ _ _ _ (T126.setTop (mkF m 282 #[.val (.int p0), .val (.int p1), .val (.int p2), .val (.int p3), .val (.int p4), .val (.int 1), .val (.int 1), .val (.int z3_0), .val (.int z4_0), .val (.int z5_0), .val (.int z13_0), .val (.int z21_0), .val (.int z29_0), .val (.int jv30_13), .val (.ref b32_0), .val (.ref b37_0), .val (.ref b38), .val (.ref b55), .val (.int 1)] [(.int 0)]))
                  refine Go.ifNo X126 hx (pc' := 285) rfl (hb hby at_282) (by decide) ?_
                  refine Go.aload X126 hx (pc' := 287) rfl (hb hby at_285) rfl rfl ?_
                  refine Go.aload X126 hx (pc' := 289) rfl (hb hby at_287) rfl rfl ?_
                  have fk127 : Exa Z h73 b32_0 "java/lang/String" := (((fk44.keep K54).ext E55).keep K73)
                  refine Go.callV X126 hx Z37 O37 (tw_123 hw) (tw_124 hw) (notFace_of_selects (args := #[]) (mvT Z37 (tw_126 hw))) (tw_126 hw) (tw_125 hw) (by decide) (tw_127 hw) (tw_34 hw) (au_131 l Z a0 hw b38 b32_0 h73 n0 Zn105 fk127) e126 fk122 (argsL := [(.ref b32_0)]) (rest := []) (pc' := 292) rfl (by rw [hml]; rfl) (lenOf pd_30 rfl) rfl rfl (W := 0) (Nat.le_of_eq rfl) (by decide) (by decide) (by decide) (by decide) (hb hby at_289) ?_
                  intro v128 T128 L128 q128 X128
                  obtain ⟨rfl, N128, e128⟩ := q128
                  show Go _ _ _ _ (T128.setTop (mkF m 292 #[.val (.int p0), .val (.int p1), .val (.int p2), .val (.int p3), .val (.int p4), .val (.int 1), .val (.int 1), .val (.int z3_0), .val (.int z4_0), .val (.int z5_0), .val (.int z13_0), .val (.int z21_0), .val (.int z29_0), .val (.int jv30_13), .val (.ref b32_0), .val (.ref b37_0), .val (.ref b38), .val (.ref b55), .val (.int 1)] [(.int 0)]))
                  refine Go.ifNo X128 hx (pc' := 295) rfl (hb hby at_292) (by decide) ?_
                  refine Go.iconst X128 hx (pc' := 296) rfl (hb hby at_295) (v := (1 : Int32)) rfl ?_
                  refine Go.goto X128 hx (pc' := 300) (hb hby at_296) (by decide) (by decide) ?_
                  have C129 : CHr Z EL0 s.vm s.heap T37.vm h37 := (C36.trans C37)
                  have C130 : CHr Z EL0 s.vm s.heap T37.vm h38 := (C129.trans (CHr.ext E38 C129.1))
                  have fk131 : Safe Z EL0 T37.vm h38 b38 := (Safe.ext E38 C129.1 (Safe.new (Nat.le_of_eq g38.symm) : Safe Z EL0 T37.vm h37 b38))
                  have C132 : CHr Z EL0 s.vm s.heap T37.vm h54 := (C130.trans (CHr.keep K54 (sfS fk131 sf0) C130.1))
                  have C133 : CHr Z EL0 s.vm s.heap T37.vm h55 := (C132.trans (CHr.ext E55 C132.1))
                  have fk134 : Safe Z EL0 T37.vm h55 b55 := (Safe.ext E55 C132.1 (Safe.new (Nat.le_of_eq g55.symm) : Safe Z EL0 T37.vm h54 b55))
                  have C135 : CHr Z EL0 s.vm s.heap T37.vm h73 := (C133.trans (CHr.keep K73 (sfS fk134 sf0) C133.1))
                  have hk136 := (Nat.le_trans (Nat.le_trans (Nat.le_trans (Nat.le_trans (Nat.le_refl _) E38.1) K54.1) E55.1) K73.1)
                  refine Go.retNW X128 hx hlk Z37 (own_EW hw) e128 S37 hk136 C135 (t := .boolean) hret (by simp) (hb hby at_300) (by decide) (by decide) (fun hat => ?_)
                  exact ⟨rfl, (Fr.app (Fr.app (Fr.app (Fr.app (Fr.app (Fr.app (Fr.app (Fr.app (Fr.app (Fr.app (Fr.app (Fr.app (Fr.app (Fr.app (Fr.app (Fr.app (Fr.app (Fr.app (Fr.app (Fr.nil n0) N3) N4) N5) N6) N13) N14) N21) N22) N29) N32) N37) N54) N73) N107_0) N123_0) N124_0) N125) N126) N128)⟩
                · exact absurd ((own_ds1 d37_0 d73_0 d107_0_1).trans ((own_lc c107_0_0.symm rfl).trans (own_ds1 d32_0 d54_0 d107_0_0).symm)) c124_1_1
                · exact absurd hc74.symm c124_2_0
              · exact absurd ((own_ds1 d32_0 d54_0 d107_0_0).trans ((own_lc c107_0_0 rfl).trans (own_ds1 d37_0 d73_0 d107_0_1).symm)) c123_1_1
              · exact absurd hc74 c123_2_0
            · have r137 : 0 ≤ z107_1_0.toInt ∧ z107_1_0.toInt ≤ 255 := own_rfold d107_1_0 (own_rw r10 (by decide) (by decide))
              have r138 : 0 ≤ z107_1_1.toInt ∧ z107_1_1.toInt ≤ 255 := own_rfold d107_1_1 (own_rw w13 (by decide) (by decide))
              show Go _ _ _ _ (T107.setTop (mkF m 200 #[.val (.int p0), .val (.int p1), .val (.int p2), .val (.int p3), .val (.int p4), .val (.int 1), .val (.int 1), .val (.int z3_0), .val (.int z4_0), .val (.int z5_0), .val (.int z13_0), .val (.int z21_0), .val (.int z29_0), .val (.int jv30_13), .val (.ref b32_0), .val (.ref b37_0), .val (.ref b38), .val (.ref b55), .unset] [(.int 0)]))
              refine Go.ifYes X107 hx (pc' := 239) (hb hby at_200) (by decide) (by decide) (by decide) ?_
              refine Go.iconst X107 hx (pc' := 240) rfl (hb hby at_239) (v := (0 : Int32)) rfl ?_
              refine Go.istore X107 hx (pc' := 242) rfl (hb hby at_240) (Ls' := #[.val (.int p0), .val (.int p1), .val (.int p2), .val (.int p3), .val (.int p4), .val (.int 1), .val (.int 1), .val (.int z3_0), .val (.int z4_0), .val (.int z5_0), .val (.int z13_0), .val (.int z21_0), .val (.int z29_0), .val (.int jv30_13), .val (.ref b32_0), .val (.ref b37_0), .val (.ref b38), .val (.ref b55), .val (.int 0)]) rfl ?_
              refine Go.aload X107 hx (pc' := 244) rfl (hb hby at_242) rfl rfl ?_
              refine Go.aload X107 hx (pc' := 246) rfl (hb hby at_244) rfl rfl ?_
              have O139 := (O60.keep K73 (allS ge67 all0))
              have ne140 : b38 ≠ b55 := Nat.ne_of_lt (Nat.lt_of_lt_of_le F54_0.lt (Nat.le_of_eq g55.symm))
              have fk141 : Fld Z h73 b38 "com/example/dirbound/dirbound/ldap/HostPort" "folded" "Ljava/lang/String;" (.ref b54_0) := ((F54_1.ext E55).keep K73 (ninS ne140 nin0))
              have fk142 : Fld Z h73 b38 "com/example/dirbound/dirbound/ldap/HostPort" "port" "I" (.int p2) := ((F54_3.ext E55).keep K73 (ninS ne140 nin0))
              have fk143 : Exa Z h73 b54_0 "java/lang/String" := ((F54_4.ext E55).keep K73)
              have ne144 : b54_0 ≠ b55 := Nat.ne_of_lt (Nat.lt_of_lt_of_le F54_4.lt (Nat.le_of_eq g55.symm))
              have fk145 : Fld Z h73 b54_0 "java/lang/String" "coder" "B" (.int 0) := ((F54_5.ext E55).keep K73 (ninS ne144 nin0))
              have fk146 : Fld Z h73 b54_0 "java/lang/String" "value" "[B" (.ref b54_1) := ((F54_6.ext E55).keep K73 (ninS ne144 nin0))
              have ne147 : b54_1 ≠ b55 := Nat.ne_of_lt (Nat.lt_of_lt_of_le F54_7.lt (Nat.le_of_eq g55.symm))
              have fk148 := ((F54_7.ext E55).keep K73 (ninS ne147 nin0))
              have fk150 : Exa Z h55 b54_0 "java/lang/String" := (F54_4.ext E55)
              have ne149 : b54_0 ≠ b73_0 := Nat.ne_of_lt (Nat.lt_of_lt_of_le fk150.lt s73_0)
              have fk151 : Exa Z h73 b38 "com/example/dirbound/dirbound/ldap/HostPort" := ((F54_0.ext E55).keep K73)
              refine Go.callV X107 hx Z37 O37 (tw_123 hw) (tw_124 hw) (notFace_of_selects (args := #[]) (mvT Z37 (tw_126 hw))) (tw_126 hw) (tw_125 hw) (by decide) (tw_127 hw) (tw_34 hw) (au_126 l Z a0 hw b38 b55 b54_0 p2 b73_0 jv30_13 b54_1 b73_1 k54_0 z54_1 z54_0 k73_0 z73_1 z73_0 gz1 gv5 h73 n0 Zn105 O139 G fk141 fk142 F73_0 F73_1 F73_3 fk143 fk145 fk146 F73_4 F73_5 F73_6 fk148 F73_7 c54_0 c54_1 c73_0 c73_1 ne149) e107_1 fk151 (argsL := [(.ref b55)]) (rest := []) (pc' := 249) rfl (by rw [hml]; rfl) (lenOf pd_30 rfl) rfl rfl (W := 0) (Nat.le_of_eq rfl) (by decide) (by decide) (by decide) (by decide) (hb hby at_246) ?_
              intro v152 T152 L152 q152 X152
              rcases q152 with ⟨c152_0_0, c152_0_1, rfl, N152_0, e152_0⟩ | ⟨c152_1_0, c152_1_1, rfl, N152_1, e152_1⟩ | ⟨c152_2_0, rfl, N152_2, e152_2⟩
              · exact absurd c152_0_1 (fun q => (own_l1 c107_1_0) ((own_ds1 d32_0 d54_0 d107_1_0).symm.trans (q.trans (own_ds1 d37_0 d73_0 d107_1_1))))
              · show Go _ _ _ _ (T152.setTop (mkF m 249 #[.val (.int p0), .val (.int p1), .val (.int p2), .val (.int p3), .val (.int p4), .val (.int 1), .val (.int 1), .val (.int z3_0), .val (.int z4_0), .val (.int z5_0), .val (.int z13_0), .val (.int z21_0), .val (.int z29_0), .val (.int jv30_13), .val (.ref b32_0), .val (.ref b37_0), .val (.ref b38), .val (.ref b55), .val (.int 0)] [(.int 0)]))
                refine Go.iload X152 hx (pc' := 251) rfl (hb hby at_249) rfl ?_
                refine Go.icmpNo X152 hx (pc' := 254) rfl (hb hby at_251) (by decide) ?_
                refine Go.aload X152 hx (pc' := 256) rfl (hb hby at_254) rfl rfl ?_
                refine Go.aload X152 hx (pc' := 258) rfl (hb hby at_256) rfl rfl ?_
                refine Go.callV X152 hx Z37 O37 (tw_123 hw) (tw_124 hw) (notFace_of_selects (args := #[]) (mvT Z37 (tw_126 hw))) (tw_126 hw) (tw_125 hw) (by decide) (tw_127 hw) (tw_34 hw) (au_126 l Z a0 hw b55 b38 b73_0 jv30_13 b54_0 p2 b73_1 b54_1 k73_0 z73_1 z73_0 k54_0 z54_1 z54_0 gz1 gv5 h73 n0 Zn105 O139 G F73_1 F73_3 fk151 fk141 fk142 F73_4 F73_5 F73_6 fk143 fk145 fk146 F73_7 fk148 c73_0 c73_1 c54_0 c54_1 (Ne.symm ne149)) e152_1 F73_0 (argsL := [(.ref b38)]) (rest := []) (pc' := 261) rfl (by rw [hml]; rfl) (lenOf pd_30 rfl) rfl rfl (W := 0) (Nat.le_of_eq rfl) (by decide) (by decide) (by decide) (by decide) (hb hby at_258) ?_
                intro v153 T153 L153 q153 X153
                rcases q153 with ⟨c153_0_0, c153_0_1, rfl, N153_0, e153_0⟩ | ⟨c153_1_0, c153_1_1, rfl, N153_1, e153_1⟩ | ⟨c153_2_0, rfl, N153_2, e153_2⟩
                · exact absurd c153_0_1 (fun q => (own_l1 (Ne.symm c107_1_0)) ((own_ds1 d37_0 d73_0 d107_1_1).symm.trans (q.trans (own_ds1 d32_0 d54_0 d107_1_0))))
                · show Go _ _ _ _ (T153.setTop (mkF m 261 #[.val (.int p0), .val (.int p1), .val (.int p2), .val (.int p3), .val (.int p4), .val (.int 1), .val (.int 1), .val (.int z3_0), .val (.int z4_0), .val (.int z5_0), .val (.int z13_0), .val (.int z21_0), .val (.int z29_0), .val (.int jv30_13), .val (.ref b32_0), .val (.ref b37_0), .val (.ref b38), .val (.ref b55), .val (.int 0)] [(.int 0)]))
                  refine Go.iload X153 hx (pc' := 263) rfl (hb hby at_261) rfl ?_
                  refine Go.icmpNo X153 hx (pc' := 266) rfl (hb hby at_263) (by decide) ?_
                  refine Go.aload X153 hx (pc' := 268) rfl (hb hby at_266) rfl rfl ?_
                  refine Go.aload X153 hx (pc' := 270) rfl (hb hby at_268) rfl rfl ?_
                  refine Go.callV X153 hx Z37 O37 (tw_123 hw) (tw_124 hw) (notFace_of_selects (args := #[]) (mvT Z37 (tw_126 hw))) (tw_126 hw) (tw_125 hw) (by decide) (tw_127 hw) (tw_34 hw) (au_128 l Z a0 hw b38 b54_0 p2 h73 n0 Zn105 fk151 fk141 fk142 fk143) e153_1 fk151 (argsL := [(.ref b38)]) (rest := []) (pc' := 273) rfl (by rw [hml]; rfl) (lenOf pd_30 rfl) rfl rfl (W := 0) (Nat.le_of_eq rfl) (by decide) (by decide) (by decide) (by decide) (hb hby at_270) ?_
                  intro v154 T154 L154 q154 X154
                  obtain ⟨rfl, N154, e154⟩ := q154
                  show Go _ _ _ _ (T154.setTop (mkF m 273 #[.val (.int p0), .val (.int p1), .val (.int p2), .val (.int p3), .val (.int p4), .val (.int 1), .val (.int 1), .val (.int z3_0), .val (.int z4_0), .val (.int z5_0), .val (.int z13_0), .val (.int z21_0), .val (.int z29_0), .val (.int jv30_13), .val (.ref b32_0), .val (.ref b37_0), .val (.ref b38), .val (.ref b55), .val (.int 0)] [(.int 1)]))
                  refine Go.ifNo X154 hx (pc' := 276) rfl (hb hby at_273) (by decide) ?_
                  refine Go.aload X154 hx (pc' := 278) rfl (hb hby at_276) rfl rfl ?_
                  refine Go.anull X154 hx (pc' := 279) rfl (hb hby at_278) ?_
                  refine Go.callV X154 hx Z37 O37 (tw_123 hw) (tw_124 hw) (notFace_of_selects (args := #[]) (mvT Z37 (tw_126 hw))) (tw_126 hw) (tw_125 hw) (by decide) (tw_127 hw) (tw_34 hw) (au_130 l Z a0 hw b38 h73 n0 Zn105) e154 fk151 (argsL := [.null]) (rest := []) (pc' := 282) rfl (by rw [hml]; rfl) (lenOf pd_30 rfl) rfl rfl (W := 0) (Nat.le_of_eq rfl) (by decide) (by decide) (by decide) (by decide) (hb hby at_279) ?_
                  intro v155 T155 L155 q155 X155
                  obtain ⟨rfl, N155, e155⟩ := q155
                  show Go _ _ _ _ (T155.setTop (mkF m 282 #[.val (.int p0), .val (.int p1), .val (.int p2), .val (.int p3), .val (.int p4), .val (.int 1), .val (.int 1), .val (.int z3_0), .val (.int z4_0), .val (.int z5_0), .val (.int z13_0), .val (.int z21_0), .val (.int z29_0), .val (.int jv30_13), .val (.ref b32_0), .val (.ref b37_0), .val (.ref b38), .val (.ref b55), .val (.int 0)] [(.int 0)]))
                  refine Go.ifNo X155 hx (pc' := 285) rfl (hb hby at_282) (by decide) ?_
                  refine Go.aload X155 hx (pc' := 287) rfl (hb hby at_285) rfl rfl ?_
                  refine Go.aload X155 hx (pc' := 289) rfl (hb hby at_287) rfl rfl ?_
                  have fk156 : Exa Z h73 b32_0 "java/lang/String" := (((fk44.keep K54).ext E55).keep K73)
                  refine Go.callV X155 hx Z37 O37 (tw_123 hw) (tw_124 hw) (notFace_of_selects (args := #[]) (mvT Z37 (tw_126 hw))) (tw_126 hw) (tw_125 hw) (by decide) (tw_127 hw) (tw_34 hw) (au_131 l Z a0 hw b38 b32_0 h73 n0 Zn105 fk156) e155 fk151 (argsL := [(.ref b32_0)]) (rest := []) (pc' := 292) rfl (by rw [hml]; rfl) (lenOf pd_30 rfl) rfl rfl (W := 0) (Nat.le_of_eq rfl) (by decide) (by decide) (by decide) (by decide) (hb hby at_289) ?_
                  intro v157 T157 L157 q157 X157
                  obtain ⟨rfl, N157, e157⟩ := q157
                  show Go _ _ _ _ (T157.setTop (mkF m 292 #[.val (.int p0), .val (.int p1), .val (.int p2), .val (.int p3), .val (.int p4), .val (.int 1), .val (.int 1), .val (.int z3_0), .val (.int z4_0), .val (.int z5_0), .val (.int z13_0), .val (.int z21_0), .val (.int z29_0), .val (.int jv30_13), .val (.ref b32_0), .val (.ref b37_0), .val (.ref b38), .val (.ref b55), .val (.int 0)] [(.int 0)]))
                  refine Go.ifNo X157 hx (pc' := 295) rfl (hb hby at_292) (by decide) ?_
                  refine Go.iconst X157 hx (pc' := 296) rfl (hb hby at_295) (v := (1 : Int32)) rfl ?_
                  refine Go.goto X157 hx (pc' := 300) (hb hby at_296) (by decide) (by decide) ?_
                  have C158 : CHr Z EL0 s.vm s.heap T37.vm h37 := (C36.trans C37)
                  have C159 : CHr Z EL0 s.vm s.heap T37.vm h38 := (C158.trans (CHr.ext E38 C158.1))
                  have fk160 : Safe Z EL0 T37.vm h38 b38 := (Safe.ext E38 C158.1 (Safe.new (Nat.le_of_eq g38.symm) : Safe Z EL0 T37.vm h37 b38))
                  have C161 : CHr Z EL0 s.vm s.heap T37.vm h54 := (C159.trans (CHr.keep K54 (sfS fk160 sf0) C159.1))
                  have C162 : CHr Z EL0 s.vm s.heap T37.vm h55 := (C161.trans (CHr.ext E55 C161.1))
                  have fk163 : Safe Z EL0 T37.vm h55 b55 := (Safe.ext E55 C161.1 (Safe.new (Nat.le_of_eq g55.symm) : Safe Z EL0 T37.vm h54 b55))
                  have C164 : CHr Z EL0 s.vm s.heap T37.vm h73 := (C162.trans (CHr.keep K73 (sfS fk163 sf0) C162.1))
                  have hk165 := (Nat.le_trans (Nat.le_trans (Nat.le_trans (Nat.le_trans (Nat.le_refl _) E38.1) K54.1) E55.1) K73.1)
                  refine Go.retNW X157 hx hlk Z37 (own_EW hw) e157 S37 hk165 C164 (t := .boolean) hret (by simp) (hb hby at_300) (by decide) (by decide) (fun hat => ?_)
                  exact ⟨rfl, (Fr.app (Fr.app (Fr.app (Fr.app (Fr.app (Fr.app (Fr.app (Fr.app (Fr.app (Fr.app (Fr.app (Fr.app (Fr.app (Fr.app (Fr.app (Fr.app (Fr.app (Fr.app (Fr.app (Fr.nil n0) N3) N4) N5) N6) N13) N14) N21) N22) N29) N32) N37) N54) N73) N107_1) N152_1) N153_1) N154) N155) N157)⟩
                · exact absurd hc74.symm c153_2_0
              · exact absurd hc74 c152_2_0
          · refine Go.iload X73 hx (pc' := 189) rfl (hb hby at_187) rfl ?_
            refine Go.iconst X73 hx (pc' := 190) rfl (hb hby at_189) (v := (1 : Int32)) rfl ?_
            refine Go.icmpNo X73 hx (pc' := 193) rfl (hb hby at_190) (by decide) ?_
            refine Go.iload X73 hx (pc' := 195) rfl (hb hby at_193) rfl ?_
            refine Go.iload X73 hx (pc' := 197) rfl (hb hby at_195) rfl ?_
            have Kp167 : Keep h0 h73 [] := (Kp58.trans K73 (allS (Or.inr sz68) all0))
            have Zn166 : n0 ≤ h73.size := Nat.le_trans Z0 Kp167.1
            refine Go.callS X73 hx Z37 O37 (tw_198 hw) (tw_199 hw) (tw_2 hw) (tw_200 hw) (by decide) (tw_200 hw) (tw_2 hw) (au_132 l Z a0 hw z3_0 z13_0 h73 n0 Zn166 r10 w13) e73 (argsL := [(.int z3_0), (.int z13_0)]) (rest := []) (pc' := 200) rfl (by rw [hml]; rfl) (lenOf pd_31 rfl) rfl rfl (W := 0) (Nat.le_of_eq rfl) (by decide) (by decide) (by decide) (by decide) (hb hby at_197) ?_
            intro v168 T168 L168 q168 X168
            rcases q168 with ⟨z168_0_0, z168_0_1, d168_0_0, d168_0_1, c168_0_0, rfl, N168_0, e168_0⟩ | ⟨z168_1_0, z168_1_1, d168_1_0, d168_1_1, c168_1_0, rfl, N168_1, e168_1⟩
            · have r169 : 0 ≤ z168_0_0.toInt ∧ z168_0_0.toInt ≤ 255 := own_rfold d168_0_0 (own_rw r10 (by decide) (by decide))
              have r170 : 0 ≤ z168_0_1.toInt ∧ z168_0_1.toInt ≤ 255 := own_rfold d168_0_1 (own_rw w13 (by decide) (by decide))
              show Go _ _ _ _ (T168.setTop (mkF m 200 #[.val (.int p0), .val (.int p1), .val (.int p2), .val (.int p3), .val (.int p4), .val (.int 2), .val (.int 2), .val (.int z3_0), .val (.int z4_0), .val (.int z5_0), .val (.int z13_0), .val (.int z21_0), .val (.int z29_0), .val (.int jv30_13), .val (.ref b32_0), .val (.ref b37_0), .val (.ref b38), .val (.ref b55), .unset] [(.int 1)]))
              refine Go.ifNo X168 hx (pc' := 203) rfl (hb hby at_200) (by decide) ?_
              refine Go.iload X168 hx (pc' := 205) rfl (hb hby at_203) rfl ?_
              refine Go.iconst X168 hx (pc' := 206) rfl (hb hby at_205) (v := (2 : Int32)) rfl ?_
              refine Go.icmpNo X168 hx (pc' := 209) rfl (hb hby at_206) (by decide) ?_
              refine Go.iload X168 hx (pc' := 211) rfl (hb hby at_209) rfl ?_
              refine Go.iload X168 hx (pc' := 213) rfl (hb hby at_211) rfl ?_
              refine Go.callS X168 hx Z37 O37 (tw_198 hw) (tw_199 hw) (tw_2 hw) (tw_200 hw) (by decide) (tw_200 hw) (tw_2 hw) (au_132 l Z a0 hw z4_0 z21_0 h73 n0 Zn166 r18 w21) e168_0 (argsL := [(.int z4_0), (.int z21_0)]) (rest := []) (pc' := 216) rfl (by rw [hml]; rfl) (lenOf pd_31 rfl) rfl rfl (W := 0) (Nat.le_of_eq rfl) (by decide) (by decide) (by decide) (by decide) (hb hby at_213) ?_
              intro v171 T171 L171 q171 X171
              rcases q171 with ⟨z171_0_0, z171_0_1, d171_0_0, d171_0_1, c171_0_0, rfl, N171_0, e171_0⟩ | ⟨z171_1_0, z171_1_1, d171_1_0, d171_1_1, c171_1_0, rfl, N171_1, e171_1⟩
              · have r172 : 0 ≤ z171_0_0.toInt ∧ z171_0_0.toInt ≤ 255 := own_rfold d171_0_0 (own_rw r18 (by decide) (by decide))
                have r173 : 0 ≤ z171_0_1.toInt ∧ z171_0_1.toInt ≤ 255 := own_rfold d171_0_1 (own_rw w21 (by decide) (by decide))
                show Go _ _ _ _ (T171.setTop (mkF m 216 #[.val (.int p0), .val (.int p1), .val (.int p2), .val (.int p3), .val (.int p4), .val (.int 2), .val (.int 2), .val (.int z3_0), .val (.int z4_0), .val (.int z5_0), .val (.int z13_0), .val (.int z21_0), .val (.int z29_0), .val (.int jv30_13), .val (.ref b32_0), .val (.ref b37_0), .val (.ref b38), .val (.ref b55), .unset] [(.int 1)]))
                refine Go.ifNo X171 hx (pc' := 219) rfl (hb hby at_216) (by decide) ?_
                refine Go.iload X171 hx (pc' := 221) rfl (hb hby at_219) rfl ?_
                refine Go.iconst X171 hx (pc' := 222) rfl (hb hby at_221) (v := (3 : Int32)) rfl ?_
                refine Go.icmpYes X171 hx (pc' := 235) (hb hby at_222) (by decide) (by decide) (by decide) ?_
                refine Go.iconst X171 hx (pc' := 236) rfl (hb hby at_235) (v := (1 : Int32)) rfl ?_
                refine Go.goto X171 hx (pc' := 240) (hb hby at_236) (by decide) (by decide) ?_
                refine Go.istore X171 hx (pc' := 242) rfl (hb hby at_240) (Ls' := #[.val (.int p0), .val (.int p1), .val (.int p2), .val (.int p3), .val (.int p4), .val (.int 2), .val (.int 2), .val (.int z3_0), .val (.int z4_0), .val (.int z5_0), .val (.int z13_0), .val (.int z21_0), .val (.int z29_0), .val (.int jv30_13), .val (.ref b32_0), .val (.ref b37_0), .val (.ref b38), .val (.ref b55), .val (.int 1)]) rfl ?_
                refine Go.aload X171 hx (pc' := 244) rfl (hb hby at_242) rfl rfl ?_
                refine Go.aload X171 hx (pc' := 246) rfl (hb hby at_244) rfl rfl ?_
                have O174 := (O60.keep K73 (allS ge67 all0))
                have ne175 : b38 ≠ b55 := Nat.ne_of_lt (Nat.lt_of_lt_of_le F54_0.lt (Nat.le_of_eq g55.symm))
                have fk176 : Fld Z h73 b38 "com/example/dirbound/dirbound/ldap/HostPort" "folded" "Ljava/lang/String;" (.ref b54_0) := ((F54_1.ext E55).keep K73 (ninS ne175 nin0))
                have fk177 : Fld Z h73 b38 "com/example/dirbound/dirbound/ldap/HostPort" "port" "I" (.int p2) := ((F54_3.ext E55).keep K73 (ninS ne175 nin0))
                have fk178 : Exa Z h73 b54_0 "java/lang/String" := ((F54_4.ext E55).keep K73)
                have ne179 : b54_0 ≠ b55 := Nat.ne_of_lt (Nat.lt_of_lt_of_le F54_4.lt (Nat.le_of_eq g55.symm))
                have fk180 : Fld Z h73 b54_0 "java/lang/String" "coder" "B" (.int 0) := ((F54_5.ext E55).keep K73 (ninS ne179 nin0))
                have fk181 : Fld Z h73 b54_0 "java/lang/String" "value" "[B" (.ref b54_1) := ((F54_6.ext E55).keep K73 (ninS ne179 nin0))
                have ne182 : b54_1 ≠ b55 := Nat.ne_of_lt (Nat.lt_of_lt_of_le F54_7.lt (Nat.le_of_eq g55.symm))
                have fk183 := ((F54_7.ext E55).keep K73 (ninS ne182 nin0))
                have fk185 : Exa Z h55 b54_0 "java/lang/String" := (F54_4.ext E55)
                have ne184 : b54_0 ≠ b73_0 := Nat.ne_of_lt (Nat.lt_of_lt_of_le fk185.lt s73_0)
                have fk186 : Exa Z h73 b38 "com/example/dirbound/dirbound/ldap/HostPort" := ((F54_0.ext E55).keep K73)
                refine Go.callV X171 hx Z37 O37 (tw_123 hw) (tw_124 hw) (notFace_of_selects (args := #[]) (mvT Z37 (tw_126 hw))) (tw_126 hw) (tw_125 hw) (by decide) (tw_127 hw) (tw_34 hw) (au_126 l Z a0 hw b38 b55 b54_0 p2 b73_0 jv30_13 b54_1 b73_1 k54_0 z54_1 z54_0 k73_0 z73_1 z73_0 gz1 gv5 h73 n0 Zn166 O174 G fk176 fk177 F73_0 F73_1 F73_3 fk178 fk180 fk181 F73_4 F73_5 F73_6 fk183 F73_7 c54_0 c54_1 c73_0 c73_1 ne184) e171_0 fk186 (argsL := [(.ref b55)]) (rest := []) (pc' := 249) rfl (by rw [hml]; rfl) (lenOf pd_30 rfl) rfl rfl (W := 0) (Nat.le_of_eq rfl) (by decide) (by decide) (by decide) (by decide) (hb hby at_246) ?_
                intro v187 T187 L187 q187 X187
                rcases q187 with ⟨c187_0_0, c187_0_1, rfl, N187_0, e187_0⟩ | ⟨c187_1_0, c187_1_1, rfl, N187_1, e187_1⟩ | ⟨c187_2_0, rfl, N187_2, e187_2⟩
                · show Go _ _ _ _ (T187.setTop (mkF m 249 #[.val (.int p0), .val (.int p1), .val (.int p2), .val (.int p3), .val (.int p4), .val (.int 2), .val (.int 2), .val (.int z3_0), .val (.int z4_0), .val (.int z5_0), .val (.int z13_0), .val (.int z21_0), .val (.int z29_0), .val (.int jv30_13), .val (.ref b32_0), .val (.ref b37_0), .val (.ref b38), .val (.ref b55), .val (.int 1)] [(.int 1)]))
                  refine Go.iload X187 hx (pc' := 251) rfl (hb hby at_249) rfl ?_
                  refine Go.icmpNo X187 hx (pc' := 254) rfl (hb hby at_251) (by decide) ?_
                  refine Go.aload X187 hx (pc' := 256) rfl (hb hby at_254) rfl rfl ?_
                  refine Go.aload X187 hx (pc' := 258) rfl (hb hby at_256) rfl rfl ?_
                  refine Go.callV X187 hx Z37 O37 (tw_123 hw) (tw_124 hw) (notFace_of_selects (args := #[]) (mvT Z37 (tw_126 hw))) (tw_126 hw) (tw_125 hw) (by decide) (tw_127 hw) (tw_34 hw) (au_126 l Z a0 hw b55 b38 b73_0 jv30_13 b54_0 p2 b73_1 b54_1 k73_0 z73_1 z73_0 k54_0 z54_1 z54_0 gz1 gv5 h73 n0 Zn166 O174 G F73_1 F73_3 fk186 fk176 fk177 F73_4 F73_5 F73_6 fk178 fk180 fk181 F73_7 fk183 c73_0 c73_1 c54_0 c54_1 (Ne.symm ne184)) e187_0 F73_0 (argsL := [(.ref b38)]) (rest := []) (pc' := 261) rfl (by rw [hml]; rfl) (lenOf pd_30 rfl) rfl rfl (W := 0) (Nat.le_of_eq rfl) (by decide) (by decide) (by decide) (by decide) (hb hby at_258) ?_
                  intro v188 T188 L188 q188 X188
                  rcases q188 with ⟨c188_0_0, c188_0_1, rfl, N188_0, e188_0⟩ | ⟨c188_1_0, c188_1_1, rfl, N188_1, e188_1⟩ | ⟨c188_2_0, rfl, N188_2, e188_2⟩
                  · show Go _ _ _ _ (T188.setTop (mkF m 261 #[.val (.int p0), .val (.int p1), .val (.int p2), .val (.int p3), .val (.int p4), .val (.int 2), .val (.int 2), .val (.int z3_0), .val (.int z4_0), .val (.int z5_0), .val (.int z13_0), .val (.int z21_0), .val (.int z29_0), .val (.int jv30_13), .val (.ref b32_0), .val (.ref b37_0), .val (.ref b38), .val (.ref b55), .val (.int 1)] [(.int 1)]))
                    refine Go.iload X188 hx (pc' := 263) rfl (hb hby at_261) rfl ?_
                    refine Go.icmpNo X188 hx (pc' := 266) rfl (hb hby at_263) (by decide) ?_
                    refine Go.aload X188 hx (pc' := 268) rfl (hb hby at_266) rfl rfl ?_
                    refine Go.aload X188 hx (pc' := 270) rfl (hb hby at_268) rfl rfl ?_
                    refine Go.callV X188 hx Z37 O37 (tw_123 hw) (tw_124 hw) (notFace_of_selects (args := #[]) (mvT Z37 (tw_126 hw))) (tw_126 hw) (tw_125 hw) (by decide) (tw_127 hw) (tw_34 hw) (au_128 l Z a0 hw b38 b54_0 p2 h73 n0 Zn166 fk186 fk176 fk177 fk178) e188_0 fk186 (argsL := [(.ref b38)]) (rest := []) (pc' := 273) rfl (by rw [hml]; rfl) (lenOf pd_30 rfl) rfl rfl (W := 0) (Nat.le_of_eq rfl) (by decide) (by decide) (by decide) (by decide) (hb hby at_270) ?_
                    intro v189 T189 L189 q189 X189
                    obtain ⟨rfl, N189, e189⟩ := q189
                    show Go _ _ _ _ (T189.setTop (mkF m 273 #[.val (.int p0), .val (.int p1), .val (.int p2), .val (.int p3), .val (.int p4), .val (.int 2), .val (.int 2), .val (.int z3_0), .val (.int z4_0), .val (.int z5_0), .val (.int z13_0), .val (.int z21_0), .val (.int z29_0), .val (.int jv30_13), .val (.ref b32_0), .val (.ref b37_0), .val (.ref b38), .val (.ref b55), .val (.int 1)] [(.int 1)]))
                    refine Go.ifNo X189 hx (pc' := 276) rfl (hb hby at_273) (by decide) ?_
                    refine Go.aload X189 hx (pc' := 278) rfl (hb hby at_276) rfl rfl ?_
                    refine Go.anull X189 hx (pc' := 279) rfl (hb hby at_278) ?_
                    refine Go.callV X189 hx Z37 O37 (tw_123 hw) (tw_124 hw) (notFace_of_selects (args := #[]) (mvT Z37 (tw_126 hw))) (tw_126 hw) (tw_125 hw) (by decide) (tw_127 hw) (tw_34 hw) (au_130 l Z a0 hw b38 h73 n0 Zn166) e189 fk186 (argsL := [.null]) (rest := []) (pc' := 282) rfl (by rw [hml]; rfl) (lenOf pd_30 rfl) rfl rfl (W := 0) (Nat.le_of_eq rfl) (by decide) (by decide) (by decide) (by decide) (hb hby at_279) ?_
                    intro v190 T190 L190 q190 X190
                    obtain ⟨rfl, N190, e190⟩ := q190
                    show Go _ _ _ _ (T190.setTop (mkF m 282 #[.val (.int p0), .val (.int p1), .val (.int p2), .val (.int p3), .val (.int p4), .val (.int 2), .val (.int 2), .val (.int z3_0), .val (.int z4_0), .val (.int z5_0), .val (.int z13_0), .val (.int z21_0), .val (.int z29_0), .val (.int jv30_13), .val (.ref b32_0), .val (.ref b37_0), .val (.ref b38), .val (.ref b55), .val (.int 1)] [(.int 0)]))
                    refine Go.ifNo X190 hx (pc' := 285) rfl (hb hby at_282) (by decide) ?_
                    refine Go.aload X190 hx (pc' := 287) rfl (hb hby at_285) rfl rfl ?_
                    refine Go.aload X190 hx (pc' := 289) rfl (hb hby at_287) rfl rfl ?_
                    have fk191 : Exa Z h73 b32_0 "java/lang/String" := (((fk44.keep K54).ext E55).keep K73)
                    refine Go.callV X190 hx Z37 O37 (tw_123 hw) (tw_124 hw) (notFace_of_selects (args := #[]) (mvT Z37 (tw_126 hw))) (tw_126 hw) (tw_125 hw) (by decide) (tw_127 hw) (tw_34 hw) (au_131 l Z a0 hw b38 b32_0 h73 n0 Zn166 fk191) e190 fk186 (argsL := [(.ref b32_0)]) (rest := []) (pc' := 292) rfl (by rw [hml]; rfl) (lenOf pd_30 rfl) rfl rfl (W := 0) (Nat.le_of_eq rfl) (by decide) (by decide) (by decide) (by decide) (hb hby at_289) ?_
                    intro v192 T192 L192 q192 X192
                    obtain ⟨rfl, N192, e192⟩ := q192
                    show Go _ _ _ _ (T192.setTop (mkF m 292 #[.val (.int p0), .val (.int p1), .val (.int p2), .val (.int p3), .val (.int p4), .val (.int 2), .val (.int 2), .val (.int z3_0), .val (.int z4_0), .val (.int z5_0), .val (.int z13_0), .val (.int z21_0), .val (.int z29_0), .val (.int jv30_13), .val (.ref b32_0), .val (.ref b37_0), .val (.ref b38), .val (.ref b55), .val (.int 1)] [(.int 0)]))
                    refine Go.ifNo X192 hx (pc' := 295) rfl (hb hby at_292) (by decide) ?_
                    refine Go.iconst X192 hx (pc' := 296) rfl (hb hby at_295) (v := (1 : Int32)) rfl ?_
                    refine Go.goto X192 hx (pc' := 300) (hb hby at_296) (by decide) (by decide) ?_
                    have C193 : CHr Z EL0 s.vm s.heap T37.vm h37 := (C36.trans C37)
                    have C194 : CHr Z EL0 s.vm s.heap T37.vm h38 := (C193.trans (CHr.ext E38 C193.1))
                    have fk195 : Safe Z EL0 T37.vm h38 b38 := (Safe.ext E38 C193.1 (Safe.new (Nat.le_of_eq g38.symm) : Safe Z EL0 T37.vm h37 b38))
                    have C196 : CHr Z EL0 s.vm s.heap T37.vm h54 := (C194.trans (CHr.keep K54 (sfS fk195 sf0) C194.1))
                    have C197 : CHr Z EL0 s.vm s.heap T37.vm h55 := (C196.trans (CHr.ext E55 C196.1))
                    have fk198 : Safe Z EL0 T37.vm h55 b55 := (Safe.ext E55 C196.1 (Safe.new (Nat.le_of_eq g55.symm) : Safe Z EL0 T37.vm h54 b55))
                    have C199 : CHr Z EL0 s.vm s.heap T37.vm h73 := (C197.trans (CHr.keep K73 (sfS fk198 sf0) C197.1))
                    have hk200 := (Nat.le_trans (Nat.le_trans (Nat.le_trans (Nat.le_trans (Nat.le_refl _) E38.1) K54.1) E55.1) K73.1)
                    refine Go.retNW X192 hx hlk Z37 (own_EW hw) e192 S37 hk200 C199 (t := .boolean) hret (by simp) (hb hby at_300) (by decide) (by decide) (fun hat => ?_)
                    exact ⟨rfl, (Fr.app (Fr.app (Fr.app (Fr.app (Fr.app (Fr.app (Fr.app (Fr.app (Fr.app (Fr.app (Fr.app (Fr.app (Fr.app (Fr.app (Fr.app (Fr.app (Fr.app (Fr.app (Fr.app (Fr.app (Fr.nil n0) N3) N4) N5) N6) N13) N14) N21) N22) N29) N32) N37) N54) N73) N168_0) N171_0) N187_0) N188_0) N189) N190) N192)⟩
                  · exact absurd ((own_ds2 d37_0 d73_0 d168_0_1 d171_0_1).trans ((own_lc c168_0_0.symm (own_lc c171_0_0.symm rfl)).trans (own_ds2 d32_0 d54_0 d168_0_0 d171_0_0).symm)) c188_1_1
                  · exact absurd hc74.symm c188_2_0
                · exact absurd ((own_ds2 d32_0 d54_0 d168_0_0 d171_0_0).trans ((own_lc c168_0_0 (own_lc c171_0_0 rfl)).trans (own_ds2 d37_0 d73_0 d168_0_1 d171_0_1).symm)) c187_1_1
                · exact absurd hc74 c187_2_0
              · have r201 : 0 ≤ z171_1_0.toInt ∧ z171_1_0.toInt ≤ 255 := own_rfold d171_1_0 (own_rw r18 (by decide) (by decide))
                have r202 : 0 ≤ z171_1_1.toInt ∧ z171_1_1.toInt ≤ 255 := own_rfold d171_1_1 (own_rw w21 (by decide) (by decide))
                show Go _ _ _ _ (T171.setTop (mkF m 216 #[.val (.int p0), .val (.int p1), .val (.int p2), .val (.int p3), .val (.int p4), .val (.int 2), .val (.int 2), .val (.int z3_0), .val (.int z4_0), .val (.int z5_0), .val (.int z13_0), .val (.int z21_0), .val (.int z29_0), .val (.int jv30_13), .val (.ref b32_0), .val (.ref b37_0), .val (.ref b38), .val (.ref b55), .unset] [(.int 0)]))
                refine Go.ifYes X171 hx (pc' := 239) (hb hby at_216) (by decide) (by decide) (by decide) ?_
                refine Go.iconst X171 hx (pc' := 240) rfl (hb hby at_239) (v := (0 : Int32)) rfl ?_
                refine Go.istore X171 hx (pc' := 242) rfl (hb hby at_240) (Ls' := #[.val (.int p0), .val (.int p1), .val (.int p2), .val (.int p3), .val (.int p4), .val (.int 2), .val (.int 2), .val (.int z3_0), .val (.int z4_0), .val (.int z5_0), .val (.int z13_0), .val (.int z21_0), .val (.int z29_0), .val (.int jv30_13), .val (.ref b32_0), .val (.ref b37_0), .val (.ref b38), .val (.ref b55), .val (.int 0)]) rfl ?_
                refine Go.aload X171 hx (pc' := 244) rfl (hb hby at_242) rfl rfl ?_
                refine Go.aload X171 hx (pc' := 246) rfl (hb hby at_244) rfl rfl ?_
                have O203 := (O60.keep K73 (allS ge67 all0))
                have ne204 : b38 ≠ b55 := Nat.ne_of_lt (Nat.lt_of_lt_of_le F54_0.lt (Nat.le_of_eq g55.symm))
                have fk205 : Fld Z h73 b38 "com/example/dirbound/dirbound/ldap/HostPort" "folded" "Ljava/lang/String;" (.ref b54_0) := ((F54_1.ext E55).keep K73 (ninS ne204 nin0))
                have fk206 : Fld Z h73 b38 "com/example/dirbound/dirbound/ldap/HostPort" "port" "I" (.int p2) := ((F54_3.ext E55).keep K73 (ninS ne204 nin0))
                have fk207 : Exa Z h73 b54_0 "java/lang/String" := ((F54_4.ext E55).keep K73)
                have ne208 : b54_0 ≠ b55 := Nat.ne_of_lt (Nat.lt_of_lt_of_le F54_4.lt (Nat.le_of_eq g55.symm))
                have fk209 : Fld Z h73 b54_0 "java/lang/String" "coder" "B" (.int 0) := ((F54_5.ext E55).keep K73 (ninS ne208 nin0))
                have fk210 : Fld Z h73 b54_0 "java/lang/String" "value" "[B" (.ref b54_1) := ((F54_6.ext E55).keep K73 (ninS ne208 nin0))
                have ne211 : b54_1 ≠ b55 := Nat.ne_of_lt (Nat.lt_of_lt_of_le F54_7.lt (Nat.le_of_eq g55.symm))
                have fk212 := ((F54_7.ext E55).keep K73 (ninS ne211 nin0))
                have fk214 : Exa Z h55 b54_0 "java/lang/String" := (F54_4.ext E55)
                have ne213 : b54_0 ≠ b73_0 := Nat.ne_of_lt (Nat.lt_of_lt_of_le fk214.lt s73_0)
                have fk215 : Exa Z h73 b38 "com/example/dirbound/dirbound/ldap/HostPort" := ((F54_0.ext E55).keep K73)
                refine Go.callV X171 hx Z37 O37 (tw_123 hw) (tw_124 hw) (notFace_of_selects (args := #[]) (mvT Z37 (tw_126 hw))) (tw_126 hw) (tw_125 hw) (by decide) (tw_127 hw) (tw_34 hw) (au_126 l Z a0 hw b38 b55 b54_0 p2 b73_0 jv30_13 b54_1 b73_1 k54_0 z54_1 z54_0 k73_0 z73_1 z73_0 gz1 gv5 h73 n0 Zn166 O203 G fk205 fk206 F73_0 F73_1 F73_3 fk207 fk209 fk210 F73_4 F73_5 F73_6 fk212 F73_7 c54_0 c54_1 c73_0 c73_1 ne213) e171_1 fk215 (argsL := [(.ref b55)]) (rest := []) (pc' := 249) rfl (by rw [hml]; rfl) (lenOf pd_30 rfl) rfl rfl (W := 0) (Nat.le_of_eq rfl) (by decide) (by decide) (by decide) (by decide) (hb hby at_246) ?_
                intro v216 T216 L216 q216 X216
                rcases q216 with ⟨c216_0_0, c216_0_1, rfl, N216_0, e216_0⟩ | ⟨c216_1_0, c216_1_1, rfl, N216_1, e216_1⟩ | ⟨c216_2_0, rfl, N216_2, e216_2⟩
                · exact absurd c216_0_1 (fun q => (own_l2 (own_l1 c171_1_0)) ((own_ds2 d32_0 d54_0 d168_0_0 d171_1_0).symm.trans (q.trans (own_ds2 d37_0 d73_0 d168_0_1 d171_1_1))))
                · show Go _ _ _ _ (T216.setTop (mkF m 249 #[.val (.int p0), .val (.int p1), .val (.int p2), .val (.int p3), .val (.int p4), .val (.int 2), .val (.int 2), .val (.int z3_0), .val (.int z4_0), .val (.int z5_0), .val (.int z13_0), .val (.int z21_0), .val (.int z29_0), .val (.int jv30_13), .val (.ref b32_0), .val (.ref b37_0), .val (.ref b38), .val (.ref b55), .val (.int 0)] [(.int 0)]))
                  refine Go.iload X216 hx (pc' := 251) rfl (hb hby at_249) rfl ?_
                  refine Go.icmpNo X216 hx (pc' := 254) rfl (hb hby at_251) (by decide) ?_
                  refine Go.aload X216 hx (pc' := 256) rfl (hb hby at_254) rfl rfl ?_
                  refine Go.aload X216 hx (pc' := 258) rfl (hb hby at_256) rfl rfl ?_
                  refine Go.callV X216 hx Z37 O37 (tw_123 hw) (tw_124 hw) (notFace_of_selects (args := #[]) (mvT Z37 (tw_126 hw))) (tw_126 hw) (tw_125 hw) (by decide) (tw_127 hw) (tw_34 hw) (au_126 l Z a0 hw b55 b38 b73_0 jv30_13 b54_0 p2 b73_1 b54_1 k73_0 z73_1 z73_0 k54_0 z54_1 z54_0 gz1 gv5 h73 n0 Zn166 O203 G F73_1 F73_3 fk215 fk205 fk206 F73_4 F73_5 F73_6 fk207 fk209 fk210 F73_7 fk212 c73_0 c73_1 c54_0 c54_1 (Ne.symm ne213)) e216_1 F73_0 (argsL := [(.ref b38)]) (rest := []) (pc' := 261) rfl (by rw [hml]; rfl) (lenOf pd_30 rfl) rfl rfl (W := 0) (Nat.le_of_eq rfl) (by decide) (by decide) (by decide) (by decide) (hb hby at_258) ?_
                  intro v217 T217 L217 q217 X217
                  rcases q217 with ⟨c217_0_0, c217_0_1, rfl, N217_0, e217_0⟩ | ⟨c217_1_0, c217_1_1, rfl, N217_1, e217_1⟩ | ⟨c217_2_0, rfl, N217_2, e217_2⟩
                  · exact absurd c217_0_1 (fun q => (own_l2 (own_l1 (Ne.symm c171_1_0))) ((own_ds2 d37_0 d73_0 d168_0_1 d171_1_1).symm.trans (q.trans (own_ds2 d32_0 d54_0 d168_0_0 d171_1_0))))
                  · show Go _ _ _ _ (T217.setTop (mkF m 261 #[.val (.int p0), .val (.int p1), .val (.int p2), .val (.int p3), .val (.int p4), .val (.int 2), .val (.int 2), .val (.int z3_0), .val (.int z4_0), .val (.int z5_0), .val (.int z13_0), .val (.int z21_0), .val (.int z29_0), .val (.int jv30_13), .val (.ref b32_0), .val (.ref b37_0), .val (.ref b38), .val (.ref b55), .val (.int 0)] [(.int 0)]))
                    refine Go.iload X217 hx (pc' := 263) rfl (hb hby at_261) rfl ?_
                    refine Go.icmpNo X217 hx (pc' := 266) rfl (hb hby at_263) (by decide) ?_
                    refine Go.aload X217 hx (pc' := 268) rfl (hb hby at_266) rfl rfl ?_
                    refine Go.aload X217 hx (pc' := 270) rfl (hb hby at_268) rfl rfl ?_
                    refine Go.callV X217 hx Z37 O37 (tw_123 hw) (tw_124 hw) (notFace_of_selects (args := #[]) (mvT Z37 (tw_126 hw))) (tw_126 hw) (tw_125 hw) (by decide) (tw_127 hw) (tw_34 hw) (au_128 l Z a0 hw b38 b54_0 p2 h73 n0 Zn166 fk215 fk205 fk206 fk207) e217_1 fk215 (argsL := [(.ref b38)]) (rest := []) (pc' := 273) rfl (by rw [hml]; rfl) (lenOf pd_30 rfl) rfl rfl (W := 0) (Nat.le_of_eq rfl) (by decide) (by decide) (by decide) (by decide) (hb hby at_270) ?_
                    intro v218 T218 L218 q218 X218
                    obtain ⟨rfl, N218, e218⟩ := q218
                    show Go _ _ _ _ (T218.setTop (mkF m 273 #[.val (.int p0), .val (.int p1), .val (.int p2), .val (.int p3), .val (.int p4), .val (.int 2), .val (.int 2), .val (.int z3_0), .val (.int z4_0), .val (.int z5_0), .val (.int z13_0), .val (.int z21_0), .val (.int z29_0), .val (.int jv30_13), .val (.ref b32_0), .val (.ref b37_0), .val (.ref b38), .val (.ref b55), .val (.int 0)] [(.int 1)]))
                    refine Go.ifNo X218 hx (pc' := 276) rfl (hb hby at_273) (by decide) ?_
                    refine Go.aload X218 hx (pc' := 278) rfl (hb hby at_276) rfl rfl ?_
                    refine Go.anull X218 hx (pc' := 279) rfl (hb hby at_278) ?_
                    refine Go.callV X218 hx Z37 O37 (tw_123 hw) (tw_124 hw) (notFace_of_selects (args := #[]) (mvT Z37 (tw_126 hw))) (tw_126 hw) (tw_125 hw) (by decide) (tw_127 hw) (tw_34 hw) (au_130 l Z a0 hw b38 h73 n0 Zn166) e218 fk215 (argsL := [.null]) (rest := []) (pc' := 282) rfl (by rw [hml]; rfl) (lenOf pd_30 rfl) rfl rfl (W := 0) (Nat.le_of_eq rfl) (by decide) (by decide) (by decide) (by decide) (hb hby at_279) ?_
                    intro v219 T219 L219 q219 X219
                    obtain ⟨rfl, N219, e219⟩ := q219
                    show Go _ _ _ _ (T219.setTop (mkF m 282 #[.val (.int p0), .val (.int p1), .val (.int p2), .val (.int p3), .val (.int p4), .val (.int 2), .val (.int 2), .val (.int z3_0), .val (.int z4_0), .val (.int z5_0), .val (.int z13_0), .val (.int z21_0), .val (.int z29_0), .val (.int jv30_13), .val (.ref b32_0), .val (.ref b37_0), .val (.ref b38), .val (.ref b55), .val (.int 0)] [(.int 0)]))
                    refine Go.ifNo X219 hx (pc' := 285) rfl (hb hby at_282) (by decide) ?_
                    refine Go.aload X219 hx (pc' := 287) rfl (hb hby at_285) rfl rfl ?_
                    refine Go.aload X219 hx (pc' := 289) rfl (hb hby at_287) rfl rfl ?_
                    have fk220 : Exa Z h73 b32_0 "java/lang/String" := (((fk44.keep K54).ext E55).keep K73)
                    refine Go.callV X219 hx Z37 O37 (tw_123 hw) (tw_124 hw) (notFace_of_selects (args := #[]) (mvT Z37 (tw_126 hw))) (tw_126 hw) (tw_125 hw) (by decide) (tw_127 hw) (tw_34 hw) (au_131 l Z a0 hw b38 b32_0 h73 n0 Zn166 fk220) e219 fk215 (argsL := [(.ref b32_0)]) (rest := []) (pc' := 292) rfl (by rw [hml]; rfl) (lenOf pd_30 rfl) rfl rfl (W := 0) (Nat.le_of_eq rfl) (by decide) (by decide) (by decide) (by decide) (hb hby at_289) ?_
                    intro v221 T221 L221 q221 X221
                    obtain ⟨rfl, N221, e221⟩ := q221
                    show Go _ _ _ _ (T221.setTop (mkF m 292 #[.val (.int p0), .val (.int p1), .val (.int p2), .val (.int p3), .val (.int p4), .val (.int 2), .val (.int 2), .val (.int z3_0), .val (.int z4_0), .val (.int z5_0), .val (.int z13_0), .val (.int z21_0), .val (.int z29_0), .val (.int jv30_13), .val (.ref b32_0), .val (.ref b37_0), .val (.ref b38), .val (.ref b55), .val (.int 0)] [(.int 0)]))
                    refine Go.ifNo X221 hx (pc' := 295) rfl (hb hby at_292) (by decide) ?_
                    refine Go.iconst X221 hx (pc' := 296) rfl (hb hby at_295) (v := (1 : Int32)) rfl ?_
                    refine Go.goto X221 hx (pc' := 300) (hb hby at_296) (by decide) (by decide) ?_
                    have C222 : CHr Z EL0 s.vm s.heap T37.vm h37 := (C36.trans C37)
                    have C223 : CHr Z EL0 s.vm s.heap T37.vm h38 := (C222.trans (CHr.ext E38 C222.1))
                    have fk224 : Safe Z EL0 T37.vm h38 b38 := (Safe.ext E38 C222.1 (Safe.new (Nat.le_of_eq g38.symm) : Safe Z EL0 T37.vm h37 b38))
                    have C225 : CHr Z EL0 s.vm s.heap T37.vm h54 := (C223.trans (CHr.keep K54 (sfS fk224 sf0) C223.1))
                    have C226 : CHr Z EL0 s.vm s.heap T37.vm h55 := (C225.trans (CHr.ext E55 C225.1))
                    have fk227 : Safe Z EL0 T37.vm h55 b55 := (Safe.ext E55 C225.1 (Safe.new (Nat.le_of_eq g55.symm) : Safe Z EL0 T37.vm h54 b55))
                    have C228 : CHr Z EL0 s.vm s.heap T37.vm h73 := (C226.trans (CHr.keep K73 (sfS fk227 sf0) C226.1))
                    have hk229 := (Nat.le_trans (Nat.le_trans (Nat.le_trans (Nat.le_trans (Nat.le_refl _) E38.1) K54.1) E55.1) K73.1)
                    refine Go.retNW X221 hx hlk Z37 (own_EW hw) e221 S37 hk229 C228 (t := .boolean) hret (by simp) (hb hby at_300) (by decide) (by decide) (fun hat => ?_)
                    exact ⟨rfl, (Fr.app (Fr.app (Fr.app (Fr.app (Fr.app (Fr.app (Fr.app (Fr.app (Fr.app (Fr.app (Fr.app (Fr.app (Fr.app (Fr.app (Fr.app (Fr.app (Fr.app (Fr.app (Fr.app (Fr.app (Fr.nil n0) N3) N4) N5) N6) N13) N14) N21) N22) N29) N32) N37) N54) N73) N168_0) N171_1) N216_1) N217_1) N218) N219) N221)⟩
                  · exact absurd hc74.symm c217_2_0
                · exact absurd hc74 c216_2_0
            · have r230 : 0 ≤ z168_1_0.toInt ∧ z168_1_0.toInt ≤ 255 := own_rfold d168_1_0 (own_rw r10 (by decide) (by decide))
              have r231 : 0 ≤ z168_1_1.toInt ∧ z168_1_1.toInt ≤ 255 := own_rfold d168_1_1 (own_rw w13 (by decide) (by decide))
              show Go _ _ _ _ (T168.setTop (mkF m 200 #[.val (.int p0), .val (.int p1), .val (.int p2), .val (.int p3), .val (.int p4), .val (.int 2), .val (.int 2), .val (.int z3_0), .val (.int z4_0), .val (.int z5_0), .val (.int z13_0), .val (.int z21_0), .val (.int z29_0), .val (.int jv30_13), .val (.ref b32_0), .val (.ref b37_0), .val (.ref b38), .val (.ref b55), .unset] [(.int 0)]))
              refine Go.ifYes X168 hx (pc' := 239) (hb hby at_200) (by decide) (by decide) (by decide) ?_
              refine Go.iconst X168 hx (pc' := 240) rfl (hb hby at_239) (v := (0 : Int32)) rfl ?_
              refine Go.istore X168 hx (pc' := 242) rfl (hb hby at_240) (Ls' := #[.val (.int p0), .val (.int p1), .val (.int p2), .val (.int p3), .val (.int p4), .val (.int 2), .val (.int 2), .val (.int z3_0), .val (.int z4_0), .val (.int z5_0), .val (.int z13_0), .val (.int z21_0), .val (.int z29_0), .val (.int jv30_13), .val (.ref b32_0), .val (.ref b37_0), .val (.ref b38), .val (.ref b55), .val (.int 0)]) rfl ?_
              refine Go.aload X168 hx (pc' := 244) rfl (hb hby at_242) rfl rfl ?_
              refine Go.aload X168 hx (pc' := 246) rfl (hb hby at_244) rfl rfl ?_
              have O232 := (O60.keep K73 (allS ge67 all0))
              have ne233 : b38 ≠ b55 := Nat.ne_of_lt (Nat.lt_of_lt_of_le F54_0.lt (Nat.le_of_eq g55.symm))
              have fk234 : Fld Z h73 b38 "com/example/dirbound/dirbound/ldap/HostPort" "folded" "Ljava/lang/String;" (.ref b54_0) := ((F54_1.ext E55).keep K73 (ninS ne233 nin0))
              have fk235 : Fld Z h73 b38 "com/example/dirbound/dirbound/ldap/HostPort" "port" "I" (.int p2) := ((F54_3.ext E55).keep K73 (ninS ne233 nin0))
              have fk236 : Exa Z h73 b54_0 "java/lang/String" := ((F54_4.ext E55).keep K73)
              have ne237 : b54_0 ≠ b55 := Nat.ne_of_lt (Nat.lt_of_lt_of_le F54_4.lt (Nat.le_of_eq g55.symm))
              have fk238 : Fld Z h73 b54_0 "java/lang/String" "coder" "B" (.int 0) := ((F54_5.ext E55).keep K73 (ninS ne237 nin0))
              have fk239 : Fld Z h73 b54_0 "java/lang/String" "value" "[B" (.ref b54_1) := ((F54_6.ext E55).keep K73 (ninS ne237 nin0))
              have ne240 : b54_1 ≠ b55 := Nat.ne_of_lt (Nat.lt_of_lt_of_le F54_7.lt (Nat.le_of_eq g55.symm))
              have fk241 := ((F54_7.ext E55).keep K73 (ninS ne240 nin0))
              have fk243 : Exa Z h55 b54_0 "java/lang/String" := (F54_4.ext E55)
              have ne242 : b54_0 ≠ b73_0 := Nat.ne_of_lt (Nat.lt_of_lt_of_le fk243.lt s73_0)
              have fk244 : Exa Z h73 b38 "com/example/dirbound/dirbound/ldap/HostPort" := ((F54_0.ext E55).keep K73)
              refine Go.callV X168 hx Z37 O37 (tw_123 hw) (tw_124 hw) (notFace_of_selects (args := #[]) (mvT Z37 (tw_126 hw))) (tw_126 hw) (tw_125 hw) (by decide) (tw_127 hw) (tw_34 hw) (au_126 l Z a0 hw b38 b55 b54_0 p2 b73_0 jv30_13 b54_1 b73_1 k54_0 z54_1 z54_0 k73_0 z73_1 z73_0 gz1 gv5 h73 n0 Zn166 O232 G fk234 fk235 F73_0 F73_1 F73_3 fk236 fk238 fk239 F73_4 F73_5 F73_6 fk241 F73_7 c54_0 c54_1 c73_0 c73_1 ne242) e168_1 fk244 (argsL := [(.ref b55)]) (rest := []) (pc' := 249) rfl (by rw [hml]; rfl) (lenOf pd_30 rfl) rfl rfl (W := 0) (Nat.le_of_eq rfl) (by decide) (by decide) (by decide) (by decide) (hb hby at_246) ?_
              intro v245 T245 L245 q245 X245
              rcases q245 with ⟨c245_0_0, c245_0_1, rfl, N245_0, e245_0⟩ | ⟨c245_1_0, c245_1_1, rfl, N245_1, e245_1⟩ | ⟨c245_2_0, rfl, N245_2, e245_2⟩
              · exact absurd c245_0_1 (fun q => (own_l1 c168_1_0) ((own_ds2 d32_0 d54_0 d168_1_0 rfl).symm.trans (q.trans (own_ds2 d37_0 d73_0 d168_1_1 rfl))))
              · show Go _ _ _ _ (T245.setTop (mkF m 249 #[.val (.int p0), .val (.int p1), .val (.int p2), .val (.int p3), .val (.int p4), .val (.int 2), .val (.int 2), .val (.int z3_0), .val (.int z4_0), .val (.int z5_0), .val (.int z13_0), .val (.int z21_0), .val (.int z29_0), .val (.int jv30_13), .val (.ref b32_0), .val (.ref b37_0), .val (.ref b38), .val (.ref b55), .val (.int 0)] [(.int 0)]))
                refine Go.iload X245 hx (pc' := 251) rfl (hb hby at_249) rfl ?_
                refine Go.icmpNo X245 hx (pc' := 254) rfl (hb hby at_251) (by decide) ?_
                refine Go.aload X245 hx (pc' := 256) rfl (hb hby at_254) rfl rfl ?_
                refine Go.aload X245 hx (pc' := 258) rfl (hb hby at_256) rfl rfl ?_
                refine Go.callV X245 hx Z37 O37 (tw_123 hw) (tw_124 hw) (notFace_of_selects (args := #[]) (mvT Z37 (tw_126 hw))) (tw_126 hw) (tw_125 hw) (by decide) (tw_127 hw) (tw_34 hw) (au_126 l Z a0 hw b55 b38 b73_0 jv30_13 b54_0 p2 b73_1 b54_1 k73_0 z73_1 z73_0 k54_0 z54_1 z54_0 gz1 gv5 h73 n0 Zn166 O232 G F73_1 F73_3 fk244 fk234 fk235 F73_4 F73_5 F73_6 fk236 fk238 fk239 F73_7 fk241 c73_0 c73_1 c54_0 c54_1 (Ne.symm ne242)) e245_1 F73_0 (argsL := [(.ref b38)]) (rest := []) (pc' := 261) rfl (by rw [hml]; rfl) (lenOf pd_30 rfl) rfl rfl (W := 0) (Nat.le_of_eq rfl) (by decide) (by decide) (by decide) (by decide) (hb hby at_258) ?_
                intro v246 T246 L246 q246 X246
                rcases q246 with ⟨c246_0_0, c246_0_1, rfl, N246_0, e246_0⟩ | ⟨c246_1_0, c246_1_1, rfl, N246_1, e246_1⟩ | ⟨c246_2_0, rfl, N246_2, e246_2⟩
                · exact absurd c246_0_1 (fun q => (own_l1 (Ne.symm c168_1_0)) ((own_ds2 d37_0 d73_0 d168_1_1 rfl).symm.trans (q.trans (own_ds2 d32_0 d54_0 d168_1_0 rfl))))
                · show Go _ _ _ _ (T246.setTop (mkF m 261 #[.val (.int p0), .val (.int p1), .val (.int p2), .val (.int p3), .val (.int p4), .val (.int 2), .val (.int 2), .val (.int z3_0), .val (.int z4_0), .val (.int z5_0), .val (.int z13_0), .val (.int z21_0), .val (.int z29_0), .val (.int jv30_13), .val (.ref b32_0), .val (.ref b37_0), .val (.ref b38), .val (.ref b55), .val (.int 0)] [(.int 0)]))
                  refine Go.iload X246 hx (pc' := 263) rfl (hb hby at_261) rfl ?_
                  refine Go.icmpNo X246 hx (pc' := 266) rfl (hb hby at_263) (by decide) ?_
                  refine Go.aload X246 hx (pc' := 268) rfl (hb hby at_266) rfl rfl ?_
                  refine Go.aload X246 hx (pc' := 270) rfl (hb hby at_268) rfl rfl ?_
                  refine Go.callV X246 hx Z37 O37 (tw_123 hw) (tw_124 hw) (notFace_of_selects (args := #[]) (mvT Z37 (tw_126 hw))) (tw_126 hw) (tw_125 hw) (by decide) (tw_127 hw) (tw_34 hw) (au_128 l Z a0 hw b38 b54_0 p2 h73 n0 Zn166 fk244 fk234 fk235 fk236) e246_1 fk244 (argsL := [(.ref b38)]) (rest := []) (pc' := 273) rfl (by rw [hml]; rfl) (lenOf pd_30 rfl) rfl rfl (W := 0) (Nat.le_of_eq rfl) (by decide) (by decide) (by decide) (by decide) (hb hby at_270) ?_
                  intro v247 T247 L247 q247 X247
                  obtain ⟨rfl, N247, e247⟩ := q247
                  show Go _ _ _ _ (T247.setTop (mkF m 273 #[.val (.int p0), .val (.int p1), .val (.int p2), .val (.int p3), .val (.int p4), .val (.int 2), .val (.int 2), .val (.int z3_0), .val (.int z4_0), .val (.int z5_0), .val (.int z13_0), .val (.int z21_0), .val (.int z29_0), .val (.int jv30_13), .val (.ref b32_0), .val (.ref b37_0), .val (.ref b38), .val (.ref b55), .val (.int 0)] [(.int 1)]))
                  refine Go.ifNo X247 hx (pc' := 276) rfl (hb hby at_273) (by decide) ?_
                  refine Go.aload X247 hx (pc' := 278) rfl (hb hby at_276) rfl rfl ?_
                  refine Go.anull X247 hx (pc' := 279) rfl (hb hby at_278) ?_
                  refine Go.callV X247 hx Z37 O37 (tw_123 hw) (tw_124 hw) (notFace_of_selects (args := #[]) (mvT Z37 (tw_126 hw))) (tw_126 hw) (tw_125 hw) (by decide) (tw_127 hw) (tw_34 hw) (au_130 l Z a0 hw b38 h73 n0 Zn166) e247 fk244 (argsL := [.null]) (rest := []) (pc' := 282) rfl (by rw [hml]; rfl) (lenOf pd_30 rfl) rfl rfl (W := 0) (Nat.le_of_eq rfl) (by decide) (by decide) (by decide) (by decide) (hb hby at_279) ?_
                  intro v248 T248 L248 q248 X248
                  obtain ⟨rfl, N248, e248⟩ := q248
                  show Go _ _ _ _ (T248.setTop (mkF m 282 #[.val (.int p0), .val (.int p1), .val (.int p2), .val (.int p3), .val (.int p4), .val (.int 2), .val (.int 2), .val (.int z3_0), .val (.int z4_0), .val (.int z5_0), .val (.int z13_0), .val (.int z21_0), .val (.int z29_0), .val (.int jv30_13), .val (.ref b32_0), .val (.ref b37_0), .val (.ref b38), .val (.ref b55), .val (.int 0)] [(.int 0)]))
                  refine Go.ifNo X248 hx (pc' := 285) rfl (hb hby at_282) (by decide) ?_
                  refine Go.aload X248 hx (pc' := 287) rfl (hb hby at_285) rfl rfl ?_
                  refine Go.aload X248 hx (pc' := 289) rfl (hb hby at_287) rfl rfl ?_
                  have fk249 : Exa Z h73 b32_0 "java/lang/String" := (((fk44.keep K54).ext E55).keep K73)
                  refine Go.callV X248 hx Z37 O37 (tw_123 hw) (tw_124 hw) (notFace_of_selects (args := #[]) (mvT Z37 (tw_126 hw))) (tw_126 hw) (tw_125 hw) (by decide) (tw_127 hw) (tw_34 hw) (au_131 l Z a0 hw b38 b32_0 h73 n0 Zn166 fk249) e248 fk244 (argsL := [(.ref b32_0)]) (rest := []) (pc' := 292) rfl (by rw [hml]; rfl) (lenOf pd_30 rfl) rfl rfl (W := 0) (Nat.le_of_eq rfl) (by decide) (by decide) (by decide) (by decide) (hb hby at_289) ?_
                  intro v250 T250 L250 q250 X250
                  obtain ⟨rfl, N250, e250⟩ := q250
                  show Go _ _ _ _ (T250.setTop (mkF m 292 #[.val (.int p0), .val (.int p1), .val (.int p2), .val (.int p3), .val (.int p4), .val (.int 2), .val (.int 2), .val (.int z3_0), .val (.int z4_0), .val (.int z5_0), .val (.int z13_0), .val (.int z21_0), .val (.int z29_0), .val (.int jv30_13), .val (.ref b32_0), .val (.ref b37_0), .val (.ref b38), .val (.ref b55), .val (.int 0)] [(.int 0)]))
                  refine Go.ifNo X250 hx (pc' := 295) rfl (hb hby at_292) (by decide) ?_
                  refine Go.iconst X250 hx (pc' := 296) rfl (hb hby at_295) (v := (1 : Int32)) rfl ?_
                  refine Go.goto X250 hx (pc' := 300) (hb hby at_296) (by decide) (by decide) ?_
                  have C251 : CHr Z EL0 s.vm s.heap T37.vm h37 := (C36.trans C37)
                  have C252 : CHr Z EL0 s.vm s.heap T37.vm h38 := (C251.trans (CHr.ext E38 C251.1))
                  have fk253 : Safe Z EL0 T37.vm h38 b38 := (Safe.ext E38 C251.1 (Safe.new (Nat.le_of_eq g38.symm) : Safe Z EL0 T37.vm h37 b38))
                  have C254 : CHr Z EL0 s.vm s.heap T37.vm h54 := (C252.trans (CHr.keep K54 (sfS fk253 sf0) C252.1))
                  have C255 : CHr Z EL0 s.vm s.heap T37.vm h55 := (C254.trans (CHr.ext E55 C254.1))
                  have fk256 : Safe Z EL0 T37.vm h55 b55 := (Safe.ext E55 C254.1 (Safe.new (Nat.le_of_eq g55.symm) : Safe Z EL0 T37.vm h54 b55))
                  have C257 : CHr Z EL0 s.vm s.heap T37.vm h73 := (C255.trans (CHr.keep K73 (sfS fk256 sf0) C255.1))
                  have hk258 := (Nat.le_trans (Nat.le_trans (Nat.le_trans (Nat.le_trans (Nat.le_refl _) E38.1) K54.1) E55.1) K73.1)
                  refine Go.retNW X250 hx hlk Z37 (own_EW hw) e250 S37 hk258 C257 (t := .boolean) hret (by simp) (hb hby at_300) (by decide) (by decide) (fun hat => ?_)
                  exact ⟨rfl, (Fr.app (Fr.app (Fr.app (Fr.app (Fr.app (Fr.app (Fr.app (Fr.app (Fr.app (Fr.app (Fr.app (Fr.app (Fr.app (Fr.app (Fr.app (Fr.app (Fr.app (Fr.app (Fr.app (Fr.nil n0) N3) N4) N5) N6) N13) N14) N21) N22) N29) N32) N37) N54) N73) N168_1) N245_1) N246_1) N247) N248) N250)⟩
                · exact absurd hc74.symm c246_2_0
              · exact absurd hc74 c245_2_0
          · refine Go.iload X73 hx (pc' := 189) rfl (hb hby at_187) rfl ?_
            refine Go.iconst X73 hx (pc' := 190) rfl (hb hby at_189) (v := (1 : Int32)) rfl ?_
            refine Go.icmpNo X73 hx (pc' := 193) rfl (hb hby at_190) (by decide) ?_
            refine Go.iload X73 hx (pc' := 195) rfl (hb hby at_193) rfl ?_
            refine Go.iload X73 hx (pc' := 197) rfl (hb hby at_195) rfl ?_
            have Kp260 : Keep h0 h73 [] := (Kp58.trans K73 (allS (Or.inr sz68) all0))
            have Zn259 : n0 ≤ h73.size := Nat.le_trans Z0 Kp260.1
            refine Go.callS X73 hx Z37 O37 (tw_198 hw) (tw_199 hw) (tw_2 hw) (tw_200 hw) (by decide) (tw_200 hw) (tw_2 hw) (au_132 l Z a0 hw z3_0 z13_0 h73 n0 Zn259 r10 w13) e73 (argsL := [(.int z3_0), (.int z13_0)]) (rest := []) (pc' := 200) rfl (by rw [hml]; rfl) (lenOf pd_31 rfl) rfl rfl (W := 0) (Nat.le_of_eq rfl) (by decide) (by decide) (by decide) (by decide) (hb hby at_197) ?_
            intro v261 T261 L261 q261 X261
            rcases q261 with ⟨z261_0_0, z261_0_1, d261_0_0, d261_0_1, c261_0_0, rfl, N261_0, e261_0⟩ | ⟨z261_1_0, z261_1_1, d261_1_0, d261_1_1, c261_1_0, rfl, N261_1, e261_1⟩
            · have r262 : 0 ≤ z261_0_0.toInt ∧ z261_0_0.toInt ≤ 255 := own_rfold d261_0_0 (own_rw r10 (by decide) (by decide))
              have r263 : 0 ≤ z261_0_1.toInt ∧ z261_0_1.toInt ≤ 255 := own_rfold d261_0_1 (own_rw w13 (by decide) (by decide))
              show Go _ _ _ _ (T261.setTop (mkF m 200 #[.val (.int p0), .val (.int p1), .val (.int p2), .val (.int p3), .val (.int p4), .val (.int 3), .val (.int 3), .val (.int z3_0), .val (.int z4_0), .val (.int z5_0), .val (.int z13_0), .val (.int z21_0), .val (.int z29_0), .val (.int jv30_13), .val (.ref b32_0), .val (.ref b37_0), .val (.ref b38), .val (.ref b55), .unset] [(.int 1)]))
              refine Go.ifNo X261 hx (pc' := 203) rfl (hb hby at_200) (by decide) ?_
              refine Go.iload X261 hx (pc' := 205) rfl (hb hby at_203) rfl ?_
              refine Go.iconst X261 hx (pc' := 206) rfl (hb hby at_205) (v := (2 : Int32)) rfl ?_
              refine Go.icmpNo X261 hx (pc' := 209) rfl (hb hby at_206) (by decide) ?_
              refine Go.iload X261 hx (pc' := 211) rfl (hb hby at_209) rfl ?_
              refine Go.iload X261 hx (pc' := 213) rfl (hb hby at_211) rfl ?_
              refine Go.callS X261 hx Z37 O37 (tw_198 hw) (tw_199 hw) (tw_2 hw) (tw_200 hw) (by decide) (tw_200 hw) (tw_2 hw) (au_132 l Z a0 hw z4_0 z21_0 h73 n0 Zn259 r18 w21) e261_0 (argsL := [(.int z4_0), (.int z21_0)]) (rest := []) (pc' := 216) rfl (by rw [hml]; rfl) (lenOf pd_31 rfl) rfl rfl (W := 0) (Nat.le_of_eq rfl) (by decide) (by decide) (by decide) (by decide) (hb hby at_213) ?_
              intro v264 T264 L264 q264 X264
              rcases q264 with ⟨z264_0_0, z264_0_1, d264_0_0, d264_0_1, c264_0_0, rfl, N264_0, e264_0⟩ | ⟨z264_1_0, z264_1_1, d264_1_0, d264_1_1, c264_1_0, rfl, N264_1, e264_1⟩
              · have r265 : 0 ≤ z264_0_0.toInt ∧ z264_0_0.toInt ≤ 255 := own_rfold d264_0_0 (own_rw r18 (by decide) (by decide))
                have r266 : 0 ≤ z264_0_1.toInt ∧ z264_0_1.toInt ≤ 255 := own_rfold d264_0_1 (own_rw w21 (by decide) (by decide))
                show Go _ _ _ _ (T264.setTop (mkF m 216 #[.val (.int p0), .val (.int p1), .val (.int p2), .val (.int p3), .val (.int p4), .val (.int 3), .val (.int 3), .val (.int z3_0), .val (.int z4_0), .val (.int z5_0), .val (.int z13_0), .val (.int z21_0), .val (.int z29_0), .val (.int jv30_13), .val (.ref b32_0), .val (.ref b37_0), .val (.ref b38), .val (.ref b55), .unset] [(.int 1)]))
                refine Go.ifNo X264 hx (pc' := 219) rfl (hb hby at_216) (by decide) ?_
                refine Go.iload X264 hx (pc' := 221) rfl (hb hby at_219) rfl ?_
                refine Go.iconst X264 hx (pc' := 222) rfl (hb hby at_221) (v := (3 : Int32)) rfl ?_
                refine Go.icmpNo X264 hx (pc' := 225) rfl (hb hby at_222) (by decide) ?_
                refine Go.iload X264 hx (pc' := 227) rfl (hb hby at_225) rfl ?_
                refine Go.iload X264 hx (pc' := 229) rfl (hb hby at_227) rfl ?_
                refine Go.callS X264 hx Z37 O37 (tw_198 hw) (tw_199 hw) (tw_2 hw) (tw_200 hw) (by decide) (tw_200 hw) (tw_2 hw) (au_132 l Z a0 hw z5_0 z29_0 h73 n0 Zn259 r26 w29) e264_0 (argsL := [(.int z5_0), (.int z29_0)]) (rest := []) (pc' := 232) rfl (by rw [hml]; rfl) (lenOf pd_31 rfl) rfl rfl (W := 0) (Nat.le_of_eq rfl) (by decide) (by decide) (by decide) (by decide) (hb hby at_229) ?_
                intro v267 T267 L267 q267 X267
                rcases q267 with ⟨z267_0_0, z267_0_1, d267_0_0, d267_0_1, c267_0_0, rfl, N267_0, e267_0⟩ | ⟨z267_1_0, z267_1_1, d267_1_0, d267_1_1, c267_1_0, rfl, N267_1, e267_1⟩
                · have r268 : 0 ≤ z267_0_0.toInt ∧ z267_0_0.toInt ≤ 255 := own_rfold d267_0_0 (own_rw r26 (by decide) (by decide))
                  have r269 : 0 ≤ z267_0_1.toInt ∧ z267_0_1.toInt ≤ 255 := own_rfold d267_0_1 (own_rw w29 (by decide) (by decide))
                  show Go _ _ _ _ (T267.setTop (mkF m 232 #[.val (.int p0), .val (.int p1), .val (.int p2), .val (.int p3), .val (.int p4), .val (.int 3), .val (.int 3), .val (.int z3_0), .val (.int z4_0), .val (.int z5_0), .val (.int z13_0), .val (.int z21_0), .val (.int z29_0), .val (.int jv30_13), .val (.ref b32_0), .val (.ref b37_0), .val (.ref b38), .val (.ref b55), .unset] [(.int 1)]))
                  refine Go.ifNo X267 hx (pc' := 235) rfl (hb hby at_232) (by decide) ?_
                  refine Go.iconst X267 hx (pc' := 236) rfl (hb hby at_235) (v := (1 : Int32)) rfl ?_
                  refine Go.goto X267 hx (pc' := 240) (hb hby at_236) (by decide) (by decide) ?_
                  refine Go.istore X267 hx (pc' := 242) rfl (hb hby at_240) (Ls' := #[.val (.int p0), .val (.int p1), .val (.int p2), .val (.int p3), .val (.int p4), .val (.int 3), .val (.int 3), .val (.int z3_0), .val (.int z4_0), .val (.int z5_0), .val (.int z13_0), .val (.int z21_0), .val (.int z29_0), .val (.int jv30_13), .val (.ref b32_0), .val (.ref b37_0), .val (.ref b38), .val (.ref b55), .val (.int 1)]) rfl ?_
                  refine Go.aload X267 hx (pc' := 244) rfl (hb hby at_242) rfl rfl ?_
                  refine Go.aload X267 hx (pc' := 246) rfl (hb hby at_244) rfl rfl ?_
                  have O270 := (O60.keep K73 (allS ge67 all0))
                  have ne271 : b38 ≠ b55 := Nat.ne_of_lt (Nat.lt_of_lt_of_le F54_0.lt (Nat.le_of_eq g55.symm))
                  have fk272 : Fld Z h73 b38 "com/example/dirbound/dirbound/ldap/HostPort" "folded" "Ljava/lang/String;" (.ref b54_0) := ((F54_1.ext E55).keep K73 (ninS ne271 nin0))
                  have fk273 : Fld Z h73 b38 "com/example/dirbound/dirbound/ldap/HostPort" "port" "I" (.int p2) := ((F54_3.ext E55).keep K73 (ninS ne271 nin0))
                  have fk274 : Exa Z h73 b54_0 "java/lang/String" := ((F54_4.ext E55).keep K73)
                  have ne275 : b54_0 ≠ b55 := Nat.ne_of_lt (Nat.lt_of_lt_of_le F54_4.lt (Nat.le_of_eq g55.symm))
                  have fk276 : Fld Z h73 b54_0 "java/lang/String" "coder" "B" (.int 0) := ((F54_5.ext E55).keep K73 (ninS ne275 nin0))
                  have fk277 : Fld Z h73 b54_0 "java/lang/String" "value" "[B" (.ref b54_1) := ((F54_6.ext E55).keep K73 (ninS ne275 nin0))
                  have ne278 : b54_1 ≠ b55 := Nat.ne_of_lt (Nat.lt_of_lt_of_le F54_7.lt (Nat.le_of_eq g55.symm))
                  have fk279 := ((F54_7.ext E55).keep K73 (ninS ne278 nin0))
                  have fk281 : Exa Z h55 b54_0 "java/lang/String" := (F54_4.ext E55)
                  have ne280 : b54_0 ≠ b73_0 := Nat.ne_of_lt (Nat.lt_of_lt_of_le fk281.lt s73_0)
                  have fk282 : Exa Z h73 b38 "com/example/dirbound/dirbound/ldap/HostPort" := ((F54_0.ext E55).keep K73)
                  refine Go.callV X267 hx Z37 O37 (tw_123 hw) (tw_124 hw) (notFace_of_selects (args := #[]) (mvT Z37 (tw_126 hw))) (tw_126 hw) (tw_125 hw) (by decide) (tw_127 hw) (tw_34 hw) (au_126 l Z a0 hw b38 b55 b54_0 p2 b73_0 jv30_13 b54_1 b73_1 k54_0 z54_1 z54_0 k73_0 z73_1 z73_0 gz1 gv5 h73 n0 Zn259 O270 G fk272 fk273 F73_0 F73_1 F73_3 fk274 fk276 fk277 F73_4 F73_5 F73_6 fk279 F73_7 c54_0 c54_1 c73_0 c73_1 ne280) e267_0 fk282 (argsL := [(.ref b55)]) (rest := []) (pc' := 249) rfl (by rw [hml]; rfl) (lenOf pd_30 rfl) rfl rfl (W := 0) (Nat.le_of_eq rfl) (by decide) (by decide) (by decide) (by decide) (hb hby at_246) ?_
                  intro v283 T283 L283 q283 X283
                  rcases q283 with ⟨c283_0_0, c283_0_1, rfl, N283_0, e283_0⟩ | ⟨c283_1_0, c283_1_1, rfl, N283_1, e283_1⟩ | ⟨c283_2_0, rfl, N283_2, e283_2⟩
                  · show Go _ _ _ _ (T283.setTop (mkF m 249 #[.val (.int p0), .val (.int p1), .val (.int p2), .val (.int p3), .val (.int p4), .val (.int 3), .val (.int 3), .val (.int z3_0), .val (.int z4_0), .val (.int z5_0), .val (.int z13_0), .val (.int z21_0), .val (.int z29_0), .val (.int jv30_13), .val (.ref b32_0), .val (.ref b37_0), .val (.ref b38), .val (.ref b55), .val (.int 1)] [(.int 1)]))
                    refine Go.iload X283 hx (pc' := 251) rfl (hb hby at_249) rfl ?_
                    refine Go.icmpNo X283 hx (pc' := 254) rfl (hb hby at_251) (by decide) ?_
                    refine Go.aload X283 hx (pc' := 256) rfl (hb hby at_254) rfl rfl ?_
                    refine Go.aload X283 hx (pc' := 258) rfl (hb hby at_256) rfl rfl ?_
                    refine Go.callV X283 hx Z37 O37 (tw_123 hw) (tw_124 hw) (notFace_of_selects (args := #[]) (mvT Z37 (tw_126 hw))) (tw_126 hw) (tw_125 hw) (by decide) (tw_127 hw) (tw_34 hw) (au_126 l Z a0 hw b55 b38 b73_0 jv30_13 b54_0 p2 b73_1 b54_1 k73_0 z73_1 z73_0 k54_0 z54_1 z54_0 gz1 gv5 h73 n0 Zn259 O270 G F73_1 F73_3 fk282 fk272 fk273 F73_4 F73_5 F73_6 fk274 fk276 fk277 F73_7 fk279 c73_0 c73_1 c54_0 c54_1 (Ne.symm ne280)) e283_0 F73_0 (argsL := [(.ref b38)]) (rest := []) (pc' := 261) rfl (by rw [hml]; rfl) (lenOf pd_30 rfl) rfl rfl (W := 0) (Nat.le_of_eq rfl) (by decide) (by decide) (by decide) (by decide) (hb hby at_258) ?_
                    intro v284 T284 L284 q284 X284
                    rcases q284 with ⟨c284_0_0, c284_0_1, rfl, N284_0, e284_0⟩ | ⟨c284_1_0, c284_1_1, rfl, N284_1, e284_1⟩ | ⟨c284_2_0, rfl, N284_2, e284_2⟩
                    · show Go _ _ _ _ (T284.setTop (mkF m 261 #[.val (.int p0), .val (.int p1), .val (.int p2), .val (.int p3), .val (.int p4), .val (.int 3), .val (.int 3), .val (.int z3_0), .val (.int z4_0), .val (.int z5_0), .val (.int z13_0), .val (.int z21_0), .val (.int z29_0), .val (.int jv30_13), .val (.ref b32_0), .val (.ref b37_0), .val (.ref b38), .val (.ref b55), .val (.int 1)] [(.int 1)]))
                      refine Go.iload X284 hx (pc' := 263) rfl (hb hby at_261) rfl ?_
                      refine Go.icmpNo X284 hx (pc' := 266) rfl (hb hby at_263) (by decide) ?_
                      refine Go.aload X284 hx (pc' := 268) rfl (hb hby at_266) rfl rfl ?_
                      refine Go.aload X284 hx (pc' := 270) rfl (hb hby at_268) rfl rfl ?_
                      refine Go.callV X284 hx Z37 O37 (tw_123 hw) (tw_124 hw) (notFace_of_selects (args := #[]) (mvT Z37 (tw_126 hw))) (tw_126 hw) (tw_125 hw) (by decide) (tw_127 hw) (tw_34 hw) (au_128 l Z a0 hw b38 b54_0 p2 h73 n0 Zn259 fk282 fk272 fk273 fk274) e284_0 fk282 (argsL := [(.ref b38)]) (rest := []) (pc' := 273) rfl (by rw [hml]; rfl) (lenOf pd_30 rfl) rfl rfl (W := 0) (Nat.le_of_eq rfl) (by decide) (by decide) (by decide) (by decide) (hb hby at_270) ?_
                      intro v285 T285 L285 q285 X285
                      obtain ⟨rfl, N285, e285⟩ := q285
                      show Go _ _ _ _ (T285.setTop (mkF m 273 #[.val (.int p0), .val (.int p1), .val (.int p2), .val (.int p3), .val (.int p4), .val (.int 3), .val (.int 3), .val (.int z3_0), .val (.int z4_0), .val (.int z5_0), .val (.int z13_0), .val (.int z21_0), .val (.int z29_0), .val (.int jv30_13), .val (.ref b32_0), .val (.ref b37_0), .val (.ref b38), .val (.ref b55), .val (.int 1)] [(.int 1)]))
                      refine Go.ifNo X285 hx (pc' := 276) rfl (hb hby at_273) (by decide) ?_
                      refine Go.aload X285 hx (pc' := 278) rfl (hb hby at_276) rfl rfl ?_
                      refine Go.anull X285 hx (pc' := 279) rfl (hb hby at_278) ?_
                      refine Go.callV X285 hx Z37 O37 (tw_123 hw) (tw_124 hw) (notFace_of_selects (args := #[]) (mvT Z37 (tw_126 hw))) (tw_126 hw) (tw_125 hw) (by decide) (tw_127 hw) (tw_34 hw) (au_130 l Z a0 hw b38 h73 n0 Zn259) e285 fk282 (argsL := [.null]) (rest := []) (pc' := 282) rfl (by rw [hml]; rfl) (lenOf pd_30 rfl) rfl rfl (W := 0) (Nat.le_of_eq rfl) (by decide) (by decide) (by decide) (by decide) (hb hby at_279) ?_
                      intro v286 T286 L286 q286 X286
                      obtain ⟨rfl, N286, e286⟩ := q286
                      show Go _ _ _ _ (T286.setTop (mkF m 282 #[.val (.int p0), .val (.int p1), .val (.int p2), .val (.int p3), .val (.int p4), .val (.int 3), .val (.int 3), .val (.int z3_0), .val (.int z4_0), .val (.int z5_0), .val (.int z13_0), .val (.int z21_0), .val (.int z29_0), .val (.int jv30_13), .val (.ref b32_0), .val (.ref b37_0), .val (.ref b38), .val (.ref b55), .val (.int 1)] [(.int 0)]))
                      refine Go.ifNo X286 hx (pc' := 285) rfl (hb hby at_282) (by decide) ?_
                      refine Go.aload X286 hx (pc' := 287) rfl (hb hby at_285) rfl rfl ?_
                      refine Go.aload X286 hx (pc' := 289) rfl (hb hby at_287) rfl rfl ?_
                      have fk287 : Exa Z h73 b32_0 "java/lang/String" := (((fk44.keep K54).ext E55).keep K73)
                      refine Go.callV X286 hx Z37 O37 (tw_123 hw) (tw_124 hw) (notFace_of_selects (args := #[]) (mvT Z37 (tw_126 hw))) (tw_126 hw) (tw_125 hw) (by decide) (tw_127 hw) (tw_34 hw) (au_131 l Z a0 hw b38 b32_0 h73 n0 Zn259 fk287) e286 fk282 (argsL := [(.ref b32_0)]) (rest := []) (pc' := 292) rfl (by rw [hml]; rfl) (lenOf pd_30 rfl) rfl rfl (W := 0) (Nat.le_of_eq rfl) (by decide) (by decide) (by decide) (by decide) (hb hby at_289) ?_
                      intro v288 T288 L288 q288 X288
                      obtain ⟨rfl, N288, e288⟩ := q288
                      show Go _ _ _ _ (T288.setTop (mkF m 292 #[.val (.int p0), .val (.int p1), .val (.int p2), .val (.int p3), .val (.int p4), .val (.int 3), .val (.int 3), .val (.int z3_0), .val (.int z4_0), .val (.int z5_0), .val (.int z13_0), .val (.int z21_0), .val (.int z29_0), .val (.int jv30_13), .val (.ref b32_0), .val (.ref b37_0), .val (.ref b38), .val (.ref b55), .val (.int 1)] [(.int 0)]))
                      refine Go.ifNo X288 hx (pc' := 295) rfl (hb hby at_292) (by decide) ?_
                      refine Go.iconst X288 hx (pc' := 296) rfl (hb hby at_295) (v := (1 : Int32)) rfl ?_
                      refine Go.goto X288 hx (pc' := 300) (hb hby at_296) (by decide) (by decide) ?_
                      have C289 : CHr Z EL0 s.vm s.heap T37.vm h37 := (C36.trans C37)
                      have C290 : CHr Z EL0 s.vm s.heap T37.vm h38 := (C289.trans (CHr.ext E38 C289.1))
                      have fk291 : Safe Z EL0 T37.vm h38 b38 := (Safe.ext E38 C289.1 (Safe.new (Nat.le_of_eq g38.symm) : Safe Z EL0 T37.vm h37 b38))
                      have C292 : CHr Z EL0 s.vm s.heap T37.vm h54 := (C290.trans (CHr.keep K54 (sfS fk291 sf0) C290.1))
                      have C293 : CHr Z EL0 s.vm s.heap T37.vm h55 := (C292.trans (CHr.ext E55 C292.1))
                      have fk294 : Safe Z EL0 T37.vm h55 b55 := (Safe.ext E55 C292.1 (Safe.new (Nat.le_of_eq g55.symm) : Safe Z EL0 T37.vm h54 b55))
                      have C295 : CHr Z EL0 s.vm s.heap T37.vm h73 := (C293.trans (CHr.keep K73 (sfS fk294 sf0) C293.1))
                      have hk296 := (Nat.le_trans (Nat.le_trans (Nat.le_trans (Nat.le_trans (Nat.le_refl _) E38.1) K54.1) E55.1) K73.1)
                      refine Go.retNW X288 hx hlk Z37 (own_EW hw) e288 S37 hk296 C295 (t := .boolean) hret (by simp) (hb hby at_300) (by decide) (by decide) (fun hat => ?_)
                      exact ⟨rfl, (Fr.app (Fr.app (Fr.app (Fr.app (Fr.app (Fr.app (Fr.app (Fr.app (Fr.app (Fr.app (Fr.app (Fr.app (Fr.app (Fr.app (Fr.app (Fr.app (Fr.app (Fr.app (Fr.app (Fr.app (Fr.app (Fr.nil n0) N3) N4) N5) N6) N13) N14) N21) N22) N29) N32) N37) N54) N73) N261_0) N264_0) N267_0) N283_0) N284_0) N285) N286) N288)⟩
                    · exact absurd ((own_ds3 d37_0 d73_0 d261_0_1 d264_0_1 d267_0_1).trans ((own_lc c261_0_0.symm (own_lc c264_0_0.symm (own_lc c267_0_0.symm rfl))).trans (own_ds3 d32_0 d54_0 d261_0_0 d264_0_0 d267_0_0).symm)) c284_1_1
                    · exact absurd hc74.symm c284_2_0
                  · exact absurd ((own_ds3 d32_0 d54_0 d261_0_0 d264_0_0 d267_0_0).trans ((own_lc c261_0_0 (own_lc c264_0_0 (own_lc c267_0_0 rfl))).trans (own_ds3 d37_0 d73_0 d261_0_1 d264_0_1 d267_0_1).symm)) c283_1_1
                  · exact absurd hc74 c283_2_0
                · have r297 : 0 ≤ z267_1_0.toInt ∧ z267_1_0.toInt ≤ 255 := own_rfold d267_1_0 (own_rw r26 (by decide) (by decide))
                  have r298 : 0 ≤ z267_1_1.toInt ∧ z267_1_1.toInt ≤ 255 := own_rfold d267_1_1 (own_rw w29 (by decide) (by decide))
                  show Go _ _ _ _ (T267.setTop (mkF m 232 #[.val (.int p0), .val (.int p1), .val (.int p2), .val (.int p3), .val (.int p4), .val (.int 3), .val (.int 3), .val (.int z3_0), .val (.int z4_0), .val (.int z5_0), .val (.int z13_0), .val (.int z21_0), .val (.int z29_0), .val (.int jv30_13), .val (.ref b32_0), .val (.ref b37_0), .val (.ref b38), .val (.ref b55), .unset] [(.int 0)]))
                  refine Go.ifYes X267 hx (pc' := 239) (hb hby at_232) (by decide) (by decide) (by decide) ?_
                  refine Go.iconst X267 hx (pc' := 240) rfl (hb hby at_239) (v := (0 : Int32)) rfl ?_
                  refine Go.istore X267 hx (pc' := 242) rfl (hb hby at_240) (Ls' := #[.val (.int p0), .val (.int p1), .val (.int p2), .val (.int p3), .val (.int p4), .val (.int 3), .val (.int 3), .val (.int z3_0), .val (.int z4_0), .val (.int z5_0), .val (.int z13_0), .val (.int z21_0), .val (.int z29_0), .val (.int jv30_13), .val (.ref b32_0), .val (.ref b37_0), .val (.ref b38), .val (.ref b55), .val (.int 0)]) rfl ?_
                  refine Go.aload X267 hx (pc' := 244) rfl (hb hby at_242) rfl rfl ?_
                  refine Go.aload X267 hx (pc' := 246) rfl (hb hby at_244) rfl rfl ?_
                  have O299 := (O60.keep K73 (allS ge67 all0))
                  have ne300 : b38 ≠ b55 := Nat.ne_of_lt (Nat.lt_of_lt_of_le F54_0.lt (Nat.le_of_eq g55.symm))
                  have fk301 : Fld Z h73 b38 "com/example/dirbound/dirbound/ldap/HostPort" "folded" "Ljava/lang/String;" (.ref b54_0) := ((F54_1.ext E55).keep K73 (ninS ne300 nin0))
                  have fk302 : Fld Z h73 b38 "com/example/dirbound/dirbound/ldap/HostPort" "port" "I" (.int p2) := ((F54_3.ext E55).keep K73 (ninS ne300 nin0))
                  have fk303 : Exa Z h73 b54_0 "java/lang/String" := ((F54_4.ext E55).keep K73)
                  have ne304 : b54_0 ≠ b55 := Nat.ne_of_lt (Nat.lt_of_lt_of_le F54_4.lt (Nat.le_of_eq g55.symm))
                  have fk305 : Fld Z h73 b54_0 "java/lang/String" "coder" "B" (.int 0) := ((F54_5.ext E55).keep K73 (ninS ne304 nin0))
                  have fk306 : Fld Z h73 b54_0 "java/lang/String" "value" "[B" (.ref b54_1) := ((F54_6.ext E55).keep K73 (ninS ne304 nin0))
                  have ne307 : b54_1 ≠ b55 := Nat.ne_of_lt (Nat.lt_of_lt_of_le F54_7.lt (Nat.le_of_eq g55.symm))
                  have fk308 := ((F54_7.ext E55).keep K73 (ninS ne307 nin0))
                  have fk310 : Exa Z h55 b54_0 "java/lang/String" := (F54_4.ext E55)
                  have ne309 : b54_0 ≠ b73_0 := Nat.ne_of_lt (Nat.lt_of_lt_of_le fk310.lt s73_0)
                  have fk311 : Exa Z h73 b38 "com/example/dirbound/dirbound/ldap/HostPort" := ((F54_0.ext E55).keep K73)
                  refine Go.callV X267 hx Z37 O37 (tw_123 hw) (tw_124 hw) (notFace_of_selects (args := #[]) (mvT Z37 (tw_126 hw))) (tw_126 hw) (tw_125 hw) (by decide) (tw_127 hw) (tw_34 hw) (au_126 l Z a0 hw b38 b55 b54_0 p2 b73_0 jv30_13 b54_1 b73_1 k54_0 z54_1 z54_0 k73_0 z73_1 z73_0 gz1 gv5 h73 n0 Zn259 O299 G fk301 fk302 F73_0 F73_1 F73_3 fk303 fk305 fk306 F73_4 F73_5 F73_6 fk308 F73_7 c54_0 c54_1 c73_0 c73_1 ne309) e267_1 fk311 (argsL := [(.ref b55)]) (rest := []) (pc' := 249) rfl (by rw [hml]; rfl) (lenOf pd_30 rfl) rfl rfl (W := 0) (Nat.le_of_eq rfl) (by decide) (by decide) (by decide) (by decide) (hb hby at_246) ?_
                  intro v312 T312 L312 q312 X312
                  rcases q312 with ⟨c312_0_0, c312_0_1, rfl, N312_0, e312_0⟩ | ⟨c312_1_0, c312_1_1, rfl, N312_1, e312_1⟩ | ⟨c312_2_0, rfl, N312_2, e312_2⟩
                  · exact absurd c312_0_1 (fun q => (own_l2 (own_l2 (own_l1 c267_1_0))) ((own_ds3 d32_0 d54_0 d261_0_0 d264_0_0 d267_1_0).symm.trans (q.trans (own_ds3 d37_0 d73_0 d261_0_1 d264_0_1 d267_1_1))))
                  · show Go _ _ _ _ (T312.setTop (mkF m 249 #[.val (.int p0), .val (.int p1), .val (.int p2), .val (.int p3), .val (.int p4), .val (.int 3), .val (.int 3), .val (.int z3_0), .val (.int z4_0), .val (.int z5_0), .val (.int z13_0), .val (.int z21_0), .val (.int z29_0), .val (.int jv30_13), .val (.ref b32_0), .val (.ref b37_0), .val (.ref b38), .val (.ref b55), .val (.int 0)] [(.int 0)]))
                    refine Go.iload X312 hx (pc' := 251) rfl (hb hby at_249) rfl ?_
                    refine Go.icmpNo X312 hx (pc' := 254) rfl (hb hby at_251) (by decide) ?_
                    refine Go.aload X312 hx (pc' := 256) rfl (hb hby at_254) rfl rfl ?_
                    refine Go.aload X312 hx (pc' := 258) rfl (hb hby at_256) rfl rfl ?_
                    refine Go.callV X312 hx Z37 O37 (tw_123 hw) (tw_124 hw) (notFace_of_selects (args := #[]) (mvT Z37 (tw_126 hw))) (tw_126 hw) (tw_125 hw) (by decide) (tw_127 hw) (tw_34 hw) (au_126 l Z a0 hw b55 b38 b73_0 jv30_13 b54_0 p2 b73_1 b54_1 k73_0 z73_1 z73_0 k54_0 z54_1 z54_0 gz1 gv5 h73 n0 Zn259 O299 G F73_1 F73_3 fk311 fk301 fk302 F73_4 F73_5 F73_6 fk303 fk305 fk306 F73_7 fk308 c73_0 c73_1 c54_0 c54_1 (Ne.symm ne309)) e312_1 F73_0 (argsL := [(.ref b38)]) (rest := []) (pc' := 261) rfl (by rw [hml]; rfl) (lenOf pd_30 rfl) rfl rfl (W := 0) (Nat.le_of_eq rfl) (by decide) (by decide) (by decide) (by decide) (hb hby at_258) ?_
                    intro v313 T313 L313 q313 X313
                    rcases q313 with ⟨c313_0_0, c313_0_1, rfl, N313_0, e313_0⟩ | ⟨c313_1_0, c313_1_1, rfl, N313_1, e313_1⟩ | ⟨c313_2_0, rfl, N313_2, e313_2⟩
                    · exact absurd c313_0_1 (fun q => (own_l2 (own_l2 (own_l1 (Ne.symm c267_1_0)))) ((own_ds3 d37_0 d73_0 d261_0_1 d264_0_1 d267_1_1).symm.trans (q.trans (own_ds3 d32_0 d54_0 d261_0_0 d264_0_0 d267_1_0))))
                    · show Go _ _ _ _ (T313.setTop (mkF m 261 #[.val (.int p0), .val (.int p1), .val (.int p2), .val (.int p3), .val (.int p4), .val (.int 3), .val (.int 3), .val (.int z3_0), .val (.int z4_0), .val (.int z5_0), .val (.int z13_0), .val (.int z21_0), .val (.int z29_0), .val (.int jv30_13), .val (.ref b32_0), .val (.ref b37_0), .val (.ref b38), .val (.ref b55), .val (.int 0)] [(.int 0)]))
                      refine Go.iload X313 hx (pc' := 263) rfl (hb hby at_261) rfl ?_
                      refine Go.icmpNo X313 hx (pc' := 266) rfl (hb hby at_263) (by decide) ?_
                      refine Go.aload X313 hx (pc' := 268) rfl (hb hby at_266) rfl rfl ?_
                      refine Go.aload X313 hx (pc' := 270) rfl (hb hby at_268) rfl rfl ?_
                      refine Go.callV X313 hx Z37 O37 (tw_123 hw) (tw_124 hw) (notFace_of_selects (args := #[]) (mvT Z37 (tw_126 hw))) (tw_126 hw) (tw_125 hw) (by decide) (tw_127 hw) (tw_34 hw) (au_128 l Z a0 hw b38 b54_0 p2 h73 n0 Zn259 fk311 fk301 fk302 fk303) e313_1 fk311 (argsL := [(.ref b38)]) (rest := []) (pc' := 273) rfl (by rw [hml]; rfl) (lenOf pd_30 rfl) rfl rfl (W := 0) (Nat.le_of_eq rfl) (by decide) (by decide) (by decide) (by decide) (hb hby at_270) ?_
                      intro v314 T314 L314 q314 X314
                      obtain ⟨rfl, N314, e314⟩ := q314
                      show Go _ _ _ _ (T314.setTop (mkF m 273 #[.val (.int p0), .val (.int p1), .val (.int p2), .val (.int p3), .val (.int p4), .val (.int 3), .val (.int 3), .val (.int z3_0), .val (.int z4_0), .val (.int z5_0), .val (.int z13_0), .val (.int z21_0), .val (.int z29_0), .val (.int jv30_13), .val (.ref b32_0), .val (.ref b37_0), .val (.ref b38), .val (.ref b55), .val (.int 0)] [(.int 1)]))
                      refine Go.ifNo X314 hx (pc' := 276) rfl (hb hby at_273) (by decide) ?_
                      refine Go.aload X314 hx (pc' := 278) rfl (hb hby at_276) rfl rfl ?_
                      refine Go.anull X314 hx (pc' := 279) rfl (hb hby at_278) ?_
                      refine Go.callV X314 hx Z37 O37 (tw_123 hw) (tw_124 hw) (notFace_of_selects (args := #[]) (mvT Z37 (tw_126 hw))) (tw_126 hw) (tw_125 hw) (by decide) (tw_127 hw) (tw_34 hw) (au_130 l Z a0 hw b38 h73 n0 Zn259) e314 fk311 (argsL := [.null]) (rest := []) (pc' := 282) rfl (by rw [hml]; rfl) (lenOf pd_30 rfl) rfl rfl (W := 0) (Nat.le_of_eq rfl) (by decide) (by decide) (by decide) (by decide) (hb hby at_279) ?_
                      intro v315 T315 L315 q315 X315
                      obtain ⟨rfl, N315, e315⟩ := q315
                      show Go _ _ _ _ (T315.setTop (mkF m 282 #[.val (.int p0), .val (.int p1), .val (.int p2), .val (.int p3), .val (.int p4), .val (.int 3), .val (.int 3), .val (.int z3_0), .val (.int z4_0), .val (.int z5_0), .val (.int z13_0), .val (.int z21_0), .val (.int z29_0), .val (.int jv30_13), .val (.ref b32_0), .val (.ref b37_0), .val (.ref b38), .val (.ref b55), .val (.int 0)] [(.int 0)]))
                      refine Go.ifNo X315 hx (pc' := 285) rfl (hb hby at_282) (by decide) ?_
                      refine Go.aload X315 hx (pc' := 287) rfl (hb hby at_285) rfl rfl ?_
                      refine Go.aload X315 hx (pc' := 289) rfl (hb hby at_287) rfl rfl ?_
                      have fk316 : Exa Z h73 b32_0 "java/lang/String" := (((fk44.keep K54).ext E55).keep K73)
                      refine Go.callV X315 hx Z37 O37 (tw_123 hw) (tw_124 hw) (notFace_of_selects (args := #[]) (mvT Z37 (tw_126 hw))) (tw_126 hw) (tw_125 hw) (by decide) (tw_127 hw) (tw_34 hw) (au_131 l Z a0 hw b38 b32_0 h73 n0 Zn259 fk316) e315 fk311 (argsL := [(.ref b32_0)]) (rest := []) (pc' := 292) rfl (by rw [hml]; rfl) (lenOf pd_30 rfl) rfl rfl (W := 0) (Nat.le_of_eq rfl) (by decide) (by decide) (by decide) (by decide) (hb hby at_289) ?_
                      intro v317 T317 L317 q317 X317
                      obtain ⟨rfl, N317, e317⟩ := q317
                      show Go _ _ _ _ (T317.setTop (mkF m 292 #[.val (.int p0), .val (.int p1), .val (.int p2), .val (.int p3), .val (.int p4), .val (.int 3), .val (.int 3), .val (.int z3_0), .val (.int z4_0), .val (.int z5_0), .val (.int z13_0), .val (.int z21_0), .val (.int z29_0), .val (.int jv30_13), .val (.ref b32_0), .val (.ref b37_0), .val (.ref b38), .val (.ref b55), .val (.int 0)] [(.int 0)]))
                      refine Go.ifNo X317 hx (pc' := 295) rfl (hb hby at_292) (by decide) ?_
                      refine Go.iconst X317 hx (pc' := 296) rfl (hb hby at_295) (v := (1 : Int32)) rfl ?_
                      refine Go.goto X317 hx (pc' := 300) (hb hby at_296) (by decide) (by decide) ?_
                      have C318 : CHr Z EL0 s.vm s.heap T37.vm h37 := (C36.trans C37)
                      have C319 : CHr Z EL0 s.vm s.heap T37.vm h38 := (C318.trans (CHr.ext E38 C318.1))
                      have fk320 : Safe Z EL0 T37.vm h38 b38 := (Safe.ext E38 C318.1 (Safe.new (Nat.le_of_eq g38.symm) : Safe Z EL0 T37.vm h37 b38))
                      have C321 : CHr Z EL0 s.vm s.heap T37.vm h54 := (C319.trans (CHr.keep K54 (sfS fk320 sf0) C319.1))
                      have C322 : CHr Z EL0 s.vm s.heap T37.vm h55 := (C321.trans (CHr.ext E55 C321.1))
                      have fk323 : Safe Z EL0 T37.vm h55 b55 := (Safe.ext E55 C321.1 (Safe.new (Nat.le_of_eq g55.symm) : Safe Z EL0 T37.vm h54 b55))
                      have C324 : CHr Z EL0 s.vm s.heap T37.vm h73 := (C322.trans (CHr.keep K73 (sfS fk323 sf0) C322.1))
                      have hk325 := (Nat.le_trans (Nat.le_trans (Nat.le_trans (Nat.le_trans (Nat.le_refl _) E38.1) K54.1) E55.1) K73.1)
                      refine Go.retNW X317 hx hlk Z37 (own_EW hw) e317 S37 hk325 C324 (t := .boolean) hret (by simp) (hb hby at_300) (by decide) (by decide) (fun hat => ?_)
                      exact ⟨rfl, (Fr.app (Fr.app (Fr.app (Fr.app (Fr.app (Fr.app (Fr.app (Fr.app (Fr.app (Fr.app (Fr.app (Fr.app (Fr.app (Fr.app (Fr.app (Fr.app (Fr.app (Fr.app (Fr.app (Fr.app (Fr.app (Fr.nil n0) N3) N4) N5) N6) N13) N14) N21) N22) N29) N32) N37) N54) N73) N261_0) N264_0) N267_1) N312_1) N313_1) N314) N315) N317)⟩
                    · exact absurd hc74.symm c313_2_0
                  · exact absurd hc74 c312_2_0
              · have r326 : 0 ≤ z264_1_0.toInt ∧ z264_1_0.toInt ≤ 255 := own_rfold d264_1_0 (own_rw r18 (by decide) (by decide))
                have r327 : 0 ≤ z264_1_1.toInt ∧ z264_1_1.toInt ≤ 255 := own_rfold d264_1_1 (own_rw w21 (by decide) (by decide))
                show Go _ _ _ _ (T264.setTop (mkF m 216 #[.val (.int p0), .val (.int p1), .val (.int p2), .val (.int p3), .val (.int p4), .val (.int 3), .val (.int 3), .val (.int z3_0), .val (.int z4_0), .val (.int z5_0), .val (.int z13_0), .val (.int z21_0), .val (.int z29_0), .val (.int jv30_13), .val (.ref b32_0), .val (.ref b37_0), .val (.ref b38), .val (.ref b55), .unset] [(.int 0)]))
                refine Go.ifYes X264 hx (pc' := 239) (hb hby at_216) (by decide) (by decide) (by decide) ?_
                refine Go.iconst X264 hx (pc' := 240) rfl (hb hby at_239) (v := (0 : Int32)) rfl ?_
                refine Go.istore X264 hx (pc' := 242) rfl (hb hby at_240) (Ls' := #[.val (.int p0), .val (.int p1), .val (.int p2), .val (.int p3), .val (.int p4), .val (.int 3), .val (.int 3), .val (.int z3_0), .val (.int z4_0), .val (.int z5_0), .val (.int z13_0), .val (.int z21_0), .val (.int z29_0), .val (.int jv30_13), .val (.ref b32_0), .val (.ref b37_0), .val (.ref b38), .val (.ref b55), .val (.int 0)]) rfl ?_
                refine Go.aload X264 hx (pc' := 244) rfl (hb hby at_242) rfl rfl ?_
                refine Go.aload X264 hx (pc' := 246) rfl (hb hby at_244) rfl rfl ?_
                have O328 := (O60.keep K73 (allS ge67 all0))
                have ne329 : b38 ≠ b55 := Nat.ne_of_lt (Nat.lt_of_lt_of_le F54_0.lt (Nat.le_of_eq g55.symm))
                have fk330 : Fld Z h73 b38 "com/example/dirbound/dirbound/ldap/HostPort" "folded" "Ljava/lang/String;" (.ref b54_0) := ((F54_1.ext E55).keep K73 (ninS ne329 nin0))
                have fk331 : Fld Z h73 b38 "com/example/dirbound/dirbound/ldap/HostPort" "port" "I" (.int p2) := ((F54_3.ext E55).keep K73 (ninS ne329 nin0))
                have fk332 : Exa Z h73 b54_0 "java/lang/String" := ((F54_4.ext E55).keep K73)
                have ne333 : b54_0 ≠ b55 := Nat.ne_of_lt (Nat.lt_of_lt_of_le F54_4.lt (Nat.le_of_eq g55.symm))
                have fk334 : Fld Z h73 b54_0 "java/lang/String" "coder" "B" (.int 0) := ((F54_5.ext E55).keep K73 (ninS ne333 nin0))
                have fk335 : Fld Z h73 b54_0 "java/lang/String" "value" "[B" (.ref b54_1) := ((F54_6.ext E55).keep K73 (ninS ne333 nin0))
                have ne336 : b54_1 ≠ b55 := Nat.ne_of_lt (Nat.lt_of_lt_of_le F54_7.lt (Nat.le_of_eq g55.symm))
                have fk337 := ((F54_7.ext E55).keep K73 (ninS ne336 nin0))
                have fk339 : Exa Z h55 b54_0 "java/lang/String" := (F54_4.ext E55)
                have ne338 : b54_0 ≠ b73_0 := Nat.ne_of_lt (Nat.lt_of_lt_of_le fk339.lt s73_0)
                have fk340 : Exa Z h73 b38 "com/example/dirbound/dirbound/ldap/HostPort" := ((F54_0.ext E55).keep K73)
                refine Go.callV X264 hx Z37 O37 (tw_123 hw) (tw_124 hw) (notFace_of_selects (args := #[]) (mvT Z37 (tw_126 hw))) (tw_126 hw) (tw_125 hw) (by decide) (tw_127 hw) (tw_34 hw) (au_126 l Z a0 hw b38 b55 b54_0 p2 b73_0 jv30_13 b54_1 b73_1 k54_0 z54_1 z54_0 k73_0 z73_1 z73_0 gz1 gv5 h73 n0 Zn259 O328 G fk330 fk331 F73_0 F73_1 F73_3 fk332 fk334 fk335 F73_4 F73_5 F73_6 fk337 F73_7 c54_0 c54_1 c73_0 c73_1 ne338) e264_1 fk340 (argsL := [(.ref b55)]) (rest := []) (pc' := 249) rfl (by rw [hml]; rfl) (lenOf pd_30 rfl) rfl rfl (W := 0) (Nat.le_of_eq rfl) (by decide) (by decide) (by decide) (by decide) (hb hby at_246) ?_
                intro v341 T341 L341 q341 X341
                rcases q341 with ⟨c341_0_0, c341_0_1, rfl, N341_0, e341_0⟩ | ⟨c341_1_0, c341_1_1, rfl, N341_1, e341_1⟩ | ⟨c341_2_0, rfl, N341_2, e341_2⟩
                · exact absurd c341_0_1 (fun q => (own_l2 (own_l1 c264_1_0)) ((own_ds3 d32_0 d54_0 d261_0_0 d264_1_0 rfl).symm.trans (q.trans (own_ds3 d37_0 d73_0 d261_0_1 d264_1_1 rfl))))
                · show Go _ _ _ _ (T341.setTop (mkF m 249 #[.val (.int p0), .val (.int p1), .val (.int p2), .val (.int p3), .val (.int p4), .val (.int 3), .val (.int 3), .val (.int z3_0), .val (.int z4_0), .val (.int z5_0), .val (.int z13_0), .val (.int z21_0), .val (.int z29_0), .val (.int jv30_13), .val (.ref b32_0), .val (.ref b37_0), .val (.ref b38), .val (.ref b55), .val (.int 0)] [(.int 0)]))
                  refine Go.iload X341 hx (pc' := 251) rfl (hb hby at_249) rfl ?_
                  refine Go.icmpNo X341 hx (pc' := 254) rfl (hb hby at_251) (by decide) ?_
                  refine Go.aload X341 hx (pc' := 256) rfl (hb hby at_254) rfl rfl ?_
                  refine Go.aload X341 hx (pc' := 258) rfl (hb hby at_256) rfl rfl ?_
                  refine Go.callV X341 hx Z37 O37 (tw_123 hw) (tw_124 hw) (notFace_of_selects (args := #[]) (mvT Z37 (tw_126 hw))) (tw_126 hw) (tw_125 hw) (by decide) (tw_127 hw) (tw_34 hw) (au_126 l Z a0 hw b55 b38 b73_0 jv30_13 b54_0 p2 b73_1 b54_1 k73_0 z73_1 z73_0 k54_0 z54_1 z54_0 gz1 gv5 h73 n0 Zn259 O328 G F73_1 F73_3 fk340 fk330 fk331 F73_4 F73_5 F73_6 fk332 fk334 fk335 F73_7 fk337 c73_0 c73_1 c54_0 c54_1 (Ne.symm ne338)) e341_1 F73_0 (argsL := [(.ref b38)]) (rest := []) (pc' := 261) rfl (by rw [hml]; rfl) (lenOf pd_30 rfl) rfl rfl (W := 0) (Nat.le_of_eq rfl) (by decide) (by decide) (by decide) (by decide) (hb hby at_258) ?_
                  intro v342 T342 L342 q342 X342
                  rcases q342 with ⟨c342_0_0, c342_0_1, rfl, N342_0, e342_0⟩ | ⟨c342_1_0, c342_1_1, rfl, N342_1, e342_1⟩ | ⟨c342_2_0, rfl, N342_2, e342_2⟩
                  · exact absurd c342_0_1 (fun q => (own_l2 (own_l1 (Ne.symm c264_1_0))) ((own_ds3 d37_0 d73_0 d261_0_1 d264_1_1 rfl).symm.trans (q.trans (own_ds3 d32_0 d54_0 d261_0_0 d264_1_0 rfl))))
                  · show Go _ _ _ _ (T342.setTop (mkF m 261 #[.val (.int p0), .val (.int p1), .val (.int p2), .val (.int p3), .val (.int p4), .val (.int 3), .val (.int 3), .val (.int z3_0), .val (.int z4_0), .val (.int z5_0), .val (.int z13_0), .val (.int z21_0), .val (.int z29_0), .val (.int jv30_13), .val (.ref b32_0), .val (.ref b37_0), .val (.ref b38), .val (.ref b55), .val (.int 0)] [(.int 0)]))
                    refine Go.iload X342 hx (pc' := 263) rfl (hb hby at_261) rfl ?_
                    refine Go.icmpNo X342 hx (pc' := 266) rfl (hb hby at_263) (by decide) ?_
                    refine Go.aload X342 hx (pc' := 268) rfl (hb hby at_266) rfl rfl ?_
                    refine Go.aload X342 hx (pc' := 270) rfl (hb hby at_268) rfl rfl ?_
                    refine Go.callV X342 hx Z37 O37 (tw_123 hw) (tw_124 hw) (notFace_of_selects (args := #[]) (mvT Z37 (tw_126 hw))) (tw_126 hw) (tw_125 hw) (by decide) (tw_127 hw) (tw_34 hw) (au_128 l Z a0 hw b38 b54_0 p2 h73 n0 Zn259 fk340 fk330 fk331 fk332) e342_1 fk340 (argsL := [(.ref b38)]) (rest := []) (pc' := 273) rfl (by rw [hml]; rfl) (lenOf pd_30 rfl) rfl rfl (W := 0) (Nat.le_of_eq rfl) (by decide) (by decide) (by decide) (by decide) (hb hby at_270) ?_
                    intro v343 T343 L343 q343 X343
                    obtain ⟨rfl, N343, e343⟩ := q343
                    show Go _ _ _ _ (T343.setTop (mkF m 273 #[.val (.int p0), .val (.int p1), .val (.int p2), .val (.int p3), .val (.int p4), .val (.int 3), .val (.int 3), .val (.int z3_0), .val (.int z4_0), .val (.int z5_0), .val (.int z13_0), .val (.int z21_0), .val (.int z29_0), .val (.int jv30_13), .val (.ref b32_0), .val (.ref b37_0), .val (.ref b38), .val (.ref b55), .val (.int 0)] [(.int 1)]))
                    refine Go.ifNo X343 hx (pc' := 276) rfl (hb hby at_273) (by decide) ?_
                    refine Go.aload X343 hx (pc' := 278) rfl (hb hby at_276) rfl rfl ?_
                    refine Go.anull X343 hx (pc' := 279) rfl (hb hby at_278) ?_
                    refine Go.callV X343 hx Z37 O37 (tw_123 hw) (tw_124 hw) (notFace_of_selects (args := #[]) (mvT Z37 (tw_126 hw))) (tw_126 hw) (tw_125 hw) (by decide) (tw_127 hw) (tw_34 hw) (au_130 l Z a0 hw b38 h73 n0 Zn259) e343 fk340 (argsL := [.null]) (rest := []) (pc' := 282) rfl (by rw [hml]; rfl) (lenOf pd_30 rfl) rfl rfl (W := 0) (Nat.le_of_eq rfl) (by decide) (by decide) (by decide) (by decide) (hb hby at_279) ?_
                    intro v344 T344 L344 q344 X344
                    obtain ⟨rfl, N344, e344⟩ := q344
                    show Go _ _ _ _ (T344.setTop (mkF m 282 #[.val (.int p0), .val (.int p1), .val (.int p2), .val (.int p3), .val (.int p4), .val (.int 3), .val (.int 3), .val (.int z3_0), .val (.int z4_0), .val (.int z5_0), .val (.int z13_0), .val (.int z21_0), .val (.int z29_0), .val (.int jv30_13), .val (.ref b32_0), .val (.ref b37_0), .val (.ref b38), .val (.ref b55), .val (.int 0)] [(.int 0)]))
                    refine Go.ifNo X344 hx (pc' := 285) rfl (hb hby at_282) (by decide) ?_
                    refine Go.aload X344 hx (pc' := 287) rfl (hb hby at_285) rfl rfl ?_
                    refine Go.aload X344 hx (pc' := 289) rfl (hb hby at_287) rfl rfl ?_
                    have fk345 : Exa Z h73 b32_0 "java/lang/String" := (((fk44.keep K54).ext E55).keep K73)
                    refine Go.callV X344 hx Z37 O37 (tw_123 hw) (tw_124 hw) (notFace_of_selects (args := #[]) (mvT Z37 (tw_126 hw))) (tw_126 hw) (tw_125 hw) (by decide) (tw_127 hw) (tw_34 hw) (au_131 l Z a0 hw b38 b32_0 h73 n0 Zn259 fk345) e344 fk340 (argsL := [(.ref b32_0)]) (rest := []) (pc' := 292) rfl (by rw [hml]; rfl) (lenOf pd_30 rfl) rfl rfl (W := 0) (Nat.le_of_eq rfl) (by decide) (by decide) (by decide) (by decide) (hb hby at_289) ?_
                    intro v346 T346 L346 q346 X346
                    obtain ⟨rfl, N346, e346⟩ := q346
                    show Go _ _ _ _ (T346.setTop (mkF m 292 #[.val (.int p0), .val (.int p1), .val (.int p2), .val (.int p3), .val (.int p4), .val (.int 3), .val (.int 3), .val (.int z3_0), .val (.int z4_0), .val (.int z5_0), .val (.int z13_0), .val (.int z21_0), .val (.int z29_0), .val (.int jv30_13), .val (.ref b32_0), .val (.ref b37_0), .val (.ref b38), .val (.ref b55), .val (.int 0)] [(.int 0)]))
                    refine Go.ifNo X346 hx (pc' := 295) rfl (hb hby at_292) (by decide) ?_
                    refine Go.iconst X346 hx (pc' := 296) rfl (hb hby at_295) (v := (1 : Int32)) rfl ?_
                    refine Go.goto X346 hx (pc' := 300) (hb hby at_296) (by decide) (by decide) ?_
                    have C347 : CHr Z EL0 s.vm s.heap T37.vm h37 := (C36.trans C37)
                    have C348 : CHr Z EL0 s.vm s.heap T37.vm h38 := (C347.trans (CHr.ext E38 C347.1))
                    have fk349 : Safe Z EL0 T37.vm h38 b38 := (Safe.ext E38 C347.1 (Safe.new (Nat.le_of_eq g38.symm) : Safe Z EL0 T37.vm h37 b38))
                    have C350 : CHr Z EL0 s.vm s.heap T37.vm h54 := (C348.trans (CHr.keep K54 (sfS fk349 sf0) C348.1))
                    have C351 : CHr Z EL0 s.vm s.heap T37.vm h55 := (C350.trans (CHr.ext E55 C350.1))
                    have fk352 : Safe Z EL0 T37.vm h55 b55 := (Safe.ext E55 C350.1 (Safe.new (Nat.le_of_eq g55.symm) : Safe Z EL0 T37.vm h54 b55))
                    have C353 : CHr Z EL0 s.vm s.heap T37.vm h73 := (C351.trans (CHr.keep K73 (sfS fk352 sf0) C351.1))
                    have hk354 := (Nat.le_trans (Nat.le_trans (Nat.le_trans (Nat.le_trans (Nat.le_refl _) E38.1) K54.1) E55.1) K73.1)
                    refine Go.retNW X346 hx hlk Z37 (own_EW hw) e346 S37 hk354 C353 (t := .boolean) hret (by simp) (hb hby at_300) (by decide) (by decide) (fun hat => ?_)
                    exact ⟨rfl, (Fr.app (Fr.app (Fr.app (Fr.app (Fr.app (Fr.app (Fr.app (Fr.app (Fr.app (Fr.app (Fr.app (Fr.app (Fr.app (Fr.app (Fr.app (Fr.app (Fr.app (Fr.app (Fr.app (Fr.app (Fr.nil n0) N3) N4) N5) N6) N13) N14) N21) N22) N29) N32) N37) N54) N73) N261_0) N264_1) N341_1) N342_1) N343) N344) N346)⟩
                  · exact absurd hc74.symm c342_2_0
                · exact absurd hc74 c341_2_0
            · have r355 : 0 ≤ z261_1_0.toInt ∧ z261_1_0.toInt ≤ 255 := own_rfold d261_1_0 (own_rw r10 (by decide) (by decide))
              have r356 : 0 ≤ z261_1_1.toInt ∧ z261_1_1.toInt ≤ 255 := own_rfold d261_1_1 (own_rw w13 (by decide) (by decide))
              show Go _ _ _ _ (T261.setTop (mkF m 200 #[.val (.int p0), .val (.int p1), .val (.int p2), .val (.int p3), .val (.int p4), .val (.int 3), .val (.int 3), .val (.int z3_0), .val (.int z4_0), .val (.int z5_0), .val (.int z13_0), .val (.int z21_0), .val (.int z29_0), .val (.int jv30_13), .val (.ref b32_0), .val (.ref b37_0), .val (.ref b38), .val (.ref b55), .unset] [(.int 0)]))
              refine Go.ifYes X261 hx (pc' := 239) (hb hby at_200) (by decide) (by decide) (by decide) ?_
              refine Go.iconst X261 hx (pc' := 240) rfl (hb hby at_239) (v := (0 : Int32)) rfl ?_
              refine Go.istore X261 hx (pc' := 242) rfl (hb hby at_240) (Ls' := #[.val (.int p0), .val (.int p1), .val (.int p2), .val (.int p3), .val (.int p4), .val (.int 3), .val (.int 3), .val (.int z3_0), .val (.int z4_0), .val (.int z5_0), .val (.int z13_0), .val (.int z21_0), .val (.int z29_0), .val (.int jv30_13), .val (.ref b32_0), .val (.ref b37_0), .val (.ref b38), .val (.ref b55), .val (.int 0)]) rfl ?_
              refine Go.aload X261 hx (pc' := 244) rfl (hb hby at_242) rfl rfl ?_
              refine Go.aload X261 hx (pc' := 246) rfl (hb hby at_244) rfl rfl ?_
              have O357 := (O60.keep K73 (allS ge67 all0))
              have ne358 : b38 ≠ b55 := Nat.ne_of_lt (Nat.lt_of_lt_of_le F54_0.lt (Nat.le_of_eq g55.symm))
              have fk359 : Fld Z h73 b38 "com/example/dirbound/dirbound/ldap/HostPort" "folded" "Ljava/lang/String;" (.ref b54_0) := ((F54_1.ext E55).keep K73 (ninS ne358 nin0))
              have fk360 : Fld Z h73 b38 "com/example/dirbound/dirbound/ldap/HostPort" "port" "I" (.int p2) := ((F54_3.ext E55).keep K73 (ninS ne358 nin0))
              have fk361 : Exa Z h73 b54_0 "java/lang/String" := ((F54_4.ext E55).keep K73)
              have ne362 : b54_0 ≠ b55 := Nat.ne_of_lt (Nat.lt_of_lt_of_le F54_4.lt (Nat.le_of_eq g55.symm))
              have fk363 : Fld Z h73 b54_0 "java/lang/String" "coder" "B" (.int 0) := ((F54_5.ext E55).keep K73 (ninS ne362 nin0))
              have fk364 : Fld Z h73 b54_0 "java/lang/String" "value" "[B" (.ref b54_1) := ((F54_6.ext E55).keep K73 (ninS ne362 nin0))
              have ne365 : b54_1 ≠ b55 := Nat.ne_of_lt (Nat.lt_of_lt_of_le F54_7.lt (Nat.le_of_eq g55.symm))
              have fk366 := ((F54_7.ext E55).keep K73 (ninS ne365 nin0))
              have fk368 : Exa Z h55 b54_0 "java/lang/String" := (F54_4.ext E55)
              have ne367 : b54_0 ≠ b73_0 := Nat.ne_of_lt (Nat.lt_of_lt_of_le fk368.lt s73_0)
              have fk369 : Exa Z h73 b38 "com/example/dirbound/dirbound/ldap/HostPort" := ((F54_0.ext E55).keep K73)
              refine Go.callV X261 hx Z37 O37 (tw_123 hw) (tw_124 hw) (notFace_of_selects (args := #[]) (mvT Z37 (tw_126 hw))) (tw_126 hw) (tw_125 hw) (by decide) (tw_127 hw) (tw_34 hw) (au_126 l Z a0 hw b38 b55 b54_0 p2 b73_0 jv30_13 b54_1 b73_1 k54_0 z54_1 z54_0 k73_0 z73_1 z73_0 gz1 gv5 h73 n0 Zn259 O357 G fk359 fk360 F73_0 F73_1 F73_3 fk361 fk363 fk364 F73_4 F73_5 F73_6 fk366 F73_7 c54_0 c54_1 c73_0 c73_1 ne367) e261_1 fk369 (argsL := [(.ref b55)]) (rest := []) (pc' := 249) rfl (by rw [hml]; rfl) (lenOf pd_30 rfl) rfl rfl (W := 0) (Nat.le_of_eq rfl) (by decide) (by decide) (by decide) (by decide) (hb hby at_246) ?_
              intro v370 T370 L370 q370 X370
              rcases q370 with ⟨c370_0_0, c370_0_1, rfl, N370_0, e370_0⟩ | ⟨c370_1_0, c370_1_1, rfl, N370_1, e370_1⟩ | ⟨c370_2_0, rfl, N370_2, e370_2⟩
              · exact absurd c370_0_1 (fun q => (own_l1 c261_1_0) ((own_ds3 d32_0 d54_0 d261_1_0 rfl rfl).symm.trans (q.trans (own_ds3 d37_0 d73_0 d261_1_1 rfl rfl))))
              · show Go _ _ _ _ (T370.setTop (mkF m 249 #[.val (.int p0), .val (.int p1), .val (.int p2), .val (.int p3), .val (.int p4), .val (.int 3), .val (.int 3), .val (.int z3_0), .val (.int z4_0), .val (.int z5_0), .val (.int z13_0), .val (.int z21_0), .val (.int z29_0), .val (.int jv30_13), .val (.ref b32_0), .val (.ref b37_0), .val (.ref b38), .val (.ref b55), .val (.int 0)] [(.int 0)]))
                refine Go.iload X370 hx (pc' := 251) rfl (hb hby at_249) rfl ?_
                refine Go.icmpNo X370 hx (pc' := 254) rfl (hb hby at_251) (by decide) ?_
                refine Go.aload X370 hx (pc' := 256) rfl (hb hby at_254) rfl rfl ?_
                refine Go.aload X370 hx (pc' := 258) rfl (hb hby at_256) rfl rfl ?_
                refine Go.callV X370 hx Z37 O37 (tw_123 hw) (tw_124 hw) (notFace_of_selects (args := #[]) (mvT Z37 (tw_126 hw))) (tw_126 hw) (tw_125 hw) (by decide) (tw_127 hw) (tw_34 hw) (au_126 l Z a0 hw b55 b38 b73_0 jv30_13 b54_0 p2 b73_1 b54_1 k73_0 z73_1 z73_0 k54_0 z54_1 z54_0 gz1 gv5 h73 n0 Zn259 O357 G F73_1 F73_3 fk369 fk359 fk360 F73_4 F73_5 F73_6 fk361 fk363 fk364 F73_7 fk366 c73_0 c73_1 c54_0 c54_1 (Ne.symm ne367)) e370_1 F73_0 (argsL := [(.ref b38)]) (rest := []) (pc' := 261) rfl (by rw [hml]; rfl) (lenOf pd_30 rfl) rfl rfl (W := 0) (Nat.le_of_eq rfl) (by decide) (by decide) (by decide) (by decide) (hb hby at_258) ?_
                intro v371 T371 L371 q371 X371
                rcases q371 with ⟨c371_0_0, c371_0_1, rfl, N371_0, e371_0⟩ | ⟨c371_1_0, c371_1_1, rfl, N371_1, e371_1⟩ | ⟨c371_2_0, rfl, N371_2, e371_2⟩
                · exact absurd c371_0_1 (fun q => (own_l1 (Ne.symm c261_1_0)) ((own_ds3 d37_0 d73_0 d261_1_1 rfl rfl).symm.trans (q.trans (own_ds3 d32_0 d54_0 d261_1_0 rfl rfl))))
                · show Go _ _ _ _ (T371.setTop (mkF m 261 #[.val (.int p0), .val (.int p1), .val (.int p2), .val (.int p3), .val (.int p4), .val (.int 3), .val (.int 3), .val (.int z3_0), .val (.int z4_0), .val (.int z5_0), .val (.int z13_0), .val (.int z21_0), .val (.int z29_0), .val (.int jv30_13), .val (.ref b32_0), .val (.ref b37_0), .val (.ref b38), .val (.ref b55), .val (.int 0)] [(.int 0)]))
                  refine Go.iload X371 hx (pc' := 263) rfl (hb hby at_261) rfl ?_
                  refine Go.icmpNo X371 hx (pc' := 266) rfl (hb hby at_263) (by decide) ?_
                  refine Go.aload X371 hx (pc' := 268) rfl (hb hby at_266) rfl rfl ?_
                  refine Go.aload X371 hx (pc' := 270) rfl (hb hby at_268) rfl rfl ?_
                  refine Go.callV X371 hx Z37 O37 (tw_123 hw) (tw_124 hw) (notFace_of_selects (args := #[]) (mvT Z37 (tw_126 hw))) (tw_126 hw) (tw_125 hw) (by decide) (tw_127 hw) (tw_34 hw) (au_128 l Z a0 hw b38 b54_0 p2 h73 n0 Zn259 fk369 fk359 fk360 fk361) e371_1 fk369 (argsL := [(.ref b38)]) (rest := []) (pc' := 273) rfl (by rw [hml]; rfl) (lenOf pd_30 rfl) rfl rfl (W := 0) (Nat.le_of_eq rfl) (by decide) (by decide) (by decide) (by decide) (hb hby at_270) ?_
                  intro v372 T372 L372 q372 X372
                  obtain ⟨rfl, N372, e372⟩ := q372
                  show Go _ _ _ _ (T372.setTop (mkF m 273 #[.val (.int p0), .val (.int p1), .val (.int p2), .val (.int p3), .val (.int p4), .val (.int 3), .val (.int 3), .val (.int z3_0), .val (.int z4_0), .val (.int z5_0), .val (.int z13_0), .val (.int z21_0), .val (.int z29_0), .val (.int jv30_13), .val (.ref b32_0), .val (.ref b37_0), .val (.ref b38), .val (.ref b55), .val (.int 0)] [(.int 1)]))
                  refine Go.ifNo X372 hx (pc' := 276) rfl (hb hby at_273) (by decide) ?_
                  refine Go.aload X372 hx (pc' := 278) rfl (hb hby at_276) rfl rfl ?_
                  refine Go.anull X372 hx (pc' := 279) rfl (hb hby at_278) ?_
                  refine Go.callV X372 hx Z37 O37 (tw_123 hw) (tw_124 hw) (notFace_of_selects (args := #[]) (mvT Z37 (tw_126 hw))) (tw_126 hw) (tw_125 hw) (by decide) (tw_127 hw) (tw_34 hw) (au_130 l Z a0 hw b38 h73 n0 Zn259) e372 fk369 (argsL := [.null]) (rest := []) (pc' := 282) rfl (by rw [hml]; rfl) (lenOf pd_30 rfl) rfl rfl (W := 0) (Nat.le_of_eq rfl) (by decide) (by decide) (by decide) (by decide) (hb hby at_279) ?_
                  intro v373 T373 L373 q373 X373
                  obtain ⟨rfl, N373, e373⟩ := q373
                  show Go _ _ _ _ (T373.setTop (mkF m 282 #[.val (.int p0), .val (.int p1), .val (.int p2), .val (.int p3), .val (.int p4), .val (.int 3), .val (.int 3), .val (.int z3_0), .val (.int z4_0), .val (.int z5_0), .val (.int z13_0), .val (.int z21_0), .val (.int z29_0), .val (.int jv30_13), .val (.ref b32_0), .val (.ref b37_0), .val (.ref b38), .val (.ref b55), .val (.int 0)] [(.int 0)]))
                  refine Go.ifNo X373 hx (pc' := 285) rfl (hb hby at_282) (by decide) ?_
                  refine Go.aload X373 hx (pc' := 287) rfl (hb hby at_285) rfl rfl ?_
                  refine Go.aload X373 hx (pc' := 289) rfl (hb hby at_287) rfl rfl ?_
                  have fk374 : Exa Z h73 b32_0 "java/lang/String" := (((fk44.keep K54).ext E55).keep K73)
                  refine Go.callV X373 hx Z37 O37 (tw_123 hw) (tw_124 hw) (notFace_of_selects (args := #[]) (mvT Z37 (tw_126 hw))) (tw_126 hw) (tw_125 hw) (by decide) (tw_127 hw) (tw_34 hw) (au_131 l Z a0 hw b38 b32_0 h73 n0 Zn259 fk374) e373 fk369 (argsL := [(.ref b32_0)]) (rest := []) (pc' := 292) rfl (by rw [hml]; rfl) (lenOf pd_30 rfl) rfl rfl (W := 0) (Nat.le_of_eq rfl) (by decide) (by decide) (by decide) (by decide) (hb hby at_289) ?_
                  intro v375 T375 L375 q375 X375
                  obtain ⟨rfl, N375, e375⟩ := q375
                  show Go _ _ _ _ (T375.setTop (mkF m 292 #[.val (.int p0), .val (.int p1), .val (.int p2), .val (.int p3), .val (.int p4), .val (.int 3), .val (.int 3), .val (.int z3_0), .val (.int z4_0), .val (.int z5_0), .val (.int z13_0), .val (.int z21_0), .val (.int z29_0), .val (.int jv30_13), .val (.ref b32_0), .val (.ref b37_0), .val (.ref b38), .val (.ref b55), .val (.int 0)] [(.int 0)]))
                  refine Go.ifNo X375 hx (pc' := 295) rfl (hb hby at_292) (by decide) ?_
                  refine Go.iconst X375 hx (pc' := 296) rfl (hb hby at_295) (v := (1 : Int32)) rfl ?_
                  refine Go.goto X375 hx (pc' := 300) (hb hby at_296) (by decide) (by decide) ?_
                  have C376 : CHr Z EL0 s.vm s.heap T37.vm h37 := (C36.trans C37)
                  have C377 : CHr Z EL0 s.vm s.heap T37.vm h38 := (C376.trans (CHr.ext E38 C376.1))
                  have fk378 : Safe Z EL0 T37.vm h38 b38 := (Safe.ext E38 C376.1 (Safe.new (Nat.le_of_eq g38.symm) : Safe Z EL0 T37.vm h37 b38))
                  have C379 : CHr Z EL0 s.vm s.heap T37.vm h54 := (C377.trans (CHr.keep K54 (sfS fk378 sf0) C377.1))
                  have C380 : CHr Z EL0 s.vm s.heap T37.vm h55 := (C379.trans (CHr.ext E55 C379.1))
                  have fk381 : Safe Z EL0 T37.vm h55 b55 := (Safe.ext E55 C379.1 (Safe.new (Nat.le_of_eq g55.symm) : Safe Z EL0 T37.vm h54 b55))
                  have C382 : CHr Z EL0 s.vm s.heap T37.vm h73 := (C380.trans (CHr.keep K73 (sfS fk381 sf0) C380.1))
                  have hk383 := (Nat.le_trans (Nat.le_trans (Nat.le_trans (Nat.le_trans (Nat.le_refl _) E38.1) K54.1) E55.1) K73.1)
                  refine Go.retNW X375 hx hlk Z37 (own_EW hw) e375 S37 hk383 C382 (t := .boolean) hret (by simp) (hb hby at_300) (by decide) (by decide) (fun hat => ?_)
                  exact ⟨rfl, (Fr.app (Fr.app (Fr.app (Fr.app (Fr.app (Fr.app (Fr.app (Fr.app (Fr.app (Fr.app (Fr.app (Fr.app (Fr.app (Fr.app (Fr.app (Fr.app (Fr.app (Fr.app (Fr.app (Fr.nil n0) N3) N4) N5) N6) N13) N14) N21) N22) N29) N32) N37) N54) N73) N261_1) N370_1) N371_1) N372) N373) N375)⟩
                · exact absurd hc74.symm c371_2_0
              · exact absurd hc74 c370_2_0
        · refine Go.icmpYes X73 hx (pc' := 239) (hb hby at_184) (feq hc75).2 (by decide) (by decide) ?_
          refine Go.iconst X73 hx (pc' := 240) rfl (hb hby at_239) (v := (0 : Int32)) rfl ?_
          refine Go.istore X73 hx (pc' := 242) rfl (hb hby at_240) (Ls' := #[.val (.int p0), .val (.int p1), .val (.int p2), .val (.int p3), .val (.int p4), .val (.int z1), .val (.int jv2_6), .val (.int z3_0), .val (.int z4_0), .val (.int z5_0), .val (.int z13_0), .val (.int z21_0), .val (.int z29_0), .val (.int jv30_13), .val (.ref b32_0), .val (.ref b37_0), .val (.ref b38), .val (.ref b55), .val (.int 0)]) rfl ?_
          refine Go.aload X73 hx (pc' := 244) rfl (hb hby at_242) rfl rfl ?_
          refine Go.aload X73 hx (pc' := 246) rfl (hb hby at_244) rfl rfl ?_
          have Kp385 : Keep h0 h73 [] := (Kp58.trans K73 (allS (Or.inr sz68) all0))
          have Zn384 : n0 ≤ h73.size := Nat.le_trans Z0 Kp385.1
          have O386 := (O60.keep K73 (allS ge67 all0))
          have ne387 : b38 ≠ b55 := Nat.ne_of_lt (Nat.lt_of_lt_of_le F54_0.lt (Nat.le_of_eq g55.symm))
          have fk388 : Fld Z h73 b38 "com/example/dirbound/dirbound/ldap/HostPort" "folded" "Ljava/lang/String;" (.ref b54_0) := ((F54_1.ext E55).keep K73 (ninS ne387 nin0))
          have fk389 : Fld Z h73 b38 "com/example/dirbound/dirbound/ldap/HostPort" "port" "I" (.int p2) := ((F54_3.ext E55).keep K73 (ninS ne387 nin0))
          have fk390 : Exa Z h73 b54_0 "java/lang/String" := ((F54_4.ext E55).keep K73)
          have ne391 : b54_0 ≠ b55 := Nat.ne_of_lt (Nat.lt_of_lt_of_le F54_4.lt (Nat.le_of_eq g55.symm))
          have fk392 : Fld Z h73 b54_0 "java/lang/String" "coder" "B" (.int 0) := ((F54_5.ext E55).keep K73 (ninS ne391 nin0))
          have fk393 : Fld Z h73 b54_0 "java/lang/String" "value" "[B" (.ref b54_1) := ((F54_6.ext E55).keep K73 (ninS ne391 nin0))
          have ne394 : b54_1 ≠ b55 := Nat.ne_of_lt (Nat.lt_of_lt_of_le F54_7.lt (Nat.le_of_eq g55.symm))
          have fk395 := ((F54_7.ext E55).keep K73 (ninS ne394 nin0))
          have fk397 : Exa Z h55 b54_0 "java/lang/String" := (F54_4.ext E55)
          have ne396 : b54_0 ≠ b73_0 := Nat.ne_of_lt (Nat.lt_of_lt_of_le fk397.lt s73_0)
          have fk398 : Exa Z h73 b38 "com/example/dirbound/dirbound/ldap/HostPort" := ((F54_0.ext E55).keep K73)
          refine Go.callV X73 hx Z37 O37 (tw_123 hw) (tw_124 hw) (notFace_of_selects (args := #[]) (mvT Z37 (tw_126 hw))) (tw_126 hw) (tw_125 hw) (by decide) (tw_127 hw) (tw_34 hw) (au_126 l Z a0 hw b38 b55 b54_0 p2 b73_0 jv30_13 b54_1 b73_1 k54_0 z54_1 z54_0 k73_0 z73_1 z73_0 gz1 gv5 h73 n0 Zn384 O386 G fk388 fk389 F73_0 F73_1 F73_3 fk390 fk392 fk393 F73_4 F73_5 F73_6 fk395 F73_7 c54_0 c54_1 c73_0 c73_1 ne396) e73 fk398 (argsL := [(.ref b55)]) (rest := []) (pc' := 249) rfl (by rw [hml]; rfl) (lenOf pd_30 rfl) rfl rfl (W := 0) (Nat.le_of_eq rfl) (by decide) (by decide) (by decide) (by decide) (hb hby at_246) ?_
          intro v399 T399 L399 q399 X399
          rcases q399 with ⟨c399_0_0, c399_0_1, rfl, N399_0, e399_0⟩ | ⟨c399_1_0, c399_1_1, rfl, N399_1, e399_1⟩ | ⟨c399_2_0, rfl, N399_2, e399_2⟩
          · exact absurd c399_0_1 (own_ds_len d32_0 d54_0 d37_0 d73_0 (own_rw r31 (by decide) (by decide)) (own_rw jr2_6 (by decide) (by decide)) hc75)
          · show Go _ _ _ _ (T399.setTop (mkF m 249 #[.val (.int p0), .val (.int p1), .val (.int p2), .val (.int p3), .val (.int p4), .val (.int z1), .val (.int jv2_6), .val (.int z3_0), .val (.int z4_0), .val (.int z5_0), .val (.int z13_0), .val (.int z21_0), .val (.int z29_0), .val (.int jv30_13), .val (.ref b32_0), .val (.ref b37_0), .val (.ref b38), .val (.ref b55), .val (.int 0)] [(.int 0)]))
            refine Go.iload X399 hx (pc' := 251) rfl (hb hby at_249) rfl ?_
            refine Go.icmpNo X399 hx (pc' := 254) rfl (hb hby at_251) (by decide) ?_
            refine Go.aload X399 hx (pc' := 256) rfl (hb hby at_254) rfl rfl ?_
            refine Go.aload X399 hx (pc' := 258) rfl (hb hby at_256) rfl rfl ?_
            refine Go.callV X399 hx Z37 O37 (tw_123 hw) (tw_124 hw) (notFace_of_selects (args := #[]) (mvT Z37 (tw_126 hw))) (tw_126 hw) (tw_125 hw) (by decide) (tw_127 hw) (tw_34 hw) (au_126 l Z a0 hw b55 b38 b73_0 jv30_13 b54_0 p2 b73_1 b54_1 k73_0 z73_1 z73_0 k54_0 z54_1 z54_0 gz1 gv5 h73 n0 Zn384 O386 G F73_1 F73_3 fk398 fk388 fk389 F73_4 F73_5 F73_6 fk390 fk392 fk393 F73_7 fk395 c73_0 c73_1 c54_0 c54_1 (Ne.symm ne396)) e399_1 F73_0 (argsL := [(.ref b38)]) (rest := []) (pc' := 261) rfl (by rw [hml]; rfl) (lenOf pd_30 rfl) rfl rfl (W := 0) (Nat.le_of_eq rfl) (by decide) (by decide) (by decide) (by decide) (hb hby at_258) ?_
            intro v400 T400 L400 q400 X400
            rcases q400 with ⟨c400_0_0, c400_0_1, rfl, N400_0, e400_0⟩ | ⟨c400_1_0, c400_1_1, rfl, N400_1, e400_1⟩ | ⟨c400_2_0, rfl, N400_2, e400_2⟩
            · exact absurd c400_0_1 (own_ds_len d37_0 d73_0 d32_0 d54_0 (own_rw jr2_6 (by decide) (by decide)) (own_rw r31 (by decide) (by decide)) (Ne.symm hc75))
            · show Go _ _ _ _ (T400.setTop (mkF m 261 #[.val (.int p0), .val (.int p1), .val (.int p2), .val (.int p3), .val (.int p4), .val (.int z1), .val (.int jv2_6), .val (.int z3_0), .val (.int z4_0), .val (.int z5_0), .val (.int z13_0), .val (.int z21_0), .val (.int z29_0), .val (.int jv30_13), .val (.ref b32_0), .val (.ref b37_0), .val (.ref b38), .val (.ref b55), .val (.int 0)] [(.int 0)]))
              refine Go.iload X400 hx (pc' := 263) rfl (hb hby at_261) rfl ?_
              refine Go.icmpNo X400 hx (pc' := 266) rfl (hb hby at_263) (by decide) ?_
              refine Go.aload X400 hx (pc' := 268) rfl (hb hby at_266) rfl rfl ?_
              refine Go.aload X400 hx (pc' := 270) rfl (hb hby at_268) rfl rfl ?_
              refine Go.callV X400 hx Z37 O37 (tw_123 hw) (tw_124 hw) (notFace_of_selects (args := #[]) (mvT Z37 (tw_126 hw))) (tw_126 hw) (tw_125 hw) (by decide) (tw_127 hw) (tw_34 hw) (au_128 l Z a0 hw b38 b54_0 p2 h73 n0 Zn384 fk398 fk388 fk389 fk390) e400_1 fk398 (argsL := [(.ref b38)]) (rest := []) (pc' := 273) rfl (by rw [hml]; rfl) (lenOf pd_30 rfl) rfl rfl (W := 0) (Nat.le_of_eq rfl) (by decide) (by decide) (by decide) (by decide) (hb hby at_270) ?_
              intro v401 T401 L401 q401 X401
              obtain ⟨rfl, N401, e401⟩ := q401
              show Go _ _ _ _ (T401.setTop (mkF m 273 #[.val (.int p0), .val (.int p1), .val (.int p2), .val (.int p3), .val (.int p4), .val (.int z1), .val (.int jv2_6), .val (.int z3_0), .val (.int z4_0), .val (.int z5_0), .val (.int z13_0), .val (.int z21_0), .val (.int z29_0), .val (.int jv30_13), .val (.ref b32_0), .val (.ref b37_0), .val (.ref b38), .val (.ref b55), .val (.int 0)] [(.int 1)]))
              refine Go.ifNo X401 hx (pc' := 276) rfl (hb hby at_273) (by decide) ?_
              refine Go.aload X401 hx (pc' := 278) rfl (hb hby at_276) rfl rfl ?_
              refine Go.anull X401 hx (pc' := 279) rfl (hb hby at_278) ?_
              refine Go.callV X401 hx Z37 O37 (tw_123 hw) (tw_124 hw) (notFace_of_selects (args := #[]) (mvT Z37 (tw_126 hw))) (tw_126 hw) (tw_125 hw) (by decide) (tw_127 hw) (tw_34 hw) (au_130 l Z a0 hw b38 h73 n0 Zn384) e401 fk398 (argsL := [.null]) (rest := []) (pc' := 282) rfl (by rw [hml]; rfl) (lenOf pd_30 rfl) rfl rfl (W := 0) (Nat.le_of_eq rfl) (by decide) (by decide) (by decide) (by decide) (hb hby at_279) ?_
              intro v402 T402 L402 q402 X402
              obtain ⟨rfl, N402, e402⟩ := q402
              show Go _ _ _ _ (T402.setTop (mkF m 282 #[.val (.int p0), .val (.int p1), .val (.int p2), .val (.int p3), .val (.int p4), .val (.int z1), .val (.int jv2_6), .val (.int z3_0), .val (.int z4_0), .val (.int z5_0), .val (.int z13_0), .val (.int z21_0), .val (.int z29_0), .val (.int jv30_13), .val (.ref b32_0), .val (.ref b37_0), .val (.ref b38), .val (.ref b55), .val (.int 0)] [(.int 0)]))
              refine Go.ifNo X402 hx (pc' := 285) rfl (hb hby at_282) (by decide) ?_
              refine Go.aload X402 hx (pc' := 287) rfl (hb hby at_285) rfl rfl ?_
              refine Go.aload X402 hx (pc' := 289) rfl (hb hby at_287) rfl rfl ?_
              have fk403 : Exa Z h73 b32_0 "java/lang/String" := (((fk44.keep K54).ext E55).keep K73)
              refine Go.callV X402 hx Z37 O37 (tw_123 hw) (tw_124 hw) (notFace_of_selects (args := #[]) (mvT Z37 (tw_126 hw))) (tw_126 hw) (tw_125 hw) (by decide) (tw_127 hw) (tw_34 hw) (au_131 l Z a0 hw b38 b32_0 h73 n0 Zn384 fk403) e402 fk398 (argsL := [(.ref b32_0)]) (rest := []) (pc' := 292) rfl (by rw [hml]; rfl) (lenOf pd_30 rfl) rfl rfl (W := 0) (Nat.le_of_eq rfl) (by decide) (by decide) (by decide) (by decide) (hb hby at_289) ?_
              intro v404 T404 L404 q404 X404
              obtain ⟨rfl, N404, e404⟩ := q404
              show Go _ _ _ _ (T404.setTop (mkF m 292 #[.val (.int p0), .val (.int p1), .val (.int p2), .val (.int p3), .val (.int p4), .val (.int z1), .val (.int jv2_6), .val (.int z3_0), .val (.int z4_0), .val (.int z5_0), .val (.int z13_0), .val (.int z21_0), .val (.int z29_0), .val (.int jv30_13), .val (.ref b32_0), .val (.ref b37_0), .val (.ref b38), .val (.ref b55), .val (.int 0)] [(.int 0)]))
              refine Go.ifNo X404 hx (pc' := 295) rfl (hb hby at_292) (by decide) ?_
              refine Go.iconst X404 hx (pc' := 296) rfl (hb hby at_295) (v := (1 : Int32)) rfl ?_
              refine Go.goto X404 hx (pc' := 300) (hb hby at_296) (by decide) (by decide) ?_
              have C405 : CHr Z EL0 s.vm s.heap T37.vm h37 := (C36.trans C37)
              have C406 : CHr Z EL0 s.vm s.heap T37.vm h38 := (C405.trans (CHr.ext E38 C405.1))
              have fk407 : Safe Z EL0 T37.vm h38 b38 := (Safe.ext E38 C405.1 (Safe.new (Nat.le_of_eq g38.symm) : Safe Z EL0 T37.vm h37 b38))
              have C408 : CHr Z EL0 s.vm s.heap T37.vm h54 := (C406.trans (CHr.keep K54 (sfS fk407 sf0) C406.1))
              have C409 : CHr Z EL0 s.vm s.heap T37.vm h55 := (C408.trans (CHr.ext E55 C408.1))
              have fk410 : Safe Z EL0 T37.vm h55 b55 := (Safe.ext E55 C408.1 (Safe.new (Nat.le_of_eq g55.symm) : Safe Z EL0 T37.vm h54 b55))
              have C411 : CHr Z EL0 s.vm s.heap T37.vm h73 := (C409.trans (CHr.keep K73 (sfS fk410 sf0) C409.1))
              have hk412 := (Nat.le_trans (Nat.le_trans (Nat.le_trans (Nat.le_trans (Nat.le_refl _) E38.1) K54.1) E55.1) K73.1)
              refine Go.retNW X404 hx hlk Z37 (own_EW hw) e404 S37 hk412 C411 (t := .boolean) hret (by simp) (hb hby at_300) (by decide) (by decide) (fun hat => ?_)
              exact ⟨rfl, (Fr.app (Fr.app (Fr.app (Fr.app (Fr.app (Fr.app (Fr.app (Fr.app (Fr.app (Fr.app (Fr.app (Fr.app (Fr.app (Fr.app (Fr.app (Fr.app (Fr.app (Fr.app (Fr.nil n0) N3) N4) N5) N6) N13) N14) N21) N22) N29) N32) N37) N54) N73) N399_1) N400_1) N401) N402) N404)⟩
            · exact absurd hc74.symm c400_2_0
          · exact absurd hc74 c399_2_0
      · refine Go.icmpYes X73 hx (pc' := 239) (hb hby at_177) (feq hc74).2 (by decide) (by decide) ?_
        refine Go.iconst X73 hx (pc' := 240) rfl (hb hby at_239) (v := (0 : Int32)) rfl ?_
        refine Go.istore X73 hx (pc' := 242) rfl (hb hby at_240) (Ls' := #[.val (.int p0), .val (.int p1), .val (.int p2), .val (.int p3), .val (.int p4), .val (.int z1), .val (.int jv2_6), .val (.int z3_0), .val (.int z4_0), .val (.int z5_0), .val (.int z13_0), .val (.int z21_0), .val (.int z29_0), .val (.int jv30_13), .val (.ref b32_0), .val (.ref b37_0), .val (.ref b38), .val (.ref b55), .val (.int 0)]) rfl ?_
        refine Go.aload X73 hx (pc' := 244) rfl (hb hby at_242) rfl rfl ?_
        refine Go.aload X73 hx (pc' := 246) rfl (hb hby at_244) rfl rfl ?_
        have Kp414 : Keep h0 h73 [] := (Kp58.trans K73 (allS (Or.inr sz68) all0))
        have Zn413 : n0 ≤ h73.size := Nat.le_trans Z0 Kp414.1
        have O415 := (O60.keep K73 (allS ge67 all0))
        have ne416 : b38 ≠ b55 := Nat.ne_of_lt (Nat.lt_of_lt_of_le F54_0.lt (Nat.le_of_eq g55.symm))
        have fk417 : Fld Z h73 b38 "com/example/dirbound/dirbound/ldap/HostPort" "folded" "Ljava/lang/String;" (.ref b54_0) := ((F54_1.ext E55).keep K73 (ninS ne416 nin0))
        have fk418 : Fld Z h73 b38 "com/example/dirbound/dirbound/ldap/HostPort" "port" "I" (.int p2) := ((F54_3.ext E55).keep K73 (ninS ne416 nin0))
        have fk419 : Exa Z h73 b54_0 "java/lang/String" := ((F54_4.ext E55).keep K73)
        have ne420 : b54_0 ≠ b55 := Nat.ne_of_lt (Nat.lt_of_lt_of_le F54_4.lt (Nat.le_of_eq g55.symm))
        have fk421 : Fld Z h73 b54_0 "java/lang/String" "coder" "B" (.int 0) := ((F54_5.ext E55).keep K73 (ninS ne420 nin0))
        have fk422 : Fld Z h73 b54_0 "java/lang/String" "value" "[B" (.ref b54_1) := ((F54_6.ext E55).keep K73 (ninS ne420 nin0))
        have ne423 : b54_1 ≠ b55 := Nat.ne_of_lt (Nat.lt_of_lt_of_le F54_7.lt (Nat.le_of_eq g55.symm))
        have fk424 := ((F54_7.ext E55).keep K73 (ninS ne423 nin0))
        have fk426 : Exa Z h55 b54_0 "java/lang/String" := (F54_4.ext E55)
        have ne425 : b54_0 ≠ b73_0 := Nat.ne_of_lt (Nat.lt_of_lt_of_le fk426.lt s73_0)
        have fk427 : Exa Z h73 b38 "com/example/dirbound/dirbound/ldap/HostPort" := ((F54_0.ext E55).keep K73)
        refine Go.callV X73 hx Z37 O37 (tw_123 hw) (tw_124 hw) (notFace_of_selects (args := #[]) (mvT Z37 (tw_126 hw))) (tw_126 hw) (tw_125 hw) (by decide) (tw_127 hw) (tw_34 hw) (au_126 l Z a0 hw b38 b55 b54_0 p2 b73_0 jv30_13 b54_1 b73_1 k54_0 z54_1 z54_0 k73_0 z73_1 z73_0 gz1 gv5 h73 n0 Zn413 O415 G fk417 fk418 F73_0 F73_1 F73_3 fk419 fk421 fk422 F73_4 F73_5 F73_6 fk424 F73_7 c54_0 c54_1 c73_0 c73_1 ne425) e73 fk427 (argsL := [(.ref b55)]) (rest := []) (pc' := 249) rfl (by rw [hml]; rfl) (lenOf pd_30 rfl) rfl rfl (W := 0) (Nat.le_of_eq rfl) (by decide) (by decide) (by decide) (by decide) (hb hby at_246) ?_
        intro v428 T428 L428 q428 X428
        rcases q428 with ⟨c428_0_0, c428_0_1, rfl, N428_0, e428_0⟩ | ⟨c428_1_0, c428_1_1, rfl, N428_1, e428_1⟩ | ⟨c428_2_0, rfl, N428_2, e428_2⟩
        · exact absurd c428_0_0 hc74
        · exact absurd c428_1_0 hc74
        · show Go _ _ _ _ (T428.setTop (mkF m 249 #[.val (.int p0), .val (.int p1), .val (.int p2), .val (.int p3), .val (.int p4), .val (.int z1), .val (.int jv2_6), .val (.int z3_0), .val (.int z4_0), .val (.int z5_0), .val (.int z13_0), .val (.int z21_0), .val (.int z29_0), .val (.int jv30_13), .val (.ref b32_0), .val (.ref b37_0), .val (.ref b38), .val (.ref b55), .val (.int 0)] [(.int 0)]))
          refine Go.iload X428 hx (pc' := 251) rfl (hb hby at_249) rfl ?_
          refine Go.icmpNo X428 hx (pc' := 254) rfl (hb hby at_251) (by decide) ?_
          refine Go.aload X428 hx (pc' := 256) rfl (hb hby at_254) rfl rfl ?_
          refine Go.aload X428 hx (pc' := 258) rfl (hb hby at_256) rfl rfl ?_
          refine Go.callV X428 hx Z37 O37 (tw_123 hw) (tw_124 hw) (notFace_of_selects (args := #[]) (mvT Z37 (tw_126 hw))) (tw_126 hw) (tw_125 hw) (by decide) (tw_127 hw) (tw_34 hw) (au_126 l Z a0 hw b55 b38 b73_0 jv30_13 b54_0 p2 b73_1 b54_1 k73_0 z73_1 z73_0 k54_0 z54_1 z54_0 gz1 gv5 h73 n0 Zn413 O415 G F73_1 F73_3 fk427 fk417 fk418 F73_4 F73_5 F73_6 fk419 fk421 fk422 F73_7 fk424 c73_0 c73_1 c54_0 c54_1 (Ne.symm ne425)) e428_2 F73_0 (argsL := [(.ref b38)]) (rest := []) (pc' := 261) rfl (by rw [hml]; rfl) (lenOf pd_30 rfl) rfl rfl (W := 0) (Nat.le_of_eq rfl) (by decide) (by decide) (by decide) (by decide) (hb hby at_258) ?_
          intro v429 T429 L429 q429 X429
          rcases q429 with ⟨c429_0_0, c429_0_1, rfl, N429_0, e429_0⟩ | ⟨c429_1_0, c429_1_1, rfl, N429_1, e429_1⟩ | ⟨c429_2_0, rfl, N429_2, e429_2⟩
          · exact absurd c429_0_0 (Ne.symm hc74)
          · exact absurd c429_1_0 (Ne.symm hc74)
          · show Go _ _ _ _ (T429.setTop (mkF m 261 #[.val (.int p0), .val (.int p1), .val (.int p2), .val (.int p3), .val (.int p4), .val (.int z1), .val (.int jv2_6), .val (.int z3_0), .val (.int z4_0), .val (.int z5_0), .val (.int z13_0), .val (.int z21_0), .val (.int z29_0), .val (.int jv30_13), .val (.ref b32_0), .val (.ref b37_0), .val (.ref b38), .val (.ref b55), .val (.int 0)] [(.int 0)]))
            refine Go.iload X429 hx (pc' := 263) rfl (hb hby at_261) rfl ?_
            refine Go.icmpNo X429 hx (pc' := 266) rfl (hb hby at_263) (by decide) ?_
            refine Go.aload X429 hx (pc' := 268) rfl (hb hby at_266) rfl rfl ?_
            refine Go.aload X429 hx (pc' := 270) rfl (hb hby at_268) rfl rfl ?_
            refine Go.callV X429 hx Z37 O37 (tw_123 hw) (tw_124 hw) (notFace_of_selects (args := #[]) (mvT Z37 (tw_126 hw))) (tw_126 hw) (tw_125 hw) (by decide) (tw_127 hw) (tw_34 hw) (au_128 l Z a0 hw b38 b54_0 p2 h73 n0 Zn413 fk427 fk417 fk418 fk419) e429_2 fk427 (argsL := [(.ref b38)]) (rest := []) (pc' := 273) rfl (by rw [hml]; rfl) (lenOf pd_30 rfl) rfl rfl (W := 0) (Nat.le_of_eq rfl) (by decide) (by decide) (by decide) (by decide) (hb hby at_270) ?_
            intro v430 T430 L430 q430 X430
            obtain ⟨rfl, N430, e430⟩ := q430
            show Go _ _ _ _ (T430.setTop (mkF m 273 #[.val (.int p0), .val (.int p1), .val (.int p2), .val (.int p3), .val (.int p4), .val (.int z1), .val (.int jv2_6), .val (.int z3_0), .val (.int z4_0), .val (.int z5_0), .val (.int z13_0), .val (.int z21_0), .val (.int z29_0), .val (.int jv30_13), .val (.ref b32_0), .val (.ref b37_0), .val (.ref b38), .val (.ref b55), .val (.int 0)] [(.int 1)]))
            refine Go.ifNo X430 hx (pc' := 276) rfl (hb hby at_273) (by decide) ?_
            refine Go.aload X430 hx (pc' := 278) rfl (hb hby at_276) rfl rfl ?_
            refine Go.anull X430 hx (pc' := 279) rfl (hb hby at_278) ?_
            refine Go.callV X430 hx Z37 O37 (tw_123 hw) (tw_124 hw) (notFace_of_selects (args := #[]) (mvT Z37 (tw_126 hw))) (tw_126 hw) (tw_125 hw) (by decide) (tw_127 hw) (tw_34 hw) (au_130 l Z a0 hw b38 h73 n0 Zn413) e430 fk427 (argsL := [.null]) (rest := []) (pc' := 282) rfl (by rw [hml]; rfl) (lenOf pd_30 rfl) rfl rfl (W := 0) (Nat.le_of_eq rfl) (by decide) (by decide) (by decide) (by decide) (hb hby at_279) ?_
            intro v431 T431 L431 q431 X431
            obtain ⟨rfl, N431, e431⟩ := q431
            show Go _ _ _ _ (T431.setTop (mkF m 282 #[.val (.int p0), .val (.int p1), .val (.int p2), .val (.int p3), .val (.int p4), .val (.int z1), .val (.int jv2_6), .val (.int z3_0), .val (.int z4_0), .val (.int z5_0), .val (.int z13_0), .val (.int z21_0), .val (.int z29_0), .val (.int jv30_13), .val (.ref b32_0), .val (.ref b37_0), .val (.ref b38), .val (.ref b55), .val (.int 0)] [(.int 0)]))
            refine Go.ifNo X431 hx (pc' := 285) rfl (hb hby at_282) (by decide) ?_
            refine Go.aload X431 hx (pc' := 287) rfl (hb hby at_285) rfl rfl ?_
            refine Go.aload X431 hx (pc' := 289) rfl (hb hby at_287) rfl rfl ?_
            have fk432 : Exa Z h73 b32_0 "java/lang/String" := (((fk44.keep K54).ext E55).keep K73)
            refine Go.callV X431 hx Z37 O37 (tw_123 hw) (tw_124 hw) (notFace_of_selects (args := #[]) (mvT Z37 (tw_126 hw))) (tw_126 hw) (tw_125 hw) (by decide) (tw_127 hw) (tw_34 hw) (au_131 l Z a0 hw b38 b32_0 h73 n0 Zn413 fk432) e431 fk427 (argsL := [(.ref b32_0)]) (rest := []) (pc' := 292) rfl (by rw [hml]; rfl) (lenOf pd_30 rfl) rfl rfl (W := 0) (Nat.le_of_eq rfl) (by decide) (by decide) (by decide) (by decide) (hb hby at_289) ?_
            intro v433 T433 L433 q433 X433
            obtain ⟨rfl, N433, e433⟩ := q433
            show Go _ _ _ _ (T433.setTop (mkF m 292 #[.val (.int p0), .val (.int p1), .val (.int p2), .val (.int p3), .val (.int p4), .val (.int z1), .val (.int jv2_6), .val (.int z3_0), .val (.int z4_0), .val (.int z5_0), .val (.int z13_0), .val (.int z21_0), .val (.int z29_0), .val (.int jv30_13), .val (.ref b32_0), .val (.ref b37_0), .val (.ref b38), .val (.ref b55), .val (.int 0)] [(.int 0)]))
            refine Go.ifNo X433 hx (pc' := 295) rfl (hb hby at_292) (by decide) ?_
            refine Go.iconst X433 hx (pc' := 296) rfl (hb hby at_295) (v := (1 : Int32)) rfl ?_
            refine Go.goto X433 hx (pc' := 300) (hb hby at_296) (by decide) (by decide) ?_
            have C434 : CHr Z EL0 s.vm s.heap T37.vm h37 := (C36.trans C37)
            have C435 : CHr Z EL0 s.vm s.heap T37.vm h38 := (C434.trans (CHr.ext E38 C434.1))
            have fk436 : Safe Z EL0 T37.vm h38 b38 := (Safe.ext E38 C434.1 (Safe.new (Nat.le_of_eq g38.symm) : Safe Z EL0 T37.vm h37 b38))
            have C437 : CHr Z EL0 s.vm s.heap T37.vm h54 := (C435.trans (CHr.keep K54 (sfS fk436 sf0) C435.1))
            have C438 : CHr Z EL0 s.vm s.heap T37.vm h55 := (C437.trans (CHr.ext E55 C437.1))
            have fk439 : Safe Z EL0 T37.vm h55 b55 := (Safe.ext E55 C437.1 (Safe.new (Nat.le_of_eq g55.symm) : Safe Z EL0 T37.vm h54 b55))
            have C440 : CHr Z EL0 s.vm s.heap T37.vm h73 := (C438.trans (CHr.keep K73 (sfS fk439 sf0) C438.1))
            have hk441 := (Nat.le_trans (Nat.le_trans (Nat.le_trans (Nat.le_trans (Nat.le_refl _) E38.1) K54.1) E55.1) K73.1)
            refine Go.retNW X433 hx hlk Z37 (own_EW hw) e433 S37 hk441 C440 (t := .boolean) hret (by simp) (hb hby at_300) (by decide) (by decide) (fun hat => ?_)
            exact ⟨rfl, (Fr.app (Fr.app (Fr.app (Fr.app (Fr.app (Fr.app (Fr.app (Fr.app (Fr.app (Fr.app (Fr.app (Fr.app (Fr.app (Fr.app (Fr.app (Fr.app (Fr.app (Fr.app (Fr.nil n0) N3) N4) N5) N6) N13) N14) N21) N22) N29) N32) N37) N54) N73) N428_2) N429_2) N430) N431) N433)⟩
    refine Go.iload X29 hx (pc' := 108) rfl (hb hby at_106) rfl ?_
    refine Go.bipush X29 hx (pc' := 110) rfl (hb hby at_108) (v := (10 : Int32)) (by decide) ?_
    refine Go.iushr X29 hx (pc' := 111) rfl (hb hby at_110) ?_
    generalize hz442 : ((p4.toUInt32 >>> ((10 : Int32) &&& 31).toUInt32).toInt32) = z442
    refine Go.iconst X29 hx (pc' := 112) rfl (hb hby at_111) (v := (1 : Int32)) rfl ?_
    refine Go.iand X29 hx (pc' := 113) rfl (hb hby at_112) ?_
    have r443 : 0 ≤ z442.toInt ∧ z442.toInt ≤ 4194303 := own_rushr hz442 (k := 10) (by decide) (by decide) (by decide)
    generalize hz444 : (z442 &&& (1 : Int32)) = z444
    have r445 : 0 ≤ z444.toInt ∧ z444.toInt ≤ 1 := own_rand hz444 (by decide)
    by_cases hc446 : z444 = (0 : Int32)
    · refine Go.ifYes X29 hx (pc' := 120) (hb hby at_113) (teq hc446).1 (by decide) (by decide) ?_
      refine Go.iloadN X29 hx (pc' := 121) rfl (hb hby at_120) rfl ?_
      refine Go.istore X29 hx (pc' := 123) rfl (hb hby at_121) (Ls' := #[.val (.int p0), .val (.int p1), .val (.int p2), .val (.int p3), .val (.int p4), .val (.int z1), .val (.int jv2_6), .val (.int z3_0), .val (.int z4_0), .val (.int z5_0), .val (.int z13_0), .val (.int z21_0), .val (.int z29_0), .val (.int p3), .unset, .unset, .unset, .unset, .unset]) rfl ?_
      exact J30 p3 
    · refine Go.ifNo X29 hx (pc' := 116) rfl (hb hby at_113) (feq hc446).1 ?_
      refine Go.iloadN X29 hx (pc' := 117) rfl (hb hby at_116) rfl ?_
      refine Go.goto X29 hx (pc' := 121) (hb hby at_117) (by decide) (by decide) ?_
      refine Go.istore X29 hx (pc' := 123) rfl (hb hby at_121) (Ls' := #[.val (.int p0), .val (.int p1), .val (.int p2), .val (.int p3), .val (.int p4), .val (.int z1), .val (.int jv2_6), .val (.int z3_0), .val (.int z4_0), .val (.int z5_0), .val (.int z13_0), .val (.int z21_0), .val (.int z29_0), .val (.int p2), .unset, .unset, .unset, .unset, .unset]) rfl ?_
      exact J30 p2 
  refine Go.iload X0 hx (pc' := 8) rfl (hb hby at_6) rfl ?_
  refine Go.bipush X0 hx (pc' := 10) rfl (hb hby at_8) (v := (11 : Int32)) (by decide) ?_
  refine Go.iushr X0 hx (pc' := 11) rfl (hb hby at_10) ?_
  generalize hz447 : ((p4.toUInt32 >>> ((11 : Int32) &&& 31).toUInt32).toInt32) = z447
  refine Go.iconst X0 hx (pc' := 12) rfl (hb hby at_11) (v := (1 : Int32)) rfl ?_
  refine Go.iand X0 hx (pc' := 13) rfl (hb hby at_12) ?_
  have r448 : 0 ≤ z447.toInt ∧ z447.toInt ≤ 2097151 := own_rushr hz447 (k := 11) (by decide) (by decide) (by decide)
  generalize hz449 : (z447 &&& (1 : Int32)) = z449
  have r450 : 0 ≤ z449.toInt ∧ z449.toInt ≤ 1 := own_rand hz449 (by decide)
  by_cases hc451 : z449 = (0 : Int32)
  · refine Go.ifYes X0 hx (pc' := 21) (hb hby at_13) (teq hc451).1 (by decide) (by decide) ?_
    refine Go.iload X0 hx (pc' := 23) rfl (hb hby at_21) rfl ?_
    refine Go.iconst X0 hx (pc' := 24) rfl (hb hby at_23) (v := (2 : Int32)) rfl ?_
    refine Go.iushr X0 hx (pc' := 25) rfl (hb hby at_24) ?_
    generalize hz452 : ((p4.toUInt32 >>> ((2 : Int32) &&& 31).toUInt32).toInt32) = z452
    refine Go.iconst X0 hx (pc' := 26) rfl (hb hby at_25) (v := (3 : Int32)) rfl ?_
    refine Go.iand X0 hx (pc' := 27) rfl (hb hby at_26) ?_
    have r453 : 0 ≤ z452.toInt ∧ z452.toInt ≤ 1073741823 := own_rushr hz452 (k := 2) (by decide) (by decide) (by decide)
    generalize hz454 : (z452 &&& (3 : Int32)) = z454
    refine Go.istore X0 hx (pc' := 29) rfl (hb hby at_27) (Ls' := #[.val (.int p0), .val (.int p1), .val (.int p2), .val (.int p3), .val (.int p4), .val (.int z1), .val (.int z454), .unset, .unset, .unset, .unset, .unset, .unset, .unset, .unset, .unset, .unset, .unset, .unset]) rfl ?_
    have r455 : 0 ≤ z454.toInt ∧ z454.toInt ≤ 3 := own_rand hz454 (by decide)
    exact J2 z454 (own_rw r455 (by decide) (by decide))
  · refine Go.ifNo X0 hx (pc' := 16) rfl (hb hby at_13) (feq hc451).1 ?_
    refine Go.iload X0 hx (pc' := 18) rfl (hb hby at_16) rfl ?_
    refine Go.goto X0 hx (pc' := 27) (hb hby at_18) (by decide) (by decide) ?_
    refine Go.istore X0 hx (pc' := 29) rfl (hb hby at_27) (Ls' := #[.val (.int p0), .val (.int p1), .val (.int p2), .val (.int p3), .val (.int p4), .val (.int z1), .val (.int z1), .unset, .unset, .unset, .unset, .unset, .unset, .unset, .unset, .unset, .unset, .unset, .unset]) rfl ?_
    have r456 : 0 ≤ z1.toInt ∧ z1.toInt ≤ 3 := own_rand hz1 (by decide)
    exact J2 z1 (own_rw r456 (by decide) (by decide))
set_option maxRecDepth 65536 in
set_option maxHeartbeats 4000000 in
theorem comes_1 {Post : Tables → Env → Array Value → State → Outcome → State → Prop} (hpost : ∀ tb e args s v u, (limb_1_1.after args s (.returned v) u = true ∧ limb_1_2.after args s (.returned v) u = true ∧ True) → ReturnedEndW s (.returned v) u (Jvm.fieldLocs frame_1_writes args s ++ Jvm.arrayLocs frame_1_arrays args s ++ Jvm.staticLocs frame_1_statics s) 48 1216 → Post tb e args s (.returned v) u) :
    ArmFor flags0 classFile x code maxLocals ret World_1 tables_1 room_1 Calls_1 rest_1 Pre_1 Post := by
  intro l hfl _ _ p e ha hc hk s m args below hf hA hF happ hP
  obtain ⟨hcalls, hrest, hpre⟩ := hP
  obtain ⟨-, -, -, hnamed, -, -, -, hat⟩ := (Spec.applies_iff hf).mp happ
  obtain ⟨hg, hn⟩ := and_e (Cond.before_iff.mp (show (Jvm.Cond.and given_1 narrow_1).before args s = true from hpre))
  obtain ⟨g501, g502⟩ := and_e hg
  obtain ⟨g503, g504⟩ := and_e g502
  obtain ⟨g505, g506⟩ := and_e g504
  obtain ⟨g507, g508⟩ := and_e g506
  obtain ⟨g509, g510⟩ := and_e g508
  obtain ⟨w0, w1, w2, w3, w4, rfl⟩ : ∃ w0 w1 w2 w3 w4 : Value, args = #[w0, w1, w2, w3, w4] := by
    have hs : args.size = 5 := by simpa [Cond.value, given_1] using g501
    obtain ⟨L⟩ := args
    match L, hs with
    | [w0, w1, w2, w3, w4], _ => exact ⟨w0, w1, w2, w3, w4, rfl⟩
  have hw := fun d (hd : d ∈ tables_1) => atoms_spec (ws := Jvm.Cond.code x code maxLocals ret :: tables_1) hat d (List.mem_cons_of_mem _ hd)
  have hfit : Fit s := fun {y c} hc i hi => by
    obtain ⟨ha, rfl⟩ := Array.getElem?_eq_some_iff.mp hc
    have q := List.all_eq_true.mp ((Array.all_eq_true_iff_forall_mem.mp hF) _ (Array.getElem_mem ha)) i (List.mem_range.mpr hi)
    simpa [Array.getElem?_eq_getElem hi] using q
  obtain ⟨i0, ei0⟩ := is_v g503
  obtain rfl : w0 = (.int i0) := Option.some.inj ei0
  obtain ⟨i1, ei1⟩ := is_v g505
  obtain rfl : w1 = (.int i1) := Option.some.inj ei1
  obtain ⟨i2, ei2⟩ := is_v g507
  obtain rfl : w2 = (.int i2) := Option.some.inj ei2
  obtain ⟨i3, ei3⟩ := is_v g509
  obtain rfl : w3 = (.int i3) := Option.some.inj ei3
  obtain ⟨i4, ei4⟩ := is_v g510
  obtain rfl : w4 = (.int i4) := Option.some.inj ei4
  obtain ⟨hsets, hown0⟩ := atoms_of _ (rest_1_c_eq ▸ (show rest_1_c.before _ s = true from hrest))
  obtain ⟨gz1, ev2⟩ := is_v (Cond.before_iff.mp (hsets _ (List.mem_of_getElem? (i := 1) rfl)))
  have Sx3 : Sta s s.heap "java/lang/String" "COMPACT_STRINGS" "Z" (.int gz1) := Sta.start ev2 (Or.inl (Cond.before_iff.mpr (Cond.before_iff.mp (hsets _ (List.mem_of_getElem? (i := 0) rfl)))))
  have nz4 : ¬ gz1 = (0 : Int32) := gotF (Cond.eq_ints ev2 (Term.int_eval (0))) (not_v (Cond.before_iff.mp (hsets _ (List.mem_of_getElem? (i := 2) rfl))))
  obtain ⟨gv5, ev6, rv7⟩ := isR_v (Cond.before_iff.mp (hsets _ (List.mem_of_getElem? (i := 8) rfl)))
  have Sx8 : Sta s s.heap "jdk/internal/util/Preconditions" "SIOOBE_FORMATTER" "Ljava/util/function/BiFunction;" gv5 := Sta.start ev6 (Or.inl (Cond.before_iff.mpr (Cond.before_iff.mp (hsets _ (List.mem_of_getElem? (i := 7) rfl)))))
  have G : Glob s gz1 gv5 := ⟨Sx3, Sx8, nz4, rv7⟩
  have hCH : CHv s EL0 s.vm s.heap := CHv.start (own_EW hw) (fun p hp => hcalls.1 p hp) (hsets _ (List.mem_of_getElem? (i := 2) rfl)) (tw_25 hw) (tw_11 hw)
  obtain ⟨n, o, h1, h2, h3, _, L, rfl, ⟨rfl, N⟩, hcr, hq⟩ := (rm0 l s _ hw i0 i1 i2 i3 i4 gz1 gv5 s.heap s.heap.size (Nat.le_refl _) (Old.start s) G) tables_1 p e ha hc hk s m _ below hf ((Spec.applies_iff_loose hf).mp happ).1 ⟨rfl, State.Warmed39.refl s, rfl, hCH, fun _ hx => nomatch hx⟩ trivial
  refine ⟨n, _, h1, h2, h3, hpost _ _ _ _ _ _ ⟨Cond.after_iff.mpr rfl, Cond.after_iff.mpr (eq_i res_at (Term.int_eval (1)) rfl), trivial⟩ ⟨hq.1, hq.2.1, hq.2.2.1, (hq.2.2.2.sift fun y hy => Or.inr (N y hy)).mono (by decide) (by decide)⟩⟩
theorem main_1_1 : Claimed_1_1 := comes_1 fun _ _ _ _ _ _ h hF => ⟨h.1, hF⟩
theorem main_1_2 : Claimed_1_2 := comes_1 fun _ _ _ _ _ _ h hF => ⟨h.2.1, hF⟩
end Jvm.Pilot.@@N@@
namespace Jvm.Pilot.@@N@@
open Jvm Jvm.ClassFile Sem Op Lib Jvm.Free Jvm.Stand Jvm.Pilot.@@N@@.Jvm.D
/-! MADE BY PROGRAM (witnessworld.py) out of the Statement's table words and the real class files: 24 classes; the members and pool entries that the words name. The judged class is class 1, her method 1. -/
namespace start1
open Jvm.ClassFile
def u (s : String) : CpInfo := .utf8 (stringToUtf16 s)
/-- a pool by its gaps: so many unusable entries, then the entry; so many at the end -/
def gap : Nat → List CpInfo → List CpInfo
  | 0, r => r
  | n + 1, r => .unusable :: gap n r
def poolList (es : List (Nat × CpInfo)) (last : Nat) : List CpInfo := es.foldr (fun e r => gap e.1 (e.2 :: r)) (gap last [])
def pool (es : List (Nat × CpInfo)) (last : Nat) : Array CpInfo := ⟨poolList es last⟩
def fileOf (pool : Array CpInfo) (this : Nat) (attrs : Array Attribute := #[]) (ms : Array MethodInfo := #[]) (fl : Nat := 33) (sup : Nat := 0) (ifs : Array Nat := #[]) (fds : Array FieldInfo := #[]) : ClassFile where
  minorVersion := 0
  majorVersion := 65
  constantPool := pool
  accessFlags := fl
  thisClass := this
  superClass := sup
  interfaces := ifs
  fields := fds
  methods := ms
  attributes := attrs
def plain (name : String) (sup : Option ClassId) : Class where
  name := name
  kind := .ordinary
  loader := none
  accessFlags := 33
  super := sup
  interfaces := #[]
  cf := none
  fields := #[]
  methods := #[]
  instanceTypes := #[]
  staticTypes := #[]
  resolved := #[]
  callSites := []
  init := .initialized
  statics := none
  mirror := none

def pool0 : Array CpInfo := pool [(5, u "<init>"), (0, u "()V"), (1, .class_ 10), (1, u "java/lang/Object"), (85, u "clone"), (0, u "()Ljava/lang/Object;")] 26

def k0c0 : Code := { maxStack := 0, maxLocals := 1, code := object_method_1_code, exceptionTable := #[], attributes := #[] }
def k0m0 : Method := { name := "<init>", desc := "()V", sig := { parameters := [], returnType := none }, accessFlags := 1, code := some k0c0 }
def k0m1 : Method := { name := "clone", desc := "()Ljava/lang/Object;", sig := { parameters := [], returnType := some (.object "java/lang/Object") }, accessFlags := 260, code := none }
/-- java/lang/Object -/
def k0 : Class := { plain "java/lang/Object" none with
  accessFlags := 33
  interfaces := #[]
  cf := some (fileOf pool0 8 #[] #[{ accessFlags := 1, nameIndex := 5, descriptorIndex := 6, attributes := #[] }, { accessFlags := 260, nameIndex := 96, descriptorIndex := 97, attributes := #[] }] 33 0 #[] #[])
  fields := #[]
  methods := #[k0m0, k0m1]
  instanceTypes := #[]
  staticTypes := #[]
  resolved := Array.replicate 124 none
  statics := none }

def pool1 : Array CpInfo := pool [(2, .class_ 4), (1, u "java/lang/Object"), (0, u "<init>"), (0, u "()V"), (0, .methodref 8 9), (0, .class_ 10), (0, .nameAndType 11 12), (0, u "com/example/dirbound/dirbound/ldap/HostPortEqualsPinLaw"), (0, u "ch"), (0, u "(II)C"), (0, .methodref 8 14), (0, .nameAndType 15 16), (0, u "pick"), (0, u "(CCI)C"), (0, .methodref 8 18), (0, .nameAndType 19 20), (0, u "mk"), (0, u "(ICCC)Ljava/lang/String;"), (0, .class_ 22), (0, u "com/example/dirbound/dirbound/ldap/HostPort"), (0, .methodref 21 24), (0, .nameAndType 5 25), (0, u "(Ljava/lang/String;I)V"), (0, .methodref 8 27), (0, .nameAndType 28 29), (0, u "same"), (0, u "(CC)Z"), (0, .methodref 21 31), (0, .nameAndType 32 33), (0, u "equals"), (0, u "(Ljava/lang/Object;)Z"), (0, .class_ 35), (0, u "java/lang/String"), (0, .methodref 34 37), (0, .nameAndType 5 38), (0, u "([C)V"), (0, .methodref 34 40), (0, .nameAndType 41 42), (0, u "valueOf"), (0, u "(C)Ljava/lang/String;"), (2, u "law"), (0, u "(IIIII)Z")] 3

def k1m0 : Method := { name := "<init>", desc := "()V", sig := { parameters := [], returnType := none }, accessFlags := 1, code := none }
def k1c1 : Code := { maxStack := 4, maxLocals := 19, code := code, exceptionTable := #[], attributes := #[] }
def k1m1 : Method := { name := "law", desc := "(IIIII)Z", sig := { parameters := [.int, .int, .int, .int, .int], returnType := some .boolean }, accessFlags := 9, code := some k1c1 }
def k1c2 : Code := { maxStack := 3, maxLocals := 2, code := method_3_code, exceptionTable := #[], attributes := #[] }
def k1m2 : Method := { name := "ch", desc := "(II)C", sig := { parameters := [.int, .int], returnType := some .char }, accessFlags := 10, code := some k1c2 }
def k1c3 : Code := { maxStack := 2, maxLocals := 3, code := method_4_code, exceptionTable := #[], attributes := #[] }
def k1m3 : Method := { name := "pick", desc := "(CCI)C", sig := { parameters := [.char, .char, .int], returnType := some .char }, accessFlags := 10, code := some k1c3 }
def k1c4 : Code := { maxStack := 2, maxLocals := 3, code := method_5_code, exceptionTable := #[], attributes := #[] }
def k1m4 : Method := { name := "same", desc := "(CC)Z", sig := { parameters := [.char, .char], returnType := some .boolean }, accessFlags := 10, code := some k1c4 }
def k1c5 : Code := { maxStack := 6, maxLocals := 4, code := method_6_code, exceptionTable := #[], attributes := #[] }
def k1m5 : Method := { name := "mk", desc := "(ICCC)Ljava/lang/String;", sig := { parameters := [.int, .char, .char, .char], returnType := some (.object "java/lang/String") }, accessFlags := 10, code := some k1c5 }
/-- com/example/dirbound/dirbound/ldap/HostPortEqualsPinLaw -/
def k1 : Class := { plain "com/example/dirbound/dirbound/ldap/HostPortEqualsPinLaw" (some 0) with
  accessFlags := 49
  interfaces := #[]
  cf := some (fileOf pool1 8 #[] #[{ accessFlags := 1, nameIndex := 5, descriptorIndex := 6, attributes := #[] }, { accessFlags := 9, nameIndex := 45, descriptorIndex := 46, attributes := #[] }, { accessFlags := 10, nameIndex := 11, descriptorIndex := 12, attributes := #[] }, { accessFlags := 10, nameIndex := 15, descriptorIndex := 16, attributes := #[] }, { accessFlags := 10, nameIndex := 28, descriptorIndex := 29, attributes := #[] }, { accessFlags := 10, nameIndex := 19, descriptorIndex := 20, attributes := #[] }] 49 2 #[] #[])
  fields := #[]
  methods := #[k1m0, k1m1, k1m2, k1m3, k1m4, k1m5]
  instanceTypes := #[]
  staticTypes := #[]
  resolved := Array.replicate 50 none
  statics := none }

def pool2 : Array CpInfo := pool [(1, .class_ 2), (0, u "java/io/Serializable"), (0, .class_ 4), (0, u "java/lang/Object")] 2

/-- java/io/Serializable -/
def k2 : Class := { plain "java/io/Serializable" (some 0) with
  accessFlags := 1537
  interfaces := #[]
  cf := some (fileOf pool2 1 #[] #[] 1537 3 #[] #[])
  fields := #[]
  methods := #[]
  instanceTypes := #[]
  staticTypes := #[]
  resolved := Array.replicate 7 none
  statics := none }

def pool3 : Array CpInfo := pool [(1, .class_ 2), (0, u "java/lang/Comparable"), (0, .class_ 4), (0, u "java/lang/Object")] 7

/-- java/lang/Comparable -/
def k3 : Class := { plain "java/lang/Comparable" (some 0) with
  accessFlags := 1537
  interfaces := #[]
  cf := some (fileOf pool3 1 #[] #[] 1537 3 #[] #[])
  fields := #[]
  methods := #[]
  instanceTypes := #[]
  staticTypes := #[]
  resolved := Array.replicate 12 none
  statics := none }

def pool4 : Array CpInfo := pool [(2, .class_ 4), (1, u "java/lang/CharSequence"), (42, .class_ 48), (0, u "java/lang/CharSequence$1CodePointIterator"), (10, .class_ 60), (0, u "java/lang/CharSequence$1CharIterator"), (5, .class_ 67), (0, u "java/lang/Object")] 63

/-- java/lang/CharSequence -/
def k4 : Class := { plain "java/lang/CharSequence" (some 0) with
  accessFlags := 1537
  interfaces := #[]
  cf := some (fileOf pool4 2 #[.nestMembers #[47, 59]] #[] 1537 66 #[] #[])
  fields := #[]
  methods := #[]
  instanceTypes := #[]
  staticTypes := #[]
  resolved := Array.replicate 131 none
  statics := none }

def pool5 : Array CpInfo := pool [(1, .class_ 2), (0, u "java/lang/constant/Constable"), (0, .class_ 4), (0, u "java/lang/Object")] 6

/-- java/lang/constant/Constable -/
def k5 : Class := { plain "java/lang/constant/Constable" (some 0) with
  accessFlags := 1537
  interfaces := #[]
  cf := some (fileOf pool5 1 #[] #[] 1537 3 #[] #[])
  fields := #[]
  methods := #[]
  instanceTypes := #[]
  staticTypes := #[]
  resolved := Array.replicate 11 none
  statics := none }

def pool6 : Array CpInfo := pool [(1, .class_ 2), (0, u "java/lang/constant/ConstantDesc"), (0, .class_ 4), (0, u "java/lang/Object")] 32

/-- java/lang/constant/ConstantDesc -/
def k6 : Class := { plain "java/lang/constant/ConstantDesc" (some 0) with
  accessFlags := 1537
  interfaces := #[]
  cf := some (fileOf pool6 1 #[] #[] 1537 3 #[] #[])
  fields := #[]
  methods := #[]
  instanceTypes := #[]
  staticTypes := #[]
  resolved := Array.replicate 37 none
  statics := none }

def pool7 : Array CpInfo := pool [(1, .methodref 2 3), (0, .class_ 4), (0, .nameAndType 5 6), (0, u "java/lang/Object"), (0, u "<init>"), (0, u "()V"), (0, .string 8), (0, u ""), (0, .fieldref 10 11), (0, .class_ 12), (0, .nameAndType 13 14), (0, u "java/lang/String"), (0, u "value"), (0, u "[B"), (0, .fieldref 10 16), (0, .nameAndType 17 18), (0, u "coder"), (0, u "B"), (2, u "hash"), (0, u "I"), (2, u "hashIsZero"), (0, u "Z"), (0, .methodref 10 28), (0, .nameAndType 5 29), (0, u "([CIILjava/lang/Void;)V"), (8, .fieldref 10 39), (0, .nameAndType 40 26), (0, u "COMPACT_STRINGS"), (1, .class_ 44), (1, u "java/lang/StringUTF16"), (0, u "compress"), (1, .methodref 42 48), (0, .nameAndType 49 50), (0, u "coderFromArrayLen"), (0, u "([BI)B"), (2, u "toBytes"), (0, .methodref 55 56), (0, .class_ 57), (0, .nameAndType 58 59), (0, u "java/util/Arrays"), (0, u "copyOfRange"), (0, u "([BII)[B"), (47, .class_ 109), (1, u "java/lang/StringLatin1"), (32, u "()Z"), (34, .methodref 42 178), (0, .nameAndType 45 179), (0, u "([CII)[B"), (29, .methodref 10 210), (0, .nameAndType 5 211), (0, u "([BB)V"), (122, u "()I"), (0, .methodref 10 336), (0, .nameAndType 17 337), (0, u "()B"), (2, u "()[B"), (22, u "([BI)C"), (5, u "(C)Z"), (21, u "(II)V"), (35, u "(I)C"), (61, .methodref 10 490), (0, .nameAndType 5 491), (0, u "(Ljava/lang/AbstractStringBuilder;Ljava/lang/Void;)V"), (0, .methodref 10 493), (0, .nameAndType 494 142), (0, u "isLatin1"), (0, .methodref 107 496), (0, .nameAndType 497 363), (0, u "charAt"), (3, u "checkIndex"), (4, .nameAndType 507 334), (0, u "length"), (33, .methodref 107 542), (0, .nameAndType 543 544), (0, u "equals"), (0, u "([B[B)Z"), (4, .methodref 550 506), (0, .class_ 551), (0, u "java/lang/AbstractStringBuilder"), (0, .methodref 550 553), (0, .nameAndType 554 340), (0, u "getValue"), (18, u "(Ljava/lang/Object;)Z"), (1, .class_ 576), (0, u "java/lang/CharSequence"), (22, u "CASE_INSENSITIVE_ORDER"), (0, u "Ljava/util/Comparator;"), (181, u "valueOf"), (0, u "(C)Ljava/lang/String;"), (226, u "([C)V"), (4, .methodref 107 1016), (0, .nameAndType 1017 369), (0, u "canEncode"), (0, .methodref 107 1019), (0, .nameAndType 53 1020), (0, u "(C)[B"), (26, .methodref 550 493), (5, .fieldref 1054 1055), (0, .class_ 1056), (0, .nameAndType 1057 1058), (0, u "jdk/internal/util/Preconditions"), (0, u "SIOOBE_FORMATTER"), (0, u "Ljava/util/function/BiFunction;"), (0, .methodref 1054 1060), (0, .nameAndType 501 1061), (0, u "(IILjava/util/function/BiFunction;)I"), (39, u "serialPersistentFields"), (0, u "[Ljava/io/ObjectStreamField;"), (0, .class_ 1104), (0, u "java/lang/String$CaseInsensitiveComparator"), (1, .class_ 1107), (0, u "java/io/Serializable"), (0, .class_ 1109), (0, u "java/lang/Comparable"), (0, .class_ 1111), (0, u "java/lang/constant/Constable"), (0, .class_ 1113), (0, u "java/lang/constant/ConstantDesc"), (2, u "serialVersionUID"), (0, u "J"), (3, u "REPL"), (0, u "C"), (2, u "LATIN1"), (1, u "UTF16"), (105, u "(Ljava/lang/StringBuilder;)V")] 217

def k7m0 : Method := { name := "<init>", desc := "()V", sig := { parameters := [], returnType := none }, accessFlags := 1, code := none }
def k7c1 : Code := { maxStack := 5, maxLocals := 2, code := jdk_42_method_3_code, exceptionTable := #[], attributes := #[] }
def k7m1 : Method := { name := "<init>", desc := "([C)V", sig := { parameters := [(.array .char)], returnType := none }, accessFlags := 1, code := some k7c1 }
def k7c2 : Code := { maxStack := 3, maxLocals := 2, code := jdk_42_method_53_code, exceptionTable := #[], attributes := #[] }
def k7m2 : Method := { name := "<init>", desc := "(Ljava/lang/StringBuilder;)V", sig := { parameters := [(.object "java/lang/StringBuilder")], returnType := none }, accessFlags := 1, code := some k7c2 }
def k7c3 : Code := { maxStack := 2, maxLocals := 1, code := jdk_42_method_54_code, exceptionTable := #[], attributes := #[] }
def k7m3 : Method := { name := "length", desc := "()I", sig := { parameters := [], returnType := some .int }, accessFlags := 1, code := some k7c3 }
def k7c4 : Code := { maxStack := 2, maxLocals := 2, code := jdk_42_method_56_code, exceptionTable := #[], attributes := #[] }
def k7m4 : Method := { name := "charAt", desc := "(I)C", sig := { parameters := [.int], returnType := some .char }, accessFlags := 1, code := some k7c4 }
def k7c5 : Code := { maxStack := 2, maxLocals := 3, code := jdk_42_method_66_code, exceptionTable := #[], attributes := #[] }
def k7m5 : Method := { name := "equals", desc := "(Ljava/lang/Object;)Z", sig := { parameters := [(.object "java/lang/Object")], returnType := some .boolean }, accessFlags := 1, code := some k7c5 }
def k7c6 : Code := { maxStack := 4, maxLocals := 1, code := jdk_42_method_139_code, exceptionTable := #[], attributes := #[] }
def k7m6 : Method := { name := "valueOf", desc := "(C)Ljava/lang/String;", sig := { parameters := [.char], returnType := some (.object "java/lang/String") }, accessFlags := 9, code := some k7c6 }
def k7c7 : Code := { maxStack := 4, maxLocals := 6, code := jdk_42_method_149_code, exceptionTable := #[], attributes := #[] }
def k7m7 : Method := { name := "<init>", desc := "([CIILjava/lang/Void;)V", sig := { parameters := [(.array .char), .int, .int, (.object "java/lang/Void")], returnType := none }, accessFlags := 2, code := some k7c7 }
def k7c8 : Code := { maxStack := 5, maxLocals := 5, code := jdk_42_method_150_code, exceptionTable := #[], attributes := #[] }
def k7m8 : Method := { name := "<init>", desc := "(Ljava/lang/AbstractStringBuilder;Ljava/lang/Void;)V", sig := { parameters := [(.object "java/lang/AbstractStringBuilder"), (.object "java/lang/Void")], returnType := none }, accessFlags := 0, code := some k7c8 }
def k7c9 : Code := { maxStack := 2, maxLocals := 3, code := jdk_42_method_151_code, exceptionTable := #[], attributes := #[] }
def k7m9 : Method := { name := "<init>", desc := "([BB)V", sig := { parameters := [(.array .byte), .byte], returnType := none }, accessFlags := 0, code := some k7c9 }
def k7c10 : Code := { maxStack := 1, maxLocals := 1, code := jdk_42_method_152_code, exceptionTable := #[], attributes := #[] }
def k7m10 : Method := { name := "coder", desc := "()B", sig := { parameters := [], returnType := some .byte }, accessFlags := 0, code := some k7c10 }
def k7c11 : Code := { maxStack := 1, maxLocals := 1, code := jdk_42_method_154_code, exceptionTable := #[], attributes := #[] }
def k7m11 : Method := { name := "isLatin1", desc := "()Z", sig := { parameters := [], returnType := some .boolean }, accessFlags := 0, code := some k7c11 }
def k7c12 : Code := { maxStack := 3, maxLocals := 2, code := jdk_42_method_155_code, exceptionTable := #[], attributes := #[] }
def k7m12 : Method := { name := "checkIndex", desc := "(II)V", sig := { parameters := [.int, .int], returnType := none }, accessFlags := 8, code := some k7c12 }
/-- java/lang/String -/
def k7 : Class := { plain "java/lang/String" (some 0) with
  accessFlags := 49
  interfaces := #[2, 3, 4, 5, 6]
  cf := some (fileOf pool7 10 #[.nestMembers #[1103]] #[{ accessFlags := 1, nameIndex := 5, descriptorIndex := 6, attributes := #[] }, { accessFlags := 1, nameIndex := 5, descriptorIndex := 1010, attributes := #[] }, { accessFlags := 1, nameIndex := 5, descriptorIndex := 1233, attributes := #[] }, { accessFlags := 1, nameIndex := 507, descriptorIndex := 334, attributes := #[] }, { accessFlags := 1, nameIndex := 497, descriptorIndex := 427, attributes := #[] }, { accessFlags := 1, nameIndex := 543, descriptorIndex := 573, attributes := #[] }, { accessFlags := 9, nameIndex := 782, descriptorIndex := 783, attributes := #[] }, { accessFlags := 2, nameIndex := 5, descriptorIndex := 29, attributes := #[] }, { accessFlags := 0, nameIndex := 5, descriptorIndex := 491, attributes := #[] }, { accessFlags := 0, nameIndex := 5, descriptorIndex := 211, attributes := #[] }, { accessFlags := 0, nameIndex := 17, descriptorIndex := 337, attributes := #[] }, { accessFlags := 0, nameIndex := 494, descriptorIndex := 142, attributes := #[] }, { accessFlags := 8, nameIndex := 501, descriptorIndex := 391, attributes := #[] }] 49 2 #[1106, 1108, 575, 1110, 1112] #[{ accessFlags := 18, nameIndex := 13, descriptorIndex := 14, attributes := #[] }, { accessFlags := 18, nameIndex := 17, descriptorIndex := 18, attributes := #[] }, { accessFlags := 2, nameIndex := 21, descriptorIndex := 22, attributes := #[] }, { accessFlags := 2, nameIndex := 25, descriptorIndex := 26, attributes := #[] }, { accessFlags := 26, nameIndex := 1116, descriptorIndex := 1117, attributes := #[] }, { accessFlags := 24, nameIndex := 40, descriptorIndex := 26, attributes := #[] }, { accessFlags := 26, nameIndex := 1101, descriptorIndex := 1102, attributes := #[] }, { accessFlags := 26, nameIndex := 1121, descriptorIndex := 1122, attributes := #[] }, { accessFlags := 25, nameIndex := 599, descriptorIndex := 600, attributes := #[] }, { accessFlags := 24, nameIndex := 1125, descriptorIndex := 18, attributes := #[] }, { accessFlags := 24, nameIndex := 1127, descriptorIndex := 18, attributes := #[] }])
  fields := #[{ name := "value", type := (.array .byte), accessFlags := 18, slot := 0, constantValue := 0 }, { name := "coder", type := .byte, accessFlags := 18, slot := 1, constantValue := 0 }, { name := "hash", type := .int, accessFlags := 2, slot := 2, constantValue := 0 }, { name := "hashIsZero", type := .boolean, accessFlags := 2, slot := 3, constantValue := 0 }, { name := "serialVersionUID", type := .long, accessFlags := 26, slot := 0, constantValue := 0 }, { name := "COMPACT_STRINGS", type := .boolean, accessFlags := 24, slot := 1, constantValue := 0 }, { name := "serialPersistentFields", type := (.array (.object "java/io/ObjectStreamField")), accessFlags := 26, slot := 2, constantValue := 0 }, { name := "REPL", type := .char, accessFlags := 26, slot := 3, constantValue := 0 }, { name := "CASE_INSENSITIVE_ORDER", type := (.object "java/util/Comparator"), accessFlags := 25, slot := 4, constantValue := 0 }, { name := "LATIN1", type := .byte, accessFlags := 24, slot := 5, constantValue := 0 }, { name := "UTF16", type := .byte, accessFlags := 24, slot := 6, constantValue := 0 }]
  methods := #[k7m0, k7m1, k7m2, k7m3, k7m4, k7m5, k7m6, k7m7, k7m8, k7m9, k7m10, k7m11, k7m12]
  instanceTypes := #[(.array .byte), .byte, .int, .boolean]
  staticTypes := #[.long, .boolean, (.array (.object "java/io/ObjectStreamField")), .char, (.object "java/util/Comparator"), .byte, .byte]
  resolved := Array.replicate 1451 none
  statics := some 0 }

def pool8 : Array CpInfo := pool [(1, .methodref 2 3), (0, .class_ 4), (0, .nameAndType 5 6), (0, u "java/lang/Object"), (0, u "<init>"), (0, u "()V"), (0, .fieldref 8 9), (0, .class_ 10), (0, .nameAndType 11 12), (0, u "com/example/dirbound/dirbound/ldap/HostPort"), (0, u "host"), (0, u "Ljava/lang/String;"), (0, .methodref 8 14), (0, .nameAndType 15 16), (0, u "folded"), (0, u "(Ljava/lang/String;)Ljava/lang/String;"), (0, .fieldref 8 18), (0, .nameAndType 15 12), (0, .fieldref 8 20), (0, .nameAndType 21 22), (0, u "port"), (0, u "I"), (0, .methodref 24 25), (0, .class_ 26), (0, .nameAndType 27 28), (0, u "java/lang/String"), (0, u "length"), (0, u "()I"), (13, .methodref 24 43), (0, .nameAndType 44 45), (0, u "charAt"), (0, u "(I)C"), (25, .methodref 24 72), (0, .nameAndType 73 74), (0, u "equals"), (0, u "(Ljava/lang/Object;)Z"), (12, u "(Ljava/lang/String;I)V"), (35, .class_ 124), (0, u "java/lang/StringBuilder"), (0, .methodref 123 126), (0, .nameAndType 5 127), (0, u "(I)V"), (0, .methodref 123 129), (0, .nameAndType 130 131), (0, u "append"), (0, u "(C)Ljava/lang/StringBuilder;"), (0, .methodref 123 133), (0, .nameAndType 134 135), (0, u "toString"), (0, u "()Ljava/lang/String;"), (0, u "DEFAULT_PORT")] 41

def k8c0 : Code := { maxStack := 2, maxLocals := 3, code := prog_48_method_1_code, exceptionTable := #[], attributes := #[] }
def k8m0 : Method := { name := "<init>", desc := "(Ljava/lang/String;I)V", sig := { parameters := [(.object "java/lang/String"), .int], returnType := none }, accessFlags := 0, code := some k8c0 }
def k8c1 : Code := { maxStack := 2, maxLocals := 3, code := prog_48_method_9_code, exceptionTable := #[], attributes := #[] }
def k8m1 : Method := { name := "equals", desc := "(Ljava/lang/Object;)Z", sig := { parameters := [(.object "java/lang/Object")], returnType := some .boolean }, accessFlags := 1, code := some k8c1 }
def k8c2 : Code := { maxStack := 3, maxLocals := 4, code := prog_48_method_11_code, exceptionTable := #[], attributes := #[] }
def k8m2 : Method := { name := "folded", desc := "(Ljava/lang/String;)Ljava/lang/String;", sig := { parameters := [(.object "java/lang/String")], returnType := some (.object "java/lang/String") }, accessFlags := 10, code := some k8c2 }
/-- com/example/dirbound/dirbound/ldap/HostPort -/
def k8 : Class := { plain "com/example/dirbound/dirbound/ldap/HostPort" (some 0) with
  accessFlags := 49
  interfaces := #[]
  cf := some (fileOf pool8 8 #[] #[{ accessFlags := 0, nameIndex := 5, descriptorIndex := 87, attributes := #[] }, { accessFlags := 1, nameIndex := 73, descriptorIndex := 74, attributes := #[] }, { accessFlags := 10, nameIndex := 15, descriptorIndex := 16, attributes := #[] }] 49 2 #[] #[{ accessFlags := 25, nameIndex := 136, descriptorIndex := 22, attributes := #[] }, { accessFlags := 18, nameIndex := 11, descriptorIndex := 12, attributes := #[] }, { accessFlags := 18, nameIndex := 15, descriptorIndex := 12, attributes := #[] }, { accessFlags := 18, nameIndex := 21, descriptorIndex := 22, attributes := #[] }])
  fields := #[{ name := "DEFAULT_PORT", type := .int, accessFlags := 25, slot := 0, constantValue := 0 }, { name := "host", type := (.object "java/lang/String"), accessFlags := 18, slot := 0, constantValue := 0 }, { name := "folded", type := (.object "java/lang/String"), accessFlags := 18, slot := 1, constantValue := 0 }, { name := "port", type := .int, accessFlags := 18, slot := 2, constantValue := 0 }]
  methods := #[k8m0, k8m1, k8m2]
  instanceTypes := #[(.object "java/lang/String"), (.object "java/lang/String"), .int]
  staticTypes := #[.int]
  resolved := Array.replicate 178 none
  statics := none }

def pool9 : Array CpInfo := pool [(1, .class_ 2), (0, u "java/lang/Appendable"), (0, .class_ 4), (0, u "java/lang/Object")] 9

/-- java/lang/Appendable -/
def k9 : Class := { plain "java/lang/Appendable" (some 0) with
  accessFlags := 1537
  interfaces := #[]
  cf := some (fileOf pool9 1 #[] #[] 1537 3 #[] #[])
  fields := #[]
  methods := #[]
  instanceTypes := #[]
  staticTypes := #[]
  resolved := Array.replicate 14 none
  statics := none }

def pool10 : Array CpInfo := pool [(1, .class_ 2), (0, u "java/lang/String"), (0, .methodref 4 5), (0, .class_ 6), (0, .nameAndType 7 8), (0, u "java/lang/Object"), (0, u "<init>"), (0, u "()V"), (1, .class_ 12), (1, u "java/lang/AbstractStringBuilder"), (0, u "EMPTYVALUE"), (0, u "[B"), (0, .fieldref 10 16), (0, .nameAndType 17 14), (0, u "value"), (0, .fieldref 1 19), (0, .nameAndType 20 21), (0, u "COMPACT_STRINGS"), (0, u "Z"), (0, .fieldref 10 23), (0, .nameAndType 24 25), (0, u "coder"), (0, u "B"), (8, u "length"), (0, u "()I"), (9, u "append"), (2, .class_ 49), (0, u "java/lang/CharSequence"), (25, u "maybeLatin1"), (3, .fieldref 10 80), (0, .nameAndType 81 82), (0, u "count"), (0, u "I"), (0, .methodref 10 84), (0, .nameAndType 85 86), (0, u "isLatin1"), (0, u "()Z"), (1, .class_ 90), (1, u "java/lang/StringLatin1"), (9, .methodref 10 101), (0, .nameAndType 102 103), (0, u "ensureCapacityInternal"), (0, u "(I)V"), (87, .methodref 88 192), (0, .nameAndType 193 194), (0, u "canEncode"), (0, u "(C)Z"), (97, u "(C)Ljava/lang/AbstractStringBuilder;"), (110, u "()[B"), (40, .class_ 445), (0, u "java/lang/Appendable"), (106, u "getValue")] 56

def k10m0 : Method := { name := "<init>", desc := "()V", sig := { parameters := [], returnType := none }, accessFlags := 0, code := none }
def k10c1 : Code := { maxStack := 2, maxLocals := 2, code := jdk_68_method_2_code, exceptionTable := #[], attributes := #[] }
def k10m1 : Method := { name := "<init>", desc := "(I)V", sig := { parameters := [.int], returnType := none }, accessFlags := 0, code := some k10c1 }
def k10c2 : Code := { maxStack := 1, maxLocals := 1, code := jdk_68_method_6_code, exceptionTable := #[], attributes := #[] }
def k10m2 : Method := { name := "length", desc := "()I", sig := { parameters := [], returnType := some .int }, accessFlags := 1, code := some k10c2 }
def k10c3 : Code := { maxStack := 4, maxLocals := 3, code := jdk_68_method_9_code, exceptionTable := #[], attributes := #[] }
def k10m3 : Method := { name := "ensureCapacityInternal", desc := "(I)V", sig := { parameters := [.int], returnType := none }, accessFlags := 2, code := some k10c3 }
def k10c4 : Code := { maxStack := 5, maxLocals := 2, code := jdk_68_method_31_code, exceptionTable := #[], attributes := #[] }
def k10m4 : Method := { name := "append", desc := "(C)Ljava/lang/AbstractStringBuilder;", sig := { parameters := [.char], returnType := some (.object "java/lang/AbstractStringBuilder") }, accessFlags := 1, code := some k10c4 }
def k10c5 : Code := { maxStack := 1, maxLocals := 1, code := jdk_68_method_64_code, exceptionTable := #[], attributes := #[] }
def k10m5 : Method := { name := "getValue", desc := "()[B", sig := { parameters := [], returnType := some (.array .byte) }, accessFlags := 16, code := some k10c5 }
def k10c6 : Code := { maxStack := 1, maxLocals := 1, code := jdk_68_method_68_code, exceptionTable := #[], attributes := #[] }
def k10m6 : Method := { name := "isLatin1", desc := "()Z", sig := { parameters := [], returnType := some .boolean }, accessFlags := 16, code := some k10c6 }
/-- java/lang/AbstractStringBuilder -/
def k10 : Class := { plain "java/lang/AbstractStringBuilder" (some 0) with
  accessFlags := 1056
  interfaces := #[9, 4]
  cf := some (fileOf pool10 10 #[] #[{ accessFlags := 0, nameIndex := 7, descriptorIndex := 8, attributes := #[] }, { accessFlags := 0, nameIndex := 7, descriptorIndex := 103, attributes := #[] }, { accessFlags := 1, nameIndex := 34, descriptorIndex := 35, attributes := #[] }, { accessFlags := 2, nameIndex := 102, descriptorIndex := 103, attributes := #[] }, { accessFlags := 1, nameIndex := 45, descriptorIndex := 292, attributes := #[] }, { accessFlags := 16, nameIndex := 552, descriptorIndex := 403, attributes := #[] }, { accessFlags := 16, nameIndex := 85, descriptorIndex := 86, attributes := #[] }] 1056 4 #[444, 48] #[{ accessFlags := 0, nameIndex := 17, descriptorIndex := 14, attributes := #[] }, { accessFlags := 0, nameIndex := 24, descriptorIndex := 25, attributes := #[] }, { accessFlags := 0, nameIndex := 75, descriptorIndex := 21, attributes := #[] }, { accessFlags := 0, nameIndex := 81, descriptorIndex := 82, attributes := #[] }, { accessFlags := 26, nameIndex := 13, descriptorIndex := 14, attributes := #[] }])
  fields := #[{ name := "value", type := (.array .byte), accessFlags := 0, slot := 0, constantValue := 0 }, { name := "coder", type := .byte, accessFlags := 0, slot := 1, constantValue := 0 }, { name := "maybeLatin1", type := .boolean, accessFlags := 0, slot := 2, constantValue := 0 }, { name := "count", type := .int, accessFlags := 0, slot := 3, constantValue := 0 }, { name := "EMPTYVALUE", type := (.array .byte), accessFlags := 26, slot := 0, constantValue := 0 }]
  methods := #[k10m0, k10m1, k10m2, k10m3, k10m4, k10m5, k10m6]
  instanceTypes := #[(.array .byte), .byte, .boolean, .int]
  staticTypes := #[(.array .byte)]
  resolved := Array.replicate 609 none
  statics := none }

def pool11 : Array CpInfo := pool [(1, .methodref 2 3), (0, .class_ 4), (0, .nameAndType 5 6), (0, u "java/lang/AbstractStringBuilder"), (0, u "<init>"), (0, u "(I)V"), (11, .class_ 20), (1, u "java/lang/String"), (3, .class_ 26), (1, u "java/lang/StringBuilder"), (0, u "append"), (22, .methodref 2 51), (0, .nameAndType 27 52), (0, u "(C)Ljava/lang/AbstractStringBuilder;"), (84, .methodref 18 138), (0, .nameAndType 5 139), (0, u "(Ljava/lang/StringBuilder;)V"), (5, u "()V"), (10, u "()I"), (129, u "(C)Ljava/lang/StringBuilder;"), (56, .methodref 2 344), (0, .nameAndType 345 156), (0, u "length"), (3, .class_ 350), (0, u "java/lang/Appendable"), (0, .class_ 352), (0, u "java/io/Serializable"), (0, .class_ 354), (0, u "java/lang/Comparable"), (0, .class_ 356), (0, u "java/lang/CharSequence"), (0, u "serialVersionUID"), (0, u "J"), (40, u "toString"), (0, u "()Ljava/lang/String;")] 21

def k11m0 : Method := { name := "<init>", desc := "()V", sig := { parameters := [], returnType := none }, accessFlags := 1, code := none }
def k11c1 : Code := { maxStack := 2, maxLocals := 2, code := jdk_67_method_2_code, exceptionTable := #[], attributes := #[] }
def k11m1 : Method := { name := "<init>", desc := "(I)V", sig := { parameters := [.int], returnType := none }, accessFlags := 1, code := some k11c1 }
def k11c2 : Code := { maxStack := 2, maxLocals := 2, code := jdk_67_method_14_code, exceptionTable := #[], attributes := #[] }
def k11m2 : Method := { name := "append", desc := "(C)Ljava/lang/StringBuilder;", sig := { parameters := [.char], returnType := some (.object "java/lang/StringBuilder") }, accessFlags := 1, code := some k11c2 }
def k11c3 : Code := { maxStack := 3, maxLocals := 1, code := jdk_67_method_42_code, exceptionTable := #[], attributes := #[] }
def k11m3 : Method := { name := "toString", desc := "()Ljava/lang/String;", sig := { parameters := [], returnType := some (.object "java/lang/String") }, accessFlags := 1, code := some k11c3 }
def k11c4 : Code := { maxStack := 1, maxLocals := 1, code := jdk_67_method_93_code, exceptionTable := #[], attributes := #[] }
def k11m4 : Method := { name := "length", desc := "()I", sig := { parameters := [], returnType := some .int }, accessFlags := 4161, code := some k11c4 }
/-- java/lang/StringBuilder -/
def k11 : Class := { plain "java/lang/StringBuilder" (some 10) with
  accessFlags := 49
  interfaces := #[9, 2, 3, 4]
  cf := some (fileOf pool11 24 #[] #[{ accessFlags := 1, nameIndex := 5, descriptorIndex := 145, attributes := #[] }, { accessFlags := 1, nameIndex := 5, descriptorIndex := 6, attributes := #[] }, { accessFlags := 1, nameIndex := 27, descriptorIndex := 286, attributes := #[] }, { accessFlags := 1, nameIndex := 399, descriptorIndex := 400, attributes := #[] }, { accessFlags := 4161, nameIndex := 345, descriptorIndex := 156, attributes := #[] }] 49 2 #[349, 351, 353, 355] #[{ accessFlags := 24, nameIndex := 357, descriptorIndex := 358, attributes := #[] }])
  fields := #[{ name := "serialVersionUID", type := .long, accessFlags := 24, slot := 0, constantValue := 0 }]
  methods := #[k11m0, k11m1, k11m2, k11m3, k11m4]
  instanceTypes := #[(.array .byte), .byte, .boolean, .int]
  staticTypes := #[.long]
  resolved := Array.replicate 422 none
  statics := none }

def pool12 : Array CpInfo := pool [(2, .class_ 4), (1, u "java/lang/Object"), (0, u "<init>"), (0, u "()V"), (7, .class_ 16), (1, u "java/util/Arrays"), (57, .class_ 76), (1, u "java/util/Arrays$NaturalOrder"), (32, u "()Ljava/lang/Object;"), (3, .class_ 115), (1, u "java/util/Arrays$LegacyMergeSort"), (1, u "Z"), (10, .nameAndType 129 109), (0, u "clone"), (9, u "copyOfRange"), (170, .methodref 311 128), (0, .class_ 312), (0, u "[B"), (29, u "([BII)[B"), (32, .class_ 376), (0, u "java/util/Arrays$ArrayList"), (68, u "$assertionsDisabled"), (269, u "MIN_ARRAY_SORT_GRAN"), (0, u "I"), (2, u "INSERTIONSORT_THRESHOLD"), (255, .class_ 976), (0, u "java/util/Arrays$ArrayItr")] 52

def k12m0 : Method := { name := "<init>", desc := "()V", sig := { parameters := [], returnType := none }, accessFlags := 2, code := none }
def k12c1 : Code := { maxStack := 3, maxLocals := 3, code := jdk_65_method_132_code, exceptionTable := #[], attributes := #[] }
def k12m1 : Method := { name := "copyOfRange", desc := "([BII)[B", sig := { parameters := [(.array .byte), .int, .int], returnType := some (.array .byte) }, accessFlags := 9, code := some k12c1 }
/-- java/util/Arrays -/
def k12 : Class := { plain "java/util/Arrays" (some 0) with
  accessFlags := 49
  interfaces := #[]
  cf := some (fileOf pool12 14 #[.nestMembers #[975, 375, 113, 74]] #[{ accessFlags := 2, nameIndex := 5, descriptorIndex := 6, attributes := #[] }, { accessFlags := 9, nameIndex := 139, descriptorIndex := 342, attributes := #[] }] 49 2 #[] #[{ accessFlags := 26, nameIndex := 715, descriptorIndex := 716, attributes := #[] }, { accessFlags := 26, nameIndex := 719, descriptorIndex := 716, attributes := #[] }, { accessFlags := 4120, nameIndex := 445, descriptorIndex := 117, attributes := #[] }])
  fields := #[{ name := "MIN_ARRAY_SORT_GRAN", type := .int, accessFlags := 26, slot := 0, constantValue := 0 }, { name := "INSERTIONSORT_THRESHOLD", type := .int, accessFlags := 26, slot := 1, constantValue := 0 }, { name := "$assertionsDisabled", type := .boolean, accessFlags := 4120, slot := 2, constantValue := 0 }]
  methods := #[k12m0, k12m1]
  instanceTypes := #[]
  staticTypes := #[.int, .int, .boolean]
  resolved := Array.replicate 1029 none
  statics := none }

def pool13 : Array CpInfo := pool [(1, .class_ 2), (0, u "java/lang/Cloneable"), (0, .class_ 4), (0, u "java/lang/Object")] 2

/-- java/lang/Cloneable -/
def k13 : Class := { plain "java/lang/Cloneable" (some 0) with
  accessFlags := 1537
  interfaces := #[]
  cf := some (fileOf pool13 1 #[] #[] 1537 3 #[] #[])
  fields := #[]
  methods := #[]
  instanceTypes := #[]
  staticTypes := #[]
  resolved := Array.replicate 7 none
  statics := none }

def pool14 : Array CpInfo := pool [(6, .class_ 8), (1, u "java/lang/Object"), (0, u "<init>"), (0, u "()V"), (1, .class_ 14), (1, u "java/lang/StringUTF16"), (31, u "$assertionsDisabled"), (0, u "Z"), (13, u "HI_BYTE_SHIFT"), (0, u "I"), (2, u "LO_BYTE_SHIFT"), (49, .methodref 12 116), (0, .nameAndType 117 118), (0, u "compress"), (0, u "([CI[BII)I"), (3, u "([CII)[B"), (138, u "coderFromArrayLen"), (0, u "([BI)B"), (106, .class_ 371), (1, u "java/lang/StringUTF16$LinesSpliterator"), (58, u "MAX_LENGTH"), (196, .class_ 628), (0, u "java/lang/StringUTF16$CodePointsSpliterator"), (0, .class_ 630), (0, u "java/lang/StringUTF16$CharsSpliterator")] 4

def k14m0 : Method := { name := "<init>", desc := "()V", sig := { parameters := [], returnType := none }, accessFlags := 0, code := none }
def k14c1 : Code := { maxStack := 2, maxLocals := 2, code := jdk_52_method_15_code, exceptionTable := #[], attributes := #[] }
def k14m1 : Method := { name := "coderFromArrayLen", desc := "([BI)B", sig := { parameters := [(.array .byte), .int], returnType := some .byte }, accessFlags := 8, code := some k14c1 }
def k14c2 : Code := { maxStack := 5, maxLocals := 6, code := jdk_52_method_16_code, exceptionTable := #[], attributes := #[] }
def k14m2 : Method := { name := "compress", desc := "([CII)[B", sig := { parameters := [(.array .char), .int, .int], returnType := some (.array .byte) }, accessFlags := 9, code := some k14c2 }
def k14c3 : Code := { maxStack := 3, maxLocals := 7, code := jdk_52_method_21_code, exceptionTable := #[], attributes := #[] }
def k14m3 : Method := { name := "compress", desc := "([CI[BII)I", sig := { parameters := [(.array .char), .int, (.array .byte), .int, .int], returnType := some .int }, accessFlags := 9, code := some k14c3 }
/-- java/lang/StringUTF16 -/
def k14 : Class := { plain "java/lang/StringUTF16" (some 0) with
  accessFlags := 48
  interfaces := #[]
  cf := some (fileOf pool14 12 #[.nestMembers #[627, 629, 369]] #[{ accessFlags := 0, nameIndex := 9, descriptorIndex := 10, attributes := #[] }, { accessFlags := 8, nameIndex := 261, descriptorIndex := 262, attributes := #[] }, { accessFlags := 9, nameIndex := 117, descriptorIndex := 122, attributes := #[] }, { accessFlags := 9, nameIndex := 117, descriptorIndex := 118, attributes := #[] }] 48 6 #[] #[{ accessFlags := 26, nameIndex := 61, descriptorIndex := 62, attributes := #[] }, { accessFlags := 26, nameIndex := 65, descriptorIndex := 62, attributes := #[] }, { accessFlags := 24, nameIndex := 430, descriptorIndex := 62, attributes := #[] }, { accessFlags := 4120, nameIndex := 46, descriptorIndex := 47, attributes := #[] }])
  fields := #[{ name := "HI_BYTE_SHIFT", type := .int, accessFlags := 26, slot := 0, constantValue := 0 }, { name := "LO_BYTE_SHIFT", type := .int, accessFlags := 26, slot := 1, constantValue := 0 }, { name := "MAX_LENGTH", type := .int, accessFlags := 24, slot := 2, constantValue := 0 }, { name := "$assertionsDisabled", type := .boolean, accessFlags := 4120, slot := 3, constantValue := 0 }]
  methods := #[k14m0, k14m1, k14m2, k14m3]
  instanceTypes := #[]
  staticTypes := #[.int, .int, .int, .boolean]
  resolved := Array.replicate 635 none
  statics := none }

def pool15 : Array CpInfo := pool [(1, .class_ 2), (0, u "java/lang/String"), (1, .class_ 6), (1, u "java/lang/Object"), (0, u "<init>"), (0, u "()V"), (0, .methodref 1 10), (0, .nameAndType 11 12), (0, u "checkIndex"), (0, u "(II)V"), (1, .class_ 16), (1, u "java/lang/StringLatin1"), (36, u "([BI)C"), (36, u "canEncode"), (14, u "(C)Z"), (15, u "$assertionsDisabled"), (0, u "Z"), (98, .class_ 223), (1, u "java/lang/StringLatin1$LinesSpliterator"), (28, u "charAt"), (28, u "equals"), (0, u "([B[B)Z"), (97, u "toBytes"), (1, u "(C)[B"), (7, .class_ 391), (0, u "java/lang/StringLatin1$CharsSpliterator")] 3

def k15m0 : Method := { name := "<init>", desc := "()V", sig := { parameters := [], returnType := none }, accessFlags := 0, code := none }
def k15c1 : Code := { maxStack := 2, maxLocals := 2, code := jdk_43_method_2_code, exceptionTable := #[], attributes := #[] }
def k15m1 : Method := { name := "charAt", desc := "([BI)C", sig := { parameters := [(.array .byte), .int], returnType := some .char }, accessFlags := 9, code := some k15c1 }
def k15c2 : Code := { maxStack := 2, maxLocals := 1, code := jdk_43_method_3_code, exceptionTable := #[], attributes := #[] }
def k15m2 : Method := { name := "canEncode", desc := "(C)Z", sig := { parameters := [.char], returnType := some .boolean }, accessFlags := 9, code := some k15c2 }
def k15c3 : Code := { maxStack := 3, maxLocals := 3, code := jdk_43_method_13_code, exceptionTable := #[], attributes := #[] }
def k15m3 : Method := { name := "equals", desc := "([B[B)Z", sig := { parameters := [(.array .byte), (.array .byte)], returnType := some .boolean }, accessFlags := 9, code := some k15c3 }
def k15c4 : Code := { maxStack := 4, maxLocals := 1, code := jdk_43_method_46_code, exceptionTable := #[], attributes := #[] }
def k15m4 : Method := { name := "toBytes", desc := "(C)[B", sig := { parameters := [.char], returnType := some (.array .byte) }, accessFlags := 9, code := some k15c4 }
/-- java/lang/StringLatin1 -/
def k15 : Class := { plain "java/lang/StringLatin1" (some 0) with
  accessFlags := 48
  interfaces := #[]
  cf := some (fileOf pool15 14 #[.nestMembers #[390, 221]] #[{ accessFlags := 0, nameIndex := 7, descriptorIndex := 8, attributes := #[] }, { accessFlags := 9, nameIndex := 252, descriptorIndex := 53, attributes := #[] }, { accessFlags := 9, nameIndex := 90, descriptorIndex := 105, attributes := #[] }, { accessFlags := 9, nameIndex := 281, descriptorIndex := 282, attributes := #[] }, { accessFlags := 9, nameIndex := 380, descriptorIndex := 382, attributes := #[] }] 48 4 #[] #[{ accessFlags := 4120, nameIndex := 121, descriptorIndex := 122, attributes := #[] }])
  fields := #[{ name := "$assertionsDisabled", type := .boolean, accessFlags := 4120, slot := 0, constantValue := 0 }]
  methods := #[k15m0, k15m1, k15m2, k15m3, k15m4]
  instanceTypes := #[]
  staticTypes := #[.boolean]
  resolved := Array.replicate 395 none
  statics := none }

def pool16 : Array CpInfo := pool [(2, .class_ 4), (1, u "java/lang/Object"), (0, u "<init>"), (0, u "()V"), (17, .class_ 26), (1, u "jdk/internal/util/Preconditions"), (6, u "checkIndex"), (21, .class_ 56), (0, u "jdk/internal/util/Preconditions$4"), (57, .class_ 115), (0, u "jdk/internal/util/Preconditions$1"), (7, u "SIOOBE_FORMATTER"), (0, u "Ljava/util/function/BiFunction;"), (0, .class_ 126), (0, u "jdk/internal/util/Preconditions$2"), (3, u "AIOOBE_FORMATTER"), (0, .class_ 132), (0, u "jdk/internal/util/Preconditions$3"), (3, u "IOOBE_FORMATTER"), (41, u "(IILjava/util/function/BiFunction;)I")] 15

def k16m0 : Method := { name := "<init>", desc := "()V", sig := { parameters := [], returnType := none }, accessFlags := 1, code := none }
def k16c1 : Code := { maxStack := 3, maxLocals := 3, code := jdk_41_method_11_code, exceptionTable := #[], attributes := #[] }
def k16m1 : Method := { name := "checkIndex", desc := "(IILjava/util/function/BiFunction;)I", sig := { parameters := [.int, .int, (.object "java/util/function/BiFunction")], returnType := some .int }, accessFlags := 9, code := some k16c1 }
/-- jdk/internal/util/Preconditions -/
def k16 : Class := { plain "jdk/internal/util/Preconditions" (some 0) with
  accessFlags := 33
  interfaces := #[]
  cf := some (fileOf pool16 24 #[.nestMembers #[55, 131, 125, 114]] #[{ accessFlags := 1, nameIndex := 5, descriptorIndex := 6, attributes := #[] }, { accessFlags := 9, nameIndex := 33, descriptorIndex := 178, attributes := #[] }] 33 2 #[] #[{ accessFlags := 25, nameIndex := 123, descriptorIndex := 124, attributes := #[] }, { accessFlags := 25, nameIndex := 130, descriptorIndex := 124, attributes := #[] }, { accessFlags := 25, nameIndex := 136, descriptorIndex := 124, attributes := #[] }])
  fields := #[{ name := "SIOOBE_FORMATTER", type := (.object "java/util/function/BiFunction"), accessFlags := 25, slot := 0, constantValue := 0 }, { name := "AIOOBE_FORMATTER", type := (.object "java/util/function/BiFunction"), accessFlags := 25, slot := 1, constantValue := 0 }, { name := "IOOBE_FORMATTER", type := (.object "java/util/function/BiFunction"), accessFlags := 25, slot := 2, constantValue := 0 }]
  methods := #[k16m0, k16m1]
  instanceTypes := #[]
  staticTypes := #[(.object "java/util/function/BiFunction"), (.object "java/util/function/BiFunction"), (.object "java/util/function/BiFunction")]
  resolved := Array.replicate 194 none
  statics := some 1 }

def pool17 : Array CpInfo := pool [(9, u "<init>"), (6, .class_ 18), (1, u "java/lang/Object"), (0, u "()V"), (1, .class_ 23), (1, u "jdk/internal/util/ArraysSupport"), (0, u "LOG2_ARRAY_LONG_INDEX_SCALE"), (0, u "I"), (2, u "U"), (0, u "Ljdk/internal/misc/Unsafe;"), (8, u "BIG_ENDIAN"), (0, u "Z"), (8, u "LOG2_BYTE_BIT_SIZE"), (4, u "LOG2_ARRAY_INT_INDEX_SCALE"), (54, u "JLA"), (0, u "Ljdk/internal/access/JavaLangAccess;"), (11, u "LOG2_ARRAY_BOOLEAN_INDEX_SCALE"), (9, u "LOG2_ARRAY_BYTE_INDEX_SCALE"), (5, u "LOG2_ARRAY_CHAR_INDEX_SCALE"), (5, u "LOG2_ARRAY_SHORT_INDEX_SCALE"), (18, u "LOG2_ARRAY_FLOAT_INDEX_SCALE"), (24, u "LOG2_ARRAY_DOUBLE_INDEX_SCALE"), (89, u "T_BOOLEAN"), (2, u "T_CHAR"), (1, u "T_FLOAT"), (1, u "T_DOUBLE"), (1, u "T_BYTE"), (1, u "T_SHORT"), (1, u "T_INT"), (1, u "T_LONG"), (1, u "SOFT_MAX_ARRAY_LENGTH")] 83

def k17m0 : Method := { name := "<init>", desc := "()V", sig := { parameters := [], returnType := none }, accessFlags := 2, code := none }
/-- jdk/internal/util/ArraysSupport -/
def k17 : Class := { plain "jdk/internal/util/ArraysSupport" (some 0) with
  accessFlags := 33
  interfaces := #[]
  cf := some (fileOf pool17 21 #[] #[{ accessFlags := 2, nameIndex := 9, descriptorIndex := 19, attributes := #[] }] 33 16 #[] #[{ accessFlags := 24, nameIndex := 28, descriptorIndex := 29, attributes := #[] }, { accessFlags := 26, nameIndex := 38, descriptorIndex := 39, attributes := #[] }, { accessFlags := 25, nameIndex := 121, descriptorIndex := 25, attributes := #[] }, { accessFlags := 25, nameIndex := 131, descriptorIndex := 25, attributes := #[] }, { accessFlags := 25, nameIndex := 137, descriptorIndex := 25, attributes := #[] }, { accessFlags := 25, nameIndex := 143, descriptorIndex := 25, attributes := #[] }, { accessFlags := 25, nameIndex := 53, descriptorIndex := 25, attributes := #[] }, { accessFlags := 25, nameIndex := 24, descriptorIndex := 25, attributes := #[] }, { accessFlags := 25, nameIndex := 162, descriptorIndex := 25, attributes := #[] }, { accessFlags := 25, nameIndex := 187, descriptorIndex := 25, attributes := #[] }, { accessFlags := 26, nameIndex := 48, descriptorIndex := 25, attributes := #[] }, { accessFlags := 25, nameIndex := 277, descriptorIndex := 25, attributes := #[] }, { accessFlags := 25, nameIndex := 280, descriptorIndex := 25, attributes := #[] }, { accessFlags := 25, nameIndex := 282, descriptorIndex := 25, attributes := #[] }, { accessFlags := 25, nameIndex := 284, descriptorIndex := 25, attributes := #[] }, { accessFlags := 25, nameIndex := 286, descriptorIndex := 25, attributes := #[] }, { accessFlags := 25, nameIndex := 288, descriptorIndex := 25, attributes := #[] }, { accessFlags := 25, nameIndex := 290, descriptorIndex := 25, attributes := #[] }, { accessFlags := 25, nameIndex := 292, descriptorIndex := 25, attributes := #[] }, { accessFlags := 26, nameIndex := 108, descriptorIndex := 109, attributes := #[] }, { accessFlags := 25, nameIndex := 294, descriptorIndex := 25, attributes := #[] }])
  fields := #[{ name := "U", type := (.object "jdk/internal/misc/Unsafe"), accessFlags := 24, slot := 0, constantValue := 0 }, { name := "BIG_ENDIAN", type := .boolean, accessFlags := 26, slot := 1, constantValue := 0 }, { name := "LOG2_ARRAY_BOOLEAN_INDEX_SCALE", type := .int, accessFlags := 25, slot := 2, constantValue := 0 }, { name := "LOG2_ARRAY_BYTE_INDEX_SCALE", type := .int, accessFlags := 25, slot := 3, constantValue := 0 }, { name := "LOG2_ARRAY_CHAR_INDEX_SCALE", type := .int, accessFlags := 25, slot := 4, constantValue := 0 }, { name := "LOG2_ARRAY_SHORT_INDEX_SCALE", type := .int, accessFlags := 25, slot := 5, constantValue := 0 }, { name := "LOG2_ARRAY_INT_INDEX_SCALE", type := .int, accessFlags := 25, slot := 6, constantValue := 0 }, { name := "LOG2_ARRAY_LONG_INDEX_SCALE", type := .int, accessFlags := 25, slot := 7, constantValue := 0 }, { name := "LOG2_ARRAY_FLOAT_INDEX_SCALE", type := .int, accessFlags := 25, slot := 8, constantValue := 0 }, { name := "LOG2_ARRAY_DOUBLE_INDEX_SCALE", type := .int, accessFlags := 25, slot := 9, constantValue := 0 }, { name := "LOG2_BYTE_BIT_SIZE", type := .int, accessFlags := 26, slot := 10, constantValue := 0 }, { name := "T_BOOLEAN", type := .int, accessFlags := 25, slot := 11, constantValue := 0 }, { name := "T_CHAR", type := .int, accessFlags := 25, slot := 12, constantValue := 0 }, { name := "T_FLOAT", type := .int, accessFlags := 25, slot := 13, constantValue := 0 }, { name := "T_DOUBLE", type := .int, accessFlags := 25, slot := 14, constantValue := 0 }, { name := "T_BYTE", type := .int, accessFlags := 25, slot := 15, constantValue := 0 }, { name := "T_SHORT", type := .int, accessFlags := 25, slot := 16, constantValue := 0 }, { name := "T_INT", type := .int, accessFlags := 25, slot := 17, constantValue := 0 }, { name := "T_LONG", type := .int, accessFlags := 25, slot := 18, constantValue := 0 }, { name := "JLA", type := (.object "jdk/internal/access/JavaLangAccess"), accessFlags := 26, slot := 19, constantValue := 0 }, { name := "SOFT_MAX_ARRAY_LENGTH", type := .int, accessFlags := 25, slot := 20, constantValue := 0 }]
  methods := #[k17m0]
  instanceTypes := #[]
  staticTypes := #[(.object "jdk/internal/misc/Unsafe"), .boolean, .int, .int, .int, .int, .int, .int, .int, .int, .int, .int, .int, .int, .int, .int, .int, .int, .int, (.object "jdk/internal/access/JavaLangAccess"), .int]
  resolved := Array.replicate 378 none
  statics := none }

/-- the primitive byte -/
def k18 : Class := { plain "byte" none with kind := .primitive 'B', accessFlags := 0x411 }
/-- [B -/
def k19 : Class := { plain "[B" (some 0) with kind := .array 18 .byte, interfaces := #[13, 2], accessFlags := 1041 }

/-- the primitive char -/
def k20 : Class := { plain "char" none with kind := .primitive 'C', accessFlags := 0x411 }
/-- [C -/
def k21 : Class := { plain "[C" (some 0) with kind := .array 20 .char, interfaces := #[13, 2], accessFlags := 1041 }

/-- the primitive int -/
def k22 : Class := { plain "int" none with kind := .primitive 'I', accessFlags := 0x411 }
/-- [I -/
def k23 : Class := { plain "[I" (some 0) with kind := .array 22 .int, interfaces := #[13, 2], accessFlags := 1041 }

def heap : Heap := #[{ cls := 7, slots := #[.long 0, .int 1, .null, .int 0, .null, .int 0, .int 0], vm := .statics 7 },
  { cls := 16, slots := #[.null, .null, .null], vm := .statics 16 }]
def classes : Array Class := #[k0, k1, k2, k3, k4, k5, k6, k7, k8, k9, k10, k11, k12, k13, k14, k15, k16, k17, k18, k19, k20, k21, k22, k23]
def interned : List (Array UInt16 × Addr) := []
def slotsUsed : Nat := 10
def theMethod : MethodId := ⟨1, 1⟩
def args0 : Array Value := #[.int 5, .int 5, .int 5, .int 5, .int 5]
def aboutOver (below : List Frame) : State where
  vm := { classes := classes, interned := interned.toArray }
  heap := heap
  slotsUsed := slotsUsed
  threads := #[{ frames := .invoking theMethod args0 :: below }]
def below0 : List Frame := [.native { method := ⟨0, 0⟩, args := #[] }]
def about1 : State := aboutOver below0
def p0 : Program := .bare "" "" ""
def e0 : Env := launch0.env 0 0 0
theorem w_frames : about1.frames = Frame.invoking theMethod args0 :: below0 := rfl
set_option maxRecDepth 65536 in
theorem w_args : argsFit about1.vm theMethod args0 = true := by decide +kernel
set_option maxRecDepth 65536 in
theorem w_heap : heapFits about1 = true := by decide +kernel
set_option maxRecDepth 65536 in
theorem w_runnable : about1.curStatus? = some .runnable := by decide +kernel
set_option maxRecDepth 65536 in
theorem w_alone : about1.alone = true := by decide +kernel
set_option maxRecDepth 65536 in
theorem w_named : about1.methodNamed? x = some theMethod := by decide +kernel
set_option maxRecDepth 65536 in
theorem w_hears : about1.hears theMethod below0 = true := by decide +kernel
set_option maxRecDepth 65536 in
theorem w_ripe : about1.ripe theMethod args0 below0 = true := by decide +kernel
theorem w_running : about1.status = .running := rfl
set_option maxRecDepth 65536 in
theorem w_room : about1.hasRoom e0.platform room_1 = true :=
  launch0.hasRoom_least _ room_1 (by decide +kernel) (by decide +kernel) (by decide +kernel) (by decide +kernel) (by decide +kernel) (by decide +kernel)
theorem allAtoms_all (ts : List Jvm.Cond) (a : Array Jvm.Value) (st : Jvm.State) : (allAtoms ts).before a st = ts.all (fun c => c.before a st) := by
  induction ts with
  | nil => rfl
  | cons c t ih =>
    show (Jvm.Cond.and c (allAtoms t)).before a st = _
    rw [Jvm.Cond.before_and, ih, List.all_cons]
def words1 : List Jvm.Cond := Jvm.Cond.code x code maxLocals ret :: tables_1
/-- a 'code' word, met by the world's own term for the bytes: nothing is compared byte by byte -/
theorem code_word {y : MethodName} {bytes : ByteArray} {mx : Nat} {rt : Option FieldType} {a : Array Value} {s : State} {m : MethodId} {meth : Method} {c : Code} (h1 : s.methodNamed? y = some m) (h2 : s.vm.method? m = some meth) (h3 : meth.code = some c) (h4 : c.code = bytes)
    (h5 : (c.maxLocals == mx && c.exceptionTable.isEmpty && decide (c.maxStack ≤ mostOperands) && decide (meth.sig.returnType = rt) && !meth.locks && decide (parseMethodDescriptor y.desc = some meth.sig)) = true) : (Jvm.Cond.code y bytes mx rt).before a s = true := by
  simp only [Bool.and_eq_true, beq_iff_eq, Bool.not_eq_true', decide_eq_true_eq] at h5
  obtain ⟨⟨⟨⟨⟨g1, g2⟩, g3⟩, g4⟩, g5⟩, g6⟩ := h5
  simp [Cond.before, Cond.holds, Cond.value, h1, h2, h3, h4, g1, g2, g3, g4, g5, g6]
def isCode : Jvm.Cond → Bool
  | .code _ _ _ _ => true
  | _ => false
theorem all_split {L : List Jvm.Cond} {P : Jvm.Cond → Bool} (h1 : L.all (fun c => isCode c || P c) = true) (h2 : ∀ c ∈ L.filter isCode, P c = true) : L.all P = true := by
  refine List.all_eq_true.mpr fun c hc => ?_
  have h := List.all_eq_true.mp h1 c hc
  rcases Bool.eq_false_or_eq_true (isCode c) with hi | hi
  · exact h2 c (List.mem_filter.mpr ⟨hc, hi⟩)
  · simpa [hi] using h
set_option maxRecDepth 65536 in
theorem w_c0 : (Jvm.Cond.code x code maxLocals ret).before args0 about1 = true := code_word (m := ⟨1, 1⟩) (meth := k1m1) (c := k1c1) (by decide +kernel) rfl rfl rfl (by decide +kernel)
set_option maxRecDepth 65536 in
theorem w_c1 : (Jvm.Cond.code ({ cls := "com/example/dirbound/dirbound/ldap/HostPortEqualsPinLaw", name := "ch", desc := "(II)C" } : Jvm.MethodName) method_3_code (2 : Nat) (Option.some Jvm.ClassFile.FieldType.char)).before args0 about1 = true := code_word (m := ⟨1, 2⟩) (meth := k1m2) (c := k1c2) (by decide +kernel) rfl rfl rfl (by decide +kernel)
set_option maxRecDepth 65536 in
theorem w_c2 : (Jvm.Cond.code ({ cls := "com/example/dirbound/dirbound/ldap/HostPortEqualsPinLaw", name := "pick", desc := "(CCI)C" } : Jvm.MethodName) method_4_code (3 : Nat) (Option.some Jvm.ClassFile.FieldType.char)).before args0 about1 = true := code_word (m := ⟨1, 3⟩) (meth := k1m3) (c := k1c3) (by decide +kernel) rfl rfl rfl (by decide +kernel)
set_option maxRecDepth 65536 in
theorem w_c3 : (Jvm.Cond.code ({ cls := "com/example/dirbound/dirbound/ldap/HostPortEqualsPinLaw", name := "mk", desc := "(ICCC)Ljava/lang/String;" } : Jvm.MethodName) method_6_code (4 : Nat) (Option.some (Jvm.ClassFile.FieldType.object "java/lang/String"))).before args0 about1 = true := code_word (m := ⟨1, 5⟩) (meth := k1m5) (c := k1c5) (by decide +kernel) rfl rfl rfl (by decide +kernel)
set_option maxRecDepth 65536 in
theorem w_c4 : (Jvm.Cond.code ({ cls := "java/lang/String", name := "<init>", desc := "([C)V" } : Jvm.MethodName) jdk_42_method_3_code (2 : Nat) (Option.none : Option Jvm.ClassFile.FieldType)).before args0 about1 = true := code_word (m := ⟨7, 1⟩) (meth := k7m1) (c := k7c1) (by decide +kernel) rfl rfl rfl (by decide +kernel)
set_option maxRecDepth 65536 in
theorem w_c5 : (Jvm.Cond.code ({ cls := "java/lang/String", name := "<init>", desc := "([CIILjava/lang/Void;)V" } : Jvm.MethodName) jdk_42_method_149_code (6 : Nat) (Option.none : Option Jvm.ClassFile.FieldType)).before args0 about1 = true := code_word (m := ⟨7, 7⟩) (meth := k7m7) (c := k7c7) (by decide +kernel) rfl rfl rfl (by decide +kernel)
set_option maxRecDepth 65536 in
theorem w_c6 : (Jvm.Cond.code ({ cls := "java/lang/Object", name := "<init>", desc := "()V" } : Jvm.MethodName) object_method_1_code (1 : Nat) (Option.none : Option Jvm.ClassFile.FieldType)).before args0 about1 = true := code_word (m := ⟨0, 0⟩) (meth := k0m0) (c := k0c0) (by decide +kernel) rfl rfl rfl (by decide +kernel)
set_option maxRecDepth 65536 in
theorem w_c7 : (Jvm.Cond.code ({ cls := "com/example/dirbound/dirbound/ldap/HostPort", name := "<init>", desc := "(Ljava/lang/String;I)V" } : Jvm.MethodName) prog_48_method_1_code (3 : Nat) (Option.none : Option Jvm.ClassFile.FieldType)).before args0 about1 = true := code_word (m := ⟨8, 0⟩) (meth := k8m0) (c := k8c0) (by decide +kernel) rfl rfl rfl (by decide +kernel)
set_option maxRecDepth 65536 in
theorem w_c8 : (Jvm.Cond.code ({ cls := "com/example/dirbound/dirbound/ldap/HostPort", name := "folded", desc := "(Ljava/lang/String;)Ljava/lang/String;" } : Jvm.MethodName) prog_48_method_11_code (4 : Nat) (Option.some (Jvm.ClassFile.FieldType.object "java/lang/String"))).before args0 about1 = true := code_word (m := ⟨8, 2⟩) (meth := k8m2) (c := k8c2) (by decide +kernel) rfl rfl rfl (by decide +kernel)
set_option maxRecDepth 65536 in
theorem w_c9 : (Jvm.Cond.code ({ cls := "java/lang/String", name := "length", desc := "()I" } : Jvm.MethodName) jdk_42_method_54_code (1 : Nat) (Option.some Jvm.ClassFile.FieldType.int)).before args0 about1 = true := code_word (m := ⟨7, 3⟩) (meth := k7m3) (c := k7c3) (by decide +kernel) rfl rfl rfl (by decide +kernel)
set_option maxRecDepth 65536 in
theorem w_c10 : (Jvm.Cond.code ({ cls := "java/lang/String", name := "coder", desc := "()B" } : Jvm.MethodName) jdk_42_method_152_code (1 : Nat) (Option.some Jvm.ClassFile.FieldType.byte)).before args0 about1 = true := code_word (m := ⟨7, 10⟩) (meth := k7m10) (c := k7c10) (by decide +kernel) rfl rfl rfl (by decide +kernel)
set_option maxRecDepth 65536 in
theorem w_c11 : (Jvm.Cond.code ({ cls := "java/lang/StringBuilder", name := "<init>", desc := "(I)V" } : Jvm.MethodName) jdk_67_method_2_code (2 : Nat) (Option.none : Option Jvm.ClassFile.FieldType)).before args0 about1 = true := code_word (m := ⟨11, 1⟩) (meth := k11m1) (c := k11c1) (by decide +kernel) rfl rfl rfl (by decide +kernel)
set_option maxRecDepth 65536 in
theorem w_c12 : (Jvm.Cond.code ({ cls := "java/lang/AbstractStringBuilder", name := "<init>", desc := "(I)V" } : Jvm.MethodName) jdk_68_method_2_code (2 : Nat) (Option.none : Option Jvm.ClassFile.FieldType)).before args0 about1 = true := code_word (m := ⟨10, 1⟩) (meth := k10m1) (c := k10c1) (by decide +kernel) rfl rfl rfl (by decide +kernel)
set_option maxRecDepth 65536 in
theorem w_c13 : (Jvm.Cond.code ({ cls := "java/lang/StringBuilder", name := "toString", desc := "()Ljava/lang/String;" } : Jvm.MethodName) jdk_67_method_42_code (1 : Nat) (Option.some (Jvm.ClassFile.FieldType.object "java/lang/String"))).before args0 about1 = true := code_word (m := ⟨11, 3⟩) (meth := k11m3) (c := k11c3) (by decide +kernel) rfl rfl rfl (by decide +kernel)
set_option maxRecDepth 65536 in
theorem w_c14 : (Jvm.Cond.code ({ cls := "java/lang/String", name := "<init>", desc := "(Ljava/lang/StringBuilder;)V" } : Jvm.MethodName) jdk_42_method_53_code (2 : Nat) (Option.none : Option Jvm.ClassFile.FieldType)).before args0 about1 = true := code_word (m := ⟨7, 2⟩) (meth := k7m2) (c := k7c2) (by decide +kernel) rfl rfl rfl (by decide +kernel)
set_option maxRecDepth 65536 in
theorem w_c15 : (Jvm.Cond.code ({ cls := "java/lang/String", name := "<init>", desc := "(Ljava/lang/AbstractStringBuilder;Ljava/lang/Void;)V" } : Jvm.MethodName) jdk_42_method_150_code (5 : Nat) (Option.none : Option Jvm.ClassFile.FieldType)).before args0 about1 = true := code_word (m := ⟨7, 8⟩) (meth := k7m8) (c := k7c8) (by decide +kernel) rfl rfl rfl (by decide +kernel)
set_option maxRecDepth 65536 in
theorem w_c16 : (Jvm.Cond.code ({ cls := "java/lang/AbstractStringBuilder", name := "getValue", desc := "()[B" } : Jvm.MethodName) jdk_68_method_64_code (1 : Nat) (Option.some (Jvm.ClassFile.FieldType.array Jvm.ClassFile.FieldType.byte))).before args0 about1 = true := code_word (m := ⟨10, 5⟩) (meth := k10m5) (c := k10c5) (by decide +kernel) rfl rfl rfl (by decide +kernel)
set_option maxRecDepth 65536 in
theorem w_c17 : (Jvm.Cond.code ({ cls := "java/lang/StringBuilder", name := "length", desc := "()I" } : Jvm.MethodName) jdk_67_method_93_code (1 : Nat) (Option.some Jvm.ClassFile.FieldType.int)).before args0 about1 = true := code_word (m := ⟨11, 4⟩) (meth := k11m4) (c := k11c4) (by decide +kernel) rfl rfl rfl (by decide +kernel)
set_option maxRecDepth 65536 in
theorem w_c18 : (Jvm.Cond.code ({ cls := "java/lang/AbstractStringBuilder", name := "length", desc := "()I" } : Jvm.MethodName) jdk_68_method_6_code (1 : Nat) (Option.some Jvm.ClassFile.FieldType.int)).before args0 about1 = true := code_word (m := ⟨10, 2⟩) (meth := k10m2) (c := k10c2) (by decide +kernel) rfl rfl rfl (by decide +kernel)
set_option maxRecDepth 65536 in
theorem w_c19 : (Jvm.Cond.code ({ cls := "java/lang/AbstractStringBuilder", name := "isLatin1", desc := "()Z" } : Jvm.MethodName) jdk_68_method_68_code (1 : Nat) (Option.some Jvm.ClassFile.FieldType.boolean)).before args0 about1 = true := code_word (m := ⟨10, 6⟩) (meth := k10m6) (c := k10c6) (by decide +kernel) rfl rfl rfl (by decide +kernel)
set_option maxRecDepth 65536 in
theorem w_c20 : (Jvm.Cond.code ({ cls := "java/util/Arrays", name := "copyOfRange", desc := "([BII)[B" } : Jvm.MethodName) jdk_65_method_132_code (3 : Nat) (Option.some (Jvm.ClassFile.FieldType.array Jvm.ClassFile.FieldType.byte))).before args0 about1 = true := code_word (m := ⟨12, 1⟩) (meth := k12m1) (c := k12c1) (by decide +kernel) rfl rfl rfl (by decide +kernel)
set_option maxRecDepth 65536 in
theorem w_c21 : (Jvm.Cond.code ({ cls := "com/example/dirbound/dirbound/ldap/HostPort", name := "equals", desc := "(Ljava/lang/Object;)Z" } : Jvm.MethodName) prog_48_method_9_code (3 : Nat) (Option.some Jvm.ClassFile.FieldType.boolean)).before args0 about1 = true := code_word (m := ⟨8, 1⟩) (meth := k8m1) (c := k8c1) (by decide +kernel) rfl rfl rfl (by decide +kernel)
set_option maxRecDepth 65536 in
theorem w_c22 : (Jvm.Cond.code ({ cls := "java/lang/String", name := "equals", desc := "(Ljava/lang/Object;)Z" } : Jvm.MethodName) jdk_42_method_66_code (3 : Nat) (Option.some Jvm.ClassFile.FieldType.boolean)).before args0 about1 = true := code_word (m := ⟨7, 5⟩) (meth := k7m5) (c := k7c5) (by decide +kernel) rfl rfl rfl (by decide +kernel)
set_option maxRecDepth 65536 in
theorem w_c23 : (Jvm.Cond.code ({ cls := "java/lang/StringUTF16", name := "compress", desc := "([CII)[B" } : Jvm.MethodName) jdk_52_method_16_code (6 : Nat) (Option.some (Jvm.ClassFile.FieldType.array Jvm.ClassFile.FieldType.byte))).before args0 about1 = true := code_word (m := ⟨14, 2⟩) (meth := k14m2) (c := k14c2) (by decide +kernel) rfl rfl rfl (by decide +kernel)
set_option maxRecDepth 65536 in
theorem w_c24 : (Jvm.Cond.code ({ cls := "java/lang/StringUTF16", name := "compress", desc := "([CI[BII)I" } : Jvm.MethodName) jdk_52_method_21_code (7 : Nat) (Option.some Jvm.ClassFile.FieldType.int)).before args0 about1 = true := code_word (m := ⟨14, 3⟩) (meth := k14m3) (c := k14c3) (by decide +kernel) rfl rfl rfl (by decide +kernel)
set_option maxRecDepth 65536 in
theorem w_c25 : (Jvm.Cond.code ({ cls := "java/lang/StringUTF16", name := "coderFromArrayLen", desc := "([BI)B" } : Jvm.MethodName) jdk_52_method_15_code (2 : Nat) (Option.some Jvm.ClassFile.FieldType.byte)).before args0 about1 = true := code_word (m := ⟨14, 1⟩) (meth := k14m1) (c := k14c1) (by decide +kernel) rfl rfl rfl (by decide +kernel)
set_option maxRecDepth 65536 in
theorem w_c26 : (Jvm.Cond.code ({ cls := "java/lang/String", name := "valueOf", desc := "(C)Ljava/lang/String;" } : Jvm.MethodName) jdk_42_method_139_code (1 : Nat) (Option.some (Jvm.ClassFile.FieldType.object "java/lang/String"))).before args0 about1 = true := code_word (m := ⟨7, 6⟩) (meth := k7m6) (c := k7c6) (by decide +kernel) rfl rfl rfl (by decide +kernel)
set_option maxRecDepth 65536 in
theorem w_c27 : (Jvm.Cond.code ({ cls := "java/lang/StringLatin1", name := "canEncode", desc := "(C)Z" } : Jvm.MethodName) jdk_43_method_3_code (1 : Nat) (Option.some Jvm.ClassFile.FieldType.boolean)).before args0 about1 = true := code_word (m := ⟨15, 2⟩) (meth := k15m2) (c := k15c2) (by decide +kernel) rfl rfl rfl (by decide +kernel)
set_option maxRecDepth 65536 in
theorem w_c28 : (Jvm.Cond.code ({ cls := "java/lang/StringLatin1", name := "toBytes", desc := "(C)[B" } : Jvm.MethodName) jdk_43_method_46_code (1 : Nat) (Option.some (Jvm.ClassFile.FieldType.array Jvm.ClassFile.FieldType.byte))).before args0 about1 = true := code_word (m := ⟨15, 4⟩) (meth := k15m4) (c := k15c4) (by decide +kernel) rfl rfl rfl (by decide +kernel)
set_option maxRecDepth 65536 in
theorem w_c29 : (Jvm.Cond.code ({ cls := "java/lang/String", name := "<init>", desc := "([BB)V" } : Jvm.MethodName) jdk_42_method_151_code (3 : Nat) (Option.none : Option Jvm.ClassFile.FieldType)).before args0 about1 = true := code_word (m := ⟨7, 9⟩) (meth := k7m9) (c := k7c9) (by decide +kernel) rfl rfl rfl (by decide +kernel)
set_option maxRecDepth 65536 in
theorem w_c30 : (Jvm.Cond.code ({ cls := "java/lang/String", name := "charAt", desc := "(I)C" } : Jvm.MethodName) jdk_42_method_56_code (2 : Nat) (Option.some Jvm.ClassFile.FieldType.char)).before args0 about1 = true := code_word (m := ⟨7, 4⟩) (meth := k7m4) (c := k7c4) (by decide +kernel) rfl rfl rfl (by decide +kernel)
set_option maxRecDepth 65536 in
theorem w_c31 : (Jvm.Cond.code ({ cls := "java/lang/String", name := "isLatin1", desc := "()Z" } : Jvm.MethodName) jdk_42_method_154_code (1 : Nat) (Option.some Jvm.ClassFile.FieldType.boolean)).before args0 about1 = true := code_word (m := ⟨7, 11⟩) (meth := k7m11) (c := k7c11) (by decide +kernel) rfl rfl rfl (by decide +kernel)
set_option maxRecDepth 65536 in
theorem w_c32 : (Jvm.Cond.code ({ cls := "java/lang/StringLatin1", name := "charAt", desc := "([BI)C" } : Jvm.MethodName) jdk_43_method_2_code (2 : Nat) (Option.some Jvm.ClassFile.FieldType.char)).before args0 about1 = true := code_word (m := ⟨15, 1⟩) (meth := k15m1) (c := k15c1) (by decide +kernel) rfl rfl rfl (by decide +kernel)
set_option maxRecDepth 65536 in
theorem w_c33 : (Jvm.Cond.code ({ cls := "java/lang/String", name := "checkIndex", desc := "(II)V" } : Jvm.MethodName) jdk_42_method_155_code (2 : Nat) (Option.none : Option Jvm.ClassFile.FieldType)).before args0 about1 = true := code_word (m := ⟨7, 12⟩) (meth := k7m12) (c := k7c12) (by decide +kernel) rfl rfl rfl (by decide +kernel)
set_option maxRecDepth 65536 in
theorem w_c34 : (Jvm.Cond.code ({ cls := "jdk/internal/util/Preconditions", name := "checkIndex", desc := "(IILjava/util/function/BiFunction;)I" } : Jvm.MethodName) jdk_41_method_11_code (3 : Nat) (Option.some Jvm.ClassFile.FieldType.int)).before args0 about1 = true := code_word (m := ⟨16, 1⟩) (meth := k16m1) (c := k16c1) (by decide +kernel) rfl rfl rfl (by decide +kernel)
set_option maxRecDepth 65536 in
theorem w_c35 : (Jvm.Cond.code ({ cls := "java/lang/StringBuilder", name := "append", desc := "(C)Ljava/lang/StringBuilder;" } : Jvm.MethodName) jdk_67_method_14_code (2 : Nat) (Option.some (Jvm.ClassFile.FieldType.object "java/lang/StringBuilder"))).before args0 about1 = true := code_word (m := ⟨11, 2⟩) (meth := k11m2) (c := k11c2) (by decide +kernel) rfl rfl rfl (by decide +kernel)
set_option maxRecDepth 65536 in
theorem w_c36 : (Jvm.Cond.code ({ cls := "java/lang/AbstractStringBuilder", name := "append", desc := "(C)Ljava/lang/AbstractStringBuilder;" } : Jvm.MethodName) jdk_68_method_31_code (2 : Nat) (Option.some (Jvm.ClassFile.FieldType.object "java/lang/AbstractStringBuilder"))).before args0 about1 = true := code_word (m := ⟨10, 4⟩) (meth := k10m4) (c := k10c4) (by decide +kernel) rfl rfl rfl (by decide +kernel)
set_option maxRecDepth 65536 in
theorem w_c37 : (Jvm.Cond.code ({ cls := "java/lang/AbstractStringBuilder", name := "ensureCapacityInternal", desc := "(I)V" } : Jvm.MethodName) jdk_68_method_9_code (3 : Nat) (Option.none : Option Jvm.ClassFile.FieldType)).before args0 about1 = true := code_word (m := ⟨10, 3⟩) (meth := k10m3) (c := k10c3) (by decide +kernel) rfl rfl rfl (by decide +kernel)
set_option maxRecDepth 65536 in
theorem w_c38 : (Jvm.Cond.code ({ cls := "com/example/dirbound/dirbound/ldap/HostPortEqualsPinLaw", name := "same", desc := "(CC)Z" } : Jvm.MethodName) method_5_code (3 : Nat) (Option.some Jvm.ClassFile.FieldType.boolean)).before args0 about1 = true := code_word (m := ⟨1, 4⟩) (meth := k1m4) (c := k1c4) (by decide +kernel) rfl rfl rfl (by decide +kernel)
set_option maxRecDepth 65536 in
theorem w_c39 : (Jvm.Cond.code ({ cls := "java/lang/StringLatin1", name := "equals", desc := "([B[B)Z" } : Jvm.MethodName) jdk_43_method_13_code (3 : Nat) (Option.some Jvm.ClassFile.FieldType.boolean)).before args0 about1 = true := code_word (m := ⟨15, 3⟩) (meth := k15m3) (c := k15c3) (by decide +kernel) rfl rfl rfl (by decide +kernel)
def codes1 : List Jvm.Cond := [Jvm.Cond.code x code maxLocals ret, Jvm.Cond.code ({ cls := "com/example/dirbound/dirbound/ldap/HostPortEqualsPinLaw", name := "ch", desc := "(II)C" } : Jvm.MethodName) method_3_code (2 : Nat) (Option.some Jvm.ClassFile.FieldType.char), Jvm.Cond.code ({ cls := "com/example/dirbound/dirbound/ldap/HostPortEqualsPinLaw", name := "pick", desc := "(CCI)C" } : Jvm.MethodName) method_4_code (3 : Nat) (Option.some Jvm.ClassFile.FieldType.char), Jvm.Cond.code ({ cls := "com/example/dirbound/dirbound/ldap/HostPortEqualsPinLaw", name := "mk", desc := "(ICCC)Ljava/lang/String;" } : Jvm.MethodName) method_6_code (4 : Nat) (Option.some (Jvm.ClassFile.FieldType.object "java/lang/String")), Jvm.Cond.code ({ cls := "java/lang/String", name := "<init>", desc := "([C)V" } : Jvm.MethodName) jdk_42_method_3_code (2 : Nat) (Option.none : Option Jvm.ClassFile.FieldType), Jvm.Cond.code ({ cls := "java/lang/String", name := "<init>", desc := "([CIILjava/lang/Void;)V" } : Jvm.MethodName) jdk_42_method_149_code (6 : Nat) (Option.none : Option Jvm.ClassFile.FieldType), Jvm.Cond.code ({ cls := "java/lang/Object", name := "<init>", desc := "()V" } : Jvm.MethodName) object_method_1_code (1 : Nat) (Option.none : Option Jvm.ClassFile.FieldType), Jvm.Cond.code ({ cls := "com/example/dirbound/dirbound/ldap/HostPort", name := "<init>", desc := "(Ljava/lang/String;I)V" } : Jvm.MethodName) prog_48_method_1_code (3 : Nat) (Option.none : Option Jvm.ClassFile.FieldType), Jvm.Cond.code ({ cls := "com/example/dirbound/dirbound/ldap/HostPort", name := "folded", desc := "(Ljava/lang/String;)Ljava/lang/String;" } : Jvm.MethodName) prog_48_method_11_code (4 : Nat) (Option.some (Jvm.ClassFile.FieldType.object "java/lang/String")), Jvm.Cond.code ({ cls := "java/lang/String", name := "length", desc := "()I" } : Jvm.MethodName) jdk_42_method_54_code (1 : Nat) (Option.some Jvm.ClassFile.FieldType.int), Jvm.Cond.code ({ cls := "java/lang/String", name := "coder", desc := "()B" } : Jvm.MethodName) jdk_42_method_152_code (1 : Nat) (Option.some Jvm.ClassFile.FieldType.byte), Jvm.Cond.code ({ cls := "java/lang/StringBuilder", name := "<init>", desc := "(I)V" } : Jvm.MethodName) jdk_67_method_2_code (2 : Nat) (Option.none : Option Jvm.ClassFile.FieldType), Jvm.Cond.code ({ cls := "java/lang/AbstractStringBuilder", name := "<init>", desc := "(I)V" } : Jvm.MethodName) jdk_68_method_2_code (2 : Nat) (Option.none : Option Jvm.ClassFile.FieldType), Jvm.Cond.code ({ cls := "java/lang/StringBuilder", name := "toString", desc := "()Ljava/lang/String;" } : Jvm.MethodName) jdk_67_method_42_code (1 : Nat) (Option.some (Jvm.ClassFile.FieldType.object "java/lang/String")), Jvm.Cond.code ({ cls := "java/lang/String", name := "<init>", desc := "(Ljava/lang/StringBuilder;)V" } : Jvm.MethodName) jdk_42_method_53_code (2 : Nat) (Option.none : Option Jvm.ClassFile.FieldType), Jvm.Cond.code ({ cls := "java/lang/String", name := "<init>", desc := "(Ljava/lang/AbstractStringBuilder;Ljava/lang/Void;)V" } : Jvm.MethodName) jdk_42_method_150_code (5 : Nat) (Option.none : Option Jvm.ClassFile.FieldType), Jvm.Cond.code ({ cls := "java/lang/AbstractStringBuilder", name := "getValue", desc := "()[B" } : Jvm.MethodName) jdk_68_method_64_code (1 : Nat) (Option.some (Jvm.ClassFile.FieldType.array Jvm.ClassFile.FieldType.byte)), Jvm.Cond.code ({ cls := "java/lang/StringBuilder", name := "length", desc := "()I" } : Jvm.MethodName) jdk_67_method_93_code (1 : Nat) (Option.some Jvm.ClassFile.FieldType.int), Jvm.Cond.code ({ cls := "java/lang/AbstractStringBuilder", name := "length", desc := "()I" } : Jvm.MethodName) jdk_68_method_6_code (1 : Nat) (Option.some Jvm.ClassFile.FieldType.int), Jvm.Cond.code ({ cls := "java/lang/AbstractStringBuilder", name := "isLatin1", desc := "()Z" } : Jvm.MethodName) jdk_68_method_68_code (1 : Nat) (Option.some Jvm.ClassFile.FieldType.boolean), Jvm.Cond.code ({ cls := "java/util/Arrays", name := "copyOfRange", desc := "([BII)[B" } : Jvm.MethodName) jdk_65_method_132_code (3 : Nat) (Option.some (Jvm.ClassFile.FieldType.array Jvm.ClassFile.FieldType.byte)), Jvm.Cond.code ({ cls := "com/example/dirbound/dirbound/ldap/HostPort", name := "equals", desc := "(Ljava/lang/Object;)Z" } : Jvm.MethodName) prog_48_method_9_code (3 : Nat) (Option.some Jvm.ClassFile.FieldType.boolean), Jvm.Cond.code ({ cls := "java/lang/String", name := "equals", desc := "(Ljava/lang/Object;)Z" } : Jvm.MethodName) jdk_42_method_66_code (3 : Nat) (Option.some Jvm.ClassFile.FieldType.boolean), Jvm.Cond.code ({ cls := "java/lang/StringUTF16", name := "compress", desc := "([CII)[B" } : Jvm.MethodName) jdk_52_method_16_code (6 : Nat) (Option.some (Jvm.ClassFile.FieldType.array Jvm.ClassFile.FieldType.byte)), Jvm.Cond.code ({ cls := "java/lang/StringUTF16", name := "compress", desc := "([CI[BII)I" } : Jvm.MethodName) jdk_52_method_21_code (7 : Nat) (Option.some Jvm.ClassFile.FieldType.int), Jvm.Cond.code ({ cls := "java/lang/StringUTF16", name := "coderFromArrayLen", desc := "([BI)B" } : Jvm.MethodName) jdk_52_method_15_code (2 : Nat) (Option.some Jvm.ClassFile.FieldType.byte), Jvm.Cond.code ({ cls := "java/lang/String", name := "valueOf", desc := "(C)Ljava/lang/String;" } : Jvm.MethodName) jdk_42_method_139_code (1 : Nat) (Option.some (Jvm.ClassFile.FieldType.object "java/lang/String")), Jvm.Cond.code ({ cls := "java/lang/StringLatin1", name := "canEncode", desc := "(C)Z" } : Jvm.MethodName) jdk_43_method_3_code (1 : Nat) (Option.some Jvm.ClassFile.FieldType.boolean), Jvm.Cond.code ({ cls := "java/lang/StringLatin1", name := "toBytes", desc := "(C)[B" } : Jvm.MethodName) jdk_43_method_46_code (1 : Nat) (Option.some (Jvm.ClassFile.FieldType.array Jvm.ClassFile.FieldType.byte)), Jvm.Cond.code ({ cls := "java/lang/String", name := "<init>", desc := "([BB)V" } : Jvm.MethodName) jdk_42_method_151_code (3 : Nat) (Option.none : Option Jvm.ClassFile.FieldType), Jvm.Cond.code ({ cls := "java/lang/String", name := "charAt", desc := "(I)C" } : Jvm.MethodName) jdk_42_method_56_code (2 : Nat) (Option.some Jvm.ClassFile.FieldType.char), Jvm.Cond.code ({ cls := "java/lang/String", name := "isLatin1", desc := "()Z" } : Jvm.MethodName) jdk_42_method_154_code (1 : Nat) (Option.some Jvm.ClassFile.FieldType.boolean), Jvm.Cond.code ({ cls := "java/lang/StringLatin1", name := "charAt", desc := "([BI)C" } : Jvm.MethodName) jdk_43_method_2_code (2 : Nat) (Option.some Jvm.ClassFile.FieldType.char), Jvm.Cond.code ({ cls := "java/lang/String", name := "checkIndex", desc := "(II)V" } : Jvm.MethodName) jdk_42_method_155_code (2 : Nat) (Option.none : Option Jvm.ClassFile.FieldType), Jvm.Cond.code ({ cls := "jdk/internal/util/Preconditions", name := "checkIndex", desc := "(IILjava/util/function/BiFunction;)I" } : Jvm.MethodName) jdk_41_method_11_code (3 : Nat) (Option.some Jvm.ClassFile.FieldType.int), Jvm.Cond.code ({ cls := "java/lang/StringBuilder", name := "append", desc := "(C)Ljava/lang/StringBuilder;" } : Jvm.MethodName) jdk_67_method_14_code (2 : Nat) (Option.some (Jvm.ClassFile.FieldType.object "java/lang/StringBuilder")), Jvm.Cond.code ({ cls := "java/lang/AbstractStringBuilder", name := "append", desc := "(C)Ljava/lang/AbstractStringBuilder;" } : Jvm.MethodName) jdk_68_method_31_code (2 : Nat) (Option.some (Jvm.ClassFile.FieldType.object "java/lang/AbstractStringBuilder")), Jvm.Cond.code ({ cls := "java/lang/AbstractStringBuilder", name := "ensureCapacityInternal", desc := "(I)V" } : Jvm.MethodName) jdk_68_method_9_code (3 : Nat) (Option.none : Option Jvm.ClassFile.FieldType), Jvm.Cond.code ({ cls := "com/example/dirbound/dirbound/ldap/HostPortEqualsPinLaw", name := "same", desc := "(CC)Z" } : Jvm.MethodName) method_5_code (3 : Nat) (Option.some Jvm.ClassFile.FieldType.boolean), Jvm.Cond.code ({ cls := "java/lang/StringLatin1", name := "equals", desc := "([B[B)Z" } : Jvm.MethodName) jdk_43_method_13_code (3 : Nat) (Option.some Jvm.ClassFile.FieldType.boolean)]
set_option maxRecDepth 65536 in
theorem codes_eq : words1.filter isCode = codes1 := rfl
theorem w_codes : ∀ c ∈ words1.filter isCode, c.before args0 about1 = true := by
  rw [codes_eq]
  intro c hc
  simp only [codes1, List.mem_cons, List.not_mem_nil, or_false] at hc
  rcases hc with rfl | rfl | rfl | rfl | rfl | rfl | rfl | rfl | rfl | rfl | rfl | rfl | rfl | rfl | rfl | rfl | rfl | rfl | rfl | rfl | rfl | rfl | rfl | rfl | rfl | rfl | rfl | rfl | rfl | rfl | rfl | rfl | rfl | rfl | rfl | rfl | rfl | rfl | rfl | rfl
  · exact w_c0
  · exact w_c1
  · exact w_c2
  · exact w_c3
  · exact w_c4
  · exact w_c5
  · exact w_c6
  · exact w_c7
  · exact w_c8
  · exact w_c9
  · exact w_c10
  · exact w_c11
  · exact w_c12
  · exact w_c13
  · exact w_c14
  · exact w_c15
  · exact w_c16
  · exact w_c17
  · exact w_c18
  · exact w_c19
  · exact w_c20
  · exact w_c21
  · exact w_c22
  · exact w_c23
  · exact w_c24
  · exact w_c25
  · exact w_c26
  · exact w_c27
  · exact w_c28
  · exact w_c29
  · exact w_c30
  · exact w_c31
  · exact w_c32
  · exact w_c33
  · exact w_c34
  · exact w_c35
  · exact w_c36
  · exact w_c37
  · exact w_c38
  · exact w_c39
set_option maxRecDepth 65536 in
theorem w_t1 : (words1.take 24).all (fun c => isCode c || c.before args0 about1) = true := by decide +kernel
set_option maxRecDepth 65536 in
theorem w_t2 : ((words1.drop 24).take 24).all (fun c => isCode c || c.before args0 about1) = true := by decide +kernel
set_option maxRecDepth 65536 in
theorem w_t3 : (((words1.drop 24).drop 24).take 24).all (fun c => isCode c || c.before args0 about1) = true := by decide +kernel
set_option maxRecDepth 65536 in
theorem w_t4 : ((((words1.drop 24).drop 24).drop 24).take 24).all (fun c => isCode c || c.before args0 about1) = true := by decide +kernel
set_option maxRecDepth 65536 in
theorem w_t5 : (((((words1.drop 24).drop 24).drop 24).drop 24).take 24).all (fun c => isCode c || c.before args0 about1) = true := by decide +kernel
set_option maxRecDepth 65536 in
theorem w_t6 : ((((((words1.drop 24).drop 24).drop 24).drop 24).drop 24).take 24).all (fun c => isCode c || c.before args0 about1) = true := by decide +kernel
set_option maxRecDepth 65536 in
theorem w_t7 : (((((((words1.drop 24).drop 24).drop 24).drop 24).drop 24).drop 24).take 24).all (fun c => isCode c || c.before args0 about1) = true := by decide +kernel
set_option maxRecDepth 65536 in
theorem w_t8 : ((((((((words1.drop 24).drop 24).drop 24).drop 24).drop 24).drop 24).drop 24).take 24).all (fun c => isCode c || c.before args0 about1) = true := by decide +kernel
set_option maxRecDepth 65536 in
theorem w_t9 : ((((((((words1.drop 24).drop 24).drop 24).drop 24).drop 24).drop 24).drop 24).drop 24).all (fun c => isCode c || c.before args0 about1) = true := by decide +kernel
theorem w_tables : (allAtoms (Jvm.Cond.code x code maxLocals ret :: tables_1)).before args0 about1 = true := by
  rw [allAtoms_all]
  show words1.all (fun c => c.before args0 about1) = true
  refine all_split ?_ w_codes
  rw [← List.take_append_drop 24 words1, List.all_append, w_t1, ← List.take_append_drop 24 (words1.drop 24), List.all_append, w_t2, ← List.take_append_drop 24 ((words1.drop 24).drop 24), List.all_append, w_t3, ← List.take_append_drop 24 (((words1.drop 24).drop 24).drop 24), List.all_append, w_t4, ← List.take_append_drop 24 ((((words1.drop 24).drop 24).drop 24).drop 24), List.all_append, w_t5, ← List.take_append_drop 24 (((((words1.drop 24).drop 24).drop 24).drop 24).drop 24), List.all_append, w_t6, ← List.take_append_drop 24 ((((((words1.drop 24).drop 24).drop 24).drop 24).drop 24).drop 24), List.all_append, w_t7, ← List.take_append_drop 24 (((((((words1.drop 24).drop 24).drop 24).drop 24).drop 24).drop 24).drop 24), List.all_append, w_t8, w_t9]
  rfl
set_option maxRecDepth 65536 in
theorem w_rest : rest_1_c.before args0 about1 = true := by decide +kernel
set_option maxRecDepth 65536 in
theorem w_case : (Jvm.Cond.and given_1 narrow_1).before args0 about1 = true := by decide +kernel
set_option maxRecDepth 65536 in
theorem w_consts : constsHeld consts_1 about1 := Jvm.Lit.constsHeldB_iff.mp (by decide +kernel)
theorem w_applies : (headSpec (Jvm.Cond.code x code maxLocals ret :: tables_1) room_1).applies x e0.platform about1 = true :=
  (Spec.applies_iff w_frames).mpr ⟨w_running, w_runnable, w_alone, w_named, w_hears, w_ripe, w_room, w_tables⟩
theorem atStart : AtStart classFile x code maxLocals ret World_1 tables_1 room_1 Calls_1 rest_1 Pre_1 launch0 p0 e0 about1 theMethod args0 below0 :=
  ⟨lists_1, trivial, launch0.admits_env _ _ _, launch0.least_env, fairChoices_fair.cas, fairChoices_fair.clock, w_frames, w_args, w_heap, w_applies, ⟨w_consts, trivial⟩, w_rest, w_case⟩
end start1
theorem witness_1 : WitnessClaimed_1 := ⟨start1.p0, start1.e0, start1.about1, start1.theMethod, start1.args0, start1.below0, start1.atStart⟩
end Jvm.Pilot.@@N@@
