
import JvmDerived
import JvmDerived.Pilot.@@N@@Statement
import JvmDerived.Pilot.@@N@@Code
set_option linter.unusedVariables false
set_option linter.unusedSimpArgs false
namespace Jvm.RoadKit
open Sem ClassFile Op Lib Jvm.Stand Jvm.Free Jvm.LawKit
section OwnGo
variable {p : Program} {l : Launch} {e : Env} {R : Room} {s : State} {m : MethodId} {args : Array Value} {below : List Frame} {meth : Method} {c : Code} {T : State} {locs : List Loc} {cells slots kc ks : Nat} {Z : State} {a0 : Array Value} {h : Heap} {Q : Option Value → Heap → List Loc → Prop} {F0 : State → Outcome → Prop}
/-- what is left of a run from T: it ends, and F0 holds of its end -/
def Go (p : Program) (e : Env) (below : List Frame) (F0 : State → Outcome → Prop) (T : State) : Prop :=
  ∃ (U : State) (o : Outcome), Steps p.tables e below T U ∧ U.status = .running ∧ Ended U below o ∧ F0 U o
def EndN (s : State) (Q : Option Value → Heap → List Loc → Prop) (kc ks : Nat) (U : State) (o : Outcome) : Prop := ∃ v L, o = .returned v ∧ Q v U.heap L ∧ FrameEnd s o U L kc ks
theorem Go.step {T' : State} (g : ∀ t, Steps p.tables e below T' t → Steps p.tables e below T t) (k : Go p e below F0 T') : Go p e below F0 T := by
  obtain ⟨U, o, h1, r⟩ := k
  exact ⟨U, o, g _ h1, r⟩
theorem Go.cast {g g' : JFrame} (q : g = g') (k : Go p e below F0 (T.setTop g')) : Go p e below F0 (T.setTop g) := by rw [q]; exact k
/-- a body's contract: from these arguments and this heap it returns, and Q holds -/
def Ctr (l : Launch) (Z : State) (y : MethodName) (bytes : ByteArray) (maxL : Nat) (ret : Option FieldType) (rm : Room) (as : Array Value) (h : Heap) (Q : Option Value → Heap → List Loc → Prop) : Prop :=
  ∀ ws : List Jvm.Cond, MetFree l y (head1 (Jvm.Cond.code y bytes maxL ret :: ws) rm) (fun a U => a = as ∧ Z.Warmed39 U.vm ∧ U.heap = h) (fun _ _ _ _ _ => True) (fun _ U o U' => ∃ v L, o = .returned v ∧ Q v U'.heap L ∧ FrameEnd U o U' L rm.cells rm.slots)
theorem Ctr.of {y : MethodName} {bytes : ByteArray} {maxL : Nat} {ret : Option FieldType} {rm : Room} {as : Array Value} (hp : plainFor y = true)
    (body : ∀ (p : Program) (e : Env) (s : State) (m : MethodId) (below : List Frame) (meth : Method) (c : Code) (T : State), p.tables.exec = Jvm.exec → Z.Warmed39 s.vm → c.code = bytes → c.maxLocals = maxL → s.vm.findClass y.cls = some m.cls → meth.name = y.name → meth.sig.returnType = ret → meth.locks = false → T.heap = h → s.heap = h → Stand p l e rm s m as below meth c T [] 0 0 →
      Go p e below (EndN s Q rm.cells rm.slots) (T.setTop (entryFrame m as maxL))) : Ctr l Z y bytes maxL ret rm as h Q := by
  intro ws
  refine MetFree.of_bodySF hp hisR ?_
  intro p e s m args below meth c s₁ Bd hml0 hP hK
  obtain ⟨rfl, hZ, hh⟩ := hP
  exact body p e s m below meth c s₁ Bd.exec hZ Bd.bytes hml0 (findClass_of_methodNamed Bd.named) (name_of_methodNamed Bd.named Bd.method).1 Bd.returns Bd.notSynchronized (by rw [← hh, Bd.state]; rfl) hh (Stand.of_body Bd)
theorem Go.ret0 (X : Stand p l e R s m args below meth c T locs cells slots) (hx : p.tables.exec = Jvm.exec) (hlk : meth.locks = false) (hret : meth.sig.returnType = none) {pc : Nat} {Ls : Array Slot} (hd : decode c.code pc = .ok (.return_, 1)) (hc : cells ≤ kc) (hs : slots ≤ ks) (q : Q none T.heap locs) : Go p e below (EndN s Q kc ks) (T.setTop (mkF m pc Ls [])) := by
  obtain ⟨fs, hr, hrun, hended, hW, hsame⟩ := X.leave (v := none) (fun _ => rfl) hlk
  exact ⟨_, _, X.returnOut hx hret hd hr, hrun, hended, _, _, rfl, q, ⟨_, rfl⟩, hW, hsame.mono hc hs⟩
theorem Go.retV (X : Stand p l e R s m args below meth c T locs cells slots) (hx : p.tables.exec = Jvm.exec) (hlk : meth.locks = false) {t : FieldType} (hret : meth.sig.returnType = some t) {pc : Nat} {Ls : Array Slot} {v : Value} {i : Instr} {rest : List Value} (hn : narrow t v = v)
    (hi : (i = .ireturn ∧ (t = .int ∨ t = .boolean ∨ t = .byte ∨ t = .char ∨ t = .short) ∧ ∃ z, v = .int z) ∨ (i = .lreturn ∧ t = .long ∧ ∃ z, v = .long z) ∨ (i = .dreturn ∧ t = .double ∧ ∃ z, v = .double z) ∨ (i = .freturn ∧ t = .float ∧ ∃ z, v = .float z) ∨ (i = .areturn ∧ t.isReference = true ∧ v.isRef = true))
    (hd : decode c.code pc = .ok (i, 1)) (hc : cells ≤ kc) (hs : slots ≤ ks) (q : Q (some v) T.heap locs) : Go p e below (EndN s Q kc ks) (T.setTop (mkF m pc Ls (v :: rest))) := by
  obtain ⟨fs, hr, hrun, hended, hW, hsame⟩ := X.leave (v := some v) (fun h => by rw [hret] at h; cases h) hlk
  exact ⟨_, _, retOut X hx hret hn hi hd hr, hrun, hended, _, _, rfl, q, ⟨_, rfl⟩, hW, hsame.mono hc hs⟩
theorem Go.retI (X : Stand p l e R s m args below meth c T locs cells slots) (hx : p.tables.exec = Jvm.exec) (hlk : meth.locks = false) (hret : meth.sig.returnType = some .int) {pc : Nat} {Ls : Array Slot} {z : Int32} {rest : List Value} (hd : decode c.code pc = .ok (.ireturn, 1)) (hc : cells ≤ kc) (hs : slots ≤ ks) (q : Q (some (.int z)) T.heap locs) : Go p e below (EndN s Q kc ks) (T.setTop (mkF m pc Ls (.int z :: rest))) :=
  Go.retV X hx hlk hret rfl (Or.inl ⟨rfl, Or.inl rfl, _, rfl⟩) hd hc hs q
theorem Go.retR (X : Stand p l e R s m args below meth c T locs cells slots) (hx : p.tables.exec = Jvm.exec) (hlk : meth.locks = false) {t : FieldType} (hret : meth.sig.returnType = some t) (ht : t.isReference = true) {pc : Nat} {Ls : Array Slot} {v : Value} (hv : v.isRef = true) {rest : List Value} (hd : decode c.code pc = .ok (.areturn, 1)) (hc : cells ≤ kc) (hs : slots ≤ ks) (q : Q (some v) T.heap locs) : Go p e below (EndN s Q kc ks) (T.setTop (mkF m pc Ls (v :: rest))) :=
  Go.retV X hx hlk hret (by rcases ref_cases hv with rfl | ⟨z, rfl⟩ <;> cases t <;> simp [FieldType.isReference] at ht <;> rfl) (Or.inr (Or.inr (Or.inr (Or.inr ⟨rfl, ht, hv⟩)))) hd hc hs q
theorem Go.retN (X : Stand p l e R s m args below meth c T locs cells slots) (hx : p.tables.exec = Jvm.exec) (hlk : meth.locks = false) {t : FieldType} (hret : meth.sig.returnType = some t) (ht : t = .boolean ∨ t = .byte ∨ t = .char ∨ t = .short) {pc : Nat} {Ls : Array Slot} {z : Int32} {rest : List Value} (hd : decode c.code pc = .ok (.ireturn, 1)) (hc : cells ≤ kc) (hs : slots ≤ ks) (q : Q (some (.int (nar t z))) T.heap locs) : Go p e below (EndN s Q kc ks) (T.setTop (mkF m pc Ls (.int z :: rest))) := by
  obtain ⟨fs, hr, hrun, hended, hW, hsame⟩ := X.leave (v := some (.int (nar t z))) (fun h => by rw [hret] at h; cases h) hlk
  exact ⟨_, _, Jvm.RoadKit.retN X hx hret ht hd hr, hrun, hended, _, _, rfl, q, ⟨_, rfl⟩, hW, hsame.mono hc hs⟩
theorem Go.iloadN (X : Stand p l e R s m args below meth c T locs cells slots) (hx : p.tables.exec = Jvm.exec) {pc pc' : Nat} {Ls : Array Slot} {st : List Value} {k : Fin 4} {v : Int32} (hp : pc' = pc + 1) (hd : decode c.code pc = .ok (.iload_n k, 1)) (hl : Ls[k.val]? = some (.val (.int v))) (k : Go p e below F0 (T.setTop (mkF m pc' Ls (.int v :: st)))) : Go p e below F0 (T.setTop (mkF m pc Ls st)) := by
  subst hp
  exact Go.step (fun t kt => XS.iloadN X.here hx (g := mkF m pc Ls _) rfl hd hl kt) k
theorem Go.iload (X : Stand p l e R s m args below meth c T locs cells slots) (hx : p.tables.exec = Jvm.exec) {pc pc' : Nat} {Ls : Array Slot} {st : List Value} {k : Nat} {v : Int32} (hp : pc' = pc + 2) (hd : decode c.code pc = .ok (.iload k, 2)) (hl : Ls[k]? = some (.val (.int v))) (k : Go p e below F0 (T.setTop (mkF m pc' Ls (.int v :: st)))) : Go p e below F0 (T.setTop (mkF m pc Ls st)) := by
  subst hp
  exact Go.step (fun t kt => XS.iload X.here hx (g := mkF m pc Ls _) rfl hd hl kt) k
theorem Go.aloadN (X : Stand p l e R s m args below meth c T locs cells slots) (hx : p.tables.exec = Jvm.exec) {pc pc' : Nat} {Ls : Array Slot} {st : List Value} {k : Fin 4} {v : Value} (hp : pc' = pc + 1) (hd : decode c.code pc = .ok (.aload_n k, 1)) (hl : Ls[k.val]? = some (.val v)) (hv : v.isRef = true) (k : Go p e below F0 (T.setTop (mkF m pc' Ls (v :: st)))) : Go p e below F0 (T.setTop (mkF m pc Ls st)) := by
  subst hp
  exact Go.step (fun t kt => XS.aloadN X.here hx (g := mkF m pc Ls _) rfl hd hl hv kt) k
theorem Go.aload (X : Stand p l e R s m args below meth c T locs cells slots) (hx : p.tables.exec = Jvm.exec) {pc pc' : Nat} {Ls : Array Slot} {st : List Value} {k : Nat} {v : Value} (hp : pc' = pc + 2) (hd : decode c.code pc = .ok (.aload k, 2)) (hl : Ls[k]? = some (.val v)) (hv : v.isRef = true) (k : Go p e below F0 (T.setTop (mkF m pc' Ls (v :: st)))) : Go p e below F0 (T.setTop (mkF m pc Ls st)) := by
  subst hp
  exact Go.step (fun t kt => XS.aload X.here hx (g := mkF m pc Ls _) rfl hd hl hv kt) k
theorem Go.iconst (X : Stand p l e R s m args below meth c T locs cells slots) (hx : p.tables.exec = Jvm.exec) {pc pc' : Nat} {Ls : Array Slot} {st : List Value} {i : Int} {v : Int32} (hp : pc' = pc + 1) (hd : decode c.code pc = .ok (.iconst i, 1)) (hv : Int32.ofInt i = v) (k : Go p e below F0 (T.setTop (mkF m pc' Ls (.int v :: st)))) : Go p e below F0 (T.setTop (mkF m pc Ls st)) := by
  subst hp
  exact Go.step (fun t kt => XS.iconst X.here hx (g := mkF m pc Ls _) rfl hd (by rw [hv]; exact kt)) k
theorem Go.bipush (X : Stand p l e R s m args below meth c T locs cells slots) (hx : p.tables.exec = Jvm.exec) {pc pc' : Nat} {Ls : Array Slot} {st : List Value} {i : Int} {v : Int32} (hp : pc' = pc + 2) (hd : decode c.code pc = .ok (.bipush i, 2)) (hv : (Int8.ofInt i).toInt32 = v) (k : Go p e below F0 (T.setTop (mkF m pc' Ls (.int v :: st)))) : Go p e below F0 (T.setTop (mkF m pc Ls st)) := by
  subst hp
  exact Go.step (fun t kt => XS.bipush X.here hx (g := mkF m pc Ls _) rfl hd (by rw [hv]; exact kt)) k
theorem Go.sipush (X : Stand p l e R s m args below meth c T locs cells slots) (hx : p.tables.exec = Jvm.exec) {pc pc' : Nat} {Ls : Array Slot} {st : List Value} {i : Int} {v : Int32} (hp : pc' = pc + 3) (hd : decode c.code pc = .ok (.sipush i, 3)) (hv : (Int16.ofInt i).toInt32 = v) (k : Go p e below F0 (T.setTop (mkF m pc' Ls (.int v :: st)))) : Go p e below F0 (T.setTop (mkF m pc Ls st)) := by
  subst hp
  exact Go.step (fun t kt => XS.sipush X.here hx (g := mkF m pc Ls _) rfl hd (by rw [hv]; exact kt)) k
theorem Go.anull (X : Stand p l e R s m args below meth c T locs cells slots) (hx : p.tables.exec = Jvm.exec) {pc pc' : Nat} {Ls : Array Slot} {st : List Value} (hp : pc' = pc + 1) (hd : decode c.code pc = .ok (.aconst_null, 1))  (k : Go p e below F0 (T.setTop (mkF m pc' Ls (.null :: st)))) : Go p e below F0 (T.setTop (mkF m pc Ls st)) := by
  subst hp
  exact Go.step (fun t kt => XS.aconstNull X.here hx (g := mkF m pc Ls _) rfl hd kt) k
theorem Go.isub (X : Stand p l e R s m args below meth c T locs cells slots) (hx : p.tables.exec = Jvm.exec) {pc pc' : Nat} {Ls : Array Slot} {x y : Int32} {rest : List Value} (hp : pc' = pc + 1) (hd : decode c.code pc = .ok (.isub, 1))  (k : Go p e below F0 (T.setTop (mkF m pc' Ls (.int (x - y) :: rest)))) : Go p e below F0 (T.setTop (mkF m pc Ls (.int y :: .int x :: rest))) := by
  subst hp
  exact Go.step (fun t kt => XS.isub X.here hx (g := mkF m pc Ls _) rfl hd rfl kt) k
theorem Go.iand (X : Stand p l e R s m args below meth c T locs cells slots) (hx : p.tables.exec = Jvm.exec) {pc pc' : Nat} {Ls : Array Slot} {x y : Int32} {rest : List Value} (hp : pc' = pc + 1) (hd : decode c.code pc = .ok (.iand, 1))  (k : Go p e below F0 (T.setTop (mkF m pc' Ls (.int (x &&& y) :: rest)))) : Go p e below F0 (T.setTop (mkF m pc Ls (.int y :: .int x :: rest))) := by
  subst hp
  exact Go.step (fun t kt => XS.iand X.here hx (g := mkF m pc Ls _) rfl hd rfl kt) k
theorem Go.iushr (X : Stand p l e R s m args below meth c T locs cells slots) (hx : p.tables.exec = Jvm.exec) {pc pc' : Nat} {Ls : Array Slot} {x y : Int32} {rest : List Value} (hp : pc' = pc + 1) (hd : decode c.code pc = .ok (.iushr, 1))  (k : Go p e below F0 (T.setTop (mkF m pc' Ls (.int ((x.toUInt32 >>> (y &&& 31).toUInt32).toInt32) :: rest)))) : Go p e below F0 (T.setTop (mkF m pc Ls (.int y :: .int x :: rest))) := by
  subst hp
  exact Go.step (fun t kt => XT.iushr X.here hx (g := mkF m pc Ls _) rfl hd rfl kt) k
theorem Go.irem (X : Stand p l e R s m args below meth c T locs cells slots) (hx : p.tables.exec = Jvm.exec) {pc pc' : Nat} {Ls : Array Slot} {x y : Int32} {rest : List Value} (hp : pc' = pc + 1) (hd : decode c.code pc = .ok (.irem, 1)) (hy : y ≠ 0) (k : Go p e below F0 (T.setTop (mkF m pc' Ls (.int (x % y) :: rest)))) : Go p e below F0 (T.setTop (mkF m pc Ls (.int y :: .int x :: rest))) := by
  subst hp
  exact Go.step (fun t kt => iremM X hx (g := mkF m pc Ls _) rfl hd rfl hy kt) k
theorem Go.i2b (X : Stand p l e R s m args below meth c T locs cells slots) (hx : p.tables.exec = Jvm.exec) {pc pc' : Nat} {Ls : Array Slot} {x : Int32} {rest : List Value} (hp : pc' = pc + 1) (hd : decode c.code pc = .ok (.i2b, 1))  (k : Go p e below F0 (T.setTop (mkF m pc' Ls (.int (x.toInt8.toInt32) :: rest)))) : Go p e below F0 (T.setTop (mkF m pc Ls (.int x :: rest))) := by
  subst hp
  exact Go.step (fun t kt => XT.i2b X.here hx (g := mkF m pc Ls _) rfl hd rfl kt) k
theorem Go.i2c (X : Stand p l e R s m args below meth c T locs cells slots) (hx : p.tables.exec = Jvm.exec) {pc pc' : Nat} {Ls : Array Slot} {x : Int32} {rest : List Value} (hp : pc' = pc + 1) (hd : decode c.code pc = .ok (.i2c, 1))  (k : Go p e below F0 (T.setTop (mkF m pc' Ls (.int (x.toUInt32.toUInt16.toUInt32.toInt32) :: rest)))) : Go p e below F0 (T.setTop (mkF m pc Ls (.int x :: rest))) := by
  subst hp
  exact Go.step (fun t kt => XT.i2c X.here hx (g := mkF m pc Ls _) rfl hd rfl kt) k
theorem Go.dup (X : Stand p l e R s m args below meth c T locs cells slots) (hx : p.tables.exec = Jvm.exec) {pc pc' : Nat} {Ls : Array Slot} {x : Value} {rest : List Value} (hp : pc' = pc + 1) (hd : decode c.code pc = .ok (.dup, 1)) (hc : x.category = 1) (k : Go p e below F0 (T.setTop (mkF m pc' Ls (x :: x :: rest)))) : Go p e below F0 (T.setTop (mkF m pc Ls (x :: rest))) := by
  subst hp
  exact Go.step (fun t kt => XS.dup X.here hx (g := mkF m pc Ls _) rfl hd rfl hc kt) k
theorem Go.istoreN (X : Stand p l e R s m args below meth c T locs cells slots) (hx : p.tables.exec = Jvm.exec) {pc pc' : Nat} {Ls : Array Slot} {k : Fin 4} {x : Int32} {rest : List Value} {Ls' : Array Slot} (hp : pc' = pc + 1) (hd : decode c.code pc = .ok (.istore_n k, 1)) (hl : storeLocals Ls k.val (.int x) = some Ls') (k : Go p e below F0 (T.setTop (mkF m pc' Ls' rest))) : Go p e below F0 (T.setTop (mkF m pc Ls (.int x :: rest))) := by
  subst hp
  exact Go.step (fun t kt => XS.istoreN X.here hx (g := mkF m pc Ls _) rfl hd rfl hl kt) k
theorem Go.istore (X : Stand p l e R s m args below meth c T locs cells slots) (hx : p.tables.exec = Jvm.exec) {pc pc' : Nat} {Ls : Array Slot} {k : Nat} {x : Int32} {rest : List Value} {Ls' : Array Slot} (hp : pc' = pc + 2) (hd : decode c.code pc = .ok (.istore k, 2)) (hl : storeLocals Ls k (.int x) = some Ls') (k : Go p e below F0 (T.setTop (mkF m pc' Ls' rest))) : Go p e below F0 (T.setTop (mkF m pc Ls (.int x :: rest))) := by
  subst hp
  exact Go.step (fun t kt => XS.istore X.here hx (g := mkF m pc Ls _) rfl hd rfl hl kt) k
theorem Go.astoreN (X : Stand p l e R s m args below meth c T locs cells slots) (hx : p.tables.exec = Jvm.exec) {pc pc' : Nat} {Ls : Array Slot} {k : Fin 4} {x : Value} {rest : List Value} {Ls' : Array Slot} (hp : pc' = pc + 1) (hd : decode c.code pc = .ok (.astore_n k, 1)) (hv : x.isRef = true) (hl : storeLocals Ls k.val x = some Ls') (k : Go p e below F0 (T.setTop (mkF m pc' Ls' rest))) : Go p e below F0 (T.setTop (mkF m pc Ls (x :: rest))) := by
  subst hp
  exact Go.step (fun t kt => XS.astoreN X.here hx (g := mkF m pc Ls _) rfl hd rfl hv hl kt) k
theorem Go.astore (X : Stand p l e R s m args below meth c T locs cells slots) (hx : p.tables.exec = Jvm.exec) {pc pc' : Nat} {Ls : Array Slot} {k : Nat} {x : Value} {rest : List Value} {Ls' : Array Slot} (hp : pc' = pc + 2) (hd : decode c.code pc = .ok (.astore k, 2)) (hv : x.isRef = true) (hl : storeLocals Ls k x = some Ls') (k : Go p e below F0 (T.setTop (mkF m pc' Ls' rest))) : Go p e below F0 (T.setTop (mkF m pc Ls (x :: rest))) := by
  subst hp
  exact Go.step (fun t kt => XS.astore X.here hx (g := mkF m pc Ls _) rfl hd rfl hv hl kt) k
theorem Go.iinc (X : Stand p l e R s m args below meth c T locs cells slots) (hx : p.tables.exec = Jvm.exec) {pc pc' : Nat} {Ls : Array Slot} {st : List Value} {k : Nat} {cst : Int} {x y : Int32} {Ls' : Array Slot} (hp : pc' = pc + 3) (hd : decode c.code pc = .ok (.iinc k cst, 3)) (hl : Ls[k]? = some (.val (.int x))) (hy : x + Int32.ofInt cst = y) (hl' : storeLocals Ls k (.int y) = some Ls') (k : Go p e below F0 (T.setTop (mkF m pc' Ls' st))) : Go p e below F0 (T.setTop (mkF m pc Ls st)) := by
  subst hp
  exact Go.step (fun t kt => XS.iinc X.here hx (g := mkF m pc Ls _) rfl hd hl (by rw [hy]; exact hl') kt) k
theorem Go.goto (X : Stand p l e R s m args below meth c T locs cells slots) (hx : p.tables.exec = Jvm.exec) {pc pc' : Nat} {Ls : Array Slot} {o : Int} {st : List Value} (hd : decode c.code pc = .ok (.goto o, 3))  (ho : 0 ≤ (pc : Int) + o) (hp : ((pc : Int) + o).toNat = pc') (k : Go p e below F0 (T.setTop (mkF m pc' Ls st))) : Go p e below F0 (T.setTop (mkF m pc Ls st)) :=
  Go.step (fun t kt => XS.goto X.here hx (g := mkF m pc Ls _) rfl rfl hd ho hp kt) k
theorem Go.ifYes (X : Stand p l e R s m args below meth c T locs cells slots) (hx : p.tables.exec = Jvm.exec) {pc pc' : Nat} {Ls : Array Slot} {o : Int} {cd : ClassFile.Cond} {x : Int32} {rest : List Value} (hd : decode c.code pc = .ok (.ifCond cd o, 3)) (hc : if_icmp.holds cd x 0 = true) (ho : 0 ≤ (pc : Int) + o) (hp : ((pc : Int) + o).toNat = pc') (k : Go p e below F0 (T.setTop (mkF m pc' Ls rest))) : Go p e below F0 (T.setTop (mkF m pc Ls (.int x :: rest))) :=
  Go.step (fun t kt => XS.ifYes X.here hx (g := mkF m pc Ls _) rfl rfl hd rfl ((if0 _ _).trans hc) ho hp kt) k
theorem Go.icmpYes (X : Stand p l e R s m args below meth c T locs cells slots) (hx : p.tables.exec = Jvm.exec) {pc pc' : Nat} {Ls : Array Slot} {o : Int} {cd : ClassFile.Cond} {x y : Int32} {rest : List Value} (hd : decode c.code pc = .ok (.if_icmp cd o, 3)) (hc : if_icmp.holds cd x y = true) (ho : 0 ≤ (pc : Int) + o) (hp : ((pc : Int) + o).toNat = pc') (k : Go p e below F0 (T.setTop (mkF m pc' Ls rest))) : Go p e below F0 (T.setTop (mkF m pc Ls (.int y :: .int x :: rest))) :=
  Go.step (fun t kt => XS.icmpYes X.here hx (g := mkF m pc Ls _) rfl rfl hd rfl hc ho hp kt) k
theorem Go.ifnonnullYes (X : Stand p l e R s m args below meth c T locs cells slots) (hx : p.tables.exec = Jvm.exec) {pc pc' : Nat} {Ls : Array Slot} {o : Int} {b : Addr} {rest : List Value} (hd : decode c.code pc = .ok (.ifnonnull o, 3))  (ho : 0 ≤ (pc : Int) + o) (hp : ((pc : Int) + o).toNat = pc') (k : Go p e below F0 (T.setTop (mkF m pc' Ls rest))) : Go p e below F0 (T.setTop (mkF m pc Ls (.ref b :: rest))) :=
  Go.step (fun t kt => XT.ifnonnullYes X.here hx (g := mkF m pc Ls _) rfl rfl hd rfl ho hp kt) k
theorem Go.ifNo (X : Stand p l e R s m args below meth c T locs cells slots) (hx : p.tables.exec = Jvm.exec) {pc pc' : Nat} {Ls : Array Slot} {o : Int} {cd : ClassFile.Cond} {x : Int32} {rest : List Value} (hp : pc' = pc + 3) (hd : decode c.code pc = .ok (.ifCond cd o, 3)) (hc : if_icmp.holds cd x 0 = false) (k : Go p e below F0 (T.setTop (mkF m pc' Ls rest))) : Go p e below F0 (T.setTop (mkF m pc Ls (.int x :: rest))) := by
  subst hp
  exact Go.step (fun t kt => XS.ifNo X.here hx (g := mkF m pc Ls _) rfl hd rfl ((if0 _ _).trans hc) kt) k
theorem Go.icmpNo (X : Stand p l e R s m args below meth c T locs cells slots) (hx : p.tables.exec = Jvm.exec) {pc pc' : Nat} {Ls : Array Slot} {o : Int} {cd : ClassFile.Cond} {x y : Int32} {rest : List Value} (hp : pc' = pc + 3) (hd : decode c.code pc = .ok (.if_icmp cd o, 3)) (hc : if_icmp.holds cd x y = false) (k : Go p e below F0 (T.setTop (mkF m pc' Ls rest))) : Go p e below F0 (T.setTop (mkF m pc Ls (.int y :: .int x :: rest))) := by
  subst hp
  exact Go.step (fun t kt => XS.icmpNo X.here hx (g := mkF m pc Ls _) rfl hd rfl hc kt) k
theorem Go.acmp (X : Stand p l e R s m args below meth c T locs cells slots) (hx : p.tables.exec = Jvm.exec) {pc pc' : Nat} {Ls : Array Slot} {cd : ACond} {x y : Value} {rest : List Value} {o : Int} {same : Bool} (hd : decode c.code pc = .ok (.if_acmp cd o, 3)) (h1 : x.isRef = true) (h2 : y.isRef = true) (hq : decide (x = y) = same) (ho : 0 ≤ (pc : Int) + o) (hp : pc' = if acV cd same = true then ((pc : Int) + o).toNat else pc + 3) (k : Go p e below F0 (T.setTop (mkF m pc' Ls rest))) : Go p e below F0 (T.setTop (mkF m pc Ls (y :: x :: rest))) :=
  Go.step (fun t kt => Jvm.RoadKit.acmp (g := mkF m pc Ls _) X hx rfl h1 h2 rfl hd rfl hq ho hp kt) k
theorem Go.tswIn (X : Stand p l e R s m args below meth c T locs cells slots) (hx : p.tables.exec = Jvm.exec) {pc pc' : Nat} {Ls : Array Slot} {dflt low high : Int} {offs : Array Int} {len : Nat} {o : Int} {i : Int32} {rest : List Value} (hd : decode c.code pc = .ok (.tableswitch dflt low high offs, len)) (hin : ¬ (i.toInt < low ∨ i.toInt > high)) (hoff : offs[(i.toInt - low).toNat]? = some o) (ho : 0 ≤ (pc : Int) + o) (hp : ((pc : Int) + o).toNat = pc') (k : Go p e below F0 (T.setTop (mkF m pc' Ls rest))) : Go p e below F0 (T.setTop (mkF m pc Ls (.int i :: rest))) :=
  Go.step (fun t kt => XS.tswIn X.here hx (g := mkF m pc Ls _) rfl rfl hd rfl hin hoff ho hp kt) k
theorem Go.tswOut (X : Stand p l e R s m args below meth c T locs cells slots) (hx : p.tables.exec = Jvm.exec) {pc pc' : Nat} {Ls : Array Slot} {dflt low high : Int} {offs : Array Int} {len : Nat} {i : Int32} {rest : List Value} (hd : decode c.code pc = .ok (.tableswitch dflt low high offs, len)) (hout : i.toInt < low ∨ i.toInt > high) (ho : 0 ≤ (pc : Int) + dflt) (hp : ((pc : Int) + dflt).toNat = pc') (k : Go p e below F0 (T.setTop (mkF m pc' Ls rest))) : Go p e below F0 (T.setTop (mkF m pc Ls (.int i :: rest))) :=
  Go.step (fun t kt => XS.tswOut X.here hx (g := mkF m pc Ls _) rfl rfl hd rfl hout ho hp kt) k
theorem Go.getF (X : Stand p l e R s m args below meth c T locs cells slots) (hx : p.tables.exec = Jvm.exec) (hZ : Z.Warmed39 s.vm) {own : String} {index : Nat} (hown : s.vm.findClass own = some m.cls) {R0 O n d host : String} (wl : (Jvm.Cond.fieldLink own index R0 n d).before a0 Z = true ∨ (Jvm.Cond.fieldLinkNest own index R0 n d host).before a0 Z = true) (via : Via Z R0 O n d) (eT : T.heap = h) {a : Addr} {v : Value} (F : Fld Z h a O n d v) {pc pc' : Nat} {Ls : Array Slot} {rest : List Value} (hp : pc' = pc + 3) (hd : decode c.code pc = .ok (.getfield index, 3))
    (k : ∀ T', T'.heap = h → Stand p l e R s m args below meth c T' locs cells slots → Go p e below F0 (T'.setTop (mkF m pc' Ls (v :: rest)))) : Go p e below F0 (T.setTop (mkF m pc Ls (.ref a :: rest))) := by
  subst hp
  obtain ⟨T', X', e', st⟩ := Jvm.RoadKit.getF X hx hZ hown wl via eT F (g := mkF m pc Ls (.ref a :: rest)) rfl rfl hd
  exact Go.step st (k T' e' X')
theorem Go.getS (X : Stand p l e R s m args below meth c T locs cells slots) (hx : p.tables.exec = Jvm.exec) (hZ : Z.Warmed39 s.vm) {own : String} {index : Nat} (hown : s.vm.findClass own = some m.cls) {R0 O n d host : String} (wl : (Jvm.Cond.fieldLink own index R0 n d).before a0 Z = true ∨ (Jvm.Cond.fieldLinkNest own index R0 n d host).before a0 Z = true) (via : Via Z R0 O n d) (eT : T.heap = h) {v : Value} (F : Sta Z h O n d v) {pc pc' : Nat} {Ls : Array Slot} {rest : List Value} (hp : pc' = pc + 3) (hd : decode c.code pc = .ok (.getstatic index, 3))
    (k : ∀ T', T'.heap = h → Stand p l e R s m args below meth c T' locs cells slots → Go p e below F0 (T'.setTop (mkF m pc' Ls (v :: rest)))) : Go p e below F0 (T.setTop (mkF m pc Ls rest)) := by
  subst hp
  obtain ⟨T', X', e', st⟩ := Jvm.RoadKit.getS2 X hx hZ hown wl via eT F (g := mkF m pc Ls rest) rfl hd
  exact Go.step st (k T' e' X')
theorem Go.putF (X : Stand p l e R s m args below meth c T locs cells slots) (hx : p.tables.exec = Jvm.exec) (hZ : Z.Warmed39 s.vm) {own : String} {index : Nat} (hown : s.vm.findClass own = some m.cls) {R0 O n d host C : String} {kk : Nat} {ty : FieldType} (wl : (Jvm.Cond.fieldLink own index R0 n d).before a0 Z = true ∨ (Jvm.Cond.fieldLinkNest own index R0 n d host).before a0 Z = true) (via : Via Z R0 O n d) (eT : T.heap = h) {a : Addr} {v old : Value} (F : Fld Z h a O n d old) (E : Exa Z h a C) (L : (Jvm.Cond.lays C O n d).before a0 Z = true ∨ ((Jvm.Cond.laysFinal C O n d).before a0 Z = true ∧ own = O ∧ meth.name = "<init>")) (wi : (Jvm.Cond.instantiable C kk).before a0 Z = true) (hty : parseFieldDescriptor d = some ty) (hn : narrow ty v = v) (hf : fits ty v = true) {pc pc' : Nat} {Ls : Array Slot} {rest : List Value} (hp : pc' = pc + 3) (hd : decode c.code pc = .ok (.putfield index, 3))
    (k : ∀ T' h', T'.heap = h' → Wr h h' a (slotOf Z O n d) v → Fld Z h' a O n d v → Stand p l e R s m args below meth c T' (locs ++ [⟨a, slotOf Z O n d⟩]) cells slots → Go p e below F0 (T'.setTop (mkF m pc' Ls rest))) : Go p e below F0 (T.setTop (mkF m pc Ls (v :: .ref a :: rest))) := by
  subst hp
  obtain ⟨T', h', X', e', W, st⟩ := Jvm.RoadKit.putF X hx hZ hown wl via eT F E L wi hty hn hf (g := mkF m pc Ls (v :: .ref a :: rest)) rfl rfl hd
  exact Go.step st (k T' h' e' W (F.same W) X')
theorem Go.putFN (X : Stand p l e R s m args below meth c T locs cells slots) (hx : p.tables.exec = Jvm.exec) (hZ : Z.Warmed39 s.vm) {own : String} {index : Nat} (hown : s.vm.findClass own = some m.cls) {R0 O n d C : String} {kk : Nat} {ty : FieldType} (wl : (Jvm.Cond.fieldLink own index R0 n d).before a0 Z = true) (via : Via Z R0 O n d) (eT : T.heap = h) {a : Addr} {v v' old : Value} (F : Fld Z h a O n d old) (E : Exa Z h a C) (L : (Jvm.Cond.lays C O n d).before a0 Z = true ∨ ((Jvm.Cond.laysFinal C O n d).before a0 Z = true ∧ own = O ∧ meth.name = "<init>")) (wi : (Jvm.Cond.instantiable C kk).before a0 Z = true) (hty : parseFieldDescriptor d = some ty) (hn : narrow ty v = v') (hf : fits ty v' = true) {pc pc' : Nat} {Ls : Array Slot} {rest : List Value} (hp : pc' = pc + 3) (hd : decode c.code pc = .ok (.putfield index, 3))
    (k : ∀ T' h', T'.heap = h' → Wr h h' a (slotOf Z O n d) v' → Fld Z h' a O n d v' → Stand p l e R s m args below meth c T' (locs ++ [⟨a, slotOf Z O n d⟩]) cells slots → Go p e below F0 (T'.setTop (mkF m pc' Ls rest))) : Go p e below F0 (T.setTop (mkF m pc Ls (v :: .ref a :: rest))) := by
  subst hp
  obtain ⟨T', h', X', e', W, st⟩ := Jvm.RoadKit.putFN X hx hZ hown wl via eT F E L wi hty hn hf (g := mkF m pc Ls (v :: .ref a :: rest)) rfl rfl hd
  exact Go.step st (k T' h' e' W (F.same W) X')
theorem Go.new (X : Stand p l e R s m args below meth c T locs cells slots) (hx : p.tables.exec = Jvm.exec) (hZ : Z.Warmed39 s.vm) {own : String} {index : Nat} (hown : s.vm.findClass own = some m.cls) {C : String} {n : Nat} (wl : (Jvm.Cond.classLink own index C).before a0 Z = true) (wi : (Jvm.Cond.instantiable C n).before a0 Z = true) (wz : (Jvm.Cond.initialized C).before a0 Z = true) (eT : T.heap = h) (hc : cells + 1 ≤ R.cells) (hl : slots + n ≤ R.slots) {pc pc' : Nat} {Ls : Array Slot} {rest : List Value} (hp : pc' = pc + 3) (hd : decode c.code pc = .ok (.new index, 3))
    (k : ∀ T' h' a, T'.heap = h' → Ext h h' → a = h.size → Exa Z h' a C → (∀ {O nm d : String} {ty : FieldType}, Laid Z a0 C O nm d → parseFieldDescriptor d = some ty → Fld Z h' a O nm d (defaultValue ty)) → Stand p l e R s m args below meth c T' locs (cells + 1) (slots + n) → Go p e below F0 (T'.setTop (mkF m pc' Ls (.ref a :: rest)))) : Go p e below F0 (T.setTop (mkF m pc Ls rest)) := by
  subst hp
  obtain ⟨T', h', X', e', E, A, D, -, st⟩ := newO X hx hZ hown wl wi wz eT (g := mkF m pc Ls rest) rfl hd hc hl
  exact Go.step st (k T' h' h.size e' E rfl A D X')
theorem Go.newarray (X : Stand p l e R s m args below meth c T locs cells slots) (hx : p.tables.exec = Jvm.exec) (hZ : Z.Warmed39 s.vm) {aty : ArrayType} {ty : FieldType} (hty : newarray.typeOf aty = ty) (wa : (Jvm.Cond.arrayClass ty).before a0 Z = true) (eT : T.heap = h) {n : Int32} (hn : ¬ n < 0) {cap : Nat} (hcap : n.toNatClampNeg ≤ cap) (hb : cap * 8 ≤ 536870912) (hc : cells + 1 ≤ R.cells) (hl : slots + cap ≤ R.slots) {ad : String} (had : "[" ++ ty.toString = ad) (N : Nat) {pc pc' : Nat} {Ls : Array Slot} {rest : List Value} (hp : pc' = pc + 2) (hd : decode c.code pc = .ok (.newarray aty, 2))
    (k : ∀ T' h' a kk, T'.heap = h' → Ext h h' → a = h.size → Arv Z h' a kk ty n (List.replicate N (defaultValue ty)) (defaultValue ty) → Exa Z h' a ad → Stand p l e R s m args below meth c T' locs (cells + 1) (slots + cap) → Go p e below F0 (T'.setTop (mkF m pc' Ls (.ref a :: rest)))) : Go p e below F0 (T.setTop (mkF m pc Ls (.int n :: rest))) := by
  subst hp hty
  obtain ⟨T', h', cA, X', e', E, A, Ex, st⟩ := newPE X hx hZ wa eT (g := mkF m pc Ls (.int n :: rest)) rfl hd rfl hn hcap hb hc hl had
  exact Go.step st (k T' h' h.size cA e' E rfl ((Arv.new A hn).pad (pad_rep [] _ N)) Ex X')
theorem Go.anewarray (X : Stand p l e R s m args below meth c T locs cells slots) (hx : p.tables.exec = Jvm.exec) (hZ : Z.Warmed39 s.vm) {own : String} {index : Nat} (hown : s.vm.findClass own = some m.cls) {C : String} (wl : (Jvm.Cond.classLink own index C).before a0 Z = true) (wa : (Jvm.Cond.arrayOver (.object C)).before a0 Z = true) (eT : T.heap = h) {n : Int32} (hn : ¬ n < 0) {cap : Nat} (hcap : n.toNatClampNeg ≤ cap) (hb : cap * 8 ≤ 536870912) (hc : cells + 1 ≤ R.cells) (hl : slots + cap ≤ R.slots) {ad : String} (had : "[" ++ (FieldType.object C).toString = ad) (N : Nat) {pc pc' : Nat} {Ls : Array Slot} {rest : List Value} (hp : pc' = pc + 3) (hd : decode c.code pc = .ok (.anewarray index, 3))
    (k : ∀ T' h' a kk, T'.heap = h' → Ext h h' → a = h.size → Arv Z h' a kk (.object C) n (List.replicate N .null) .null → Exa Z h' a ad → Ovr Z kk C → Stand p l e R s m args below meth c T' locs (cells + 1) (slots + cap) → Go p e below F0 (T'.setTop (mkF m pc' Ls (.ref a :: rest)))) : Go p e below F0 (T.setTop (mkF m pc Ls (.int n :: rest))) := by
  subst hp
  obtain ⟨T', h', cA, X', e', E, A, Ex, O, st⟩ := newRE X hx hZ hown wl wa eT (g := mkF m pc Ls (.int n :: rest)) rfl hd rfl hn hcap hb hc hl had
  exact Go.step st (k T' h' h.size cA e' E rfl ((Arv.new A hn).pad (pad_rep [] _ N)) Ex O X')
theorem Go.castore (X : Stand p l e R s m args below meth c T locs cells slots) (hx : p.tables.exec = Jvm.exec) (hZ : Z.Warmed39 s.vm) (eT : T.heap = h) {a : Addr} {kk : ClassId} {z : Int32} {vs : List Value} {dv : Value} (V : Arv Z h a kk .char z vs dv) {j : Int32} {x : Int32} (x' : Int32) (hn : nar .char x = x') (hj : ¬ j < 0 ∧ j < z) (i : Nat) (hi : j.toNatClampNeg = i) (hl : i < vs.length) {pc pc' : Nat} {Ls : Array Slot} {rest : List Value} (hp : pc' = pc + 1) (hd : decode c.code pc = .ok (.castore, 1))
    (k : ∀ T' h', T'.heap = h' → Wr h h' a j.toNatClampNeg (.int x') → Arv Z h' a kk .char z (vs.set i (.int x')) dv → Stand p l e R s m args below meth c T' (locs ++ [⟨a, j.toNatClampNeg⟩]) cells slots → Go p e below F0 (T'.setTop (mkF m pc' Ls rest))) : Go p e below F0 (T.setTop (mkF m pc Ls (.int x :: .int j :: .ref a :: rest))) := by
  subst hp hn
  obtain ⟨cl, A, q1, S, q3, H, G⟩ := V
  obtain ⟨T', h', X', e', W, st⟩ := stC X hx hZ eT A (j := j) (x := x) (inb_of S hj) (g := mkF m pc Ls (.int x :: .int j :: .ref a :: rest)) rfl rfl hd
  exact Go.step st (k T' h' e' W (Arv.set A q1 S q3 H G (fits_nar_char x) W i hi hl) X')
theorem Go.bastore (X : Stand p l e R s m args below meth c T locs cells slots) (hx : p.tables.exec = Jvm.exec) (hZ : Z.Warmed39 s.vm) (eT : T.heap = h) {a : Addr} {kk : ClassId} {z : Int32} {vs : List Value} {dv : Value} (V : Arv Z h a kk .byte z vs dv) {j : Int32} {x : Int32} (x' : Int32) (hn : nar .byte x = x') (hj : ¬ j < 0 ∧ j < z) (i : Nat) (hi : j.toNatClampNeg = i) (hl : i < vs.length) {pc pc' : Nat} {Ls : Array Slot} {rest : List Value} (hp : pc' = pc + 1) (hd : decode c.code pc = .ok (.bastore, 1))
    (k : ∀ T' h', T'.heap = h' → Wr h h' a j.toNatClampNeg (.int x') → Arv Z h' a kk .byte z (vs.set i (.int x')) dv → Stand p l e R s m args below meth c T' (locs ++ [⟨a, j.toNatClampNeg⟩]) cells slots → Go p e below F0 (T'.setTop (mkF m pc' Ls rest))) : Go p e below F0 (T.setTop (mkF m pc Ls (.int x :: .int j :: .ref a :: rest))) := by
  subst hp hn
  obtain ⟨cl, A, q1, S, q3, H, G⟩ := V
  obtain ⟨T', h', X', e', W, st⟩ := stB X hx hZ eT A (j := j) (x := x) (inb_of S hj) (g := mkF m pc Ls (.int x :: .int j :: .ref a :: rest)) rfl rfl hd
  exact Go.step st (k T' h' e' W (Arv.set A q1 S q3 H G (fits_nar_byte x) W i hi hl) X')
theorem Go.aastore (X : Stand p l e R s m args below meth c T locs cells slots) (hx : p.tables.exec = Jvm.exec) (hZ : Z.Warmed39 s.vm) (eT : T.heap = h) {a : Addr} {kk : ClassId} {ty : FieldType} {z : Int32} {vs : List Value} {dv : Value} (V : Arv Z h a kk ty z vs dv) (hty : ty.isReference = true) {j : Int32} {v : Value} (F : Sto Z h a v) (hv : fits ty v = true) (hj : ¬ j < 0 ∧ j < z) (i : Nat) (hi : j.toNatClampNeg = i) (hl : i < vs.length) {pc pc' : Nat} {Ls : Array Slot} {rest : List Value} (hp : pc' = pc + 1) (hd : decode c.code pc = .ok (.aastore, 1))
    (k : ∀ T' h', T'.heap = h' → Wr h h' a j.toNatClampNeg v → Arv Z h' a kk ty z (vs.set i v) dv → Stand p l e R s m args below meth c T' (locs ++ [⟨a, j.toNatClampNeg⟩]) cells slots → Go p e below F0 (T'.setTop (mkF m pc' Ls rest))) : Go p e below F0 (T.setTop (mkF m pc Ls (v :: .int j :: .ref a :: rest))) := by
  subst hp
  obtain ⟨cl, A, q1, S, q3, H, G⟩ := V
  obtain ⟨T', h', X', e', W, st⟩ := stR X hx hZ eT A (j := j) (v := v) (inb_of S hj) hty F (g := mkF m pc Ls (v :: .int j :: .ref a :: rest)) rfl rfl hd
  exact Go.step st (k T' h' e' W (Arv.set A q1 S q3 H G hv W i hi hl) X')
theorem Sto.ofArv {a y : Addr} {kk : ClassId} {ty : FieldType} {z : Int32} {vs : List Value} {dv : Value} {C : String} (V : Arv Z h a kk ty z vs dv) (O : Ovr Z kk C) (I : Ins Z h y C true) : Sto Z h a (.ref y) := by
  obtain ⟨cl, A, q1, -⟩ := V
  exact Sto.ofV A q1 O I
theorem Go.caload (X : Stand p l e R s m args below meth c T locs cells slots) (hx : p.tables.exec = Jvm.exec) (hZ : Z.Warmed39 s.vm) (eT : T.heap = h) {a : Addr} {kk : ClassId} {z : Int32} {vs : List Value} {dv : Value} (V : Arv Z h a kk .char z vs dv) {j : Int32} {v : Value} (hj : ¬ j < 0 ∧ j < z) (hv : vs.getD j.toNatClampNeg dv = v) {pc pc' : Nat} {Ls : Array Slot} {rest : List Value} (hp : pc' = pc + 1) (hd : decode c.code pc = .ok (.caload, 1)) (k : Go p e below F0 (T.setTop (mkF m pc' Ls (v :: rest)))) : Go p e below F0 (T.setTop (mkF m pc Ls (.int j :: .ref a :: rest))) := by
  subst hp
  obtain ⟨cl, A, q1, S, q3, H, G⟩ := V
  exact Go.step (fun t kt => X.caload hx (j := j) (v := v) (by rw [eT]; exact A.1) (State.isArrayOf_alike hZ.alike A.2.1) A.2.2 (inb_of S hj) (H.at (inb_of S hj) hv) (g := mkF m pc Ls (.int j :: .ref a :: rest)) rfl rfl hd t kt) k
theorem Go.aaload (X : Stand p l e R s m args below meth c T locs cells slots) (hx : p.tables.exec = Jvm.exec) (hZ : Z.Warmed39 s.vm) (eT : T.heap = h) {a : Addr} {kk : ClassId} {z : Int32} {vs : List Value} {dv : Value} {ty : FieldType} (hty : ty.isReference = true) (V : Arv Z h a kk ty z vs dv) {j : Int32} {v : Value} (hj : ¬ j < 0 ∧ j < z) (hv : vs.getD j.toNatClampNeg dv = v) {pc pc' : Nat} {Ls : Array Slot} {rest : List Value} (hp : pc' = pc + 1) (hd : decode c.code pc = .ok (.aaload, 1)) (k : Go p e below F0 (T.setTop (mkF m pc' Ls (v :: rest)))) : Go p e below F0 (T.setTop (mkF m pc Ls (.int j :: .ref a :: rest))) := by
  subst hp
  obtain ⟨cl, A, q1, S, q3, H, G⟩ := V
  exact Go.step (fun t kt => X.aaload hx (j := j) (v := v) (by rw [eT]; exact A.1) (State.isArrayOf_alike hZ.alike A.2.1) hty A.2.2 (inb_of S hj) (H.at (inb_of S hj) hv) (g := mkF m pc Ls (.int j :: .ref a :: rest)) rfl rfl hd t kt) k
theorem Go.arraylength (X : Stand p l e R s m args below meth c T locs cells slots) (hx : p.tables.exec = Jvm.exec) (hZ : Z.Warmed39 s.vm) (eT : T.heap = h) {a : Addr} {kk : ClassId} {ty : FieldType} {z : Int32} {vs : List Value} {dv : Value} (V : Arv Z h a kk ty z vs dv) {pc pc' : Nat} {Ls : Array Slot} {rest : List Value} (hp : pc' = pc + 1) (hd : decode c.code pc = .ok (.arraylength, 1)) (k : Go p e below F0 (T.setTop (mkF m pc' Ls (.int z :: rest)))) : Go p e below F0 (T.setTop (mkF m pc Ls (.ref a :: rest))) := by
  subst hp
  obtain ⟨cl, A, q1, S, q3, H, G⟩ := V
  refine Go.step (fun t kt => X.arraylength hx (by rw [eT]; exact A.1) (State.isArrayOf_alike hZ.alike A.2.1) (g := mkF m pc Ls (.ref a :: rest)) rfl rfl hd t kt) ?_
  rw [len_of S q3]
  exact k
theorem Go.castY (X : Stand p l e R s m args below meth c T locs cells slots) (hx : p.tables.exec = Jvm.exec) (hZ : Z.Warmed39 s.vm) {own : String} {index : Nat} (hown : s.vm.findClass own = some m.cls) {K : String} (wl : (Jvm.Cond.classLink own index K).before a0 Z = true) (eT : T.heap = h) {a : Addr} (F : Ins Z h a K true) {pc pc' : Nat} {Ls : Array Slot} {rest : List Value} (hp : pc' = pc + 3) (hd : decode c.code pc = .ok (.checkcast index, 3))
    (k : ∀ T', T'.heap = h → Stand p l e R s m args below meth c T' locs cells slots → Go p e below F0 (T'.setTop (mkF m pc' Ls (.ref a :: rest)))) : Go p e below F0 (T.setTop (mkF m pc Ls (.ref a :: rest))) := by
  subst hp
  obtain ⟨T', X', e', st⟩ := Jvm.RoadKit.castY X hx hZ hown wl eT F (g := mkF m pc Ls (.ref a :: rest)) rfl rfl hd
  exact Go.step st (k T' e' X')
theorem Go.initO (X : Stand p l e R s m args below meth c T locs cells slots) (hx : p.tables.exec = Jvm.exec) (hZ : Z.Warmed39 s.vm) {own : String} {index : Nat} (hown : s.vm.findClass own = some m.cls) (w1 : (Jvm.Cond.methodLink own index Lib.objectInit).before a0 Z = true) (w2 : (Jvm.Cond.instanceMethod Lib.objectInit).before a0 Z = true) (w3 : (Jvm.Cond.code Lib.objectInit ⟨#[0xb1]⟩ 1 none).before a0 Z = true) (eT : T.heap = h) {a : Addr} (hf : 1 ≤ R.frames) {W : Nat} {pc pc' : Nat} {Ls : Array Slot} {rest : List Value} (hsz : Ls.size = c.maxLocals) (hW : (rest.map fun v => v.category).sum ≤ W) (hl : W + 12 ≤ R.locals) (hp : pc' = pc + 3) (hd : decode c.code pc = .ok (.invokespecial index, 3))
    (k : ∀ T', T'.heap = h → Stand p l e R s m args below meth c T' locs cells slots → Go p e below F0 (T'.setTop (mkF m pc' Ls rest))) : Go p e below F0 (T.setTop (mkF m pc Ls (.ref a :: rest))) := by
  subst hp
  obtain ⟨T', X', e', st⟩ := Jvm.RoadKit.initO X hx hZ hown w1 w2 w3 eT (g := mkF m pc Ls (.ref a :: rest)) rfl hsz rfl hd hf (W := W) (by show 2 * 0 + _ ≤ _; rw [Nat.mul_zero, Nat.zero_add]; exact hW) hl
  exact Go.step st (k T' e' X')
theorem Go.callSB (X : Stand p l e R s m args below meth c T locs cells slots) (hx : p.tables.exec = Jvm.exec) (hZ : Z.Warmed39 s.vm) {own : String} {index : Nat} (hown : s.vm.findClass own = some m.cls) {y : MethodName} {bytes : ByteArray} {maxL : Nat} {ret : Option FieldType} (w1 : (Jvm.Cond.methodLink own index y).before a0 Z = true) (w2 : (Jvm.Cond.static y).before a0 Z = true) (w3 : (Jvm.Cond.initialized y.cls).before a0 Z = true) (w4 : (Jvm.Cond.code y bytes maxL ret).before a0 Z = true) (hy : y.cls ≠ "java/lang/invoke/MethodHandle" ∧ y.cls ≠ "java/lang/invoke/VarHandle") {W : Nat} {Pre : Pt → Array Value → Prop} {Post : Pt → Array Value → Option Value → Pt → Prop} (hK : Back l R p e below s args y 3 W Pre Post) (eT : T.heap = h)  {pc pc' : Nat} {Ls : Array Slot} {stk argsL rest : List Value} (hp : pc' = pc + 3) (hsz : Ls.size = c.maxLocals) (hlen : ∀ sig, parseMethodDescriptor y.desc = some sig → argsL.length = sig.parameters.length) (hst : stk = argsL.reverse ++ rest) (hW : (rest.map fun v => v.category).sum ≤ W) (hd : decode c.code pc = .ok (.invokestatic index, 3)) (hpre : ∀ vm₁, s.WarmedH vm₁ → Pre ⟨T.setVm vm₁, locs, cells, slots⟩ argsL.toArray)
    (k : ∀ (v : Option Value) (vm₁ : Vm) (T' : State) (locs' : List Loc) (cells' slots' : Nat), Stand p l e R s m args below meth c T' locs' cells' slots' → Post ⟨T.setVm vm₁, locs, cells, slots⟩ argsL.toArray v ⟨T', locs', cells', slots'⟩ → Go p e below F0 (T'.setTop (mkF m pc' Ls (v.toList ++ rest)))) : Go p e below F0 (T.setTop (mkF m pc Ls stk)) := by
  subst hp
  obtain ⟨v, vm₁, ⟨T', L', c', n'⟩, -, X', hP, st⟩ := Jvm.LawKit.callS X hx hown (mvT hZ w1) (mvT hZ w2) (mvT hZ w3) (mvT hZ w4) hy hK (g := mkF m pc Ls stk) rfl hsz hlen hst (by show 2 * 0 + _ ≤ _; rw [Nat.mul_zero, Nat.zero_add]; exact hW) hd hpre
  exact Go.step st (k v vm₁ T' L' c' n' X' hP)
theorem Go.callS (X : Stand p l e R s m args below meth c T locs cells slots) (hx : p.tables.exec = Jvm.exec) (hZ : Z.Warmed39 s.vm) {own : String} {index : Nat} (hown : s.vm.findClass own = some m.cls) {y : MethodName} {bytes : ByteArray} {maxL : Nat} {ret : Option FieldType} (w1 : (Jvm.Cond.methodLink own index y).before a0 Z = true) (w2 : (Jvm.Cond.static y).before a0 Z = true) (w3 : (Jvm.Cond.initialized y.cls).before a0 Z = true) (w4 : (Jvm.Cond.code y bytes maxL ret).before a0 Z = true) (hy : y.cls ≠ "java/lang/invoke/MethodHandle" ∧ y.cls ≠ "java/lang/invoke/VarHandle") {rm : Room} {Qc : Option Value → Heap → List Loc → Prop}  (wc : (Jvm.Cond.code y bytes maxL ret).before a0 Z = true) (wz : (Jvm.Cond.initialized y.cls).before a0 Z = true) {as : Array Value} (hC : Ctr l Z y bytes maxL ret rm as h Qc) (eT : T.heap = h)  {pc pc' : Nat} {Ls : Array Slot} {stk argsL rest : List Value} (hp : pc' = pc + 3) (hsz : Ls.size = c.maxLocals) (hlen : ∀ sig, parseMethodDescriptor y.desc = some sig → argsL.length = sig.parameters.length) (hst : stk = argsL.reverse ++ rest) (has : argsL.toArray = as) {W : Nat} (hW : (rest.map fun v => v.category).sum ≤ W) (hf : rm.frames + 1 ≤ R.frames) (hl : W + (maxL + 11) + rm.locals ≤ R.locals) (hc : cells + rm.cells ≤ R.cells) (hs : slots + rm.slots ≤ R.slots) (hd : decode c.code pc = .ok (.invokestatic index, 3))
    (k : ∀ (v : Option Value) (T' : State) (L : List Loc), Qc v T'.heap L → Stand p l e R s m args below meth c T' (locs ++ L) (cells + rm.cells) (slots + rm.slots) → Go p e below F0 (T'.setTop (mkF m pc' Ls (v.toList ++ rest)))) : Go p e below F0 (T.setTop (mkF m pc Ls stk)) :=
  Go.callSB X hx hZ hown w1 w2 w3 w4 hy (backOf (W := W) (hC []) hZ wc wz hf hl) eT  hp hsz hlen hst hW hd (fun _ _ => ⟨has, eT, hc, hs⟩) (fun v vm₁ T' locs' cells' slots' X' ⟨L, hq, h1, h2, h3⟩ => by
    try dsimp only at h1 h2 h3
    subst h1 h2 h3
    exact k v T' L hq X')
theorem Go.callVB (X : Stand p l e R s m args below meth c T locs cells slots) (hx : p.tables.exec = Jvm.exec) (hZ : Z.Warmed39 s.vm) {own : String} {index : Nat} (hown : s.vm.findClass own = some m.cls) {x y : MethodName} {C : String} (w1 : (Jvm.Cond.methodLink own index x).before a0 Z = true) (w2 : (Jvm.Cond.declares x).before a0 Z = true) (nf : NotFace s x) (w3 : (Jvm.Cond.selects C x y).before a0 Z = true) (w4 : (Jvm.Cond.instanceMethod y).before a0 Z = true) (hy : x.cls ≠ "java/lang/invoke/MethodHandle" ∧ x.cls ≠ "java/lang/invoke/VarHandle") {W : Nat} {Pre : Pt → Array Value → Prop} {Post : Pt → Array Value → Option Value → Pt → Prop} (hK : Back l R p e below s args y 3 W Pre Post) (eT : T.heap = h) {a : Addr} (F : Exa Z h a C) {pc pc' : Nat} {Ls : Array Slot} {stk argsL rest : List Value} (hp : pc' = pc + 3) (hsz : Ls.size = c.maxLocals) (hlen : ∀ sig, parseMethodDescriptor x.desc = some sig → argsL.length = sig.parameters.length) (hst : stk = argsL.reverse ++ .ref a :: rest) (hW : (rest.map fun v => v.category).sum ≤ W) (hd : decode c.code pc = .ok (.invokevirtual index, 3)) (hpre : ∀ vm₁, s.WarmedH vm₁ → Pre ⟨T.setVm vm₁, locs, cells, slots⟩ (.ref a :: argsL).toArray)
    (k : ∀ (v : Option Value) (vm₁ : Vm) (T' : State) (locs' : List Loc) (cells' slots' : Nat), Stand p l e R s m args below meth c T' locs' cells' slots' → Post ⟨T.setVm vm₁, locs, cells, slots⟩ (.ref a :: argsL).toArray v ⟨T', locs', cells', slots'⟩ → Go p e below F0 (T'.setTop (mkF m pc' Ls (v.toList ++ rest)))) : Go p e below F0 (T.setTop (mkF m pc Ls stk)) := by
  subst hp
  obtain ⟨cB, kB, q1, q2, q3⟩ := isOf hZ eT F
  obtain ⟨v, vm₁, ⟨T', L', c', n'⟩, -, X', hP, st⟩ := X.virtualBack hx (y := x) (z := y) hown (mvT hZ w1) (mvT hZ w2) nf (mvT hZ w3) (mvT hZ w4) hy hK q1 q3 (g := mkF m pc Ls stk) rfl hsz (Steps.refl _) hlen hst (by show 2 * 0 + _ ≤ _; rw [Nat.mul_zero, Nat.zero_add]; exact hW) hd hpre
  exact Go.step (fun t kt => st.trans kt) (k v vm₁ T' L' c' n' X' hP)
theorem Go.callV (X : Stand p l e R s m args below meth c T locs cells slots) (hx : p.tables.exec = Jvm.exec) (hZ : Z.Warmed39 s.vm) {own : String} {index : Nat} (hown : s.vm.findClass own = some m.cls) {x y : MethodName} {C : String} (w1 : (Jvm.Cond.methodLink own index x).before a0 Z = true) (w2 : (Jvm.Cond.declares x).before a0 Z = true) (nf : NotFace s x) (w3 : (Jvm.Cond.selects C x y).before a0 Z = true) (w4 : (Jvm.Cond.instanceMethod y).before a0 Z = true) (hy : x.cls ≠ "java/lang/invoke/MethodHandle" ∧ x.cls ≠ "java/lang/invoke/VarHandle") {bytes : ByteArray} {maxL : Nat} {ret : Option FieldType} {rm : Room} {Qc : Option Value → Heap → List Loc → Prop}  (wc : (Jvm.Cond.code y bytes maxL ret).before a0 Z = true) (wz : (Jvm.Cond.initialized y.cls).before a0 Z = true) {as : Array Value} (hC : Ctr l Z y bytes maxL ret rm as h Qc) (eT : T.heap = h) {a : Addr} (F : Exa Z h a C) {pc pc' : Nat} {Ls : Array Slot} {stk argsL rest : List Value} (hp : pc' = pc + 3) (hsz : Ls.size = c.maxLocals) (hlen : ∀ sig, parseMethodDescriptor x.desc = some sig → argsL.length = sig.parameters.length) (hst : stk = argsL.reverse ++ .ref a :: rest) (has : (.ref a :: argsL).toArray = as) {W : Nat} (hW : (rest.map fun v => v.category).sum ≤ W) (hf : rm.frames + 1 ≤ R.frames) (hl : W + (maxL + 11) + rm.locals ≤ R.locals) (hc : cells + rm.cells ≤ R.cells) (hs : slots + rm.slots ≤ R.slots) (hd : decode c.code pc = .ok (.invokevirtual index, 3))
    (k : ∀ (v : Option Value) (T' : State) (L : List Loc), Qc v T'.heap L → Stand p l e R s m args below meth c T' (locs ++ L) (cells + rm.cells) (slots + rm.slots) → Go p e below F0 (T'.setTop (mkF m pc' Ls (v.toList ++ rest)))) : Go p e below F0 (T.setTop (mkF m pc Ls stk)) :=
  Go.callVB X hx hZ hown w1 w2 nf w3 w4 hy (backOf (W := W) (hC []) hZ wc wz hf hl) eT F hp hsz hlen hst hW hd (fun _ _ => ⟨has, eT, hc, hs⟩) (fun v vm₁ T' locs' cells' slots' X' ⟨L, hq, h1, h2, h3⟩ => by
    try dsimp only at h1 h2 h3
    subst h1 h2 h3
    exact k v T' L hq X')
theorem Go.callNB (X : Stand p l e R s m args below meth c T locs cells slots) (hx : p.tables.exec = Jvm.exec) (hZ : Z.Warmed39 s.vm) {own : String} {index : Nat} (hown : s.vm.findClass own = some m.cls) {y : MethodName} {bytes : ByteArray} {maxL : Nat} (hn : y.name = "<init>") (w1 : (Jvm.Cond.methodLink own index y).before a0 Z = true) (w2 : (Jvm.Cond.instanceMethod y).before a0 Z = true) (w4 : (Jvm.Cond.code y bytes maxL none).before a0 Z = true) (hy : y.cls ≠ "java/lang/invoke/MethodHandle" ∧ y.cls ≠ "java/lang/invoke/VarHandle") {W : Nat} {Pre : Pt → Array Value → Prop} {Post : Pt → Array Value → Option Value → Pt → Prop} (hK : Back l R p e below s args y 3 W Pre Post) (eT : T.heap = h) {a : Addr} {pc pc' : Nat} {Ls : Array Slot} {stk argsL rest : List Value} (hp : pc' = pc + 3) (hsz : Ls.size = c.maxLocals) (hlen : ∀ sig, parseMethodDescriptor y.desc = some sig → argsL.length = sig.parameters.length) (hst : stk = argsL.reverse ++ .ref a :: rest) (hW : (rest.map fun v => v.category).sum ≤ W) (hd : decode c.code pc = .ok (.invokespecial index, 3)) (hpre : ∀ vm₁, s.WarmedH vm₁ → Pre ⟨T.setVm vm₁, locs, cells, slots⟩ (.ref a :: argsL).toArray)
    (k : ∀ (v : Option Value) (vm₁ : Vm) (T' : State) (locs' : List Loc) (cells' slots' : Nat), Stand p l e R s m args below meth c T' locs' cells' slots' → Post ⟨T.setVm vm₁, locs, cells, slots⟩ (.ref a :: argsL).toArray v ⟨T', locs', cells', slots'⟩ → Go p e below F0 (T'.setTop (mkF m pc' Ls (v.toList ++ rest)))) : Go p e below F0 (T.setTop (mkF m pc Ls stk)) := by
  subst hp
  obtain ⟨v, vm₁, ⟨T', L', c', n'⟩, -, X', hP, st⟩ := X.specialBack hx (y := y) hn hown (mvT hZ w1) (mvT hZ w2) (mvT hZ w4) hy hK (g := mkF m pc Ls stk) rfl hsz (Steps.refl _) (a := a) hlen hst (by show 2 * 0 + _ ≤ _; rw [Nat.mul_zero, Nat.zero_add]; exact hW) hd hpre
  exact Go.step (fun t kt => st.trans kt) (k v vm₁ T' L' c' n' X' hP)
theorem Go.callN (X : Stand p l e R s m args below meth c T locs cells slots) (hx : p.tables.exec = Jvm.exec) (hZ : Z.Warmed39 s.vm) {own : String} {index : Nat} (hown : s.vm.findClass own = some m.cls) {y : MethodName} {bytes : ByteArray} {maxL : Nat} (hn : y.name = "<init>") (w1 : (Jvm.Cond.methodLink own index y).before a0 Z = true) (w2 : (Jvm.Cond.instanceMethod y).before a0 Z = true) (w4 : (Jvm.Cond.code y bytes maxL none).before a0 Z = true) (hy : y.cls ≠ "java/lang/invoke/MethodHandle" ∧ y.cls ≠ "java/lang/invoke/VarHandle") {rm : Room} {Qc : Option Value → Heap → List Loc → Prop}  (wc : (Jvm.Cond.code y bytes maxL none).before a0 Z = true) (wz : (Jvm.Cond.initialized y.cls).before a0 Z = true) {as : Array Value} (hC : Ctr l Z y bytes maxL none rm as h Qc) (eT : T.heap = h) {a : Addr} {pc pc' : Nat} {Ls : Array Slot} {stk argsL rest : List Value} (hp : pc' = pc + 3) (hsz : Ls.size = c.maxLocals) (hlen : ∀ sig, parseMethodDescriptor y.desc = some sig → argsL.length = sig.parameters.length) (hst : stk = argsL.reverse ++ .ref a :: rest) (has : (.ref a :: argsL).toArray = as) {W : Nat} (hW : (rest.map fun v => v.category).sum ≤ W) (hf : rm.frames + 1 ≤ R.frames) (hl : W + (maxL + 11) + rm.locals ≤ R.locals) (hc : cells + rm.cells ≤ R.cells) (hs : slots + rm.slots ≤ R.slots) (hd : decode c.code pc = .ok (.invokespecial index, 3))
    (k : ∀ (v : Option Value) (T' : State) (L : List Loc), Qc v T'.heap L → Stand p l e R s m args below meth c T' (locs ++ L) (cells + rm.cells) (slots + rm.slots) → Go p e below F0 (T'.setTop (mkF m pc' Ls (v.toList ++ rest)))) : Go p e below F0 (T.setTop (mkF m pc Ls stk)) :=
  Go.callNB X hx hZ hown hn w1 w2 w4 hy (backOf (W := W) (hC []) hZ wc wz hf hl) eT  hp hsz hlen hst hW hd (fun _ _ => ⟨has, eT, hc, hs⟩) (fun v vm₁ T' locs' cells' slots' X' ⟨L, hq, h1, h2, h3⟩ => by
    try dsimp only at h1 h2 h3
    subst h1 h2 h3
    exact k v T' L hq X')
theorem Go.callNNB (X : Stand p l e R s m args below meth c T locs cells slots) (hx : p.tables.exec = Jvm.exec) (hZ : Z.Warmed39 s.vm) {own : String} {index : Nat} (hown : s.vm.findClass own = some m.cls) {host : String} {y : MethodName} {bytes : ByteArray} {maxL : Nat} (hn : y.name = "<init>") (w1 : (Jvm.Cond.methodLinkNest own index y host).before a0 Z = true) (w2 : (Jvm.Cond.instanceMethod y).before a0 Z = true) (w4 : (Jvm.Cond.code y bytes maxL none).before a0 Z = true) (hy : y.cls ≠ "java/lang/invoke/MethodHandle" ∧ y.cls ≠ "java/lang/invoke/VarHandle") {W : Nat} {Pre : Pt → Array Value → Prop} {Post : Pt → Array Value → Option Value → Pt → Prop} (hK : Back l R p e below s args y 3 W Pre Post) (eT : T.heap = h) {a : Addr} {pc pc' : Nat} {Ls : Array Slot} {stk argsL rest : List Value} (hp : pc' = pc + 3) (hsz : Ls.size = c.maxLocals) (hlen : ∀ sig, parseMethodDescriptor y.desc = some sig → argsL.length = sig.parameters.length) (hst : stk = argsL.reverse ++ .ref a :: rest) (hW : (rest.map fun v => v.category).sum ≤ W) (hd : decode c.code pc = .ok (.invokespecial index, 3)) (hpre : ∀ vm₁, s.WarmedH vm₁ → Pre ⟨T.setVm vm₁, locs, cells, slots⟩ (.ref a :: argsL).toArray)
    (k : ∀ (v : Option Value) (vm₁ : Vm) (T' : State) (locs' : List Loc) (cells' slots' : Nat), Stand p l e R s m args below meth c T' locs' cells' slots' → Post ⟨T.setVm vm₁, locs, cells, slots⟩ (.ref a :: argsL).toArray v ⟨T', locs', cells', slots'⟩ → Go p e below F0 (T'.setTop (mkF m pc' Ls (v.toList ++ rest)))) : Go p e below F0 (T.setTop (mkF m pc Ls stk)) := by
  subst hp
  obtain ⟨v, vm₁, ⟨T', L', c', n'⟩, -, X', hP, st⟩ := X.specialBackNest hx (y := y) hn hown (Cond.methodLinkNest_wide hZ w1 :) (mvT hZ w2) (mvT hZ w4) hy hK (g := mkF m pc Ls stk) rfl hsz (Steps.refl _) (a := a) hlen hst (by show 2 * 0 + _ ≤ _; rw [Nat.mul_zero, Nat.zero_add]; exact hW) hd hpre
  exact Go.step (fun t kt => st.trans kt) (k v vm₁ T' L' c' n' X' hP)
theorem Go.callNN (X : Stand p l e R s m args below meth c T locs cells slots) (hx : p.tables.exec = Jvm.exec) (hZ : Z.Warmed39 s.vm) {own : String} {index : Nat} (hown : s.vm.findClass own = some m.cls) {host : String} {y : MethodName} {bytes : ByteArray} {maxL : Nat} (hn : y.name = "<init>") (w1 : (Jvm.Cond.methodLinkNest own index y host).before a0 Z = true) (w2 : (Jvm.Cond.instanceMethod y).before a0 Z = true) (w4 : (Jvm.Cond.code y bytes maxL none).before a0 Z = true) (hy : y.cls ≠ "java/lang/invoke/MethodHandle" ∧ y.cls ≠ "java/lang/invoke/VarHandle") {rm : Room} {Qc : Option Value → Heap → List Loc → Prop}  (wc : (Jvm.Cond.code y bytes maxL none).before a0 Z = true) (wz : (Jvm.Cond.initialized y.cls).before a0 Z = true) {as : Array Value} (hC : Ctr l Z y bytes maxL none rm as h Qc) (eT : T.heap = h) {a : Addr} {pc pc' : Nat} {Ls : Array Slot} {stk argsL rest : List Value} (hp : pc' = pc + 3) (hsz : Ls.size = c.maxLocals) (hlen : ∀ sig, parseMethodDescriptor y.desc = some sig → argsL.length = sig.parameters.length) (hst : stk = argsL.reverse ++ .ref a :: rest) (has : (.ref a :: argsL).toArray = as) {W : Nat} (hW : (rest.map fun v => v.category).sum ≤ W) (hf : rm.frames + 1 ≤ R.frames) (hl : W + (maxL + 11) + rm.locals ≤ R.locals) (hc : cells + rm.cells ≤ R.cells) (hs : slots + rm.slots ≤ R.slots) (hd : decode c.code pc = .ok (.invokespecial index, 3))
    (k : ∀ (v : Option Value) (T' : State) (L : List Loc), Qc v T'.heap L → Stand p l e R s m args below meth c T' (locs ++ L) (cells + rm.cells) (slots + rm.slots) → Go p e below F0 (T'.setTop (mkF m pc' Ls (v.toList ++ rest)))) : Go p e below F0 (T.setTop (mkF m pc Ls stk)) :=
  Go.callNNB X hx hZ hown hn w1 w2 w4 hy (backOf (W := W) (hC []) hZ wc wz hf hl) eT  hp hsz hlen hst hW hd (fun _ _ => ⟨has, eT, hc, hs⟩) (fun v vm₁ T' locs' cells' slots' X' ⟨L, hq, h1, h2, h3⟩ => by
    try dsimp only at h1 h2 h3
    subst h1 h2 h3
    exact k v T' L hq X')
theorem Go.callIB (X : Stand p l e R s m args below meth c T locs cells slots) (hx : p.tables.exec = Jvm.exec) (hZ : Z.Warmed39 s.vm) {own : String} {index : Nat} (hown : s.vm.findClass own = some m.cls) {count : Nat} {x y : MethodName} {C : String} (w1 : (Jvm.Cond.methodLink own index x).before a0 Z = true) (w2 : (Jvm.Cond.declares x).before a0 Z = true) (w3 : (Jvm.Cond.interfaceMethod x.cls x.cls x.name x.desc).before a0 Z = true) (w4 : (Jvm.Cond.selects C x y).before a0 Z = true) (w5 : (Jvm.Cond.instanceMethod y).before a0 Z = true) (w6 : (Jvm.Cond.publicMethod y).before a0 Z = true) (w7 : (Jvm.Cond.unhidden C x.name x.desc).before a0 Z = true) (w8 : (Jvm.Cond.castable C x.cls).before a0 Z = true) (hy : x.cls ≠ "java/lang/invoke/MethodHandle" ∧ x.cls ≠ "java/lang/invoke/VarHandle") {W : Nat} {Pre : Pt → Array Value → Prop} {Post : Pt → Array Value → Option Value → Pt → Prop} (hK : Back l R p e below s args y 5 W Pre Post) (eT : T.heap = h) {a : Addr} (F : Exa Z h a C) {pc pc' : Nat} {Ls : Array Slot} {stk argsL rest : List Value} (hp : pc' = pc + 5) (hsz : Ls.size = c.maxLocals) (hlen : ∀ sig, parseMethodDescriptor x.desc = some sig → argsL.length = sig.parameters.length) (hst : stk = argsL.reverse ++ .ref a :: rest) (hW : (rest.map fun v => v.category).sum ≤ W) (hd : decode c.code pc = .ok (.invokeinterface index count, 5)) (hpre : ∀ vm₁, s.WarmedH vm₁ → Pre ⟨T.setVm vm₁, locs, cells, slots⟩ (.ref a :: argsL).toArray)
    (k : ∀ (v : Option Value) (vm₁ : Vm) (T' : State) (locs' : List Loc) (cells' slots' : Nat), Stand p l e R s m args below meth c T' locs' cells' slots' → Post ⟨T.setVm vm₁, locs, cells, slots⟩ (.ref a :: argsL).toArray v ⟨T', locs', cells', slots'⟩ → Go p e below F0 (T'.setTop (mkF m pc' Ls (v.toList ++ rest)))) : Go p e below F0 (T.setTop (mkF m pc Ls stk)) := by
  subst hp
  obtain ⟨cB, kB, q1, q2, q3⟩ := isOf hZ eT F
  obtain ⟨v, vm₁, ⟨T', L', c', n'⟩, -, X', hP, st⟩ := X.interfaceBack hx (xi := x) (y := y) hown (mvT hZ w1) (mvT hZ w2) (mvT hZ w3 (hd := by simp [Cond.onTables, Cond.keepsFace, Cond.keeps, Cond.faceAtom, hy.1, hy.2])) (mvT hZ w4) (mvT hZ w5) (mvT hZ w6) (mvT hZ w7) (mvT hZ w8) hy hK q1 q2 q3 (g := mkF m pc Ls stk) rfl hsz (Steps.refl _) hlen hst (by show 2 * 0 + _ ≤ _; rw [Nat.mul_zero, Nat.zero_add]; exact hW) hd hpre
  exact Go.step (fun t kt => st.trans kt) (k v vm₁ T' L' c' n' X' hP)
theorem Go.callI (X : Stand p l e R s m args below meth c T locs cells slots) (hx : p.tables.exec = Jvm.exec) (hZ : Z.Warmed39 s.vm) {own : String} {index : Nat} (hown : s.vm.findClass own = some m.cls) {count : Nat} {x y : MethodName} {C : String} (w1 : (Jvm.Cond.methodLink own index x).before a0 Z = true) (w2 : (Jvm.Cond.declares x).before a0 Z = true) (w3 : (Jvm.Cond.interfaceMethod x.cls x.cls x.name x.desc).before a0 Z = true) (w4 : (Jvm.Cond.selects C x y).before a0 Z = true) (w5 : (Jvm.Cond.instanceMethod y).before a0 Z = true) (w6 : (Jvm.Cond.publicMethod y).before a0 Z = true) (w7 : (Jvm.Cond.unhidden C x.name x.desc).before a0 Z = true) (w8 : (Jvm.Cond.castable C x.cls).before a0 Z = true) (hy : x.cls ≠ "java/lang/invoke/MethodHandle" ∧ x.cls ≠ "java/lang/invoke/VarHandle") {bytes : ByteArray} {maxL : Nat} {ret : Option FieldType} {rm : Room} {Qc : Option Value → Heap → List Loc → Prop}  (wc : (Jvm.Cond.code y bytes maxL ret).before a0 Z = true) (wz : (Jvm.Cond.initialized y.cls).before a0 Z = true) {as : Array Value} (hC : Ctr l Z y bytes maxL ret rm as h Qc) (eT : T.heap = h) {a : Addr} (F : Exa Z h a C) {pc pc' : Nat} {Ls : Array Slot} {stk argsL rest : List Value} (hp : pc' = pc + 5) (hsz : Ls.size = c.maxLocals) (hlen : ∀ sig, parseMethodDescriptor x.desc = some sig → argsL.length = sig.parameters.length) (hst : stk = argsL.reverse ++ .ref a :: rest) (has : (.ref a :: argsL).toArray = as) {W : Nat} (hW : (rest.map fun v => v.category).sum ≤ W) (hf : rm.frames + 1 ≤ R.frames) (hl : W + (maxL + 11) + rm.locals ≤ R.locals) (hc : cells + rm.cells ≤ R.cells) (hs : slots + rm.slots ≤ R.slots) (hd : decode c.code pc = .ok (.invokeinterface index count, 5))
    (k : ∀ (v : Option Value) (T' : State) (L : List Loc), Qc v T'.heap L → Stand p l e R s m args below meth c T' (locs ++ L) (cells + rm.cells) (slots + rm.slots) → Go p e below F0 (T'.setTop (mkF m pc' Ls (v.toList ++ rest)))) : Go p e below F0 (T.setTop (mkF m pc Ls stk)) :=
  Go.callIB X hx hZ hown w1 w2 w3 w4 w5 w6 w7 w8 hy (backOf (W := W) (hC []) hZ wc wz hf hl) eT F hp hsz hlen hst hW hd (fun _ _ => ⟨has, eT, hc, hs⟩) (fun v vm₁ T' locs' cells' slots' X' ⟨L, hq, h1, h2, h3⟩ => by
    try dsimp only at h1 h2 h3
    subst h1 h2 h3
    exact k v T' L hq X')
end OwnGo
end Jvm.RoadKit
namespace Jvm.RoadKit
open Sem ClassFile Op Lib Jvm.Stand Jvm.Free Jvm.LawKit
section OwnWide
variable {p : Program} {l : Launch} {e : Env} {R : Room} {s : State} {m : MethodId} {args : Array Value} {below : List Frame} {meth : Method} {c : Code} {T : State} {locs : List Loc} {cells slots kc ks : Nat} {Z : State} {a0 : Array Value} {h : Heap} {Q : Option Value → Heap → List Loc → Prop} {F0 : State → Outcome → Prop} {EL : List (String × Nat)} {vm0 : Vm} {sf : List Addr} {QW : Option Value → Vm → Heap → List Loc → Prop}
/-- the wide end: constants may have been resolved meanwhile -/
def EndW (Z : State) (EL : List (String × Nat)) (s : State) (QW : Option Value → Vm → Heap → List Loc → Prop) (kc ks : Nat) (U : State) (o : Outcome) : Prop :=
  ∃ v L, o = .returned v ∧ QW v U.vm U.heap L ∧ CHr Z EL s.vm s.heap U.vm U.heap ∧ ReturnedEndW s o U L kc ks
def CtrW (l : Launch) (Z : State) (EL : List (String × Nat)) (y : MethodName) (bytes : ByteArray) (maxL : Nat) (ret : Option FieldType) (rm : Room) (as : Array Value) (h : Heap) (sf : List Addr) (QW : Option Value → Vm → Heap → List Loc → Prop) : Prop :=
  ∀ ws : List Jvm.Cond, MetFree l y (head1 (Jvm.Cond.code y bytes maxL ret :: ws) rm) (fun a U => a = as ∧ Z.Warmed39 U.vm ∧ U.heap = h ∧ CHv Z EL U.vm h ∧ ∀ x ∈ sf, Safe Z EL U.vm h x) (fun _ _ _ _ _ => True) (fun _ U o U' => EndW Z EL U QW rm.cells rm.slots U' o)
theorem since0 (s : State) (n : Nat) : s.Since s.vm n := State.WarmedH.since (State.WarmedH.refl s) n
theorem CtrW.of {y : MethodName} {bytes : ByteArray} {maxL : Nat} {ret : Option FieldType} {rm : Room} {as : Array Value} (hp : plainFor y = true)
    (body : ∀ (p : Program) (e : Env) (s : State) (m : MethodId) (below : List Frame) (meth : Method) (c : Code) (T : State), p.tables.exec = Jvm.exec → Z.Warmed39 s.vm → c.code = bytes → c.maxLocals = maxL → s.vm.findClass y.cls = some m.cls → meth.name = y.name → meth.sig.returnType = ret → meth.locks = false → T.heap = h → s.heap = h → s.Since s.vm h.size → CHr Z EL s.vm s.heap s.vm h → (∀ x ∈ sf, Safe Z EL s.vm h x) → Stand p l e rm (s.setVm s.vm) m as below meth c T [] 0 0 →
      Go p e below (EndW Z EL s QW rm.cells rm.slots) (T.setTop (entryFrame m as maxL))) : CtrW l Z EL y bytes maxL ret rm as h sf QW := by
  intro ws
  refine MetFree.of_bodySF hp hisR ?_
  intro p e s m args below meth c s₁ Bd hml0 hP hK
  obtain ⟨rfl, hZ, hh, hC, hs⟩ := hP
  exact body p e s m below meth c s₁ Bd.exec hZ Bd.bytes hml0 (findClass_of_methodNamed Bd.named) (name_of_methodNamed Bd.named Bd.method).1 Bd.returns Bd.notSynchronized (by rw [← hh, Bd.state]; rfl) hh (since0 s _) (by rw [hh]; exact CHr.refl hC) hs (Stand.of_body Bd)
theorem Go.endW (X : Stand p l e R (s.setVm vm0) m args below meth c T locs cells slots) (hx : p.tables.exec = Jvm.exec) {v : Option Value} (hv : meth.sig.returnType = none → v = none) (hlk : meth.locks = false) (hc : cells ≤ kc) (hs : slots ≤ ks) (hZ : Z.Warmed39 vm0) (hEL : EW Z a0 EL) (eT : T.heap = h) {k0 : Nat} (hS : s.Since vm0 k0) (hk : k0 ≤ h.size) (hC : CHr Z EL s.vm s.heap vm0 h) (q : CHr Z EL vm0 h T.vm h → QW v T.vm h locs) {g : JFrame}
    (st : ∀ fs, (∀ (f : JFrame) (acts : List Action), f.method = m → f.locked = none → f.entered = [] → (doReturn e (T.setTop f) acts v).1 = T.setFrames fs) → Steps p.tables e below (T.setTop g) (T.setFrames fs)) : Go p e below (EndW Z EL s QW kc ks) (T.setTop g) := by
  obtain ⟨fs, hr, hrun, hended, hE⟩ := X.leaveW hS (by rw [eT]; exact hk) (v := v) hv hlk
  have hat := CHv.at X hZ hEL hC.1
  refine ⟨_, _, st fs hr, hrun, hended, v, locs, rfl, ?_, ?_, hE.1, hE.2.1, hE.2.2.1, hE.2.2.2.mono hc hs⟩
  · show QW v T.vm T.heap locs
    rw [eT]; exact q hat
  · show CHr Z EL s.vm s.heap T.vm T.heap
    rw [eT]; exact hC.trans hat
theorem Go.ret0W (X : Stand p l e R (s.setVm vm0) m args below meth c T locs cells slots) (hx : p.tables.exec = Jvm.exec) (hlk : meth.locks = false) (hZ : Z.Warmed39 vm0) (hEL : EW Z a0 EL) (eT : T.heap = h) {k0 : Nat} (hS : s.Since vm0 k0) (hk : k0 ≤ h.size) (hC : CHr Z EL s.vm s.heap vm0 h) (hret : meth.sig.returnType = none) {pc : Nat} {Ls : Array Slot} (hd : decode c.code pc = .ok (.return_, 1)) (hc : cells ≤ kc) (hs : slots ≤ ks) (q : CHr Z EL vm0 h T.vm h → QW none T.vm h locs) : Go p e below (EndW Z EL s QW kc ks) (T.setTop (mkF m pc Ls [])) :=
  Go.endW X hx (fun _ => rfl) hlk hc hs hZ hEL eT hS hk hC q (fun fs hr => X.returnOut hx hret hd hr)
theorem Go.retNW (X : Stand p l e R (s.setVm vm0) m args below meth c T locs cells slots) (hx : p.tables.exec = Jvm.exec) (hlk : meth.locks = false) (hZ : Z.Warmed39 vm0) (hEL : EW Z a0 EL) (eT : T.heap = h) {k0 : Nat} (hS : s.Since vm0 k0) (hk : k0 ≤ h.size) (hC : CHr Z EL s.vm s.heap vm0 h) {t : FieldType} (hret : meth.sig.returnType = some t) (ht : t = .boolean ∨ t = .byte ∨ t = .char ∨ t = .short) {pc : Nat} {Ls : Array Slot} {z : Int32} {rest : List Value} (hd : decode c.code pc = .ok (.ireturn, 1)) (hc : cells ≤ kc) (hs : slots ≤ ks) (q : CHr Z EL vm0 h T.vm h → QW (some (.int (nar t z))) T.vm h locs) : Go p e below (EndW Z EL s QW kc ks) (T.setTop (mkF m pc Ls (.int z :: rest))) :=
  Go.endW X hx (fun h => by rw [hret] at h; cases h) hlk hc hs hZ hEL eT hS hk hC q (fun fs hr => Jvm.RoadKit.retN X hx hret ht hd hr)
theorem Go.retRW (X : Stand p l e R (s.setVm vm0) m args below meth c T locs cells slots) (hx : p.tables.exec = Jvm.exec) (hlk : meth.locks = false) (hZ : Z.Warmed39 vm0) (hEL : EW Z a0 EL) (eT : T.heap = h) {k0 : Nat} (hS : s.Since vm0 k0) (hk : k0 ≤ h.size) (hC : CHr Z EL s.vm s.heap vm0 h) {t : FieldType} (hret : meth.sig.returnType = some t) (ht : t.isReference = true) {pc : Nat} {Ls : Array Slot} {v : Value} (hv : v.isRef = true) {rest : List Value} (hd : decode c.code pc = .ok (.areturn, 1)) (hc : cells ≤ kc) (hs : slots ≤ ks) (q : CHr Z EL vm0 h T.vm h → QW (some v) T.vm h locs) : Go p e below (EndW Z EL s QW kc ks) (T.setTop (mkF m pc Ls (v :: rest))) :=
  Go.endW X hx (fun h => by rw [hret] at h; cases h) hlk hc hs hZ hEL eT hS hk hC q (fun fs hr => retOut X hx hret (by rcases ref_cases hv with rfl | ⟨z, rfl⟩ <;> cases t <;> simp [FieldType.isReference] at ht <;> rfl) (Or.inr (Or.inr (Or.inr (Or.inr ⟨rfl, ht, hv⟩)))) hd hr)
theorem CtrW.back {y : MethodName} {bytes : ByteArray} {maxL : Nat} {ret : Option FieldType} {rm : Room} {len W : Nat} {as : Array Value} (hM : CtrW l Z EL y bytes maxL ret rm as h sf QW)
    (hZ : Z.Warmed39 vm0) (wc : (Jvm.Cond.code y bytes maxL ret).before a0 Z = true) (wz : (Jvm.Cond.initialized y.cls).before a0 Z = true) (hf : rm.frames + 1 ≤ R.frames) (hl : W + (maxL + 11) + rm.locals ≤ R.locals) (hEL : EW Z a0 EL) (H : CHv Z EL vm0 h) (hsf : ∀ x ∈ sf, x < h.size ∧ Safe Z EL vm0 h x) :
    BackS l R p e below (s.setVm vm0) args y len W (fun A a => a = as ∧ A.U.heap = h ∧ A.cells + rm.cells ≤ R.cells ∧ A.slots + rm.slots ≤ R.slots)
      (fun A _ v B => ∃ L, QW v B.U.vm B.U.heap L ∧ B.locs = A.locs ++ L ∧ B.cells = A.cells + rm.cells ∧ B.slots = A.slots + rm.slots ∧ CHr Z EL vm0 h B.U.vm B.U.heap) :=
  BackS.of_freeW (bytes := bytes) (maxL := maxL) (ret := ret) (E := fun _ first o t L k n => k = rm.cells ∧ n = rm.slots ∧ (∃ v, o = .returned v ∧ QW v t.vm t.heap L) ∧ CHr Z EL first.vm first.heap t.vm t.heap) (hM []) hf hl
    (fun m meth c A a Y hp => have hU : Z.Warmed39 A.U.vm := wtrans (s := s.setVm vm0) hZ Y.warmed
      ⟨by show (Jvm.Cond.and _ .tt).before a A.U = true; rw [Cond.before_and, mv hU wc]; rfl, mv hU wc, mv hU wz, hp.2.2.1, hp.2.2.2⟩)
    (fun m meth c A a g mk Y hp => have hA := CHv.at Y hZ hEL H
      ⟨hp.1, wtrans (s := s.setVm vm0) hZ Y.warmed, hp.2.1, hA.1, fun x hx => hA.safe (hsf x hx).1 (hsf x hx).2⟩) (fun _ _ _ _ _ _ _ _ _ => trivial)
    (fun _ _ _ _ ⟨v, L, h1, h2, h3, h4⟩ => ⟨L, _, _, h4, rfl, rfl, ⟨v, h1, h2⟩, h3⟩)
    (fun m meth c A a g mk v t L k n Y hp _ _ ⟨e1, e2, ⟨v', e3, e4⟩, e5⟩ => by
      cases e3; subst e1 e2
      refine ⟨L, e4, rfl, rfl, rfl, (CHv.at Y hZ hEL H).trans ?_⟩
      rw [← hp.2.1]; exact e5)
theorem Go.callSW (X : Stand p l e R (s.setVm vm0) m args below meth c T locs cells slots) (hx : p.tables.exec = Jvm.exec) (hZ : Z.Warmed39 vm0) {own : String} {index : Nat} (hown : vm0.findClass own = some m.cls) {y : MethodName} {bytes : ByteArray} {maxL : Nat} {ret : Option FieldType} {rm : Room} (w1 : (Jvm.Cond.methodLink own index y).before a0 Z = true) (w2 : (Jvm.Cond.static y).before a0 Z = true) (w3 : (Jvm.Cond.initialized y.cls).before a0 Z = true) (w4 : (Jvm.Cond.code y bytes maxL ret).before a0 Z = true) (hy : y.cls ≠ "java/lang/invoke/MethodHandle" ∧ y.cls ≠ "java/lang/invoke/VarHandle") (wc : (Jvm.Cond.code y bytes maxL ret).before a0 Z = true) (wz : (Jvm.Cond.initialized y.cls).before a0 Z = true) {as : Array Value} (hM : CtrW l Z EL y bytes maxL ret rm as h sf QW) (hEL : EW Z a0 EL) (H : CHv Z EL vm0 h) (hsf : ∀ x ∈ sf, x < h.size ∧ Safe Z EL vm0 h x) {k0 : Nat} (hS : s.Since vm0 k0) (hk : k0 ≤ h.size) (eT : T.heap = h)  {pc pc' : Nat} {Ls : Array Slot} {stk argsL rest : List Value} (hp : pc' = pc + 3) (hsz : Ls.size = c.maxLocals) (hlen : ∀ sig, parseMethodDescriptor y.desc = some sig → argsL.length = sig.parameters.length) (hst : stk = argsL.reverse ++ rest) (has : argsL.toArray = as) {W : Nat} (hW : (rest.map fun v => v.category).sum ≤ W) (hf : rm.frames + 1 ≤ R.frames) (hl : W + (maxL + 11) + rm.locals ≤ R.locals) (hc : cells + rm.cells ≤ R.cells) (hs : slots + rm.slots ≤ R.slots) (hd : decode c.code pc = .ok (.invokestatic index, 3))
    (k : ∀ (v : Option Value) (T' : State) (L : List Loc) (h' : Heap), T'.heap = h' → QW v T'.vm h' L → CHr Z EL vm0 h T'.vm h' → s.Since T'.vm h'.size → Z.Warmed39 T'.vm → T'.vm.findClass own = some m.cls → Stand p l e R (s.setVm T'.vm) m args below meth c T' (locs ++ L) (cells + rm.cells) (slots + rm.slots) → Go p e below F0 (T'.setTop (mkF m pc' Ls (v.toList ++ rest)))) : Go p e below F0 (T.setTop (mkF m pc Ls stk)) := by
  subst hp
  obtain ⟨v, vm₁, ⟨T', L', c', n'⟩, -, X', h2, hg, ⟨L, hq, h1, h3, h4, h5⟩, st⟩ := callSS X hx hown (mvT (s := s.setVm vm0) hZ w1) (mvT (s := s.setVm vm0) hZ w2) (mvT (s := s.setVm vm0) hZ w3) (mvT (s := s.setVm vm0) hZ w4) hy (hM.back (W := W) hZ wc wz hf hl hEL H hsf) (g := mkF m pc Ls stk) rfl hsz hlen hst (by show 2 * 0 + _ ≤ _; rw [Nat.mul_zero, Nat.zero_add]; exact hW) hd (fun _ _ => ⟨has, eT, hc, hs⟩)
  obtain ⟨X2, hS2, hZ2, hown2⟩ := rebS hS (by rw [eT]; exact hk) X' h2 hg hZ hown
  try dsimp only at h1 h3 h4
  subst h1 h3 h4
  exact Go.step (fun t kt => st.trans kt) (k v T' L T'.heap rfl hq h5 hS2 hZ2 hown2 X2)
theorem Go.callNW (X : Stand p l e R (s.setVm vm0) m args below meth c T locs cells slots) (hx : p.tables.exec = Jvm.exec) (hZ : Z.Warmed39 vm0) {own : String} {index : Nat} (hown : vm0.findClass own = some m.cls) {y : MethodName} {bytes : ByteArray} {maxL : Nat} {rm : Room} (hn : y.name = "<init>") (w1 : (Jvm.Cond.methodLink own index y).before a0 Z = true) (w2 : (Jvm.Cond.instanceMethod y).before a0 Z = true) (w4 : (Jvm.Cond.code y bytes maxL none).before a0 Z = true) (hy : y.cls ≠ "java/lang/invoke/MethodHandle" ∧ y.cls ≠ "java/lang/invoke/VarHandle") (wc : (Jvm.Cond.code y bytes maxL none).before a0 Z = true) (wz : (Jvm.Cond.initialized y.cls).before a0 Z = true) {as : Array Value} (hM : CtrW l Z EL y bytes maxL none rm as h sf QW) (hEL : EW Z a0 EL) (H : CHv Z EL vm0 h) (hsf : ∀ x ∈ sf, x < h.size ∧ Safe Z EL vm0 h x) {k0 : Nat} (hS : s.Since vm0 k0) (hk : k0 ≤ h.size) (eT : T.heap = h) {a : Addr} {pc pc' : Nat} {Ls : Array Slot} {stk argsL rest : List Value} (hp : pc' = pc + 3) (hsz : Ls.size = c.maxLocals) (hlen : ∀ sig, parseMethodDescriptor y.desc = some sig → argsL.length = sig.parameters.length) (hst : stk = argsL.reverse ++ .ref a :: rest) (has : (.ref a :: argsL).toArray = as) {W : Nat} (hW : (rest.map fun v => v.category).sum ≤ W) (hf : rm.frames + 1 ≤ R.frames) (hl : W + (maxL + 11) + rm.locals ≤ R.locals) (hc : cells + rm.cells ≤ R.cells) (hs : slots + rm.slots ≤ R.slots) (hd : decode c.code pc = .ok (.invokespecial index, 3))
    (k : ∀ (v : Option Value) (T' : State) (L : List Loc) (h' : Heap), T'.heap = h' → QW v T'.vm h' L → CHr Z EL vm0 h T'.vm h' → s.Since T'.vm h'.size → Z.Warmed39 T'.vm → T'.vm.findClass own = some m.cls → Stand p l e R (s.setVm T'.vm) m args below meth c T' (locs ++ L) (cells + rm.cells) (slots + rm.slots) → Go p e below F0 (T'.setTop (mkF m pc' Ls (v.toList ++ rest)))) : Go p e below F0 (T.setTop (mkF m pc Ls stk)) := by
  subst hp
  obtain ⟨v, vm₁, ⟨T', L', c', n'⟩, -, X', h2, hg, ⟨L, hq, h1, h3, h4, h5⟩, st⟩ := X.specialBackS hx (y := y) hn hown (mvT (s := s.setVm vm0) hZ w1) (mvT (s := s.setVm vm0) hZ w2) (mvT (s := s.setVm vm0) hZ w4) hy (hM.back (W := W) hZ wc wz hf hl hEL H hsf) (g := mkF m pc Ls stk) rfl hsz (Steps.refl _) (a := a) hlen hst (by show 2 * 0 + _ ≤ _; rw [Nat.mul_zero, Nat.zero_add]; exact hW) hd (fun _ _ => ⟨has, eT, hc, hs⟩)
  obtain ⟨X2, hS2, hZ2, hown2⟩ := rebS hS (by rw [eT]; exact hk) X' h2 hg hZ hown
  try dsimp only at h1 h3 h4
  subst h1 h3 h4
  exact Go.step (fun t kt => st.trans kt) (k v T' L T'.heap rfl hq h5 hS2 hZ2 hown2 X2)
theorem Go.ldcCH (X : Stand p l e R (s.setVm vm0) m args below meth c T locs cells slots) (hx : p.tables.exec = Jvm.exec) (hZ : Z.Warmed39 vm0) {own text : String} {index : Nat} (hown : vm0.findClass own = some m.cls) (wl : (Jvm.Cond.stringLink own index text).before a0 Z = true) (wS : ∀ a ∈ Bundle.stringAtoms, a.before a0 Z = true) (eT : T.heap = h) {k0 : Nat} (hS : s.Since vm0 k0) (hk : k0 ≤ h.size) (hEL : EW Z a0 EL) (hmem : (own, index) ∈ EL) (H : CHv Z EL vm0 h) {vs : List Value} {z : Int32} (ht : (∀ c ∈ text.toList, c.toNat < 256) ∧ text.toList.map (fun c => Value.int (Jvm.Lit.byteI c.toNat.toUInt16)) = vs) (hz : ¬ z < 0) (hl : z.toNatClampNeg = vs.length) {n : Nat} (hn : 4 * text.toList.length ≤ n) (hbig : n ≤ 536870912) (hc : cells + 2 ≤ R.cells) (hl' : slots + (n + 4) ≤ R.slots) {pc pc' : Nat} {Ls : Array Slot} {rest : List Value} (hp : pc' = pc + 2) (hd : decode c.code pc = .ok (.ldc index, 2))
    (k : ∀ (a : Addr) (T' : State) (h' : Heap) (k1 : Nat) (b : Addr) (kk : ClassId), T'.heap = h' → Ext h h' → s.Since T'.vm k1 → k1 ≤ h'.size → Z.Warmed39 T'.vm → T'.vm.findClass own = some m.cls → Exa Z h' a "java/lang/String" → Fld Z h' a "java/lang/String" "coder" "B" (.int 0) → Fld Z h' a "java/lang/String" "value" "[B" (.ref b) → Arv Z h' b kk .byte z vs (.int 0) → CHr Z EL vm0 h T'.vm h' → (∀ x, Safe Z EL T'.vm h' x → x ≠ a ∧ x ≠ b) → Stand p l e R (s.setVm T'.vm) m args below meth c T' locs (cells + 2) (slots + (n + 4)) → Go p e below F0 (T'.setTop (mkF m pc' Ls (.ref a :: rest)))) : Go p e below F0 (T.setTop (mkF m pc Ls rest)) := by
  subst hp
  obtain ⟨a, T', h', k1, b, kk, X', e', E, hS', hk', hZ', hown', F1, F2, F3, F4, -, -, C, -, hne, st⟩ := Jvm.RoadKit.ldcCH X hx hZ hown wl wS eT hS hk hEL hmem H ht hz hl (g := mkF m pc Ls rest) rfl hd hn hbig hc hl'
  exact Go.step st (k a T' h' k1 b kk e' E hS' hk' hZ' hown' F1 F2 F3 F4 C hne X')
end OwnWide
end Jvm.RoadKit
namespace Jvm.Pilot.@@N@@
open Jvm Jvm.ClassFile Sem Op Lib Jvm.Free Jvm.Stand Jvm.LawKit Jvm.RoadKit Bundle Jvm.Pilot.@@N@@.Jvm.D
theorem tw_0 {Z : State} {a0 : Array Value} (hw : ∀ d ∈ tables_1, d.before a0 Z = true) : (Jvm.Cond.methodLink "com/example/dirbound/dirbound/CompositeNameOfPinLaw" (16 : Nat) ({ cls := "com/example/dirbound/dirbound/CompositeNameOfPinLaw", name := "mk", desc := "(I)Ljava/lang/String;" } : Jvm.MethodName)).before a0 Z = true := hw _ (List.mem_of_getElem? (i := 0) rfl)
theorem tw_1 {Z : State} {a0 : Array Value} (hw : ∀ d ∈ tables_1, d.before a0 Z = true) : (Jvm.Cond.static ({ cls := "com/example/dirbound/dirbound/CompositeNameOfPinLaw", name := "mk", desc := "(I)Ljava/lang/String;" } : Jvm.MethodName)).before a0 Z = true := hw _ (List.mem_of_getElem? (i := 1) rfl)
theorem tw_2 {Z : State} {a0 : Array Value} (hw : ∀ d ∈ tables_1, d.before a0 Z = true) : (Jvm.Cond.initialized "com/example/dirbound/dirbound/CompositeNameOfPinLaw").before a0 Z = true := hw _ (List.mem_of_getElem? (i := 2) rfl)
theorem tw_3 {Z : State} {a0 : Array Value} (hw : ∀ d ∈ tables_1, d.before a0 Z = true) : (Jvm.Cond.code ({ cls := "com/example/dirbound/dirbound/CompositeNameOfPinLaw", name := "mk", desc := "(I)Ljava/lang/String;" } : Jvm.MethodName) method_2_code (5 : Nat) (Option.some (Jvm.ClassFile.FieldType.object "java/lang/String"))).before a0 Z = true := hw _ (List.mem_of_getElem? (i := 3) rfl)
theorem tw_4 {Z : State} {a0 : Array Value} (hw : ∀ d ∈ tables_1, d.before a0 Z = true) : (Jvm.Cond.classLink "com/example/dirbound/dirbound/CompositeNameOfPinLaw" (7 : Nat) "java/lang/String").before a0 Z = true := hw _ (List.mem_of_getElem? (i := 4) rfl)
theorem tw_5 {Z : State} {a0 : Array Value} (hw : ∀ d ∈ tables_1, d.before a0 Z = true) : (Jvm.Cond.instantiable "java/lang/String" (4 : Nat)).before a0 Z = true := hw _ (List.mem_of_getElem? (i := 5) rfl)
theorem tw_6 {Z : State} {a0 : Array Value} (hw : ∀ d ∈ tables_1, d.before a0 Z = true) : (Jvm.Cond.initialized "java/lang/String").before a0 Z = true := hw _ (List.mem_of_getElem? (i := 6) rfl)
theorem tw_7 {Z : State} {a0 : Array Value} (hw : ∀ d ∈ tables_1, d.before a0 Z = true) : (Jvm.Cond.arrayClass Jvm.ClassFile.FieldType.char).before a0 Z = true := hw _ (List.mem_of_getElem? (i := 7) rfl)
theorem tw_8 {Z : State} {a0 : Array Value} (hw : ∀ d ∈ tables_1, d.before a0 Z = true) : (Jvm.Cond.methodLink "com/example/dirbound/dirbound/CompositeNameOfPinLaw" (9 : Nat) ({ cls := "java/lang/String", name := "<init>", desc := "([C)V" } : Jvm.MethodName)).before a0 Z = true := hw _ (List.mem_of_getElem? (i := 8) rfl)
theorem tw_9 {Z : State} {a0 : Array Value} (hw : ∀ d ∈ tables_1, d.before a0 Z = true) : (Jvm.Cond.instanceMethod ({ cls := "java/lang/String", name := "<init>", desc := "([C)V" } : Jvm.MethodName)).before a0 Z = true := hw _ (List.mem_of_getElem? (i := 9) rfl)
theorem tw_10 {Z : State} {a0 : Array Value} (hw : ∀ d ∈ tables_1, d.before a0 Z = true) : (Jvm.Cond.code ({ cls := "java/lang/String", name := "<init>", desc := "([C)V" } : Jvm.MethodName) jdk_42_method_3_code (2 : Nat) (Option.none : Option Jvm.ClassFile.FieldType)).before a0 Z = true := hw _ (List.mem_of_getElem? (i := 10) rfl)
theorem tw_11 {Z : State} {a0 : Array Value} (hw : ∀ d ∈ tables_1, d.before a0 Z = true) : (Jvm.Cond.methodLink "java/lang/String" (27 : Nat) ({ cls := "java/lang/String", name := "<init>", desc := "([CIILjava/lang/Void;)V" } : Jvm.MethodName)).before a0 Z = true := hw _ (List.mem_of_getElem? (i := 11) rfl)
theorem tw_12 {Z : State} {a0 : Array Value} (hw : ∀ d ∈ tables_1, d.before a0 Z = true) : (Jvm.Cond.instanceMethod ({ cls := "java/lang/String", name := "<init>", desc := "([CIILjava/lang/Void;)V" } : Jvm.MethodName)).before a0 Z = true := hw _ (List.mem_of_getElem? (i := 12) rfl)
theorem tw_14 {Z : State} {a0 : Array Value} (hw : ∀ d ∈ tables_1, d.before a0 Z = true) : (Jvm.Cond.code ({ cls := "java/lang/String", name := "<init>", desc := "([CIILjava/lang/Void;)V" } : Jvm.MethodName) jdk_42_method_149_code (6 : Nat) (Option.none : Option Jvm.ClassFile.FieldType)).before a0 Z = true := hw _ (List.mem_of_getElem? (i := 14) rfl)
theorem tw_15 {Z : State} {a0 : Array Value} (hw : ∀ d ∈ tables_1, d.before a0 Z = true) : (Jvm.Cond.methodLink "java/lang/String" (1 : Nat) ({ cls := "java/lang/Object", name := "<init>", desc := "()V" } : Jvm.MethodName)).before a0 Z = true := hw _ (List.mem_of_getElem? (i := 15) rfl)
theorem tw_16 {Z : State} {a0 : Array Value} (hw : ∀ d ∈ tables_1, d.before a0 Z = true) : (Jvm.Cond.instanceMethod ({ cls := "java/lang/Object", name := "<init>", desc := "()V" } : Jvm.MethodName)).before a0 Z = true := hw _ (List.mem_of_getElem? (i := 16) rfl)
theorem tw_17 {Z : State} {a0 : Array Value} (hw : ∀ d ∈ tables_1, d.before a0 Z = true) : (Jvm.Cond.code ({ cls := "java/lang/Object", name := "<init>", desc := "()V" } : Jvm.MethodName) object_method_1_code (1 : Nat) (Option.none : Option Jvm.ClassFile.FieldType)).before a0 Z = true := hw _ (List.mem_of_getElem? (i := 17) rfl)
theorem tw_18 {Z : State} {a0 : Array Value} (hw : ∀ d ∈ tables_1, d.before a0 Z = true) : (Jvm.Cond.stringLink "java/lang/String" (7 : Nat) "").before a0 Z = true := hw _ (List.mem_of_getElem? (i := 18) rfl)
theorem tw_19 {Z : State} {a0 : Array Value} (hw : ∀ d ∈ tables_1, d.before a0 Z = true) : (Jvm.Cond.arrayClass Jvm.ClassFile.FieldType.byte).before a0 Z = true := hw _ (List.mem_of_getElem? (i := 19) rfl)
theorem tw_20 {Z : State} {a0 : Array Value} (hw : ∀ d ∈ tables_1, d.before a0 Z = true) : (Jvm.Cond.laysFinal "java/lang/String" "java/lang/String" "value" "[B").before a0 Z = true := hw _ (List.mem_of_getElem? (i := 20) rfl)
theorem tw_21 {Z : State} {a0 : Array Value} (hw : ∀ d ∈ tables_1, d.before a0 Z = true) : (Jvm.Cond.laysFinal "java/lang/String" "java/lang/String" "coder" "B").before a0 Z = true := hw _ (List.mem_of_getElem? (i := 21) rfl)
theorem tw_24 {Z : State} {a0 : Array Value} (hw : ∀ d ∈ tables_1, d.before a0 Z = true) : (Jvm.Cond.fieldLink "java/lang/String" (9 : Nat) "java/lang/String" "value" "[B").before a0 Z = true := hw _ (List.mem_of_getElem? (i := 24) rfl)
theorem tw_25 {Z : State} {a0 : Array Value} (hw : ∀ d ∈ tables_1, d.before a0 Z = true) : (Jvm.Cond.fieldLink "java/lang/String" (15 : Nat) "java/lang/String" "coder" "B").before a0 Z = true := hw _ (List.mem_of_getElem? (i := 25) rfl)
theorem tw_26 {Z : State} {a0 : Array Value} (hw : ∀ d ∈ tables_1, d.before a0 Z = true) : (Jvm.Cond.arrayOver (Jvm.ClassFile.FieldType.object "java/lang/String")).before a0 Z = true := hw _ (List.mem_of_getElem? (i := 26) rfl)
theorem tw_27 {Z : State} {a0 : Array Value} (hw : ∀ d ∈ tables_1, d.before a0 Z = true) : (Jvm.Cond.methodLink "com/example/dirbound/dirbound/CompositeNameOfPinLaw" (22 : Nat) ({ cls := "com/example/dirbound/dirbound/CompositeName", name := "of", desc := "([Ljava/lang/String;)Lcom/example/dirbound/dirbound/CompositeName;" } : Jvm.MethodName)).before a0 Z = true := hw _ (List.mem_of_getElem? (i := 27) rfl)
theorem tw_28 {Z : State} {a0 : Array Value} (hw : ∀ d ∈ tables_1, d.before a0 Z = true) : (Jvm.Cond.static ({ cls := "com/example/dirbound/dirbound/CompositeName", name := "of", desc := "([Ljava/lang/String;)Lcom/example/dirbound/dirbound/CompositeName;" } : Jvm.MethodName)).before a0 Z = true := hw _ (List.mem_of_getElem? (i := 28) rfl)
theorem tw_29 {Z : State} {a0 : Array Value} (hw : ∀ d ∈ tables_1, d.before a0 Z = true) : (Jvm.Cond.initialized "com/example/dirbound/dirbound/CompositeName").before a0 Z = true := hw _ (List.mem_of_getElem? (i := 29) rfl)
theorem tw_30 {Z : State} {a0 : Array Value} (hw : ∀ d ∈ tables_1, d.before a0 Z = true) : (Jvm.Cond.code ({ cls := "com/example/dirbound/dirbound/CompositeName", name := "of", desc := "([Ljava/lang/String;)Lcom/example/dirbound/dirbound/CompositeName;" } : Jvm.MethodName) prog_5_method_2_code (1 : Nat) (Option.some (Jvm.ClassFile.FieldType.object "com/example/dirbound/dirbound/CompositeName"))).before a0 Z = true := hw _ (List.mem_of_getElem? (i := 30) rfl)
theorem tw_31 {Z : State} {a0 : Array Value} (hw : ∀ d ∈ tables_1, d.before a0 Z = true) : (Jvm.Cond.classLink "com/example/dirbound/dirbound/CompositeName" (8 : Nat) "com/example/dirbound/dirbound/CompositeName").before a0 Z = true := hw _ (List.mem_of_getElem? (i := 31) rfl)
theorem tw_32 {Z : State} {a0 : Array Value} (hw : ∀ d ∈ tables_1, d.before a0 Z = true) : (Jvm.Cond.instantiable "com/example/dirbound/dirbound/CompositeName" (1 : Nat)).before a0 Z = true := hw _ (List.mem_of_getElem? (i := 32) rfl)
theorem tw_33 {Z : State} {a0 : Array Value} (hw : ∀ d ∈ tables_1, d.before a0 Z = true) : (Jvm.Cond.methodLink "com/example/dirbound/dirbound/CompositeName" (13 : Nat) ({ cls := "java/util/List", name := "of", desc := "([Ljava/lang/Object;)Ljava/util/List;" } : Jvm.MethodName)).before a0 Z = true := hw _ (List.mem_of_getElem? (i := 33) rfl)
theorem tw_34 {Z : State} {a0 : Array Value} (hw : ∀ d ∈ tables_1, d.before a0 Z = true) : (Jvm.Cond.static ({ cls := "java/util/List", name := "of", desc := "([Ljava/lang/Object;)Ljava/util/List;" } : Jvm.MethodName)).before a0 Z = true := hw _ (List.mem_of_getElem? (i := 34) rfl)
theorem tw_35 {Z : State} {a0 : Array Value} (hw : ∀ d ∈ tables_1, d.before a0 Z = true) : (Jvm.Cond.initialized "java/util/List").before a0 Z = true := hw _ (List.mem_of_getElem? (i := 35) rfl)
theorem tw_36 {Z : State} {a0 : Array Value} (hw : ∀ d ∈ tables_1, d.before a0 Z = true) : (Jvm.Cond.code ({ cls := "java/util/List", name := "of", desc := "([Ljava/lang/Object;)Ljava/util/List;" } : Jvm.MethodName) jdk_40_method_47_code (2 : Nat) (Option.some (Jvm.ClassFile.FieldType.object "java/util/List"))).before a0 Z = true := hw _ (List.mem_of_getElem? (i := 36) rfl)
theorem tw_37 {Z : State} {a0 : Array Value} (hw : ∀ d ∈ tables_1, d.before a0 Z = true) : (Jvm.Cond.fieldLink "java/util/List" (90 : Nat) "java/util/ImmutableCollections" "EMPTY_LIST" "Ljava/util/ImmutableCollections$ListN;").before a0 Z = true := hw _ (List.mem_of_getElem? (i := 37) rfl)
theorem tw_38 {Z : State} {a0 : Array Value} (hw : ∀ d ∈ tables_1, d.before a0 Z = true) : (Jvm.Cond.initialized "java/util/ImmutableCollections").before a0 Z = true := hw _ (List.mem_of_getElem? (i := 38) rfl)
theorem tw_39 {Z : State} {a0 : Array Value} (hw : ∀ d ∈ tables_1, d.before a0 Z = true) : (Jvm.Cond.methodLink "com/example/dirbound/dirbound/CompositeName" (19 : Nat) ({ cls := "com/example/dirbound/dirbound/CompositeName", name := "<init>", desc := "(Ljava/util/List;)V" } : Jvm.MethodName)).before a0 Z = true := hw _ (List.mem_of_getElem? (i := 39) rfl)
theorem tw_40 {Z : State} {a0 : Array Value} (hw : ∀ d ∈ tables_1, d.before a0 Z = true) : (Jvm.Cond.instanceMethod ({ cls := "com/example/dirbound/dirbound/CompositeName", name := "<init>", desc := "(Ljava/util/List;)V" } : Jvm.MethodName)).before a0 Z = true := hw _ (List.mem_of_getElem? (i := 40) rfl)
theorem tw_41 {Z : State} {a0 : Array Value} (hw : ∀ d ∈ tables_1, d.before a0 Z = true) : (Jvm.Cond.code ({ cls := "com/example/dirbound/dirbound/CompositeName", name := "<init>", desc := "(Ljava/util/List;)V" } : Jvm.MethodName) prog_5_method_1_code (2 : Nat) (Option.none : Option Jvm.ClassFile.FieldType)).before a0 Z = true := hw _ (List.mem_of_getElem? (i := 41) rfl)
theorem tw_42 {Z : State} {a0 : Array Value} (hw : ∀ d ∈ tables_1, d.before a0 Z = true) : (Jvm.Cond.methodLink "com/example/dirbound/dirbound/CompositeName" (1 : Nat) ({ cls := "java/lang/Object", name := "<init>", desc := "()V" } : Jvm.MethodName)).before a0 Z = true := hw _ (List.mem_of_getElem? (i := 42) rfl)
theorem tw_43 {Z : State} {a0 : Array Value} (hw : ∀ d ∈ tables_1, d.before a0 Z = true) : (Jvm.Cond.fieldLink "com/example/dirbound/dirbound/CompositeName" (7 : Nat) "com/example/dirbound/dirbound/CompositeName" "components" "Ljava/util/List;").before a0 Z = true := hw _ (List.mem_of_getElem? (i := 43) rfl)
theorem tw_44 {Z : State} {a0 : Array Value} (hw : ∀ d ∈ tables_1, d.before a0 Z = true) : (Jvm.Cond.laysFinal "com/example/dirbound/dirbound/CompositeName" "com/example/dirbound/dirbound/CompositeName" "components" "Ljava/util/List;").before a0 Z = true := hw _ (List.mem_of_getElem? (i := 44) rfl)
theorem tw_45 {Z : State} {a0 : Array Value} (hw : ∀ d ∈ tables_1, d.before a0 Z = true) : (Jvm.Cond.methodLink "com/example/dirbound/dirbound/CompositeNameOfPinLaw" (28 : Nat) ({ cls := "com/example/dirbound/dirbound/CompositeName", name := "components", desc := "()Ljava/util/List;" } : Jvm.MethodName)).before a0 Z = true := hw _ (List.mem_of_getElem? (i := 45) rfl)
theorem tw_46 {Z : State} {a0 : Array Value} (hw : ∀ d ∈ tables_1, d.before a0 Z = true) : (Jvm.Cond.declares ({ cls := "com/example/dirbound/dirbound/CompositeName", name := "components", desc := "()Ljava/util/List;" } : Jvm.MethodName)).before a0 Z = true := hw _ (List.mem_of_getElem? (i := 46) rfl)
theorem tw_47 {Z : State} {a0 : Array Value} (hw : ∀ d ∈ tables_1, d.before a0 Z = true) : (Jvm.Cond.instanceMethod ({ cls := "com/example/dirbound/dirbound/CompositeName", name := "components", desc := "()Ljava/util/List;" } : Jvm.MethodName)).before a0 Z = true := hw _ (List.mem_of_getElem? (i := 47) rfl)
theorem tw_48 {Z : State} {a0 : Array Value} (hw : ∀ d ∈ tables_1, d.before a0 Z = true) : (Jvm.Cond.selects "com/example/dirbound/dirbound/CompositeName" ({ cls := "com/example/dirbound/dirbound/CompositeName", name := "components", desc := "()Ljava/util/List;" } : Jvm.MethodName) ({ cls := "com/example/dirbound/dirbound/CompositeName", name := "components", desc := "()Ljava/util/List;" } : Jvm.MethodName)).before a0 Z = true := hw _ (List.mem_of_getElem? (i := 48) rfl)
theorem tw_49 {Z : State} {a0 : Array Value} (hw : ∀ d ∈ tables_1, d.before a0 Z = true) : (Jvm.Cond.code ({ cls := "com/example/dirbound/dirbound/CompositeName", name := "components", desc := "()Ljava/util/List;" } : Jvm.MethodName) prog_5_method_6_code (1 : Nat) (Option.some (Jvm.ClassFile.FieldType.object "java/util/List"))).before a0 Z = true := hw _ (List.mem_of_getElem? (i := 49) rfl)
theorem tw_50 {Z : State} {a0 : Array Value} (hw : ∀ d ∈ tables_1, d.before a0 Z = true) : (Jvm.Cond.methodLink "com/example/dirbound/dirbound/CompositeNameOfPinLaw" (32 : Nat) ({ cls := "java/util/List", name := "size", desc := "()I" } : Jvm.MethodName)).before a0 Z = true := hw _ (List.mem_of_getElem? (i := 50) rfl)
theorem tw_51 {Z : State} {a0 : Array Value} (hw : ∀ d ∈ tables_1, d.before a0 Z = true) : (Jvm.Cond.declares ({ cls := "java/util/List", name := "size", desc := "()I" } : Jvm.MethodName)).before a0 Z = true := hw _ (List.mem_of_getElem? (i := 51) rfl)
theorem tw_52 {Z : State} {a0 : Array Value} (hw : ∀ d ∈ tables_1, d.before a0 Z = true) : (Jvm.Cond.interfaceMethod "java/util/List" "java/util/List" "size" "()I").before a0 Z = true := hw _ (List.mem_of_getElem? (i := 52) rfl)
theorem tw_53 {Z : State} {a0 : Array Value} (hw : ∀ d ∈ tables_1, d.before a0 Z = true) : (Jvm.Cond.selects "java/util/ImmutableCollections$ListN" ({ cls := "java/util/List", name := "size", desc := "()I" } : Jvm.MethodName) ({ cls := "java/util/ImmutableCollections$ListN", name := "size", desc := "()I" } : Jvm.MethodName)).before a0 Z = true := hw _ (List.mem_of_getElem? (i := 53) rfl)
theorem tw_54 {Z : State} {a0 : Array Value} (hw : ∀ d ∈ tables_1, d.before a0 Z = true) : (Jvm.Cond.instanceMethod ({ cls := "java/util/ImmutableCollections$ListN", name := "size", desc := "()I" } : Jvm.MethodName)).before a0 Z = true := hw _ (List.mem_of_getElem? (i := 54) rfl)
theorem tw_55 {Z : State} {a0 : Array Value} (hw : ∀ d ∈ tables_1, d.before a0 Z = true) : (Jvm.Cond.publicMethod ({ cls := "java/util/ImmutableCollections$ListN", name := "size", desc := "()I" } : Jvm.MethodName)).before a0 Z = true := hw _ (List.mem_of_getElem? (i := 55) rfl)
theorem tw_56 {Z : State} {a0 : Array Value} (hw : ∀ d ∈ tables_1, d.before a0 Z = true) : (Jvm.Cond.unhidden "java/util/ImmutableCollections$ListN" "size" "()I").before a0 Z = true := hw _ (List.mem_of_getElem? (i := 56) rfl)
theorem tw_57 {Z : State} {a0 : Array Value} (hw : ∀ d ∈ tables_1, d.before a0 Z = true) : (Jvm.Cond.castable "java/util/ImmutableCollections$ListN" "java/util/List").before a0 Z = true := hw _ (List.mem_of_getElem? (i := 57) rfl)
theorem tw_58 {Z : State} {a0 : Array Value} (hw : ∀ d ∈ tables_1, d.before a0 Z = true) : (Jvm.Cond.initialized "java/util/ImmutableCollections$ListN").before a0 Z = true := hw _ (List.mem_of_getElem? (i := 58) rfl)
theorem tw_59 {Z : State} {a0 : Array Value} (hw : ∀ d ∈ tables_1, d.before a0 Z = true) : (Jvm.Cond.code ({ cls := "java/util/ImmutableCollections$ListN", name := "size", desc := "()I" } : Jvm.MethodName) jdk_45_method_3_code (1 : Nat) (Option.some Jvm.ClassFile.FieldType.int)).before a0 Z = true := hw _ (List.mem_of_getElem? (i := 59) rfl)
theorem tw_60 {Z : State} {a0 : Array Value} (hw : ∀ d ∈ tables_1, d.before a0 Z = true) : (Jvm.Cond.fieldLink "java/util/ImmutableCollections$ListN" (7 : Nat) "java/util/ImmutableCollections$ListN" "elements" "[Ljava/lang/Object;").before a0 Z = true := hw _ (List.mem_of_getElem? (i := 60) rfl)
theorem tw_61 {Z : State} {a0 : Array Value} (hw : ∀ d ∈ tables_1, d.before a0 Z = true) : (Jvm.Cond.laysFinal "java/util/ImmutableCollections$ListN" "java/util/ImmutableCollections$ListN" "elements" "[Ljava/lang/Object;").before a0 Z = true := hw _ (List.mem_of_getElem? (i := 61) rfl)
theorem tw_62 {Z : State} {a0 : Array Value} (hw : ∀ d ∈ tables_1, d.before a0 Z = true) : (Jvm.Cond.methodLink "java/util/List" (109 : Nat) ({ cls := "java/util/ImmutableCollections", name := "listFromArray", desc := "([Ljava/lang/Object;)Ljava/util/List;" } : Jvm.MethodName)).before a0 Z = true := hw _ (List.mem_of_getElem? (i := 62) rfl)
theorem tw_63 {Z : State} {a0 : Array Value} (hw : ∀ d ∈ tables_1, d.before a0 Z = true) : (Jvm.Cond.static ({ cls := "java/util/ImmutableCollections", name := "listFromArray", desc := "([Ljava/lang/Object;)Ljava/util/List;" } : Jvm.MethodName)).before a0 Z = true := hw _ (List.mem_of_getElem? (i := 63) rfl)
theorem tw_64 {Z : State} {a0 : Array Value} (hw : ∀ d ∈ tables_1, d.before a0 Z = true) : (Jvm.Cond.code ({ cls := "java/util/ImmutableCollections", name := "listFromArray", desc := "([Ljava/lang/Object;)Ljava/util/List;" } : Jvm.MethodName) jdk_56_method_4_code (3 : Nat) (Option.some (Jvm.ClassFile.FieldType.object "java/util/List"))).before a0 Z = true := hw _ (List.mem_of_getElem? (i := 64) rfl)
theorem tw_65 {Z : State} {a0 : Array Value} (hw : ∀ d ∈ tables_1, d.before a0 Z = true) : (Jvm.Cond.classLink "java/util/ImmutableCollections" (2 : Nat) "java/lang/Object").before a0 Z = true := hw _ (List.mem_of_getElem? (i := 65) rfl)
theorem tw_66 {Z : State} {a0 : Array Value} (hw : ∀ d ∈ tables_1, d.before a0 Z = true) : (Jvm.Cond.arrayOver (Jvm.ClassFile.FieldType.object "java/lang/Object")).before a0 Z = true := hw _ (List.mem_of_getElem? (i := 66) rfl)
theorem tw_67 {Z : State} {a0 : Array Value} (hw : ∀ d ∈ tables_1, d.before a0 Z = true) : (Jvm.Cond.methodLink "java/util/ImmutableCollections" (37 : Nat) ({ cls := "java/util/Objects", name := "requireNonNull", desc := "(Ljava/lang/Object;)Ljava/lang/Object;" } : Jvm.MethodName)).before a0 Z = true := hw _ (List.mem_of_getElem? (i := 67) rfl)
theorem tw_68 {Z : State} {a0 : Array Value} (hw : ∀ d ∈ tables_1, d.before a0 Z = true) : (Jvm.Cond.static ({ cls := "java/util/Objects", name := "requireNonNull", desc := "(Ljava/lang/Object;)Ljava/lang/Object;" } : Jvm.MethodName)).before a0 Z = true := hw _ (List.mem_of_getElem? (i := 68) rfl)
theorem tw_69 {Z : State} {a0 : Array Value} (hw : ∀ d ∈ tables_1, d.before a0 Z = true) : (Jvm.Cond.initialized "java/util/Objects").before a0 Z = true := hw _ (List.mem_of_getElem? (i := 69) rfl)
theorem tw_70 {Z : State} {a0 : Array Value} (hw : ∀ d ∈ tables_1, d.before a0 Z = true) : (Jvm.Cond.code ({ cls := "java/util/Objects", name := "requireNonNull", desc := "(Ljava/lang/Object;)Ljava/lang/Object;" } : Jvm.MethodName) jdk_31_method_10_code (1 : Nat) (Option.some (Jvm.ClassFile.FieldType.object "java/lang/Object"))).before a0 Z = true := hw _ (List.mem_of_getElem? (i := 70) rfl)
theorem tw_71 {Z : State} {a0 : Array Value} (hw : ∀ d ∈ tables_1, d.before a0 Z = true) : (Jvm.Cond.castable "java/lang/String" "java/lang/Object").before a0 Z = true := hw _ (List.mem_of_getElem? (i := 71) rfl)
theorem tw_72 {Z : State} {a0 : Array Value} (hw : ∀ d ∈ tables_1, d.before a0 Z = true) : (Jvm.Cond.classLink "java/util/ImmutableCollections" (12 : Nat) "java/util/ImmutableCollections$ListN").before a0 Z = true := hw _ (List.mem_of_getElem? (i := 72) rfl)
theorem tw_73 {Z : State} {a0 : Array Value} (hw : ∀ d ∈ tables_1, d.before a0 Z = true) : (Jvm.Cond.instantiable "java/util/ImmutableCollections$ListN" (2 : Nat)).before a0 Z = true := hw _ (List.mem_of_getElem? (i := 73) rfl)
theorem tw_74 {Z : State} {a0 : Array Value} (hw : ∀ d ∈ tables_1, d.before a0 Z = true) : (Jvm.Cond.methodLinkNest "java/util/ImmutableCollections" (43 : Nat) ({ cls := "java/util/ImmutableCollections$ListN", name := "<init>", desc := "([Ljava/lang/Object;Z)V" } : Jvm.MethodName) "java/util/ImmutableCollections").before a0 Z = true := hw _ (List.mem_of_getElem? (i := 74) rfl)
theorem tw_75 {Z : State} {a0 : Array Value} (hw : ∀ d ∈ tables_1, d.before a0 Z = true) : (Jvm.Cond.instanceMethod ({ cls := "java/util/ImmutableCollections$ListN", name := "<init>", desc := "([Ljava/lang/Object;Z)V" } : Jvm.MethodName)).before a0 Z = true := hw _ (List.mem_of_getElem? (i := 75) rfl)
theorem tw_77 {Z : State} {a0 : Array Value} (hw : ∀ d ∈ tables_1, d.before a0 Z = true) : (Jvm.Cond.code ({ cls := "java/util/ImmutableCollections$ListN", name := "<init>", desc := "([Ljava/lang/Object;Z)V" } : Jvm.MethodName) jdk_45_method_1_code (3 : Nat) (Option.none : Option Jvm.ClassFile.FieldType)).before a0 Z = true := hw _ (List.mem_of_getElem? (i := 77) rfl)
theorem tw_78 {Z : State} {a0 : Array Value} (hw : ∀ d ∈ tables_1, d.before a0 Z = true) : (Jvm.Cond.methodLink "java/util/ImmutableCollections$ListN" (1 : Nat) ({ cls := "java/util/ImmutableCollections$AbstractImmutableList", name := "<init>", desc := "()V" } : Jvm.MethodName)).before a0 Z = true := hw _ (List.mem_of_getElem? (i := 78) rfl)
theorem tw_79 {Z : State} {a0 : Array Value} (hw : ∀ d ∈ tables_1, d.before a0 Z = true) : (Jvm.Cond.instanceMethod ({ cls := "java/util/ImmutableCollections$AbstractImmutableList", name := "<init>", desc := "()V" } : Jvm.MethodName)).before a0 Z = true := hw _ (List.mem_of_getElem? (i := 79) rfl)
theorem tw_82 {Z : State} {a0 : Array Value} (hw : ∀ d ∈ tables_1, d.before a0 Z = true) : (Jvm.Cond.initialized "java/util/ImmutableCollections$AbstractImmutableList").before a0 Z = true := hw _ (List.mem_of_getElem? (i := 82) rfl)
theorem tw_83 {Z : State} {a0 : Array Value} (hw : ∀ d ∈ tables_1, d.before a0 Z = true) : (Jvm.Cond.code ({ cls := "java/util/ImmutableCollections$AbstractImmutableList", name := "<init>", desc := "()V" } : Jvm.MethodName) jdk_46_method_1_code (1 : Nat) (Option.none : Option Jvm.ClassFile.FieldType)).before a0 Z = true := hw _ (List.mem_of_getElem? (i := 83) rfl)
theorem tw_84 {Z : State} {a0 : Array Value} (hw : ∀ d ∈ tables_1, d.before a0 Z = true) : (Jvm.Cond.methodLink "java/util/ImmutableCollections$AbstractImmutableList" (1 : Nat) ({ cls := "java/util/ImmutableCollections$AbstractImmutableCollection", name := "<init>", desc := "()V" } : Jvm.MethodName)).before a0 Z = true := hw _ (List.mem_of_getElem? (i := 84) rfl)
theorem tw_85 {Z : State} {a0 : Array Value} (hw : ∀ d ∈ tables_1, d.before a0 Z = true) : (Jvm.Cond.instanceMethod ({ cls := "java/util/ImmutableCollections$AbstractImmutableCollection", name := "<init>", desc := "()V" } : Jvm.MethodName)).before a0 Z = true := hw _ (List.mem_of_getElem? (i := 85) rfl)
theorem tw_88 {Z : State} {a0 : Array Value} (hw : ∀ d ∈ tables_1, d.before a0 Z = true) : (Jvm.Cond.initialized "java/util/ImmutableCollections$AbstractImmutableCollection").before a0 Z = true := hw _ (List.mem_of_getElem? (i := 88) rfl)
theorem tw_89 {Z : State} {a0 : Array Value} (hw : ∀ d ∈ tables_1, d.before a0 Z = true) : (Jvm.Cond.code ({ cls := "java/util/ImmutableCollections$AbstractImmutableCollection", name := "<init>", desc := "()V" } : Jvm.MethodName) jdk_47_method_1_code (1 : Nat) (Option.none : Option Jvm.ClassFile.FieldType)).before a0 Z = true := hw _ (List.mem_of_getElem? (i := 89) rfl)
theorem tw_90 {Z : State} {a0 : Array Value} (hw : ∀ d ∈ tables_1, d.before a0 Z = true) : (Jvm.Cond.methodLink "java/util/ImmutableCollections$AbstractImmutableCollection" (1 : Nat) ({ cls := "java/util/AbstractCollection", name := "<init>", desc := "()V" } : Jvm.MethodName)).before a0 Z = true := hw _ (List.mem_of_getElem? (i := 90) rfl)
theorem tw_91 {Z : State} {a0 : Array Value} (hw : ∀ d ∈ tables_1, d.before a0 Z = true) : (Jvm.Cond.instanceMethod ({ cls := "java/util/AbstractCollection", name := "<init>", desc := "()V" } : Jvm.MethodName)).before a0 Z = true := hw _ (List.mem_of_getElem? (i := 91) rfl)
theorem tw_94 {Z : State} {a0 : Array Value} (hw : ∀ d ∈ tables_1, d.before a0 Z = true) : (Jvm.Cond.initialized "java/util/AbstractCollection").before a0 Z = true := hw _ (List.mem_of_getElem? (i := 94) rfl)
theorem tw_95 {Z : State} {a0 : Array Value} (hw : ∀ d ∈ tables_1, d.before a0 Z = true) : (Jvm.Cond.code ({ cls := "java/util/AbstractCollection", name := "<init>", desc := "()V" } : Jvm.MethodName) jdk_22_method_1_code (1 : Nat) (Option.none : Option Jvm.ClassFile.FieldType)).before a0 Z = true := hw _ (List.mem_of_getElem? (i := 95) rfl)
theorem tw_96 {Z : State} {a0 : Array Value} (hw : ∀ d ∈ tables_1, d.before a0 Z = true) : (Jvm.Cond.methodLink "java/util/AbstractCollection" (1 : Nat) ({ cls := "java/lang/Object", name := "<init>", desc := "()V" } : Jvm.MethodName)).before a0 Z = true := hw _ (List.mem_of_getElem? (i := 96) rfl)
theorem tw_97 {Z : State} {a0 : Array Value} (hw : ∀ d ∈ tables_1, d.before a0 Z = true) : (Jvm.Cond.fieldLink "java/util/ImmutableCollections$ListN" (13 : Nat) "java/util/ImmutableCollections$ListN" "allowNulls" "Z").before a0 Z = true := hw _ (List.mem_of_getElem? (i := 97) rfl)
theorem tw_98 {Z : State} {a0 : Array Value} (hw : ∀ d ∈ tables_1, d.before a0 Z = true) : (Jvm.Cond.laysFinal "java/util/ImmutableCollections$ListN" "java/util/ImmutableCollections$ListN" "allowNulls" "Z").before a0 Z = true := hw _ (List.mem_of_getElem? (i := 98) rfl)
theorem tw_99 {Z : State} {a0 : Array Value} (hw : ∀ d ∈ tables_1, d.before a0 Z = true) : (Jvm.Cond.methodLink "com/example/dirbound/dirbound/CompositeNameOfPinLaw" (38 : Nat) ({ cls := "java/util/List", name := "get", desc := "(I)Ljava/lang/Object;" } : Jvm.MethodName)).before a0 Z = true := hw _ (List.mem_of_getElem? (i := 99) rfl)
theorem tw_100 {Z : State} {a0 : Array Value} (hw : ∀ d ∈ tables_1, d.before a0 Z = true) : (Jvm.Cond.declares ({ cls := "java/util/List", name := "get", desc := "(I)Ljava/lang/Object;" } : Jvm.MethodName)).before a0 Z = true := hw _ (List.mem_of_getElem? (i := 100) rfl)
theorem tw_101 {Z : State} {a0 : Array Value} (hw : ∀ d ∈ tables_1, d.before a0 Z = true) : (Jvm.Cond.interfaceMethod "java/util/List" "java/util/List" "get" "(I)Ljava/lang/Object;").before a0 Z = true := hw _ (List.mem_of_getElem? (i := 101) rfl)
theorem tw_102 {Z : State} {a0 : Array Value} (hw : ∀ d ∈ tables_1, d.before a0 Z = true) : (Jvm.Cond.selects "java/util/ImmutableCollections$ListN" ({ cls := "java/util/List", name := "get", desc := "(I)Ljava/lang/Object;" } : Jvm.MethodName) ({ cls := "java/util/ImmutableCollections$ListN", name := "get", desc := "(I)Ljava/lang/Object;" } : Jvm.MethodName)).before a0 Z = true := hw _ (List.mem_of_getElem? (i := 102) rfl)
theorem tw_103 {Z : State} {a0 : Array Value} (hw : ∀ d ∈ tables_1, d.before a0 Z = true) : (Jvm.Cond.instanceMethod ({ cls := "java/util/ImmutableCollections$ListN", name := "get", desc := "(I)Ljava/lang/Object;" } : Jvm.MethodName)).before a0 Z = true := hw _ (List.mem_of_getElem? (i := 103) rfl)
theorem tw_104 {Z : State} {a0 : Array Value} (hw : ∀ d ∈ tables_1, d.before a0 Z = true) : (Jvm.Cond.publicMethod ({ cls := "java/util/ImmutableCollections$ListN", name := "get", desc := "(I)Ljava/lang/Object;" } : Jvm.MethodName)).before a0 Z = true := hw _ (List.mem_of_getElem? (i := 104) rfl)
theorem tw_105 {Z : State} {a0 : Array Value} (hw : ∀ d ∈ tables_1, d.before a0 Z = true) : (Jvm.Cond.unhidden "java/util/ImmutableCollections$ListN" "get" "(I)Ljava/lang/Object;").before a0 Z = true := hw _ (List.mem_of_getElem? (i := 105) rfl)
theorem tw_106 {Z : State} {a0 : Array Value} (hw : ∀ d ∈ tables_1, d.before a0 Z = true) : (Jvm.Cond.code ({ cls := "java/util/ImmutableCollections$ListN", name := "get", desc := "(I)Ljava/lang/Object;" } : Jvm.MethodName) jdk_45_method_4_code (2 : Nat) (Option.some (Jvm.ClassFile.FieldType.object "java/lang/Object"))).before a0 Z = true := hw _ (List.mem_of_getElem? (i := 106) rfl)
theorem tw_107 {Z : State} {a0 : Array Value} (hw : ∀ d ∈ tables_1, d.before a0 Z = true) : (Jvm.Cond.methodLink "com/example/dirbound/dirbound/CompositeNameOfPinLaw" (42 : Nat) ({ cls := "java/lang/String", name := "equals", desc := "(Ljava/lang/Object;)Z" } : Jvm.MethodName)).before a0 Z = true := hw _ (List.mem_of_getElem? (i := 107) rfl)
theorem tw_108 {Z : State} {a0 : Array Value} (hw : ∀ d ∈ tables_1, d.before a0 Z = true) : (Jvm.Cond.declares ({ cls := "java/lang/String", name := "equals", desc := "(Ljava/lang/Object;)Z" } : Jvm.MethodName)).before a0 Z = true := hw _ (List.mem_of_getElem? (i := 108) rfl)
theorem tw_109 {Z : State} {a0 : Array Value} (hw : ∀ d ∈ tables_1, d.before a0 Z = true) : (Jvm.Cond.instanceMethod ({ cls := "java/lang/String", name := "equals", desc := "(Ljava/lang/Object;)Z" } : Jvm.MethodName)).before a0 Z = true := hw _ (List.mem_of_getElem? (i := 109) rfl)
theorem tw_110 {Z : State} {a0 : Array Value} (hw : ∀ d ∈ tables_1, d.before a0 Z = true) : (Jvm.Cond.selects "java/lang/String" ({ cls := "java/lang/String", name := "equals", desc := "(Ljava/lang/Object;)Z" } : Jvm.MethodName) ({ cls := "java/lang/String", name := "equals", desc := "(Ljava/lang/Object;)Z" } : Jvm.MethodName)).before a0 Z = true := hw _ (List.mem_of_getElem? (i := 110) rfl)
theorem tw_111 {Z : State} {a0 : Array Value} (hw : ∀ d ∈ tables_1, d.before a0 Z = true) : (Jvm.Cond.code ({ cls := "java/lang/String", name := "equals", desc := "(Ljava/lang/Object;)Z" } : Jvm.MethodName) jdk_42_method_66_code (3 : Nat) (Option.some Jvm.ClassFile.FieldType.boolean)).before a0 Z = true := hw _ (List.mem_of_getElem? (i := 111) rfl)
theorem tw_112 {Z : State} {a0 : Array Value} (hw : ∀ d ∈ tables_1, d.before a0 Z = true) : (Jvm.Cond.methodLink "com/example/dirbound/dirbound/CompositeNameOfPinLaw" (12 : Nat) ({ cls := "java/lang/String", name := "valueOf", desc := "(C)Ljava/lang/String;" } : Jvm.MethodName)).before a0 Z = true := hw _ (List.mem_of_getElem? (i := 112) rfl)
theorem tw_113 {Z : State} {a0 : Array Value} (hw : ∀ d ∈ tables_1, d.before a0 Z = true) : (Jvm.Cond.static ({ cls := "java/lang/String", name := "valueOf", desc := "(C)Ljava/lang/String;" } : Jvm.MethodName)).before a0 Z = true := hw _ (List.mem_of_getElem? (i := 113) rfl)
theorem tw_114 {Z : State} {a0 : Array Value} (hw : ∀ d ∈ tables_1, d.before a0 Z = true) : (Jvm.Cond.code ({ cls := "java/lang/String", name := "valueOf", desc := "(C)Ljava/lang/String;" } : Jvm.MethodName) jdk_42_method_139_code (1 : Nat) (Option.some (Jvm.ClassFile.FieldType.object "java/lang/String"))).before a0 Z = true := hw _ (List.mem_of_getElem? (i := 114) rfl)
theorem tw_115 {Z : State} {a0 : Array Value} (hw : ∀ d ∈ tables_1, d.before a0 Z = true) : (Jvm.Cond.fieldLink "java/lang/String" (38 : Nat) "java/lang/String" "COMPACT_STRINGS" "Z").before a0 Z = true := hw _ (List.mem_of_getElem? (i := 115) rfl)
theorem tw_116 {Z : State} {a0 : Array Value} (hw : ∀ d ∈ tables_1, d.before a0 Z = true) : (Jvm.Cond.methodLink "java/lang/String" (1015 : Nat) ({ cls := "java/lang/StringLatin1", name := "canEncode", desc := "(C)Z" } : Jvm.MethodName)).before a0 Z = true := hw _ (List.mem_of_getElem? (i := 116) rfl)
theorem tw_117 {Z : State} {a0 : Array Value} (hw : ∀ d ∈ tables_1, d.before a0 Z = true) : (Jvm.Cond.static ({ cls := "java/lang/StringLatin1", name := "canEncode", desc := "(C)Z" } : Jvm.MethodName)).before a0 Z = true := hw _ (List.mem_of_getElem? (i := 117) rfl)
theorem tw_118 {Z : State} {a0 : Array Value} (hw : ∀ d ∈ tables_1, d.before a0 Z = true) : (Jvm.Cond.initialized "java/lang/StringLatin1").before a0 Z = true := hw _ (List.mem_of_getElem? (i := 118) rfl)
theorem tw_119 {Z : State} {a0 : Array Value} (hw : ∀ d ∈ tables_1, d.before a0 Z = true) : (Jvm.Cond.code ({ cls := "java/lang/StringLatin1", name := "canEncode", desc := "(C)Z" } : Jvm.MethodName) jdk_43_method_3_code (1 : Nat) (Option.some Jvm.ClassFile.FieldType.boolean)).before a0 Z = true := hw _ (List.mem_of_getElem? (i := 119) rfl)
theorem tw_120 {Z : State} {a0 : Array Value} (hw : ∀ d ∈ tables_1, d.before a0 Z = true) : (Jvm.Cond.classLink "java/lang/String" (10 : Nat) "java/lang/String").before a0 Z = true := hw _ (List.mem_of_getElem? (i := 120) rfl)
theorem tw_121 {Z : State} {a0 : Array Value} (hw : ∀ d ∈ tables_1, d.before a0 Z = true) : (Jvm.Cond.methodLink "java/lang/String" (1018 : Nat) ({ cls := "java/lang/StringLatin1", name := "toBytes", desc := "(C)[B" } : Jvm.MethodName)).before a0 Z = true := hw _ (List.mem_of_getElem? (i := 121) rfl)
theorem tw_122 {Z : State} {a0 : Array Value} (hw : ∀ d ∈ tables_1, d.before a0 Z = true) : (Jvm.Cond.static ({ cls := "java/lang/StringLatin1", name := "toBytes", desc := "(C)[B" } : Jvm.MethodName)).before a0 Z = true := hw _ (List.mem_of_getElem? (i := 122) rfl)
theorem tw_123 {Z : State} {a0 : Array Value} (hw : ∀ d ∈ tables_1, d.before a0 Z = true) : (Jvm.Cond.code ({ cls := "java/lang/StringLatin1", name := "toBytes", desc := "(C)[B" } : Jvm.MethodName) jdk_43_method_46_code (1 : Nat) (Option.some (Jvm.ClassFile.FieldType.array Jvm.ClassFile.FieldType.byte))).before a0 Z = true := hw _ (List.mem_of_getElem? (i := 123) rfl)
theorem tw_124 {Z : State} {a0 : Array Value} (hw : ∀ d ∈ tables_1, d.before a0 Z = true) : (Jvm.Cond.methodLink "java/lang/String" (209 : Nat) ({ cls := "java/lang/String", name := "<init>", desc := "([BB)V" } : Jvm.MethodName)).before a0 Z = true := hw _ (List.mem_of_getElem? (i := 124) rfl)
theorem tw_125 {Z : State} {a0 : Array Value} (hw : ∀ d ∈ tables_1, d.before a0 Z = true) : (Jvm.Cond.instanceMethod ({ cls := "java/lang/String", name := "<init>", desc := "([BB)V" } : Jvm.MethodName)).before a0 Z = true := hw _ (List.mem_of_getElem? (i := 125) rfl)
theorem tw_126 {Z : State} {a0 : Array Value} (hw : ∀ d ∈ tables_1, d.before a0 Z = true) : (Jvm.Cond.code ({ cls := "java/lang/String", name := "<init>", desc := "([BB)V" } : Jvm.MethodName) jdk_42_method_151_code (3 : Nat) (Option.none : Option Jvm.ClassFile.FieldType)).before a0 Z = true := hw _ (List.mem_of_getElem? (i := 126) rfl)
theorem tw_127 {Z : State} {a0 : Array Value} (hw : ∀ d ∈ tables_1, d.before a0 Z = true) : (Jvm.Cond.methodLink "java/lang/String" (177 : Nat) ({ cls := "java/lang/StringUTF16", name := "compress", desc := "([CII)[B" } : Jvm.MethodName)).before a0 Z = true := hw _ (List.mem_of_getElem? (i := 127) rfl)
theorem tw_128 {Z : State} {a0 : Array Value} (hw : ∀ d ∈ tables_1, d.before a0 Z = true) : (Jvm.Cond.static ({ cls := "java/lang/StringUTF16", name := "compress", desc := "([CII)[B" } : Jvm.MethodName)).before a0 Z = true := hw _ (List.mem_of_getElem? (i := 128) rfl)
theorem tw_129 {Z : State} {a0 : Array Value} (hw : ∀ d ∈ tables_1, d.before a0 Z = true) : (Jvm.Cond.initialized "java/lang/StringUTF16").before a0 Z = true := hw _ (List.mem_of_getElem? (i := 129) rfl)
theorem tw_130 {Z : State} {a0 : Array Value} (hw : ∀ d ∈ tables_1, d.before a0 Z = true) : (Jvm.Cond.code ({ cls := "java/lang/StringUTF16", name := "compress", desc := "([CII)[B" } : Jvm.MethodName) jdk_52_method_16_code (6 : Nat) (Option.some (Jvm.ClassFile.FieldType.array Jvm.ClassFile.FieldType.byte))).before a0 Z = true := hw _ (List.mem_of_getElem? (i := 130) rfl)
theorem tw_131 {Z : State} {a0 : Array Value} (hw : ∀ d ∈ tables_1, d.before a0 Z = true) : (Jvm.Cond.methodLink "java/lang/StringUTF16" (115 : Nat) ({ cls := "java/lang/StringUTF16", name := "compress", desc := "([CI[BII)I" } : Jvm.MethodName)).before a0 Z = true := hw _ (List.mem_of_getElem? (i := 131) rfl)
theorem tw_132 {Z : State} {a0 : Array Value} (hw : ∀ d ∈ tables_1, d.before a0 Z = true) : (Jvm.Cond.static ({ cls := "java/lang/StringUTF16", name := "compress", desc := "([CI[BII)I" } : Jvm.MethodName)).before a0 Z = true := hw _ (List.mem_of_getElem? (i := 132) rfl)
theorem tw_133 {Z : State} {a0 : Array Value} (hw : ∀ d ∈ tables_1, d.before a0 Z = true) : (Jvm.Cond.code ({ cls := "java/lang/StringUTF16", name := "compress", desc := "([CI[BII)I" } : Jvm.MethodName) jdk_52_method_21_code (7 : Nat) (Option.some Jvm.ClassFile.FieldType.int)).before a0 Z = true := hw _ (List.mem_of_getElem? (i := 133) rfl)
theorem tw_134 {Z : State} {a0 : Array Value} (hw : ∀ d ∈ tables_1, d.before a0 Z = true) : (Jvm.Cond.methodLink "java/lang/String" (47 : Nat) ({ cls := "java/lang/StringUTF16", name := "coderFromArrayLen", desc := "([BI)B" } : Jvm.MethodName)).before a0 Z = true := hw _ (List.mem_of_getElem? (i := 134) rfl)
theorem tw_135 {Z : State} {a0 : Array Value} (hw : ∀ d ∈ tables_1, d.before a0 Z = true) : (Jvm.Cond.static ({ cls := "java/lang/StringUTF16", name := "coderFromArrayLen", desc := "([BI)B" } : Jvm.MethodName)).before a0 Z = true := hw _ (List.mem_of_getElem? (i := 135) rfl)
theorem tw_136 {Z : State} {a0 : Array Value} (hw : ∀ d ∈ tables_1, d.before a0 Z = true) : (Jvm.Cond.code ({ cls := "java/lang/StringUTF16", name := "coderFromArrayLen", desc := "([BI)B" } : Jvm.MethodName) jdk_52_method_15_code (2 : Nat) (Option.some Jvm.ClassFile.FieldType.byte)).before a0 Z = true := hw _ (List.mem_of_getElem? (i := 136) rfl)
theorem tw_137 {Z : State} {a0 : Array Value} (hw : ∀ d ∈ tables_1, d.before a0 Z = true) : (Jvm.Cond.classLink "java/util/List" (96 : Nat) "java/util/ImmutableCollections$List12").before a0 Z = true := hw _ (List.mem_of_getElem? (i := 137) rfl)
theorem tw_138 {Z : State} {a0 : Array Value} (hw : ∀ d ∈ tables_1, d.before a0 Z = true) : (Jvm.Cond.instantiable "java/util/ImmutableCollections$List12" (2 : Nat)).before a0 Z = true := hw _ (List.mem_of_getElem? (i := 138) rfl)
theorem tw_139 {Z : State} {a0 : Array Value} (hw : ∀ d ∈ tables_1, d.before a0 Z = true) : (Jvm.Cond.initialized "java/util/ImmutableCollections$List12").before a0 Z = true := hw _ (List.mem_of_getElem? (i := 139) rfl)
theorem tw_140 {Z : State} {a0 : Array Value} (hw : ∀ d ∈ tables_1, d.before a0 Z = true) : (Jvm.Cond.methodLink "java/util/List" (100 : Nat) ({ cls := "java/util/ImmutableCollections$List12", name := "<init>", desc := "(Ljava/lang/Object;Ljava/lang/Object;)V" } : Jvm.MethodName)).before a0 Z = true := hw _ (List.mem_of_getElem? (i := 140) rfl)
theorem tw_141 {Z : State} {a0 : Array Value} (hw : ∀ d ∈ tables_1, d.before a0 Z = true) : (Jvm.Cond.instanceMethod ({ cls := "java/util/ImmutableCollections$List12", name := "<init>", desc := "(Ljava/lang/Object;Ljava/lang/Object;)V" } : Jvm.MethodName)).before a0 Z = true := hw _ (List.mem_of_getElem? (i := 141) rfl)
theorem tw_143 {Z : State} {a0 : Array Value} (hw : ∀ d ∈ tables_1, d.before a0 Z = true) : (Jvm.Cond.code ({ cls := "java/util/ImmutableCollections$List12", name := "<init>", desc := "(Ljava/lang/Object;Ljava/lang/Object;)V" } : Jvm.MethodName) jdk_44_method_2_code (3 : Nat) (Option.none : Option Jvm.ClassFile.FieldType)).before a0 Z = true := hw _ (List.mem_of_getElem? (i := 143) rfl)
theorem tw_144 {Z : State} {a0 : Array Value} (hw : ∀ d ∈ tables_1, d.before a0 Z = true) : (Jvm.Cond.methodLink "java/util/ImmutableCollections$List12" (1 : Nat) ({ cls := "java/util/ImmutableCollections$AbstractImmutableList", name := "<init>", desc := "()V" } : Jvm.MethodName)).before a0 Z = true := hw _ (List.mem_of_getElem? (i := 144) rfl)
theorem tw_148 {Z : State} {a0 : Array Value} (hw : ∀ d ∈ tables_1, d.before a0 Z = true) : (Jvm.Cond.methodLink "java/util/ImmutableCollections$List12" (7 : Nat) ({ cls := "java/util/Objects", name := "requireNonNull", desc := "(Ljava/lang/Object;)Ljava/lang/Object;" } : Jvm.MethodName)).before a0 Z = true := hw _ (List.mem_of_getElem? (i := 148) rfl)
theorem tw_149 {Z : State} {a0 : Array Value} (hw : ∀ d ∈ tables_1, d.before a0 Z = true) : (Jvm.Cond.fieldLink "java/util/ImmutableCollections$List12" (13 : Nat) "java/util/ImmutableCollections$List12" "e0" "Ljava/lang/Object;").before a0 Z = true := hw _ (List.mem_of_getElem? (i := 149) rfl)
theorem tw_150 {Z : State} {a0 : Array Value} (hw : ∀ d ∈ tables_1, d.before a0 Z = true) : (Jvm.Cond.laysFinal "java/util/ImmutableCollections$List12" "java/util/ImmutableCollections$List12" "e0" "Ljava/lang/Object;").before a0 Z = true := hw _ (List.mem_of_getElem? (i := 150) rfl)
theorem tw_151 {Z : State} {a0 : Array Value} (hw : ∀ d ∈ tables_1, d.before a0 Z = true) : (Jvm.Cond.fieldLink "java/util/ImmutableCollections$List12" (24 : Nat) "java/util/ImmutableCollections$List12" "e1" "Ljava/lang/Object;").before a0 Z = true := hw _ (List.mem_of_getElem? (i := 151) rfl)
theorem tw_152 {Z : State} {a0 : Array Value} (hw : ∀ d ∈ tables_1, d.before a0 Z = true) : (Jvm.Cond.laysFinal "java/util/ImmutableCollections$List12" "java/util/ImmutableCollections$List12" "e1" "Ljava/lang/Object;").before a0 Z = true := hw _ (List.mem_of_getElem? (i := 152) rfl)
theorem tw_153 {Z : State} {a0 : Array Value} (hw : ∀ d ∈ tables_1, d.before a0 Z = true) : (Jvm.Cond.selects "java/util/ImmutableCollections$List12" ({ cls := "java/util/List", name := "size", desc := "()I" } : Jvm.MethodName) ({ cls := "java/util/ImmutableCollections$List12", name := "size", desc := "()I" } : Jvm.MethodName)).before a0 Z = true := hw _ (List.mem_of_getElem? (i := 153) rfl)
theorem tw_154 {Z : State} {a0 : Array Value} (hw : ∀ d ∈ tables_1, d.before a0 Z = true) : (Jvm.Cond.instanceMethod ({ cls := "java/util/ImmutableCollections$List12", name := "size", desc := "()I" } : Jvm.MethodName)).before a0 Z = true := hw _ (List.mem_of_getElem? (i := 154) rfl)
theorem tw_155 {Z : State} {a0 : Array Value} (hw : ∀ d ∈ tables_1, d.before a0 Z = true) : (Jvm.Cond.publicMethod ({ cls := "java/util/ImmutableCollections$List12", name := "size", desc := "()I" } : Jvm.MethodName)).before a0 Z = true := hw _ (List.mem_of_getElem? (i := 155) rfl)
theorem tw_156 {Z : State} {a0 : Array Value} (hw : ∀ d ∈ tables_1, d.before a0 Z = true) : (Jvm.Cond.unhidden "java/util/ImmutableCollections$List12" "size" "()I").before a0 Z = true := hw _ (List.mem_of_getElem? (i := 156) rfl)
theorem tw_157 {Z : State} {a0 : Array Value} (hw : ∀ d ∈ tables_1, d.before a0 Z = true) : (Jvm.Cond.castable "java/util/ImmutableCollections$List12" "java/util/List").before a0 Z = true := hw _ (List.mem_of_getElem? (i := 157) rfl)
theorem tw_158 {Z : State} {a0 : Array Value} (hw : ∀ d ∈ tables_1, d.before a0 Z = true) : (Jvm.Cond.code ({ cls := "java/util/ImmutableCollections$List12", name := "size", desc := "()I" } : Jvm.MethodName) jdk_44_method_3_code (1 : Nat) (Option.some Jvm.ClassFile.FieldType.int)).before a0 Z = true := hw _ (List.mem_of_getElem? (i := 158) rfl)
theorem tw_159 {Z : State} {a0 : Array Value} (hw : ∀ d ∈ tables_1, d.before a0 Z = true) : (Jvm.Cond.fieldLinkNest "java/util/ImmutableCollections$List12" (19 : Nat) "java/util/ImmutableCollections" "EMPTY" "Ljava/lang/Object;" "java/util/ImmutableCollections").before a0 Z = true := hw _ (List.mem_of_getElem? (i := 159) rfl)
theorem tw_160 {Z : State} {a0 : Array Value} (hw : ∀ d ∈ tables_1, d.before a0 Z = true) : (Jvm.Cond.selects "java/util/ImmutableCollections$List12" ({ cls := "java/util/List", name := "get", desc := "(I)Ljava/lang/Object;" } : Jvm.MethodName) ({ cls := "java/util/ImmutableCollections$List12", name := "get", desc := "(I)Ljava/lang/Object;" } : Jvm.MethodName)).before a0 Z = true := hw _ (List.mem_of_getElem? (i := 160) rfl)
theorem tw_161 {Z : State} {a0 : Array Value} (hw : ∀ d ∈ tables_1, d.before a0 Z = true) : (Jvm.Cond.instanceMethod ({ cls := "java/util/ImmutableCollections$List12", name := "get", desc := "(I)Ljava/lang/Object;" } : Jvm.MethodName)).before a0 Z = true := hw _ (List.mem_of_getElem? (i := 161) rfl)
theorem tw_162 {Z : State} {a0 : Array Value} (hw : ∀ d ∈ tables_1, d.before a0 Z = true) : (Jvm.Cond.publicMethod ({ cls := "java/util/ImmutableCollections$List12", name := "get", desc := "(I)Ljava/lang/Object;" } : Jvm.MethodName)).before a0 Z = true := hw _ (List.mem_of_getElem? (i := 162) rfl)
theorem tw_163 {Z : State} {a0 : Array Value} (hw : ∀ d ∈ tables_1, d.before a0 Z = true) : (Jvm.Cond.unhidden "java/util/ImmutableCollections$List12" "get" "(I)Ljava/lang/Object;").before a0 Z = true := hw _ (List.mem_of_getElem? (i := 163) rfl)
theorem tw_164 {Z : State} {a0 : Array Value} (hw : ∀ d ∈ tables_1, d.before a0 Z = true) : (Jvm.Cond.code ({ cls := "java/util/ImmutableCollections$List12", name := "get", desc := "(I)Ljava/lang/Object;" } : Jvm.MethodName) jdk_44_method_5_code (2 : Nat) (Option.some (Jvm.ClassFile.FieldType.object "java/lang/Object"))).before a0 Z = true := hw _ (List.mem_of_getElem? (i := 164) rfl)
theorem tw_165 {Z : State} {a0 : Array Value} (hw : ∀ d ∈ tables_1, d.before a0 Z = true) : (Jvm.Cond.methodLink "java/util/List" (98 : Nat) ({ cls := "java/util/ImmutableCollections$List12", name := "<init>", desc := "(Ljava/lang/Object;)V" } : Jvm.MethodName)).before a0 Z = true := hw _ (List.mem_of_getElem? (i := 165) rfl)
theorem tw_166 {Z : State} {a0 : Array Value} (hw : ∀ d ∈ tables_1, d.before a0 Z = true) : (Jvm.Cond.instanceMethod ({ cls := "java/util/ImmutableCollections$List12", name := "<init>", desc := "(Ljava/lang/Object;)V" } : Jvm.MethodName)).before a0 Z = true := hw _ (List.mem_of_getElem? (i := 166) rfl)
theorem tw_167 {Z : State} {a0 : Array Value} (hw : ∀ d ∈ tables_1, d.before a0 Z = true) : (Jvm.Cond.code ({ cls := "java/util/ImmutableCollections$List12", name := "<init>", desc := "(Ljava/lang/Object;)V" } : Jvm.MethodName) jdk_44_method_1_code (2 : Nat) (Option.none : Option Jvm.ClassFile.FieldType)).before a0 Z = true := hw _ (List.mem_of_getElem? (i := 167) rfl)
section OwnStart
variable {args : Array Value} {first s : State} {o : Option Outcome} {idx : List Nat} {t : Term}
theorem own_eqI {k : Int32} (h : (Jvm.Cond.eq t (Term.int k)).value args first o s idx = some true) : t.eval args first o idx s = some (.int k) := by
  cases ht : t.eval args first o idx s with
  | none => simp [Cond.value, ht] at h
  | some x => cases x <;> simp [Cond.value, ht, Term.eval] at h; subst h; rfl
theorem own_len {a : Addr} {cl : Cell} {ty : FieldType} {n : Int32} (ev : t.eval args s none [] s = some (.ref a)) (A : Arr s s.heap a cl ty) (h : (Jvm.Cond.eq (.length t) (Term.int n)).value args s none s [] = some true) : cl.slots.size < 2 ^ 31 ∧ cl.slots.size.toInt32 = n := by
  have h1 := own_eqI h
  have h2 : s.arrayAt? a = some cl := Arr.fin (Vm.Alike.refl _) A
  simp only [Term.eval, ev, Bind.bind, Option.bind, h2, Pure.pure] at h1
  split at h1
  · exact ⟨by assumption, by simpa using h1⟩
  · simp at h1
end OwnStart

section OwnAuto
theorem own_rlit {k : Int32} {n : Int} (h : k.toInt = n) : n ≤ k.toInt ∧ k.toInt ≤ n := by omega
theorem own_rand {x m z : Int32} {k : Int} (h : (x &&& m) = z) (hm : 0 ≤ m.toInt ∧ m.toInt = k) : 0 ≤ z.toInt ∧ z.toInt ≤ k := by subst h; have := c_and x m hm.1; omega
theorem own_ri2b {x z : Int32} (h : (x.toInt8.toInt32) = z) : -128 ≤ z.toInt ∧ z.toInt ≤ 127 := by subst h; have := c_i2b x; omega
theorem own_rushr {x q z : Int32} {k : Nat} {B : Int} (h : ((x.toUInt32 >>> (q &&& 31).toUInt32).toInt32) = z) (hk : q.toBitVec.toNat % 32 = k) (h0 : 0 < k) (hB : (4294967295 : Int) / ((2 ^ k : Nat) : Int) ≤ B) : 0 ≤ z.toInt ∧ z.toInt ≤ B := by
  subst h
  rw [c_iushr x q k hk h0]
  have h1 : 0 ≤ x.toInt % 4294967296 := Int.emod_nonneg _ (by decide)
  have h2 : x.toInt % 4294967296 ≤ 4294967295 := by have := Int.emod_lt_of_pos x.toInt (by decide : (0 : Int) < 4294967296); omega
  have hp : (0 : Int) < ((2 ^ k : Nat) : Int) := Int.ofNat_lt.mpr (Nat.two_pow_pos k)
  exact ⟨Int.ediv_nonneg h1 (Int.le_of_lt hp), Int.le_trans (Int.ediv_le_ediv hp h2) hB⟩
theorem own_rrem {x y z : Int32} {d a b B : Int} (h : (x % y) = z) (hy : y.toInt = d) (hd : 0 < d) (hr : a ≤ x.toInt ∧ x.toInt ≤ b) (ha : 0 ≤ a) (hB : d = B + 1) : 0 ≤ z.toInt ∧ z.toInt ≤ B := by
  subst h
  have e := (c_irem x y d hy).1 (by omega)
  rw [e]
  have h1 := Int.emod_nonneg x.toInt (by omega : d ≠ 0)
  have h2 := Int.emod_lt_of_pos x.toInt hd
  omega
theorem own_i2c_id {x : Int32} {a b : Int} (hr : a ≤ x.toInt ∧ x.toInt ≤ b) (ha : 0 ≤ a) (hb : b ≤ 65535) : (x.toUInt32.toUInt16.toUInt32.toInt32) = x := by apply Int32.toInt_inj.mp; have := c_i2c x; omega
theorem own_i2b_id {x : Int32} {a b : Int} (hr : a ≤ x.toInt ∧ x.toInt ≤ b) (ha : -128 ≤ a) (hb : b ≤ 127) : (x.toInt8.toInt32) = x := by apply Int32.toInt_inj.mp; have := c_i2b x; omega
theorem own_nar_byte {x : Int32} {a b : Int} (hr : a ≤ x.toInt ∧ x.toInt ≤ b) (ha : -128 ≤ a) (hb : b ≤ 127) : nar .byte x = x := own_i2b_id hr ha hb
theorem own_nar_char {x : Int32} {a b : Int} (hr : a ≤ x.toInt ∧ x.toInt ≤ b) (ha : 0 ≤ a) (hb : b ≤ 65535) : nar .char x = x := own_i2c_id hr ha hb
theorem own_nlt_r {x y : Int32} {a b c d : Int} (hx : a ≤ x.toInt ∧ x.toInt ≤ b) (hy : c ≤ y.toInt ∧ y.toInt ≤ d) (h : d ≤ a) : ¬ x < y := by rw [Int32.lt_iff_toInt_lt]; omega
end OwnAuto

def EL0 : List (String × Nat) := [("java/lang/String", 7)]
theorem own_EW {Z : State} {a0 : Array Value} (hw : ∀ d ∈ tables_1, d.before a0 Z = true) : EW Z a0 EL0 := (EW.cons (tw_18 hw) (by decide) EW.nil)
theorem own_SA {Z : State} {a0 : Array Value} (hw : ∀ d ∈ tables_1, d.before a0 Z = true) : ∀ a ∈ Bundle.stringAtoms, a.before a0 Z = true := fun a ha => hw a ((by decide +kernel : ∀ w ∈ Bundle.stringAtoms, w ∈ tables_1) a ha)
def Glob (Z : State) (ga1 : Addr) (ga5 : Addr) (gz13 : Int32) (ga17 : Addr) (gv23 : Value) (gk27 : ClassId) : Prop := Sta Z Z.heap "java/util/ImmutableCollections" "EMPTY_LIST" "Ljava/util/ImmutableCollections$ListN;" (.ref ga1) ∧ Exa Z Z.heap ga1 "java/util/ImmutableCollections$ListN" ∧ Fld Z Z.heap ga1 "java/util/ImmutableCollections$ListN" "elements" "[Ljava/lang/Object;" (.ref ga5) ∧ Exa Z Z.heap ga5 "[Ljava/lang/Object;" ∧ Fld Z Z.heap ga1 "java/util/ImmutableCollections$ListN" "allowNulls" "Z" (.int 0) ∧ Sta Z Z.heap "java/lang/String" "COMPACT_STRINGS" "Z" (.int gz13) ∧ Sta Z Z.heap "java/util/ImmutableCollections" "EMPTY" "Ljava/lang/Object;" (.ref ga17) ∧ Exa Z Z.heap ga17 "java/lang/Object" ∧ Sta Z Z.heap "java/util/ImmutableCollections" "$assertionsDisabled" "Z" (.int 1) ∧ Sta Z Z.heap "jdk/internal/util/Preconditions" "SIOOBE_FORMATTER" "Ljava/util/function/BiFunction;" gv23 ∧ Arv Z Z.heap ga5 gk27 (.object "java/lang/Object") (0 : Int32) [] .null ∧ ¬ gz13 = (0 : Int32) ∧ gv23.isRef = true
theorem d1_0 : decode method_2_code 0 = .ok (.iload_n 0, 1) := by decide +kernel
theorem d1_1 : decode method_2_code 1 = .ok (.bipush 24, 2) := by decide +kernel
theorem d1_3 : decode method_2_code 3 = .ok (.iushr, 1) := by decide +kernel
theorem d1_4 : decode method_2_code 4 = .ok (.iconst 3, 1) := by decide +kernel
theorem d1_5 : decode method_2_code 5 = .ok (.irem, 1) := by decide +kernel
theorem d1_6 : decode method_2_code 6 = .ok (.istore_n 1, 1) := by decide +kernel
theorem d1_7 : decode method_2_code 7 = .ok (.iload_n 0, 1) := by decide +kernel
theorem d1_8 : decode method_2_code 8 = .ok (.sipush 255, 3) := by decide +kernel
theorem d1_11 : decode method_2_code 11 = .ok (.iand, 1) := by decide +kernel
theorem d1_12 : decode method_2_code 12 = .ok (.i2c, 1) := by decide +kernel
theorem d1_13 : decode method_2_code 13 = .ok (.istore_n 2, 1) := by decide +kernel
theorem d1_14 : decode method_2_code 14 = .ok (.iload_n 0, 1) := by decide +kernel
theorem d1_15 : decode method_2_code 15 = .ok (.bipush 8, 2) := by decide +kernel
theorem d1_17 : decode method_2_code 17 = .ok (.iushr, 1) := by decide +kernel
theorem d1_18 : decode method_2_code 18 = .ok (.sipush 255, 3) := by decide +kernel
theorem d1_21 : decode method_2_code 21 = .ok (.iand, 1) := by decide +kernel
theorem d1_22 : decode method_2_code 22 = .ok (.i2c, 1) := by decide +kernel
theorem d1_23 : decode method_2_code 23 = .ok (.istore_n 3, 1) := by decide +kernel
theorem d1_24 : decode method_2_code 24 = .ok (.iload_n 1, 1) := by decide +kernel
theorem d1_25 : decode method_2_code 25 = .ok (.ifCond .ne 14, 3) := by decide +kernel
theorem d1_28 : decode method_2_code 28 = .ok (.new 7, 3) := by decide +kernel
theorem d1_31 : decode method_2_code 31 = .ok (.dup, 1) := by decide +kernel
theorem d1_32 : decode method_2_code 32 = .ok (.iconst 0, 1) := by decide +kernel
theorem d1_33 : decode method_2_code 33 = .ok (.newarray .char, 2) := by decide +kernel
theorem d2_0 : decode jdk_42_method_3_code 0 = .ok (.aload_n 0, 1) := by decide +kernel
theorem d2_1 : decode jdk_42_method_3_code 1 = .ok (.aload_n 1, 1) := by decide +kernel
theorem d2_2 : decode jdk_42_method_3_code 2 = .ok (.iconst 0, 1) := by decide +kernel
theorem d2_3 : decode jdk_42_method_3_code 3 = .ok (.aload_n 1, 1) := by decide +kernel
theorem d2_4 : decode jdk_42_method_3_code 4 = .ok (.arraylength, 1) := by decide +kernel
theorem d2_5 : decode jdk_42_method_3_code 5 = .ok (.aconst_null, 1) := by decide +kernel
theorem d3_0 : decode jdk_42_method_149_code 0 = .ok (.aload_n 0, 1) := by decide +kernel
theorem d3_1 : decode jdk_42_method_149_code 1 = .ok (.invokespecial 1, 3) := by decide +kernel
theorem d3_4 : decode jdk_42_method_149_code 4 = .ok (.iload_n 3, 1) := by decide +kernel
theorem d3_5 : decode jdk_42_method_149_code 5 = .ok (.ifCond .ne 22, 3) := by decide +kernel
theorem d3_8 : decode jdk_42_method_149_code 8 = .ok (.aload_n 0, 1) := by decide +kernel
theorem d3_9 : decode jdk_42_method_149_code 9 = .ok (.ldc 7, 2) := by decide +kernel
theorem d3_11 : decode jdk_42_method_149_code 11 = .ok (.getfield 9, 3) := by decide +kernel
theorem d3_14 : decode jdk_42_method_149_code 14 = .ok (.putfield 9, 3) := by decide +kernel
theorem d3_17 : decode jdk_42_method_149_code 17 = .ok (.aload_n 0, 1) := by decide +kernel
theorem d3_18 : decode jdk_42_method_149_code 18 = .ok (.ldc 7, 2) := by decide +kernel
theorem d3_20 : decode jdk_42_method_149_code 20 = .ok (.getfield 15, 3) := by decide +kernel
theorem d3_23 : decode jdk_42_method_149_code 23 = .ok (.putfield 15, 3) := by decide +kernel
theorem d3_26 : decode jdk_42_method_149_code 26 = .ok (.return_, 1) := by decide +kernel
theorem ef_3_RRIIN (m : MethodId) (x0 : Addr) (x1 : Addr) (x2 : Int32) (x3 : Int32)  : entryFrame m #[(.ref x0), (.ref x1), (.int x2), (.int x3), .null] 6 = mkF m 0 #[.val (.ref x0), .val (.ref x1), .val (.int x2), .val (.int x3), .val .null, .unset] [] := by first | (simp [entryFrame, mkF, argsToLocals, Value.category]; done) | rfl
theorem pn_c0 : plainName "java/lang/String" = true := by first | (simp [plainName, overriddenIn]; done) | decide +kernel
-- java/lang/String.init
set_option maxRecDepth 65536 in
set_option maxHeartbeats 4000000 in
theorem au_4 (l : Launch) (Z : State) (a0 : Array Value) (hw : ∀ d ∈ tables_1, d.before a0 Z = true) (x0 : Addr) (x1 : Addr) (ga1 : Addr) (ga5 : Addr) (gz13 : Int32) (ga17 : Addr) (gv23 : Value) (gk27 : ClassId) (h0 : Heap) (n0 : Nat) (Z0 : n0 ≤ h0.size) (G : Glob Z ga1 ga5 gz13 ga17 gv23 gk27) (P0 : Exa Z h0 x0 "java/lang/String") (P1 : Fld Z h0 x0 "java/lang/String" "coder" "B" (.int 0)) (P2 : Fld Z h0 x0 "java/lang/String" "value" "[B" .null) (g_x0 : n0 ≤ x0) :
    CtrW l Z EL0 (⟨"java/lang/String", "<init>", "([CIILjava/lang/Void;)V"⟩ : MethodName) jdk_42_method_149_code 6 none ({ frames := 1, cells := 4, slots := 8, locals := 12 } : Room) #[(.ref x0), (.ref x1), (.int 0), (.int 0), .null] h0 [x0] (fun v vm h L => ∃ (b2 : Addr) (k2 : ClassId), v = none ∧ Fr n0 L ∧ Keep h0 h [x0] ∧ Exa Z h x0 "java/lang/String" ∧ Fld Z h x0 "java/lang/String" "coder" "B" (.int 0) ∧ Fld Z h x0 "java/lang/String" "value" "[B" (.ref b2) ∧ Arv Z h b2 k2 .byte (0 : Int32) [] (.int (0 : Int32))) := by
  refine CtrW.of (plainFor_of_name pn_c0) ?_
  intro p e s m below meth c T0 hx hZ hby hml hown hnm hret hlk e0 es hS0 C0 hsf X0
  have G' := G
  obtain ⟨-, -, G2, -, -, -, -, -, -, -, -, G11, -⟩ := G'
  refine Go.cast (ef_3_RRIIN m x0 x1 (0 : Int32) (0 : Int32)) ?_
  generalize hFF : EndW Z EL0 s _ _ _ = FF
  refine Go.aloadN X0 hx (pc' := 1) rfl (hb hby d3_0) rfl rfl ?_
  refine Go.initO X0 hx hZ hown (tw_15 hw) (tw_16 hw) (tw_17 hw) e0 (by decide) (W := 0) (by rw [hml]; rfl) (Nat.le_of_eq rfl) (by decide) (pc' := 4) rfl (hb hby d3_1) ?_
  intro T1 e1 X1
  refine Go.iloadN X1 hx (pc' := 5) rfl (hb hby d3_4) rfl ?_
  refine Go.ifNo X1 hx (pc' := 8) rfl (hb hby d3_5) (by decide) ?_
  refine Go.aloadN X1 hx (pc' := 9) rfl (hb hby d3_8) rfl rfl ?_
  refine Go.ldcCH X1 hx hZ hown (tw_18 hw) (own_SA hw) e1 hS0 (Nat.le_refl _) (own_EW hw) (List.mem_of_getElem? (i := 0) rfl) C0.1 (vs := []) (z := (0 : Int32)) (by decide) (by decide) rfl (n := 0) (by decide) (by decide) (by decide) (by decide) (pc' := 11) rfl (hb hby d3_9) ?_
  intro a2 T2 h2 j2 b2 k2 e2 E2 S2 i2 Z2 O2 A2 F2 G2 V2 C2 D2 X2
  refine Go.getF X2 hx Z2 O2 (host := "") (Or.inl (tw_24 hw)) Via.refl e2 G2 (pc' := 14) rfl (hb hby d3_11) ?_
  intro T3 e3 X3
  have fk4 : Fld Z h2 x0 "java/lang/String" "value" "[B" .null := (P2.ext E2)
  have fk5 : Exa Z h2 x0 "java/lang/String" := (P0.ext E2)
  refine Go.putF X3 hx Z2 O2 (host := "") (Or.inl (tw_24 hw)) Via.refl e3 fk4 fk5 (Or.inr ⟨(tw_20 hw), rfl, hnm⟩) (tw_5 hw) (ty := (.array .byte)) (by decide) rfl rfl (pc' := 17) rfl (hb hby d3_14) ?_
  intro T6 h6 e6 W6 F6 X6
  have N6 := Fr.snoc X6 (Fr.nil n0) g_x0
  refine Go.aloadN X6 hx (pc' := 18) rfl (hb hby d3_17) rfl rfl ?_
  have C7 : CHr Z EL0 s.vm s.heap T2.vm h2 := (C0.trans C2)
  have fk8 : Safe Z EL0 T2.vm h2 x0 := (C2.safe P0.lt (hsf _ (List.mem_of_getElem? (i := 0) rfl)))
  have C9 : CHr Z EL0 s.vm s.heap T2.vm h6 := (C7.trans (CHr.wr W6 fk8 C7.1))
  have hk10 := (Nat.le_trans i2 (Keep.of_wr W6).1)
  refine Go.ldcCH X6 hx Z2 O2 (tw_18 hw) (own_SA hw) e6 S2 hk10 (own_EW hw) (List.mem_of_getElem? (i := 0) rfl) C9.1 (vs := []) (z := (0 : Int32)) (by decide) (by decide) rfl (n := 0) (by decide) (by decide) (by decide) (by decide) (pc' := 20) rfl (hb hby d3_18) ?_
  intro a11 T11 h11 j11 b11 k11 e11 E11 S11 i11 Z11 O11 A11 F11 G11 V11 C11 D11 X11
  refine Go.getF X11 hx Z11 O11 (host := "") (Or.inl (tw_25 hw)) Via.refl e11 F11 (pc' := 23) rfl (hb hby d3_20) ?_
  intro T12 e12 X12
  have fk13 : Fld Z h11 x0 "java/lang/String" "coder" "B" (.int 0) := (((P1.ext E2).other W6 (Or.inr (slot_ne (Or.inr (tw_21 hw)) (Or.inr (tw_20 hw)) (by decide) (t := .byte) (t' := (.array .byte)) (by decide) (by decide)))).ext E11)
  have fk14 : Exa Z h11 x0 "java/lang/String" := ((fk5.wr W6).ext E11)
  refine Go.putFN X12 hx Z11 O11 (tw_25 hw) Via.refl e12 fk13 fk14 (Or.inr ⟨(tw_21 hw), rfl, hnm⟩) (tw_5 hw) (ty := .byte) (v' := (.int 0)) (by decide) (by decide) (by decide) (pc' := 26) rfl (hb hby d3_23) ?_
  intro T15 h15 e15 W15 F15 X15
  have N15 := Fr.snoc X15 N6 g_x0
  subst hFF
  have C16 : CHr Z EL0 s.vm s.heap T11.vm h11 := (C9.trans C11)
  have fk17 : Safe Z EL0 T2.vm h6 x0 := (Safe.wr W6 fk8 C7.1 fk8)
  have fk18 : Exa Z h6 x0 "java/lang/String" := (fk5.wr W6)
  have fk19 : Safe Z EL0 T11.vm h11 x0 := (C11.safe fk18.lt fk17)
  have C20 : CHr Z EL0 s.vm s.heap T11.vm h15 := (C16.trans (CHr.wr W15 fk19 C16.1))
  have hk21 := (Nat.le_trans i11 (Keep.of_wr W15).1)
  refine Go.ret0W X15 hx hlk Z11 (own_EW hw) e15 S11 hk21 C20 hret (hb hby d3_26) (by decide) (by decide) (fun hat => ?_)
  have fk22 : Exa Z h15 x0 "java/lang/String" := (fk14.wr W15)
  have fk23 : Fld Z h15 x0 "java/lang/String" "value" "[B" (.ref b2) := ((F6.ext E11).other W15 (Or.inr (slot_ne (Or.inr (tw_20 hw)) (Or.inr (tw_21 hw)) (by decide) (t := (.array .byte)) (t' := .byte) (by decide) (by decide))))
  have fk24 := (((V2.other W6 (Ne.symm (D2 x0 fk8).2)).ext E11).other W15 (Ne.symm (D2 x0 fk8).2))
  have Kp25 : Keep h0 h2 [x0] := ((Keep.refl h0 [x0]).ext E2)
  have Kp26 : Keep h0 h6 [x0] := (Kp25.wr W6 (Or.inl (List.mem_of_getElem? (i := 0) rfl)))
  have Kp27 : Keep h0 h11 [x0] := (Kp26.ext E11)
  have Kp28 : Keep h0 h15 [x0] := (Kp27.wr W15 (Or.inl (List.mem_of_getElem? (i := 0) rfl)))
  exact ⟨b2, k2, rfl, N15, Kp28, fk22, F15, fk23, fk24⟩
theorem pd_0 : parseMethodDescriptor "([CIILjava/lang/Void;)V" = some ⟨[(.array .char), .int, .int, (.object "java/lang/Void")], none⟩ := by decide +kernel
theorem d2_6 : decode jdk_42_method_3_code 6 = .ok (.invokespecial 27, 3) := by decide +kernel
theorem d2_9 : decode jdk_42_method_3_code 9 = .ok (.return_, 1) := by decide +kernel
theorem ef_2_RR (m : MethodId) (x0 : Addr) (x1 : Addr) : entryFrame m #[(.ref x0), (.ref x1)] 2 = mkF m 0 #[.val (.ref x0), .val (.ref x1)] [] := by first | (simp [entryFrame, mkF, argsToLocals, Value.category]; done) | rfl
-- java/lang/String.init
set_option maxRecDepth 65536 in
set_option maxHeartbeats 4000000 in
theorem au_5 (l : Launch) (Z : State) (a0 : Array Value) (hw : ∀ d ∈ tables_1, d.before a0 Z = true) (x0 : Addr) (x1 : Addr) (kk0 : ClassId) (ga1 : Addr) (ga5 : Addr) (gz13 : Int32) (ga17 : Addr) (gv23 : Value) (gk27 : ClassId) (h0 : Heap) (n0 : Nat) (Z0 : n0 ≤ h0.size) (G : Glob Z ga1 ga5 gz13 ga17 gv23 gk27) (P0 : Exa Z h0 x0 "java/lang/String") (P1 : Fld Z h0 x0 "java/lang/String" "coder" "B" (.int 0)) (P2 : Fld Z h0 x0 "java/lang/String" "value" "[B" .null) (P3 : Arv Z h0 x1 kk0 .char (0 : Int32) [] (.int 0)) (g_x0 : n0 ≤ x0) :
    CtrW l Z EL0 (⟨"java/lang/String", "<init>", "([C)V"⟩ : MethodName) jdk_42_method_3_code 2 none ({ frames := 2, cells := 4, slots := 8, locals := 29 } : Room) #[(.ref x0), (.ref x1)] h0 [x0] (fun v vm h L => ∃ (b1_0 : Addr) (k1_0 : ClassId), v = none ∧ Fr n0 L ∧ Keep h0 h [x0] ∧ Exa Z h x0 "java/lang/String" ∧ Fld Z h x0 "java/lang/String" "coder" "B" (.int 0) ∧ Fld Z h x0 "java/lang/String" "value" "[B" (.ref b1_0) ∧ Arv Z h b1_0 k1_0 .byte (0 : Int32) [] (.int (0 : Int32))) := by
  refine CtrW.of (plainFor_of_name pn_c0) ?_
  intro p e s m below meth c T0 hx hZ hby hml hown hnm hret hlk e0 es hS0 C0 hsf X0
  refine Go.cast (ef_2_RR m x0 x1) ?_
  generalize hFF : EndW Z EL0 s _ _ _ = FF
  refine Go.aloadN X0 hx (pc' := 1) rfl (hb hby d2_0) rfl rfl ?_
  refine Go.aloadN X0 hx (pc' := 2) rfl (hb hby d2_1) rfl rfl ?_
  refine Go.iconst X0 hx (pc' := 3) rfl (hb hby d2_2) (v := (0 : Int32)) rfl ?_
  refine Go.aloadN X0 hx (pc' := 4) rfl (hb hby d2_3) rfl rfl ?_
  refine Go.arraylength X0 hx hZ e0 P3 (pc' := 5) rfl (hb hby d2_4) ?_
  refine Go.anull X0 hx (pc' := 6) rfl (hb hby d2_5) ?_
  refine Go.callNW X0 hx hZ hown rfl (tw_11 hw) (tw_12 hw) (tw_14 hw) (by decide) (tw_14 hw) (tw_6 hw) (au_4 l Z a0 hw x0 x1 ga1 ga5 gz13 ga17 gv23 gk27 h0 n0 Z0 G P0 P1 P2 g_x0) (own_EW hw) C0.1 (allS ⟨P0.lt, (hsf _ (List.mem_of_getElem? (i := 0) rfl))⟩ all0) hS0 (Nat.le_refl _) e0 (a := x0) (argsL := [(.ref x1), (.int 0), (.int 0), .null]) (rest := []) (pc' := 9) rfl (by rw [hml]; rfl) (lenOf pd_0 rfl) rfl rfl (W := 0) (Nat.le_of_eq rfl) (by decide) (by decide) (by decide) (by decide) (hb hby d2_6) ?_
  intro v1 T1 L1 h1 e1 q1 C1 S1 Z1 O1 X1
  obtain ⟨b1_0, k1_0, rfl, N1, K1, F1_0, F1_1, F1_2, F1_3⟩ := q1
  show Go _ _ _ _ (T1.setTop (mkF m 9 #[.val (.ref x0), .val (.ref x1)] []))
  subst hFF
  have C2 : CHr Z EL0 s.vm s.heap T1.vm h1 := (C0.trans C1)
  refine Go.ret0W X1 hx hlk Z1 (own_EW hw) e1 S1 (Nat.le_refl _) C2 hret (hb hby d2_9) (by decide) (by decide) (fun hat => ?_)
  have Kp3 : Keep h0 h1 [x0] := ((Keep.refl h0 [x0]).trans K1 (allS (Or.inl (List.mem_of_getElem? (i := 0) rfl)) all0))
  exact ⟨b1_0, k1_0, rfl, (Fr.app (Fr.nil n0) N1), Kp3, F1_0, F1_1, F1_2, F1_3⟩
theorem pd_1 : parseMethodDescriptor "([C)V" = some ⟨[(.array .char)], none⟩ := by decide +kernel
theorem d1_35 : decode method_2_code 35 = .ok (.invokespecial 9, 3) := by decide +kernel
theorem d1_38 : decode method_2_code 38 = .ok (.areturn, 1) := by decide +kernel
theorem d1_39 : decode method_2_code 39 = .ok (.iload_n 1, 1) := by decide +kernel
theorem d1_40 : decode method_2_code 40 = .ok (.iconst 1, 1) := by decide +kernel
theorem d1_41 : decode method_2_code 41 = .ok (.if_icmp .ne 8, 3) := by decide +kernel
theorem d1_44 : decode method_2_code 44 = .ok (.iload_n 2, 1) := by decide +kernel
theorem d18_0 : decode jdk_42_method_139_code 0 = .ok (.getstatic 38, 3) := by decide +kernel
theorem d18_3 : decode jdk_42_method_139_code 3 = .ok (.ifCond .eq 23, 3) := by decide +kernel
theorem d18_6 : decode jdk_42_method_139_code 6 = .ok (.iload_n 0, 1) := by decide +kernel
theorem d19_0 : decode jdk_43_method_3_code 0 = .ok (.iload_n 0, 1) := by decide +kernel
theorem d19_1 : decode jdk_43_method_3_code 1 = .ok (.sipush 255, 3) := by decide +kernel
theorem d19_4 : decode jdk_43_method_3_code 4 = .ok (.if_icmp .gt 7, 3) := by decide +kernel
theorem d19_7 : decode jdk_43_method_3_code 7 = .ok (.iconst 1, 1) := by decide +kernel
theorem d19_8 : decode jdk_43_method_3_code 8 = .ok (.goto 4, 3) := by decide +kernel
theorem d19_12 : decode jdk_43_method_3_code 12 = .ok (.ireturn, 1) := by decide +kernel
theorem ef_19_I (m : MethodId) (x0 : Int32) : entryFrame m #[(.int x0)] 1 = mkF m 0 #[.val (.int x0)] [] := by first | (simp [entryFrame, mkF, argsToLocals, Value.category]; done) | rfl
theorem pn_c1 : plainName "java/lang/StringLatin1" = true := by first | (simp [plainName, overriddenIn]; done) | decide +kernel
-- java/lang/StringLatin1.canEncode
set_option maxRecDepth 65536 in
set_option maxHeartbeats 4000000 in
theorem au_8 (l : Launch) (Z : State) (a0 : Array Value) (hw : ∀ d ∈ tables_1, d.before a0 Z = true) (p0 : Int32) (h0 : Heap) (n0 : Nat) (Z0 : n0 ≤ h0.size) (R_p0 : 0 ≤ p0.toInt ∧ p0.toInt ≤ 255) :
    Ctr l Z (⟨"java/lang/StringLatin1", "canEncode", "(C)Z"⟩ : MethodName) jdk_43_method_3_code 1 (some .boolean) ({ frames := 0, cells := 0, slots := 0, locals := 0 } : Room) #[(.int p0)] h0 (fun v h L => v = some (.int 1) ∧ Fr n0 L ∧ h = h0) := by
  refine Ctr.of (plainFor_of_name pn_c1) ?_
  intro p e s m below meth c T0 hx hZ hby hml hown hnm hret hlk e0 es X0
  refine Go.cast (ef_19_I m p0) ?_
  generalize hFF : EndN s _ _ _ = FF
  refine Go.iloadN X0 hx (pc' := 1) rfl (hb hby d19_0) rfl ?_
  refine Go.sipush X0 hx (pc' := 4) rfl (hb hby d19_1) (v := (255 : Int32)) (by decide) ?_
  refine Go.icmpNo X0 hx (pc' := 7) rfl (hb hby d19_4) (flt (own_nlt_r (own_rlit (n := 255) (by decide)) R_p0 (by decide))).2.2.1 ?_
  refine Go.iconst X0 hx (pc' := 8) rfl (hb hby d19_7) (v := (1 : Int32)) rfl ?_
  refine Go.goto X0 hx (pc' := 12) (hb hby d19_8) (by decide) (by decide) ?_
  subst hFF
  refine Go.retN X0 hx hlk (t := .boolean) hret (by simp) (hb hby d19_12) (by decide) (by decide) ?_
  rw [e0]
  exact ⟨(congrArg (fun z => some (Value.int z)) (by decide : nar .boolean (1 : Int32) = (1 : Int32))), (Fr.nil n0), rfl⟩
theorem pd_2 : parseMethodDescriptor "(C)Z" = some ⟨[.char], some .boolean⟩ := by decide +kernel
theorem d18_7 : decode jdk_42_method_139_code 7 = .ok (.invokestatic 1015, 3) := by decide +kernel
theorem d18_10 : decode jdk_42_method_139_code 10 = .ok (.ifCond .eq 16, 3) := by decide +kernel
theorem d18_13 : decode jdk_42_method_139_code 13 = .ok (.new 10, 3) := by decide +kernel
theorem d18_16 : decode jdk_42_method_139_code 16 = .ok (.dup, 1) := by decide +kernel
theorem d18_17 : decode jdk_42_method_139_code 17 = .ok (.iload_n 0, 1) := by decide +kernel
theorem d20_0 : decode jdk_43_method_46_code 0 = .ok (.iconst 1, 1) := by decide +kernel
theorem d20_1 : decode jdk_43_method_46_code 1 = .ok (.newarray .byte, 2) := by decide +kernel
theorem d20_3 : decode jdk_43_method_46_code 3 = .ok (.dup, 1) := by decide +kernel
theorem d20_4 : decode jdk_43_method_46_code 4 = .ok (.iconst 0, 1) := by decide +kernel
theorem d20_5 : decode jdk_43_method_46_code 5 = .ok (.iload_n 0, 1) := by decide +kernel
theorem d20_6 : decode jdk_43_method_46_code 6 = .ok (.i2b, 1) := by decide +kernel
theorem d20_7 : decode jdk_43_method_46_code 7 = .ok (.bastore, 1) := by decide +kernel
theorem d20_8 : decode jdk_43_method_46_code 8 = .ok (.areturn, 1) := by decide +kernel
theorem ef_20_I (m : MethodId) (x0 : Int32) : entryFrame m #[(.int x0)] 1 = mkF m 0 #[.val (.int x0)] [] := by first | (simp [entryFrame, mkF, argsToLocals, Value.category]; done) | rfl
-- java/lang/StringLatin1.toBytes
set_option maxRecDepth 65536 in
set_option maxHeartbeats 4000000 in
theorem au_9 (l : Launch) (Z : State) (a0 : Array Value) (hw : ∀ d ∈ tables_1, d.before a0 Z = true) (p0 : Int32) (h0 : Heap) (n0 : Nat) (Z0 : n0 ≤ h0.size) :
    Ctr l Z (⟨"java/lang/StringLatin1", "toBytes", "(C)[B"⟩ : MethodName) jdk_43_method_46_code 1 (some (.array .byte)) ({ frames := 0, cells := 1, slots := 1, locals := 0 } : Room) #[(.int p0)] h0 (fun v h L => ∃ (z2 : Int32) (b1 : Addr) (k1 : ClassId), (p0.toInt8.toInt32) = z2 ∧ v = some (.ref b1) ∧ Fr n0 L ∧ Keep h0 h [] ∧ h0.size ≤ b1 ∧ Arv Z h b1 k1 .byte (1 : Int32) [(.int z2)] (.int 0) ∧ Exa Z h b1 "[B") := by
  refine Ctr.of (plainFor_of_name pn_c1) ?_
  intro p e s m below meth c T0 hx hZ hby hml hown hnm hret hlk e0 es X0
  refine Go.cast (ef_20_I m p0) ?_
  generalize hFF : EndN s _ _ _ = FF
  refine Go.iconst X0 hx (pc' := 1) rfl (hb hby d20_0) (v := (1 : Int32)) rfl ?_
  refine Go.newarray X0 hx hZ (ty := .byte) rfl (tw_19 hw) e0 (by decide) (cap := 1) (by decide) (by decide) (by decide) (by decide) (ad := "[B") (by decide) 1 (pc' := 3) rfl (hb hby d20_1) ?_
  intro T1 h1 b1 k1 e1 E1 g1 V1 A1 X1
  have V1' : Arv Z h1 b1 k1 .byte (1 : Int32) [(.int 0)] (.int 0) := V1
  refine Go.dup X1 hx (pc' := 4) rfl (hb hby d20_3) rfl ?_
  refine Go.iconst X1 hx (pc' := 5) rfl (hb hby d20_4) (v := (0 : Int32)) rfl ?_
  refine Go.iloadN X1 hx (pc' := 6) rfl (hb hby d20_5) rfl ?_
  refine Go.i2b X1 hx (pc' := 7) rfl (hb hby d20_6) ?_
  generalize hz2 : (p0.toInt8.toInt32) = z2
  have sz4 : h0.size ≤ b1 := Nat.le_trans (Keep.refl h0 []).1 (Nat.le_of_eq g1.symm)
  have ge3 : n0 ≤ b1 := Nat.le_trans Z0 sz4
  have r5 : -128 ≤ z2.toInt ∧ z2.toInt ≤ 127 := own_ri2b hz2
  refine Go.bastore X1 hx hZ e1 V1' z2 (own_nar_byte r5 (by decide) (by decide)) ⟨by decide, by decide⟩ 0 rfl (Nat.le_of_ble_eq_true rfl) (pc' := 8) rfl (hb hby d20_7) ?_
  intro T6 h6 e6 W6 V6 X6
  have N6 := Fr.snoc X6 (Fr.nil n0) ge3
  subst hFF
  refine Go.retR X6 hx hlk (t := (.array .byte)) hret rfl rfl (hb hby d20_8) (by decide) (by decide) ?_
  rw [e6]
  have V7 : Arv Z h6 b1 k1 .byte (1 : Int32) [(.int z2)] (.int 0) := V6
  have fk8 : Exa Z h6 b1 "[B" := (A1.wr W6)
  have Kp9 : Keep h0 h1 [] := ((Keep.refl h0 []).ext E1)
  have Kp10 : Keep h0 h6 [] := (Kp9.wr W6 (Or.inr sz4))
  exact ⟨z2, b1, k1, hz2, rfl, N6, Kp10, sz4, V7, fk8⟩
theorem pd_3 : parseMethodDescriptor "(C)[B" = some ⟨[.char], some (.array .byte)⟩ := by decide +kernel
theorem d18_18 : decode jdk_42_method_139_code 18 = .ok (.invokestatic 1018, 3) := by decide +kernel
theorem d18_21 : decode jdk_42_method_139_code 21 = .ok (.iconst 0, 1) := by decide +kernel
theorem d21_0 : decode jdk_42_method_151_code 0 = .ok (.aload_n 0, 1) := by decide +kernel
theorem d21_1 : decode jdk_42_method_151_code 1 = .ok (.invokespecial 1, 3) := by decide +kernel
theorem d21_4 : decode jdk_42_method_151_code 4 = .ok (.aload_n 0, 1) := by decide +kernel
theorem d21_5 : decode jdk_42_method_151_code 5 = .ok (.aload_n 1, 1) := by decide +kernel
theorem d21_6 : decode jdk_42_method_151_code 6 = .ok (.putfield 9, 3) := by decide +kernel
theorem d21_9 : decode jdk_42_method_151_code 9 = .ok (.aload_n 0, 1) := by decide +kernel
theorem d21_10 : decode jdk_42_method_151_code 10 = .ok (.iload_n 2, 1) := by decide +kernel
theorem d21_11 : decode jdk_42_method_151_code 11 = .ok (.putfield 15, 3) := by decide +kernel
theorem d21_14 : decode jdk_42_method_151_code 14 = .ok (.return_, 1) := by decide +kernel
theorem ef_21_RRI (m : MethodId) (x0 : Addr) (x1 : Addr) (x2 : Int32) : entryFrame m #[(.ref x0), (.ref x1), (.int x2)] 3 = mkF m 0 #[.val (.ref x0), .val (.ref x1), .val (.int x2)] [] := by first | (simp [entryFrame, mkF, argsToLocals, Value.category]; done) | rfl
-- java/lang/String.init
set_option maxRecDepth 65536 in
set_option maxHeartbeats 4000000 in
theorem au_10 (l : Launch) (Z : State) (a0 : Array Value) (hw : ∀ d ∈ tables_1, d.before a0 Z = true) (x0 : Addr) (x1 : Addr) (h0 : Heap) (n0 : Nat) (Z0 : n0 ≤ h0.size) (P0 : Exa Z h0 x0 "java/lang/String") (P1 : Fld Z h0 x0 "java/lang/String" "coder" "B" (.int 0)) (P2 : Fld Z h0 x0 "java/lang/String" "value" "[B" .null) (g_x0 : n0 ≤ x0) :
    Ctr l Z (⟨"java/lang/String", "<init>", "([BB)V"⟩ : MethodName) jdk_42_method_151_code 3 none ({ frames := 1, cells := 0, slots := 0, locals := 12 } : Room) #[(.ref x0), (.ref x1), (.int 0)] h0 (fun v h L => v = none ∧ Fr n0 L ∧ Keep h0 h [x0] ∧ Exa Z h x0 "java/lang/String" ∧ Fld Z h x0 "java/lang/String" "coder" "B" (.int 0) ∧ Fld Z h x0 "java/lang/String" "value" "[B" (.ref x1)) := by
  refine Ctr.of (plainFor_of_name pn_c0) ?_
  intro p e s m below meth c T0 hx hZ hby hml hown hnm hret hlk e0 es X0
  refine Go.cast (ef_21_RRI m x0 x1 (0 : Int32)) ?_
  generalize hFF : EndN s _ _ _ = FF
  refine Go.aloadN X0 hx (pc' := 1) rfl (hb hby d21_0) rfl rfl ?_
  refine Go.initO X0 hx hZ hown (tw_15 hw) (tw_16 hw) (tw_17 hw) e0 (by decide) (W := 0) (by rw [hml]; rfl) (Nat.le_of_eq rfl) (by decide) (pc' := 4) rfl (hb hby d21_1) ?_
  intro T1 e1 X1
  refine Go.aloadN X1 hx (pc' := 5) rfl (hb hby d21_4) rfl rfl ?_
  refine Go.aloadN X1 hx (pc' := 6) rfl (hb hby d21_5) rfl rfl ?_
  refine Go.putF X1 hx hZ hown (host := "") (Or.inl (tw_24 hw)) Via.refl e1 P2 P0 (Or.inr ⟨(tw_20 hw), rfl, hnm⟩) (tw_5 hw) (ty := (.array .byte)) (by decide) rfl rfl (pc' := 9) rfl (hb hby d21_6) ?_
  intro T2 h2 e2 W2 F2 X2
  have N2 := Fr.snoc X2 (Fr.nil n0) g_x0
  refine Go.aloadN X2 hx (pc' := 10) rfl (hb hby d21_9) rfl rfl ?_
  refine Go.iloadN X2 hx (pc' := 11) rfl (hb hby d21_10) rfl ?_
  have fk3 : Fld Z h2 x0 "java/lang/String" "coder" "B" (.int 0) := (P1.other W2 (Or.inr (slot_ne (Or.inr (tw_21 hw)) (Or.inr (tw_20 hw)) (by decide) (t := .byte) (t' := (.array .byte)) (by decide) (by decide))))
  have fk4 : Exa Z h2 x0 "java/lang/String" := (P0.wr W2)
  refine Go.putFN X2 hx hZ hown (tw_25 hw) Via.refl e2 fk3 fk4 (Or.inr ⟨(tw_21 hw), rfl, hnm⟩) (tw_5 hw) (ty := .byte) (v' := (.int 0)) (by decide) (by decide) (by decide) (pc' := 14) rfl (hb hby d21_11) ?_
  intro T5 h5 e5 W5 F5 X5
  have N5 := Fr.snoc X5 N2 g_x0
  subst hFF
  refine Go.ret0 X5 hx hlk hret (hb hby d21_14) (by decide) (by decide) ?_
  rw [e5]
  have fk6 : Exa Z h5 x0 "java/lang/String" := (fk4.wr W5)
  have fk7 : Fld Z h5 x0 "java/lang/String" "value" "[B" (.ref x1) := (F2.other W5 (Or.inr (slot_ne (Or.inr (tw_20 hw)) (Or.inr (tw_21 hw)) (by decide) (t := (.array .byte)) (t' := .byte) (by decide) (by decide))))
  have Kp8 : Keep h0 h2 [x0] := ((Keep.refl h0 [x0]).wr W2 (Or.inl (List.mem_of_getElem? (i := 0) rfl)))
  have Kp9 : Keep h0 h5 [x0] := (Kp8.wr W5 (Or.inl (List.mem_of_getElem? (i := 0) rfl)))
  exact ⟨rfl, N5, Kp9, fk6, F5, fk7⟩
theorem pd_4 : parseMethodDescriptor "([BB)V" = some ⟨[(.array .byte), .byte], none⟩ := by decide +kernel
theorem d18_22 : decode jdk_42_method_139_code 22 = .ok (.invokespecial 209, 3) := by decide +kernel
theorem d18_25 : decode jdk_42_method_139_code 25 = .ok (.areturn, 1) := by decide +kernel
theorem ef_18_I (m : MethodId) (x0 : Int32) : entryFrame m #[(.int x0)] 1 = mkF m 0 #[.val (.int x0)] [] := by first | (simp [entryFrame, mkF, argsToLocals, Value.category]; done) | rfl
-- java/lang/String.valueOf
set_option maxRecDepth 65536 in
set_option maxHeartbeats 4000000 in
theorem au_7 (l : Launch) (Z : State) (a0 : Array Value) (hw : ∀ d ∈ tables_1, d.before a0 Z = true) (p0 : Int32) (ga1 : Addr) (ga5 : Addr) (gz13 : Int32) (ga17 : Addr) (gv23 : Value) (gk27 : ClassId) (h0 : Heap) (n0 : Nat) (Z0 : n0 ≤ h0.size) (O0 : Old Z n0 h0) (G : Glob Z ga1 ga5 gz13 ga17 gv23 gk27) (R_p0 : 0 ≤ p0.toInt ∧ p0.toInt ≤ 255) :
    Ctr l Z (⟨"java/lang/String", "valueOf", "(C)Ljava/lang/String;"⟩ : MethodName) jdk_42_method_139_code 1 (some (.object "java/lang/String")) ({ frames := 2, cells := 2, slots := 5, locals := 27 } : Room) #[(.int p0)] h0 (fun v h L => ∃ (z7_0 : Int32) (b4 : Addr) (b7_0 : Addr) (k7_0 : ClassId), (p0.toInt8.toInt32) = z7_0 ∧ v = some (.ref b4) ∧ Fr n0 L ∧ Keep h0 h [] ∧ h0.size ≤ b4 ∧ h0.size ≤ b7_0 ∧ b7_0 ≠ b4 ∧ Exa Z h b4 "java/lang/String" ∧ Fld Z h b4 "java/lang/String" "coder" "B" (.int 0) ∧ Fld Z h b4 "java/lang/String" "value" "[B" (.ref b7_0) ∧ Arv Z h b7_0 k7_0 .byte (1 : Int32) [(.int z7_0)] (.int 0) ∧ Exa Z h b7_0 "[B") := by
  refine Ctr.of (plainFor_of_name pn_c0) ?_
  intro p e s m below meth c T0 hx hZ hby hml hown hnm hret hlk e0 es X0
  have G' := G
  obtain ⟨-, -, -, -, -, G5, -, -, -, -, -, G11, -⟩ := G'
  refine Go.cast (ef_18_I m p0) ?_
  generalize hFF : EndN s _ _ _ = FF
  have fk1 : Sta Z h0 "java/lang/String" "COMPACT_STRINGS" "Z" (.int gz13) := G5.ext O0.2
  refine Go.getS X0 hx hZ hown (host := "") (Or.inl (tw_115 hw)) Via.refl e0 fk1 (pc' := 3) rfl (hb hby d18_0) ?_
  intro T2 e2 X2
  refine Go.ifNo X2 hx (pc' := 6) rfl (hb hby d18_3) (feq G11).1 ?_
  refine Go.iloadN X2 hx (pc' := 7) rfl (hb hby d18_6) rfl ?_
  refine Go.callS X2 hx hZ hown (tw_116 hw) (tw_117 hw) (tw_118 hw) (tw_119 hw) (by decide) (tw_119 hw) (tw_118 hw) (au_8 l Z a0 hw p0 h0 n0 Z0 R_p0) e2 (argsL := [(.int p0)]) (rest := []) (pc' := 10) rfl (by rw [hml]; rfl) (lenOf pd_2 rfl) rfl rfl (W := 0) (Nat.le_of_eq rfl) (by decide) (by decide) (by decide) (by decide) (hb hby d18_7) ?_
  intro v3 T3 L3 q3 X3
  obtain ⟨rfl, N3, e3⟩ := q3
  show Go _ _ _ _ (T3.setTop (mkF m 10 #[.val (.int p0)] [(.int 1)]))
  refine Go.ifNo X3 hx (pc' := 13) rfl (hb hby d18_10) (by decide) ?_
  refine Go.new X3 hx hZ hown (tw_120 hw) (tw_5 hw) (tw_6 hw) e3 (by decide) (by decide) (pc' := 16) rfl (hb hby d18_13) ?_
  intro T4 h4 b4 e4 E4 g4 A4 D4 X4
  have b4_value : Fld Z h4 b4 "java/lang/String" "value" "[B" .null := D4 (Or.inr (tw_20 hw)) (ty := (.array .byte)) (by decide)
  have b4_coder : Fld Z h4 b4 "java/lang/String" "coder" "B" (.int 0) := D4 (Or.inr (tw_21 hw)) (ty := .byte) (by decide)
  refine Go.dup X4 hx (pc' := 17) rfl (hb hby d18_16) rfl ?_
  refine Go.iloadN X4 hx (pc' := 18) rfl (hb hby d18_17) rfl ?_
  have Kp6 : Keep h0 h4 [] := ((Keep.refl h0 []).ext E4)
  have Zn5 : n0 ≤ h4.size := Nat.le_trans Z0 Kp6.1
  refine Go.callS X4 hx hZ hown (tw_121 hw) (tw_122 hw) (tw_118 hw) (tw_123 hw) (by decide) (tw_123 hw) (tw_118 hw) (au_9 l Z a0 hw p0 h4 n0 Zn5) e4 (argsL := [(.int p0)]) (rest := [(.ref b4), (.ref b4)]) (pc' := 21) rfl (by rw [hml]; rfl) (lenOf pd_3 rfl) rfl rfl (W := 2) (Nat.le_of_eq rfl) (by decide) (by decide) (by decide) (by decide) (hb hby d18_18) ?_
  intro v7 T7 L7 q7 X7
  obtain ⟨h7, e7⟩ : ∃ z, T7.heap = z := ⟨_, rfl⟩
  rw [e7] at q7
  obtain ⟨z7_0, b7_0, k7_0, d7_0, rfl, N7, K7, s7_0, F7_0, F7_1⟩ := q7
  show Go _ _ _ _ (T7.setTop (mkF m 21 #[.val (.int p0)] [(.ref b7_0), (.ref b4), (.ref b4)]))
  refine Go.iconst X7 hx (pc' := 22) rfl (hb hby d18_21) (v := (0 : Int32)) rfl ?_
  have r8 : -128 ≤ z7_0.toInt ∧ z7_0.toInt ≤ 127 := own_ri2b d7_0
  have Kp10 : Keep h0 h7 [] := (Kp6.trans K7 all0)
  have Zn9 : n0 ≤ h7.size := Nat.le_trans Z0 Kp10.1
  have fk11 : Exa Z h7 b4 "java/lang/String" := (A4.keep K7)
  have fk12 : Fld Z h7 b4 "java/lang/String" "coder" "B" (.int 0) := (b4_coder.keep K7 nin0)
  have fk13 : Fld Z h7 b4 "java/lang/String" "value" "[B" .null := (b4_value.keep K7 nin0)
  have sz15 : h0.size ≤ b4 := Nat.le_trans (Keep.refl h0 []).1 (Nat.le_of_eq g4.symm)
  have ge14 : n0 ≤ b4 := Nat.le_trans Z0 sz15
  refine Go.callN X7 hx hZ hown rfl (tw_124 hw) (tw_125 hw) (tw_126 hw) (by decide) (tw_126 hw) (tw_6 hw) (au_10 l Z a0 hw b4 b7_0 h7 n0 Zn9 fk11 fk12 fk13 ge14) e7 (a := b4) (argsL := [(.ref b7_0), (.int 0)]) (rest := [(.ref b4)]) (pc' := 25) rfl (by rw [hml]; rfl) (lenOf pd_4 rfl) rfl rfl (W := 1) (Nat.le_of_eq rfl) (by decide) (by decide) (by decide) (by decide) (hb hby d18_22) ?_
  intro v16 T16 L16 q16 X16
  obtain ⟨h16, e16⟩ : ∃ z, T16.heap = z := ⟨_, rfl⟩
  rw [e16] at q16
  obtain ⟨rfl, N16, K16, F16_0, F16_1, F16_2⟩ := q16
  show Go _ _ _ _ (T16.setTop (mkF m 25 #[.val (.int p0)] [(.ref b4)]))
  subst hFF
  refine Go.retR X16 hx hlk (t := (.object "java/lang/String")) hret rfl rfl (hb hby d18_25) (by decide) (by decide) ?_
  rw [e16]
  have ne17 : b4 ≠ b7_0 := Nat.ne_of_lt (Nat.lt_of_lt_of_le A4.lt s7_0)
  have fk18 := (F7_0.keep K16 (ninS (Ne.symm ne17) nin0))
  have fk19 : Exa Z h16 b7_0 "[B" := (F7_1.keep K16)
  have Kp20 : Keep h0 h16 [] := (Kp10.trans K16 (allS (Or.inr sz15) all0))
  have sz21 : h0.size ≤ b7_0 := Nat.le_trans Kp6.1 s7_0
  exact ⟨z7_0, b4, b7_0, k7_0, d7_0, rfl, (Fr.app (Fr.app (Fr.app (Fr.nil n0) N3) N7) N16), Kp20, sz15, sz21, (Ne.symm ne17), F16_0, F16_1, F16_2, fk18, fk19⟩
theorem pd_5 : parseMethodDescriptor "(C)Ljava/lang/String;" = some ⟨[.char], some (.object "java/lang/String")⟩ := by decide +kernel
theorem d1_45 : decode method_2_code 45 = .ok (.invokestatic 12, 3) := by decide +kernel
theorem d1_48 : decode method_2_code 48 = .ok (.areturn, 1) := by decide +kernel
theorem d1_49 : decode method_2_code 49 = .ok (.iconst 2, 1) := by decide +kernel
theorem d1_50 : decode method_2_code 50 = .ok (.newarray .char, 2) := by decide +kernel
theorem d1_52 : decode method_2_code 52 = .ok (.astore 4, 2) := by decide +kernel
theorem d1_54 : decode method_2_code 54 = .ok (.aload 4, 2) := by decide +kernel
theorem d1_56 : decode method_2_code 56 = .ok (.iconst 0, 1) := by decide +kernel
theorem d1_57 : decode method_2_code 57 = .ok (.iload_n 2, 1) := by decide +kernel
theorem d1_58 : decode method_2_code 58 = .ok (.castore, 1) := by decide +kernel
theorem d1_59 : decode method_2_code 59 = .ok (.aload 4, 2) := by decide +kernel
theorem d1_61 : decode method_2_code 61 = .ok (.iconst 1, 1) := by decide +kernel
theorem d1_62 : decode method_2_code 62 = .ok (.iload_n 3, 1) := by decide +kernel
theorem d1_63 : decode method_2_code 63 = .ok (.castore, 1) := by decide +kernel
theorem d1_64 : decode method_2_code 64 = .ok (.new 7, 3) := by decide +kernel
theorem d1_67 : decode method_2_code 67 = .ok (.dup, 1) := by decide +kernel
theorem d1_68 : decode method_2_code 68 = .ok (.aload 4, 2) := by decide +kernel
theorem d3_27 : decode jdk_42_method_149_code 27 = .ok (.getstatic 38, 3) := by decide +kernel
theorem d3_30 : decode jdk_42_method_149_code 30 = .ok (.ifCond .eq 28, 3) := by decide +kernel
theorem d3_33 : decode jdk_42_method_149_code 33 = .ok (.aload_n 1, 1) := by decide +kernel
theorem d3_34 : decode jdk_42_method_149_code 34 = .ok (.iload_n 2, 1) := by decide +kernel
theorem d3_35 : decode jdk_42_method_149_code 35 = .ok (.iload_n 3, 1) := by decide +kernel
theorem d22_0 : decode jdk_52_method_16_code 0 = .ok (.iload_n 2, 1) := by decide +kernel
theorem d22_1 : decode jdk_52_method_16_code 1 = .ok (.newarray .byte, 2) := by decide +kernel
theorem d22_3 : decode jdk_52_method_16_code 3 = .ok (.astore_n 3, 1) := by decide +kernel
theorem d22_4 : decode jdk_52_method_16_code 4 = .ok (.aload_n 0, 1) := by decide +kernel
theorem d22_5 : decode jdk_52_method_16_code 5 = .ok (.iload_n 1, 1) := by decide +kernel
theorem d22_6 : decode jdk_52_method_16_code 6 = .ok (.aload_n 3, 1) := by decide +kernel
theorem d22_7 : decode jdk_52_method_16_code 7 = .ok (.iconst 0, 1) := by decide +kernel
theorem d22_8 : decode jdk_52_method_16_code 8 = .ok (.iload_n 2, 1) := by decide +kernel
theorem d23_0 : decode jdk_52_method_21_code 0 = .ok (.iconst 0, 1) := by decide +kernel
theorem d23_1 : decode jdk_52_method_21_code 1 = .ok (.istore 5, 2) := by decide +kernel
theorem d23_3 : decode jdk_52_method_21_code 3 = .ok (.iload 5, 2) := by decide +kernel
theorem d23_5 : decode jdk_52_method_21_code 5 = .ok (.iload 4, 2) := by decide +kernel
theorem d23_7 : decode jdk_52_method_21_code 7 = .ok (.if_icmp .ge 37, 3) := by decide +kernel
theorem d23_10 : decode jdk_52_method_21_code 10 = .ok (.aload_n 0, 1) := by decide +kernel
theorem d23_11 : decode jdk_52_method_21_code 11 = .ok (.iload_n 1, 1) := by decide +kernel
theorem d23_12 : decode jdk_52_method_21_code 12 = .ok (.caload, 1) := by decide +kernel
theorem d23_13 : decode jdk_52_method_21_code 13 = .ok (.istore 6, 2) := by decide +kernel
theorem d23_15 : decode jdk_52_method_21_code 15 = .ok (.iload 6, 2) := by decide +kernel
theorem d23_17 : decode jdk_52_method_21_code 17 = .ok (.sipush 255, 3) := by decide +kernel
theorem d23_20 : decode jdk_52_method_21_code 20 = .ok (.if_icmp .le 6, 3) := by decide +kernel
theorem d23_26 : decode jdk_52_method_21_code 26 = .ok (.aload_n 2, 1) := by decide +kernel
theorem d23_27 : decode jdk_52_method_21_code 27 = .ok (.iload_n 3, 1) := by decide +kernel
theorem d23_28 : decode jdk_52_method_21_code 28 = .ok (.iload 6, 2) := by decide +kernel
theorem d23_30 : decode jdk_52_method_21_code 30 = .ok (.i2b, 1) := by decide +kernel
theorem d23_31 : decode jdk_52_method_21_code 31 = .ok (.bastore, 1) := by decide +kernel
theorem d23_32 : decode jdk_52_method_21_code 32 = .ok (.iinc 1 1, 3) := by decide +kernel
theorem d23_35 : decode jdk_52_method_21_code 35 = .ok (.iinc 3 1, 3) := by decide +kernel
theorem d23_38 : decode jdk_52_method_21_code 38 = .ok (.iinc 5 1, 3) := by decide +kernel
theorem d23_41 : decode jdk_52_method_21_code 41 = .ok (.goto (-38), 3) := by decide +kernel
theorem d23_44 : decode jdk_52_method_21_code 44 = .ok (.iload 4, 2) := by decide +kernel
theorem d23_46 : decode jdk_52_method_21_code 46 = .ok (.ireturn, 1) := by decide +kernel
theorem ef_23_RIRII (m : MethodId) (x0 : Addr) (x1 : Int32) (x2 : Addr) (x3 : Int32) (x4 : Int32) : entryFrame m #[(.ref x0), (.int x1), (.ref x2), (.int x3), (.int x4)] 7 = mkF m 0 #[.val (.ref x0), .val (.int x1), .val (.ref x2), .val (.int x3), .val (.int x4), .unset, .unset] [] := by first | (simp [entryFrame, mkF, argsToLocals, Value.category]; done) | rfl
theorem pn_c2 : plainName "java/lang/StringUTF16" = true := by first | (simp [plainName, overriddenIn]; done) | decide +kernel
-- java/lang/StringUTF16.compress
set_option maxRecDepth 65536 in
set_option maxHeartbeats 4000000 in
theorem au_14 (l : Launch) (Z : State) (a0 : Array Value) (hw : ∀ d ∈ tables_1, d.before a0 Z = true) (x0 : Addr) (x1 : Addr) (kk0 : ClassId) (p0 : Int32) (p1 : Int32) (kk1 : ClassId) (h0 : Heap) (n0 : Nat) (Z0 : n0 ≤ h0.size) (P0 : Arv Z h0 x0 kk0 .char (2 : Int32) [(.int p0), (.int p1)] (.int 0)) (P2 : Arv Z h0 x1 kk1 .byte (2 : Int32) [(.int 0), (.int 0)] (.int 0)) (P3 : Exa Z h0 x1 "[B") (R_p0 : 0 ≤ p0.toInt ∧ p0.toInt ≤ 255) (R_p1 : 0 ≤ p1.toInt ∧ p1.toInt ≤ 255) (g_x1 : n0 ≤ x1) (ne_x0_x1 : x0 ≠ x1) :
    Ctr l Z (⟨"java/lang/StringUTF16", "compress", "([CI[BII)I"⟩ : MethodName) jdk_52_method_21_code 7 (some .int) ({ frames := 0, cells := 0, slots := 0, locals := 0 } : Room) #[(.ref x0), (.int 0), (.ref x1), (.int 0), (.int 2)] h0 (fun v h L => ∃ (z1 : Int32) (z5 : Int32), (p0.toInt8.toInt32) = z1 ∧ (p1.toInt8.toInt32) = z5 ∧ v = some (.int 2) ∧ Fr n0 L ∧ Keep h0 h [x1] ∧ Arv Z h x1 kk1 .byte (2 : Int32) [(.int z1), (.int z5)] (.int 0) ∧ Exa Z h x1 "[B") := by
  refine Ctr.of (plainFor_of_name pn_c2) ?_
  intro p e s m below meth c T0 hx hZ hby hml hown hnm hret hlk e0 es X0
  refine Go.cast (ef_23_RIRII m x0 (0 : Int32) x1 (0 : Int32) (2 : Int32)) ?_
  generalize hFF : EndN s _ _ _ = FF
  refine Go.iconst X0 hx (pc' := 1) rfl (hb hby d23_0) (v := (0 : Int32)) rfl ?_
  refine Go.istore X0 hx (pc' := 3) rfl (hb hby d23_1) (Ls' := #[.val (.ref x0), .val (.int 0), .val (.ref x1), .val (.int 0), .val (.int 2), .val (.int 0), .unset]) rfl ?_
  refine Go.iload X0 hx (pc' := 5) rfl (hb hby d23_3) rfl ?_
  refine Go.iload X0 hx (pc' := 7) rfl (hb hby d23_5) rfl ?_
  refine Go.icmpNo X0 hx (pc' := 10) rfl (hb hby d23_7) (by decide) ?_
  refine Go.aloadN X0 hx (pc' := 11) rfl (hb hby d23_10) rfl rfl ?_
  refine Go.iloadN X0 hx (pc' := 12) rfl (hb hby d23_11) rfl ?_
  refine Go.caload X0 hx hZ e0 P0 (v := (.int p0)) ⟨by decide, by decide⟩ rfl (pc' := 13) rfl (hb hby d23_12) ?_
  refine Go.istore X0 hx (pc' := 15) rfl (hb hby d23_13) (Ls' := #[.val (.ref x0), .val (.int 0), .val (.ref x1), .val (.int 0), .val (.int 2), .val (.int 0), .val (.int p0)]) rfl ?_
  refine Go.iload X0 hx (pc' := 17) rfl (hb hby d23_15) rfl ?_
  refine Go.sipush X0 hx (pc' := 20) rfl (hb hby d23_17) (v := (255 : Int32)) (by decide) ?_
  refine Go.icmpYes X0 hx (pc' := 26) (hb hby d23_20) (flt (own_nlt_r (own_rlit (n := 255) (by decide)) R_p0 (by decide))).2.2.2 (by decide) (by decide) ?_
  refine Go.aloadN X0 hx (pc' := 27) rfl (hb hby d23_26) rfl rfl ?_
  refine Go.iloadN X0 hx (pc' := 28) rfl (hb hby d23_27) rfl ?_
  refine Go.iload X0 hx (pc' := 30) rfl (hb hby d23_28) rfl ?_
  refine Go.i2b X0 hx (pc' := 31) rfl (hb hby d23_30) ?_
  generalize hz1 : (p0.toInt8.toInt32) = z1
  have r2 : -128 ≤ z1.toInt ∧ z1.toInt ≤ 127 := own_ri2b hz1
  refine Go.bastore X0 hx hZ e0 P2 z1 (own_nar_byte r2 (by decide) (by decide)) ⟨by decide, by decide⟩ 0 rfl (Nat.le_of_ble_eq_true rfl) (pc' := 32) rfl (hb hby d23_31) ?_
  intro T3 h3 e3 W3 V3 X3
  have N3 := Fr.snoc X3 (Fr.nil n0) g_x1
  refine Go.iinc X3 hx (pc' := 35) rfl (hb hby d23_32) rfl (y := (1 : Int32)) (by decide) (Ls' := #[.val (.ref x0), .val (.int 1), .val (.ref x1), .val (.int 0), .val (.int 2), .val (.int 0), .val (.int p0)]) rfl ?_
  refine Go.iinc X3 hx (pc' := 38) rfl (hb hby d23_35) rfl (y := (1 : Int32)) (by decide) (Ls' := #[.val (.ref x0), .val (.int 1), .val (.ref x1), .val (.int 1), .val (.int 2), .val (.int 0), .val (.int p0)]) rfl ?_
  refine Go.iinc X3 hx (pc' := 41) rfl (hb hby d23_38) rfl (y := (1 : Int32)) (by decide) (Ls' := #[.val (.ref x0), .val (.int 1), .val (.ref x1), .val (.int 1), .val (.int 2), .val (.int 1), .val (.int p0)]) rfl ?_
  refine Go.goto X3 hx (pc' := 3) (hb hby d23_41) (by decide) (by decide) ?_
  refine Go.iload X3 hx (pc' := 5) rfl (hb hby d23_3) rfl ?_
  refine Go.iload X3 hx (pc' := 7) rfl (hb hby d23_5) rfl ?_
  refine Go.icmpNo X3 hx (pc' := 10) rfl (hb hby d23_7) (by decide) ?_
  refine Go.aloadN X3 hx (pc' := 11) rfl (hb hby d23_10) rfl rfl ?_
  refine Go.iloadN X3 hx (pc' := 12) rfl (hb hby d23_11) rfl ?_
  have fk4 := (P0.other W3 ne_x0_x1)
  refine Go.caload X3 hx hZ e3 fk4 (v := (.int p1)) ⟨by decide, by decide⟩ rfl (pc' := 13) rfl (hb hby d23_12) ?_
  refine Go.istore X3 hx (pc' := 15) rfl (hb hby d23_13) (Ls' := #[.val (.ref x0), .val (.int 1), .val (.ref x1), .val (.int 1), .val (.int 2), .val (.int 1), .val (.int p1)]) rfl ?_
  refine Go.iload X3 hx (pc' := 17) rfl (hb hby d23_15) rfl ?_
  refine Go.sipush X3 hx (pc' := 20) rfl (hb hby d23_17) (v := (255 : Int32)) (by decide) ?_
  refine Go.icmpYes X3 hx (pc' := 26) (hb hby d23_20) (flt (own_nlt_r (own_rlit (n := 255) (by decide)) R_p1 (by decide))).2.2.2 (by decide) (by decide) ?_
  refine Go.aloadN X3 hx (pc' := 27) rfl (hb hby d23_26) rfl rfl ?_
  refine Go.iloadN X3 hx (pc' := 28) rfl (hb hby d23_27) rfl ?_
  refine Go.iload X3 hx (pc' := 30) rfl (hb hby d23_28) rfl ?_
  refine Go.i2b X3 hx (pc' := 31) rfl (hb hby d23_30) ?_
  generalize hz5 : (p1.toInt8.toInt32) = z5
  have r6 : -128 ≤ z5.toInt ∧ z5.toInt ≤ 127 := own_ri2b hz5
  refine Go.bastore X3 hx hZ e3 V3 z5 (own_nar_byte r6 (by decide) (by decide)) ⟨by decide, by decide⟩ 1 rfl (Nat.le_of_ble_eq_true rfl) (pc' := 32) rfl (hb hby d23_31) ?_
  intro T7 h7 e7 W7 V7 X7
  have N7 := Fr.snoc X7 N3 g_x1
  refine Go.iinc X7 hx (pc' := 35) rfl (hb hby d23_32) rfl (y := (2 : Int32)) (by decide) (Ls' := #[.val (.ref x0), .val (.int 2), .val (.ref x1), .val (.int 1), .val (.int 2), .val (.int 1), .val (.int p1)]) rfl ?_
  refine Go.iinc X7 hx (pc' := 38) rfl (hb hby d23_35) rfl (y := (2 : Int32)) (by decide) (Ls' := #[.val (.ref x0), .val (.int 2), .val (.ref x1), .val (.int 2), .val (.int 2), .val (.int 1), .val (.int p1)]) rfl ?_
  refine Go.iinc X7 hx (pc' := 41) rfl (hb hby d23_38) rfl (y := (2 : Int32)) (by decide) (Ls' := #[.val (.ref x0), .val (.int 2), .val (.ref x1), .val (.int 2), .val (.int 2), .val (.int 2), .val (.int p1)]) rfl ?_
  refine Go.goto X7 hx (pc' := 3) (hb hby d23_41) (by decide) (by decide) ?_
  refine Go.iload X7 hx (pc' := 5) rfl (hb hby d23_3) rfl ?_
  refine Go.iload X7 hx (pc' := 7) rfl (hb hby d23_5) rfl ?_
  refine Go.icmpYes X7 hx (pc' := 44) (hb hby d23_7) (by decide) (by decide) (by decide) ?_
  refine Go.iload X7 hx (pc' := 46) rfl (hb hby d23_44) rfl ?_
  subst hFF
  refine Go.retI X7 hx hlk hret (hb hby d23_46) (by decide) (by decide) ?_
  rw [e7]
  have V8 : Arv Z h7 x1 kk1 .byte (2 : Int32) [(.int z1), (.int z5)] (.int 0) := V7
  have fk9 : Exa Z h7 x1 "[B" := ((P3.wr W3).wr W7)
  have Kp10 : Keep h0 h3 [x1] := ((Keep.refl h0 [x1]).wr W3 (Or.inl (List.mem_of_getElem? (i := 0) rfl)))
  have Kp11 : Keep h0 h7 [x1] := (Kp10.wr W7 (Or.inl (List.mem_of_getElem? (i := 0) rfl)))
  exact ⟨z1, z5, hz1, hz5, rfl, N7, Kp11, V8, fk9⟩
theorem pd_6 : parseMethodDescriptor "([CI[BII)I" = some ⟨[(.array .char), .int, (.array .byte), .int, .int], some .int⟩ := by decide +kernel
theorem d22_9 : decode jdk_52_method_16_code 9 = .ok (.invokestatic 115, 3) := by decide +kernel
theorem d22_12 : decode jdk_52_method_16_code 12 = .ok (.istore 4, 2) := by decide +kernel
theorem d22_14 : decode jdk_52_method_16_code 14 = .ok (.iload 4, 2) := by decide +kernel
theorem d22_16 : decode jdk_52_method_16_code 16 = .ok (.iload_n 2, 1) := by decide +kernel
theorem d22_17 : decode jdk_52_method_16_code 17 = .ok (.if_icmp .eq 40, 3) := by decide +kernel
theorem d22_57 : decode jdk_52_method_16_code 57 = .ok (.aload_n 3, 1) := by decide +kernel
theorem d22_58 : decode jdk_52_method_16_code 58 = .ok (.areturn, 1) := by decide +kernel
theorem ef_22_RII (m : MethodId) (x0 : Addr) (x1 : Int32) (x2 : Int32) : entryFrame m #[(.ref x0), (.int x1), (.int x2)] 6 = mkF m 0 #[.val (.ref x0), .val (.int x1), .val (.int x2), .unset, .unset, .unset] [] := by first | (simp [entryFrame, mkF, argsToLocals, Value.category]; done) | rfl
-- java/lang/StringUTF16.compress
set_option maxRecDepth 65536 in
set_option maxHeartbeats 4000000 in
theorem au_13 (l : Launch) (Z : State) (a0 : Array Value) (hw : ∀ d ∈ tables_1, d.before a0 Z = true) (x0 : Addr) (kk0 : ClassId) (p0 : Int32) (p1 : Int32) (h0 : Heap) (n0 : Nat) (Z0 : n0 ≤ h0.size) (P0 : Arv Z h0 x0 kk0 .char (2 : Int32) [(.int p0), (.int p1)] (.int 0)) (R_p0 : 0 ≤ p0.toInt ∧ p0.toInt ≤ 255) (R_p1 : 0 ≤ p1.toInt ∧ p1.toInt ≤ 255) :
    Ctr l Z (⟨"java/lang/StringUTF16", "compress", "([CII)[B"⟩ : MethodName) jdk_52_method_16_code 6 (some (.array .byte)) ({ frames := 1, cells := 1, slots := 2, locals := 18 } : Room) #[(.ref x0), (.int 0), (.int 2)] h0 (fun v h L => ∃ (z8_0 : Int32) (z8_1 : Int32) (b1 : Addr) (k1 : ClassId), (p0.toInt8.toInt32) = z8_0 ∧ (p1.toInt8.toInt32) = z8_1 ∧ v = some (.ref b1) ∧ Fr n0 L ∧ Keep h0 h [] ∧ h0.size ≤ b1 ∧ Arv Z h b1 k1 .byte (2 : Int32) [(.int z8_0), (.int z8_1)] (.int 0) ∧ Exa Z h b1 "[B") := by
  refine Ctr.of (plainFor_of_name pn_c2) ?_
  intro p e s m below meth c T0 hx hZ hby hml hown hnm hret hlk e0 es X0
  refine Go.cast (ef_22_RII m x0 (0 : Int32) (2 : Int32)) ?_
  generalize hFF : EndN s _ _ _ = FF
  refine Go.iloadN X0 hx (pc' := 1) rfl (hb hby d22_0) rfl ?_
  refine Go.newarray X0 hx hZ (ty := .byte) rfl (tw_19 hw) e0 (by decide) (cap := 2) (by decide) (by decide) (by decide) (by decide) (ad := "[B") (by decide) 2 (pc' := 3) rfl (hb hby d22_1) ?_
  intro T1 h1 b1 k1 e1 E1 g1 V1 A1 X1
  have V1' : Arv Z h1 b1 k1 .byte (2 : Int32) [(.int 0), (.int 0)] (.int 0) := V1
  refine Go.astoreN X1 hx (pc' := 4) rfl (hb hby d22_3) (Ls' := #[.val (.ref x0), .val (.int 0), .val (.int 2), .val (.ref b1), .unset, .unset]) rfl rfl ?_
  refine Go.aloadN X1 hx (pc' := 5) rfl (hb hby d22_4) rfl rfl ?_
  refine Go.iloadN X1 hx (pc' := 6) rfl (hb hby d22_5) rfl ?_
  refine Go.aloadN X1 hx (pc' := 7) rfl (hb hby d22_6) rfl rfl ?_
  refine Go.iconst X1 hx (pc' := 8) rfl (hb hby d22_7) (v := (0 : Int32)) rfl ?_
  refine Go.iloadN X1 hx (pc' := 9) rfl (hb hby d22_8) rfl ?_
  have Kp3 : Keep h0 h1 [] := ((Keep.refl h0 []).ext E1)
  have Zn2 : n0 ≤ h1.size := Nat.le_trans Z0 Kp3.1
  have fk4 := (P0.ext E1)
  have sz6 : h0.size ≤ b1 := Nat.le_trans (Keep.refl h0 []).1 (Nat.le_of_eq g1.symm)
  have ge5 : n0 ≤ b1 := Nat.le_trans Z0 sz6
  have ne7 : x0 ≠ b1 := Nat.ne_of_lt (Nat.lt_of_lt_of_le P0.lt (Nat.le_of_eq g1.symm))
  refine Go.callS X1 hx hZ hown (tw_131 hw) (tw_132 hw) (tw_129 hw) (tw_133 hw) (by decide) (tw_133 hw) (tw_129 hw) (au_14 l Z a0 hw x0 b1 kk0 p0 p1 k1 h1 n0 Zn2 fk4 V1' A1 R_p0 R_p1 ge5 ne7) e1 (argsL := [(.ref x0), (.int 0), (.ref b1), (.int 0), (.int 2)]) (rest := []) (pc' := 12) rfl (by rw [hml]; rfl) (lenOf pd_6 rfl) rfl rfl (W := 0) (Nat.le_of_eq rfl) (by decide) (by decide) (by decide) (by decide) (hb hby d22_9) ?_
  intro v8 T8 L8 q8 X8
  obtain ⟨h8, e8⟩ : ∃ z, T8.heap = z := ⟨_, rfl⟩
  rw [e8] at q8
  obtain ⟨z8_0, z8_1, d8_0, d8_1, rfl, N8, K8, F8_0, F8_1⟩ := q8
  show Go _ _ _ _ (T8.setTop (mkF m 12 #[.val (.ref x0), .val (.int 0), .val (.int 2), .val (.ref b1), .unset, .unset] [(.int 2)]))
  refine Go.istore X8 hx (pc' := 14) rfl (hb hby d22_12) (Ls' := #[.val (.ref x0), .val (.int 0), .val (.int 2), .val (.ref b1), .val (.int 2), .unset]) rfl ?_
  refine Go.iload X8 hx (pc' := 16) rfl (hb hby d22_14) rfl ?_
  refine Go.iloadN X8 hx (pc' := 17) rfl (hb hby d22_16) rfl ?_
  refine Go.icmpYes X8 hx (pc' := 57) (hb hby d22_17) (by decide) (by decide) (by decide) ?_
  refine Go.aloadN X8 hx (pc' := 58) rfl (hb hby d22_57) rfl rfl ?_
  subst hFF
  refine Go.retR X8 hx hlk (t := (.array .byte)) hret rfl rfl (hb hby d22_58) (by decide) (by decide) ?_
  rw [e8]
  have Kp9 : Keep h0 h8 [] := (Kp3.trans K8 (allS (Or.inr sz6) all0))
  exact ⟨z8_0, z8_1, b1, k1, d8_0, d8_1, rfl, (Fr.app (Fr.nil n0) N8), Kp9, sz6, F8_0, F8_1⟩
theorem pd_7 : parseMethodDescriptor "([CII)[B" = some ⟨[(.array .char), .int, .int], some (.array .byte)⟩ := by decide +kernel
theorem d3_36 : decode jdk_42_method_149_code 36 = .ok (.invokestatic 177, 3) := by decide +kernel
theorem d3_39 : decode jdk_42_method_149_code 39 = .ok (.astore 5, 2) := by decide +kernel
theorem d3_41 : decode jdk_42_method_149_code 41 = .ok (.aload_n 0, 1) := by decide +kernel
theorem d3_42 : decode jdk_42_method_149_code 42 = .ok (.aload 5, 2) := by decide +kernel
theorem d3_44 : decode jdk_42_method_149_code 44 = .ok (.iload_n 3, 1) := by decide +kernel
theorem d24_0 : decode jdk_52_method_15_code 0 = .ok (.iload_n 1, 1) := by decide +kernel
theorem d24_1 : decode jdk_52_method_15_code 1 = .ok (.aload_n 0, 1) := by decide +kernel
theorem d24_2 : decode jdk_52_method_15_code 2 = .ok (.arraylength, 1) := by decide +kernel
theorem d24_3 : decode jdk_52_method_15_code 3 = .ok (.isub, 1) := by decide +kernel
theorem d24_4 : decode jdk_52_method_15_code 4 = .ok (.bipush 31, 2) := by decide +kernel
theorem d24_6 : decode jdk_52_method_15_code 6 = .ok (.iushr, 1) := by decide +kernel
theorem d24_7 : decode jdk_52_method_15_code 7 = .ok (.i2b, 1) := by decide +kernel
theorem d24_8 : decode jdk_52_method_15_code 8 = .ok (.ireturn, 1) := by decide +kernel
theorem ef_24_RI (m : MethodId) (x0 : Addr) (x1 : Int32) : entryFrame m #[(.ref x0), (.int x1)] 2 = mkF m 0 #[.val (.ref x0), .val (.int x1)] [] := by first | (simp [entryFrame, mkF, argsToLocals, Value.category]; done) | rfl
-- java/lang/StringUTF16.coderFromArrayLen
set_option maxRecDepth 65536 in
set_option maxHeartbeats 4000000 in
theorem au_15 (l : Launch) (Z : State) (a0 : Array Value) (hw : ∀ d ∈ tables_1, d.before a0 Z = true) (x0 : Addr) (kk0 : ClassId) (p0 : Int32) (p1 : Int32) (h0 : Heap) (n0 : Nat) (Z0 : n0 ≤ h0.size) (P0 : Arv Z h0 x0 kk0 .byte (2 : Int32) [(.int p0), (.int p1)] (.int 0)) :
    Ctr l Z (⟨"java/lang/StringUTF16", "coderFromArrayLen", "([BI)B"⟩ : MethodName) jdk_52_method_15_code 2 (some .byte) ({ frames := 0, cells := 0, slots := 0, locals := 0 } : Room) #[(.ref x0), (.int 2)] h0 (fun v h L => v = some (.int 0) ∧ Fr n0 L ∧ h = h0) := by
  refine Ctr.of (plainFor_of_name pn_c2) ?_
  intro p e s m below meth c T0 hx hZ hby hml hown hnm hret hlk e0 es X0
  refine Go.cast (ef_24_RI m x0 (2 : Int32)) ?_
  generalize hFF : EndN s _ _ _ = FF
  refine Go.iloadN X0 hx (pc' := 1) rfl (hb hby d24_0) rfl ?_
  refine Go.aloadN X0 hx (pc' := 2) rfl (hb hby d24_1) rfl rfl ?_
  refine Go.arraylength X0 hx hZ e0 P0 (pc' := 3) rfl (hb hby d24_2) ?_
  refine Go.isub X0 hx (pc' := 4) rfl (hb hby d24_3) ?_
  rw [show ((2 : Int32) - (2 : Int32)) = (0 : Int32) from by decide]
  refine Go.bipush X0 hx (pc' := 6) rfl (hb hby d24_4) (v := (31 : Int32)) (by decide) ?_
  refine Go.iushr X0 hx (pc' := 7) rfl (hb hby d24_6) ?_
  rw [show (((0 : Int32).toUInt32 >>> ((31 : Int32) &&& 31).toUInt32).toInt32) = (0 : Int32) from by decide]
  refine Go.i2b X0 hx (pc' := 8) rfl (hb hby d24_7) ?_
  rw [show ((0 : Int32).toInt8.toInt32) = (0 : Int32) from by decide]
  subst hFF
  refine Go.retN X0 hx hlk (t := .byte) hret (by simp) (hb hby d24_8) (by decide) (by decide) ?_
  rw [e0]
  exact ⟨(congrArg (fun z => some (Value.int z)) (by decide : nar .byte (0 : Int32) = (0 : Int32))), (Fr.nil n0), rfl⟩
theorem pd_8 : parseMethodDescriptor "([BI)B" = some ⟨[(.array .byte), .int], some .byte⟩ := by decide +kernel
theorem d3_45 : decode jdk_42_method_149_code 45 = .ok (.invokestatic 47, 3) := by decide +kernel
theorem d3_48 : decode jdk_42_method_149_code 48 = .ok (.putfield 15, 3) := by decide +kernel
theorem d3_51 : decode jdk_42_method_149_code 51 = .ok (.aload_n 0, 1) := by decide +kernel
theorem d3_52 : decode jdk_42_method_149_code 52 = .ok (.aload 5, 2) := by decide +kernel
theorem d3_54 : decode jdk_42_method_149_code 54 = .ok (.putfield 9, 3) := by decide +kernel
theorem d3_57 : decode jdk_42_method_149_code 57 = .ok (.return_, 1) := by decide +kernel
-- java/lang/String.init
set_option maxRecDepth 65536 in
set_option maxHeartbeats 4000000 in
theorem au_12 (l : Launch) (Z : State) (a0 : Array Value) (hw : ∀ d ∈ tables_1, d.before a0 Z = true) (x0 : Addr) (x1 : Addr) (kk0 : ClassId) (p0 : Int32) (p1 : Int32) (ga1 : Addr) (ga5 : Addr) (gz13 : Int32) (ga17 : Addr) (gv23 : Value) (gk27 : ClassId) (h0 : Heap) (n0 : Nat) (Z0 : n0 ≤ h0.size) (O0 : Old Z n0 h0) (G : Glob Z ga1 ga5 gz13 ga17 gv23 gk27) (P0 : Exa Z h0 x0 "java/lang/String") (P1 : Fld Z h0 x0 "java/lang/String" "coder" "B" (.int 0)) (P2 : Fld Z h0 x0 "java/lang/String" "value" "[B" .null) (P3 : Arv Z h0 x1 kk0 .char (2 : Int32) [(.int p0), (.int p1)] (.int 0)) (R_p0 : 0 ≤ p0.toInt ∧ p0.toInt ≤ 255) (R_p1 : 0 ≤ p1.toInt ∧ p1.toInt ≤ 255) (g_x0 : n0 ≤ x0) :
    Ctr l Z (⟨"java/lang/String", "<init>", "([CIILjava/lang/Void;)V"⟩ : MethodName) jdk_42_method_149_code 6 none ({ frames := 2, cells := 1, slots := 2, locals := 35 } : Room) #[(.ref x0), (.ref x1), (.int 0), (.int 2), .null] h0 (fun v h L => ∃ (z4_0 : Int32) (z4_1 : Int32) (b4_0 : Addr) (k4_0 : ClassId), (p0.toInt8.toInt32) = z4_0 ∧ (p1.toInt8.toInt32) = z4_1 ∧ v = none ∧ Fr n0 L ∧ Keep h0 h [x0] ∧ h0.size ≤ b4_0 ∧ Exa Z h x0 "java/lang/String" ∧ Fld Z h x0 "java/lang/String" "coder" "B" (.int 0) ∧ Fld Z h x0 "java/lang/String" "value" "[B" (.ref b4_0) ∧ Arv Z h b4_0 k4_0 .byte (2 : Int32) [(.int z4_0), (.int z4_1)] (.int 0) ∧ Exa Z h b4_0 "[B") := by
  refine Ctr.of (plainFor_of_name pn_c0) ?_
  intro p e s m below meth c T0 hx hZ hby hml hown hnm hret hlk e0 es X0
  have G' := G
  obtain ⟨-, -, -, -, -, G5, -, -, -, -, -, G11, -⟩ := G'
  refine Go.cast (ef_3_RRIIN m x0 x1 (0 : Int32) (2 : Int32)) ?_
  generalize hFF : EndN s _ _ _ = FF
  refine Go.aloadN X0 hx (pc' := 1) rfl (hb hby d3_0) rfl rfl ?_
  refine Go.initO X0 hx hZ hown (tw_15 hw) (tw_16 hw) (tw_17 hw) e0 (by decide) (W := 0) (by rw [hml]; rfl) (Nat.le_of_eq rfl) (by decide) (pc' := 4) rfl (hb hby d3_1) ?_
  intro T1 e1 X1
  refine Go.iloadN X1 hx (pc' := 5) rfl (hb hby d3_4) rfl ?_
  refine Go.ifYes X1 hx (pc' := 27) (hb hby d3_5) (by decide) (by decide) (by decide) ?_
  have fk2 : Sta Z h0 "java/lang/String" "COMPACT_STRINGS" "Z" (.int gz13) := G5.ext O0.2
  refine Go.getS X1 hx hZ hown (host := "") (Or.inl (tw_115 hw)) Via.refl e1 fk2 (pc' := 30) rfl (hb hby d3_27) ?_
  intro T3 e3 X3
  refine Go.ifNo X3 hx (pc' := 33) rfl (hb hby d3_30) (feq G11).1 ?_
  refine Go.aloadN X3 hx (pc' := 34) rfl (hb hby d3_33) rfl rfl ?_
  refine Go.iloadN X3 hx (pc' := 35) rfl (hb hby d3_34) rfl ?_
  refine Go.iloadN X3 hx (pc' := 36) rfl (hb hby d3_35) rfl ?_
  refine Go.callS X3 hx hZ hown (tw_127 hw) (tw_128 hw) (tw_129 hw) (tw_130 hw) (by decide) (tw_130 hw) (tw_129 hw) (au_13 l Z a0 hw x1 kk0 p0 p1 h0 n0 Z0 P3 R_p0 R_p1) e3 (argsL := [(.ref x1), (.int 0), (.int 2)]) (rest := []) (pc' := 39) rfl (by rw [hml]; rfl) (lenOf pd_7 rfl) rfl rfl (W := 0) (Nat.le_of_eq rfl) (by decide) (by decide) (by decide) (by decide) (hb hby d3_36) ?_
  intro v4 T4 L4 q4 X4
  obtain ⟨h4, e4⟩ : ∃ z, T4.heap = z := ⟨_, rfl⟩
  rw [e4] at q4
  obtain ⟨z4_0, z4_1, b4_0, k4_0, d4_0, d4_1, rfl, N4, K4, s4_0, F4_0, F4_1⟩ := q4
  show Go _ _ _ _ (T4.setTop (mkF m 39 #[.val (.ref x0), .val (.ref x1), .val (.int 0), .val (.int 2), .val .null, .unset] [(.ref b4_0)]))
  refine Go.astore X4 hx (pc' := 41) rfl (hb hby d3_39) (Ls' := #[.val (.ref x0), .val (.ref x1), .val (.int 0), .val (.int 2), .val .null, .val (.ref b4_0)]) rfl rfl ?_
  refine Go.aloadN X4 hx (pc' := 42) rfl (hb hby d3_41) rfl rfl ?_
  refine Go.aload X4 hx (pc' := 44) rfl (hb hby d3_42) rfl rfl ?_
  refine Go.iloadN X4 hx (pc' := 45) rfl (hb hby d3_44) rfl ?_
  have r5 : -128 ≤ z4_0.toInt ∧ z4_0.toInt ≤ 127 := own_ri2b d4_0
  have r6 : -128 ≤ z4_1.toInt ∧ z4_1.toInt ≤ 127 := own_ri2b d4_1
  have Kp8 : Keep h0 h4 [x0] := ((Keep.refl h0 [x0]).trans K4 all0)
  have Zn7 : n0 ≤ h4.size := Nat.le_trans Z0 Kp8.1
  refine Go.callS X4 hx hZ hown (tw_134 hw) (tw_135 hw) (tw_129 hw) (tw_136 hw) (by decide) (tw_136 hw) (tw_129 hw) (au_15 l Z a0 hw b4_0 k4_0 z4_0 z4_1 h4 n0 Zn7 F4_0) e4 (argsL := [(.ref b4_0), (.int 2)]) (rest := [(.ref x0)]) (pc' := 48) rfl (by rw [hml]; rfl) (lenOf pd_8 rfl) rfl rfl (W := 1) (Nat.le_of_eq rfl) (by decide) (by decide) (by decide) (by decide) (hb hby d3_45) ?_
  intro v9 T9 L9 q9 X9
  obtain ⟨rfl, N9, e9⟩ := q9
  show Go _ _ _ _ (T9.setTop (mkF m 48 #[.val (.ref x0), .val (.ref x1), .val (.int 0), .val (.int 2), .val .null, .val (.ref b4_0)] [(.int 0), (.ref x0)]))
  have fk10 : Fld Z h4 x0 "java/lang/String" "coder" "B" (.int 0) := (P1.keep K4 nin0)
  have fk11 : Exa Z h4 x0 "java/lang/String" := (P0.keep K4)
  refine Go.putFN X9 hx hZ hown (tw_25 hw) Via.refl e9 fk10 fk11 (Or.inr ⟨(tw_21 hw), rfl, hnm⟩) (tw_5 hw) (ty := .byte) (v' := (.int 0)) (by decide) (by decide) (by decide) (pc' := 51) rfl (hb hby d3_48) ?_
  intro T12 h12 e12 W12 F12 X12
  have N12 := Fr.snoc X12 (Fr.app (Fr.app (Fr.nil n0) N4) N9) g_x0
  refine Go.aloadN X12 hx (pc' := 52) rfl (hb hby d3_51) rfl rfl ?_
  refine Go.aload X12 hx (pc' := 54) rfl (hb hby d3_52) rfl rfl ?_
  have fk13 : Fld Z h12 x0 "java/lang/String" "value" "[B" .null := ((P2.keep K4 nin0).other W12 (Or.inr (slot_ne (Or.inr (tw_20 hw)) (Or.inr (tw_21 hw)) (by decide) (t := (.array .byte)) (t' := .byte) (by decide) (by decide))))
  have fk14 : Exa Z h12 x0 "java/lang/String" := (fk11.wr W12)
  refine Go.putF X12 hx hZ hown (host := "") (Or.inl (tw_24 hw)) Via.refl e12 fk13 fk14 (Or.inr ⟨(tw_20 hw), rfl, hnm⟩) (tw_5 hw) (ty := (.array .byte)) (by decide) rfl rfl (pc' := 57) rfl (hb hby d3_54) ?_
  intro T15 h15 e15 W15 F15 X15
  have N15 := Fr.snoc X15 N12 g_x0
  subst hFF
  refine Go.ret0 X15 hx hlk hret (hb hby d3_57) (by decide) (by decide) ?_
  rw [e15]
  have fk16 : Exa Z h15 x0 "java/lang/String" := (fk14.wr W15)
  have fk17 : Fld Z h15 x0 "java/lang/String" "coder" "B" (.int 0) := (F12.other W15 (Or.inr (slot_ne (Or.inr (tw_21 hw)) (Or.inr (tw_20 hw)) (by decide) (t := .byte) (t' := (.array .byte)) (by decide) (by decide))))
  have ne18 : x0 ≠ b4_0 := Nat.ne_of_lt (Nat.lt_of_lt_of_le P0.lt s4_0)
  have fk19 := ((F4_0.other W12 (Ne.symm ne18)).other W15 (Ne.symm ne18))
  have fk20 : Exa Z h15 b4_0 "[B" := ((F4_1.wr W12).wr W15)
  have Kp21 : Keep h0 h12 [x0] := (Kp8.wr W12 (Or.inl (List.mem_of_getElem? (i := 0) rfl)))
  have Kp22 : Keep h0 h15 [x0] := (Kp21.wr W15 (Or.inl (List.mem_of_getElem? (i := 0) rfl)))
  have sz23 : h0.size ≤ b4_0 := Nat.le_trans (Keep.refl h0 [x0]).1 s4_0
  exact ⟨z4_0, z4_1, b4_0, k4_0, d4_0, d4_1, rfl, N15, Kp22, sz23, fk16, fk17, F15, fk19, fk20⟩
-- java/lang/String.init
set_option maxRecDepth 65536 in
set_option maxHeartbeats 4000000 in
theorem au_11 (l : Launch) (Z : State) (a0 : Array Value) (hw : ∀ d ∈ tables_1, d.before a0 Z = true) (x0 : Addr) (x1 : Addr) (kk0 : ClassId) (p0 : Int32) (p1 : Int32) (ga1 : Addr) (ga5 : Addr) (gz13 : Int32) (ga17 : Addr) (gv23 : Value) (gk27 : ClassId) (h0 : Heap) (n0 : Nat) (Z0 : n0 ≤ h0.size) (O0 : Old Z n0 h0) (G : Glob Z ga1 ga5 gz13 ga17 gv23 gk27) (P0 : Exa Z h0 x0 "java/lang/String") (P1 : Fld Z h0 x0 "java/lang/String" "coder" "B" (.int 0)) (P2 : Fld Z h0 x0 "java/lang/String" "value" "[B" .null) (P3 : Arv Z h0 x1 kk0 .char (2 : Int32) [(.int p0), (.int p1)] (.int 0)) (R_p0 : 0 ≤ p0.toInt ∧ p0.toInt ≤ 255) (R_p1 : 0 ≤ p1.toInt ∧ p1.toInt ≤ 255) (g_x0 : n0 ≤ x0) :
    Ctr l Z (⟨"java/lang/String", "<init>", "([C)V"⟩ : MethodName) jdk_42_method_3_code 2 none ({ frames := 3, cells := 1, slots := 2, locals := 52 } : Room) #[(.ref x0), (.ref x1)] h0 (fun v h L => ∃ (z1_0 : Int32) (z1_1 : Int32) (b1_0 : Addr) (k1_0 : ClassId), (p0.toInt8.toInt32) = z1_0 ∧ (p1.toInt8.toInt32) = z1_1 ∧ v = none ∧ Fr n0 L ∧ Keep h0 h [x0] ∧ h0.size ≤ b1_0 ∧ Exa Z h x0 "java/lang/String" ∧ Fld Z h x0 "java/lang/String" "coder" "B" (.int 0) ∧ Fld Z h x0 "java/lang/String" "value" "[B" (.ref b1_0) ∧ Arv Z h b1_0 k1_0 .byte (2 : Int32) [(.int z1_0), (.int z1_1)] (.int 0) ∧ Exa Z h b1_0 "[B") := by
  refine Ctr.of (plainFor_of_name pn_c0) ?_
  intro p e s m below meth c T0 hx hZ hby hml hown hnm hret hlk e0 es X0
  refine Go.cast (ef_2_RR m x0 x1) ?_
  generalize hFF : EndN s _ _ _ = FF
  refine Go.aloadN X0 hx (pc' := 1) rfl (hb hby d2_0) rfl rfl ?_
  refine Go.aloadN X0 hx (pc' := 2) rfl (hb hby d2_1) rfl rfl ?_
  refine Go.iconst X0 hx (pc' := 3) rfl (hb hby d2_2) (v := (0 : Int32)) rfl ?_
  refine Go.aloadN X0 hx (pc' := 4) rfl (hb hby d2_3) rfl rfl ?_
  refine Go.arraylength X0 hx hZ e0 P3 (pc' := 5) rfl (hb hby d2_4) ?_
  refine Go.anull X0 hx (pc' := 6) rfl (hb hby d2_5) ?_
  refine Go.callN X0 hx hZ hown rfl (tw_11 hw) (tw_12 hw) (tw_14 hw) (by decide) (tw_14 hw) (tw_6 hw) (au_12 l Z a0 hw x0 x1 kk0 p0 p1 ga1 ga5 gz13 ga17 gv23 gk27 h0 n0 Z0 O0 G P0 P1 P2 P3 R_p0 R_p1 g_x0) e0 (a := x0) (argsL := [(.ref x1), (.int 0), (.int 2), .null]) (rest := []) (pc' := 9) rfl (by rw [hml]; rfl) (lenOf pd_0 rfl) rfl rfl (W := 0) (Nat.le_of_eq rfl) (by decide) (by decide) (by decide) (by decide) (hb hby d2_6) ?_
  intro v1 T1 L1 q1 X1
  obtain ⟨h1, e1⟩ : ∃ z, T1.heap = z := ⟨_, rfl⟩
  rw [e1] at q1
  obtain ⟨z1_0, z1_1, b1_0, k1_0, d1_0, d1_1, rfl, N1, K1, s1_0, F1_0, F1_1, F1_2, F1_3, F1_4⟩ := q1
  show Go _ _ _ _ (T1.setTop (mkF m 9 #[.val (.ref x0), .val (.ref x1)] []))
  subst hFF
  refine Go.ret0 X1 hx hlk hret (hb hby d2_9) (by decide) (by decide) ?_
  rw [e1]
  have Kp2 : Keep h0 h1 [x0] := ((Keep.refl h0 [x0]).trans K1 (allS (Or.inl (List.mem_of_getElem? (i := 0) rfl)) all0))
  have sz3 : h0.size ≤ b1_0 := Nat.le_trans (Keep.refl h0 [x0]).1 s1_0
  exact ⟨z1_0, z1_1, b1_0, k1_0, d1_0, d1_1, rfl, (Fr.app (Fr.nil n0) N1), Kp2, sz3, F1_0, F1_1, F1_2, F1_3, F1_4⟩
theorem d1_70 : decode method_2_code 70 = .ok (.invokespecial 9, 3) := by decide +kernel
theorem d1_73 : decode method_2_code 73 = .ok (.areturn, 1) := by decide +kernel
theorem ef_1_I (m : MethodId) (x0 : Int32) : entryFrame m #[(.int x0)] 5 = mkF m 0 #[.val (.int x0), .unset, .unset, .unset, .unset] [] := by first | (simp [entryFrame, mkF, argsToLocals, Value.category]; done) | rfl
theorem pn_c3 : plainName "com/example/dirbound/dirbound/CompositeNameOfPinLaw" = true := by first | (simp [plainName, overriddenIn]; done) | decide +kernel
-- com/example/dirbound/dirbound/CompositeNameOfPinLaw.mk
set_option maxRecDepth 65536 in
set_option maxHeartbeats 4000000 in
theorem au_6 (l : Launch) (Z : State) (a0 : Array Value) (hw : ∀ d ∈ tables_1, d.before a0 Z = true) (p0 : Int32) (ga1 : Addr) (ga5 : Addr) (gz13 : Int32) (ga17 : Addr) (gv23 : Value) (gk27 : ClassId) (h0 : Heap) (n0 : Nat) (Z0 : n0 ≤ h0.size) (O0 : Old Z n0 h0) (G : Glob Z ga1 ga5 gz13 ga17 gv23 gk27) :
    CtrW l Z EL0 (⟨"com/example/dirbound/dirbound/CompositeNameOfPinLaw", "mk", "(I)Ljava/lang/String;"⟩ : MethodName) method_2_code 5 (some (.object "java/lang/String")) ({ frames := 4, cells := 6, slots := 12, locals := 66 } : Room) #[(.int p0)] h0 [] (fun v vm h L => ∃ bz : Addr, v = some (.ref bz) ∧ Fr n0 L ∧ Keep h0 h [] ∧ h0.size ≤ bz ∧ Safe Z EL0 vm h bz ∧ Exa Z h bz "java/lang/String") := by
  refine CtrW.of (plainFor_of_name pn_c3) ?_
  intro p e s m below meth c T0 hx hZ hby hml hown hnm hret hlk e0 es hS0 C0 hsf X0
  refine Go.cast (ef_1_I m p0) ?_
  generalize hFF : EndW Z EL0 s _ _ _ = FF
  refine Go.iloadN X0 hx (pc' := 1) rfl (hb hby d1_0) rfl ?_
  refine Go.bipush X0 hx (pc' := 3) rfl (hb hby d1_1) (v := (24 : Int32)) (by decide) ?_
  refine Go.iushr X0 hx (pc' := 4) rfl (hb hby d1_3) ?_
  generalize hz1 : ((p0.toUInt32 >>> ((24 : Int32) &&& 31).toUInt32).toInt32) = z1
  refine Go.iconst X0 hx (pc' := 5) rfl (hb hby d1_4) (v := (3 : Int32)) rfl ?_
  refine Go.irem X0 hx (pc' := 6) rfl (hb hby d1_5) (by decide) ?_
  have r2 : 0 ≤ z1.toInt ∧ z1.toInt ≤ 255 := own_rushr hz1 (k := 24) (by decide) (by decide) (by decide)
  generalize hz3 : (z1 % (3 : Int32)) = z3
  refine Go.istoreN X0 hx (pc' := 7) rfl (hb hby d1_6) (Ls' := #[.val (.int p0), .val (.int z3), .unset, .unset, .unset]) rfl ?_
  refine Go.iloadN X0 hx (pc' := 8) rfl (hb hby d1_7) rfl ?_
  refine Go.sipush X0 hx (pc' := 11) rfl (hb hby d1_8) (v := (255 : Int32)) (by decide) ?_
  refine Go.iand X0 hx (pc' := 12) rfl (hb hby d1_11) ?_
  generalize hz4 : (p0 &&& (255 : Int32)) = z4
  refine Go.i2c X0 hx (pc' := 13) rfl (hb hby d1_12) ?_
  have r5 : 0 ≤ z4.toInt ∧ z4.toInt ≤ 255 := own_rand hz4 (by decide)
  rw [show (z4.toUInt32.toUInt16.toUInt32.toInt32) = z4 from (own_i2c_id r5 (by decide) (by decide))]
  refine Go.istoreN X0 hx (pc' := 14) rfl (hb hby d1_13) (Ls' := #[.val (.int p0), .val (.int z3), .val (.int z4), .unset, .unset]) rfl ?_
  refine Go.iloadN X0 hx (pc' := 15) rfl (hb hby d1_14) rfl ?_
  refine Go.bipush X0 hx (pc' := 17) rfl (hb hby d1_15) (v := (8 : Int32)) (by decide) ?_
  refine Go.iushr X0 hx (pc' := 18) rfl (hb hby d1_17) ?_
  generalize hz6 : ((p0.toUInt32 >>> ((8 : Int32) &&& 31).toUInt32).toInt32) = z6
  refine Go.sipush X0 hx (pc' := 21) rfl (hb hby d1_18) (v := (255 : Int32)) (by decide) ?_
  refine Go.iand X0 hx (pc' := 22) rfl (hb hby d1_21) ?_
  have r7 : 0 ≤ z6.toInt ∧ z6.toInt ≤ 16777215 := own_rushr hz6 (k := 8) (by decide) (by decide) (by decide)
  generalize hz8 : (z6 &&& (255 : Int32)) = z8
  refine Go.i2c X0 hx (pc' := 23) rfl (hb hby d1_22) ?_
  have r9 : 0 ≤ z8.toInt ∧ z8.toInt ≤ 255 := own_rand hz8 (by decide)
  rw [show (z8.toUInt32.toUInt16.toUInt32.toInt32) = z8 from (own_i2c_id r9 (by decide) (by decide))]
  refine Go.istoreN X0 hx (pc' := 24) rfl (hb hby d1_23) (Ls' := #[.val (.int p0), .val (.int z3), .val (.int z4), .val (.int z8), .unset]) rfl ?_
  refine Go.iloadN X0 hx (pc' := 25) rfl (hb hby d1_24) rfl ?_
  have r10 : 0 ≤ z3.toInt ∧ z3.toInt ≤ 2 := own_rrem hz3 (d := 3) (by decide) (by decide) r2 (by decide) (by decide)
  by_cases hc11 : z3 = (0 : Int32)
  · refine Go.ifNo X0 hx (pc' := 28) rfl (hb hby d1_25) (teq hc11).2 ?_
    refine Go.new X0 hx hZ hown (tw_4 hw) (tw_5 hw) (tw_6 hw) e0 (by decide) (by decide) (pc' := 31) rfl (hb hby d1_28) ?_
    intro T12 h12 b12 e12 E12 g12 A12 D12 X12
    have b12_value : Fld Z h12 b12 "java/lang/String" "value" "[B" .null := D12 (Or.inr (tw_20 hw)) (ty := (.array .byte)) (by decide)
    have b12_coder : Fld Z h12 b12 "java/lang/String" "coder" "B" (.int 0) := D12 (Or.inr (tw_21 hw)) (ty := .byte) (by decide)
    refine Go.dup X12 hx (pc' := 32) rfl (hb hby d1_31) rfl ?_
    refine Go.iconst X12 hx (pc' := 33) rfl (hb hby d1_32) (v := (0 : Int32)) rfl ?_
    refine Go.newarray X12 hx hZ (ty := .char) rfl (tw_7 hw) e12 (by decide) (cap := 0) (by decide) (by decide) (by decide) (by decide) (ad := "[C") (by decide) 0 (pc' := 35) rfl (hb hby d1_33) ?_
    intro T13 h13 b13 k13 e13 E13 g13 V13 A13 X13
    have V13' : Arv Z h13 b13 k13 .char (0 : Int32) [] (.int 0) := V13
    have Kp15 : Keep h0 h12 [] := ((Keep.refl h0 []).ext E12)
    have Kp16 : Keep h0 h13 [] := (Kp15.ext E13)
    have Zn14 : n0 ≤ h13.size := Nat.le_trans Z0 Kp16.1
    have fk17 : Exa Z h13 b12 "java/lang/String" := (A12.ext E13)
    have fk18 : Fld Z h13 b12 "java/lang/String" "coder" "B" (.int 0) := (b12_coder.ext E13)
    have fk19 : Fld Z h13 b12 "java/lang/String" "value" "[B" .null := (b12_value.ext E13)
    have sz21 : h0.size ≤ b12 := Nat.le_trans (Keep.refl h0 []).1 (Nat.le_of_eq g12.symm)
    have ge20 : n0 ≤ b12 := Nat.le_trans Z0 sz21
    have C22 : CHr Z EL0 s.vm s.heap s.vm h12 := (C0.trans (CHr.ext E12 C0.1))
    have C23 : CHr Z EL0 s.vm s.heap s.vm h13 := (C22.trans (CHr.ext E13 C22.1))
    have fk24 : Safe Z EL0 s.vm h12 b12 := (Safe.ext E12 C0.1 (Safe.new (Nat.le_of_eq g12.symm) : Safe Z EL0 s.vm h0 b12))
    have fk25 : Safe Z EL0 s.vm h13 b12 := (Safe.ext E13 C22.1 fk24)
    have hk26 := (Nat.le_trans (Nat.le_trans (Nat.le_refl _) E12.1) E13.1)
    refine Go.callNW X13 hx hZ hown rfl (tw_8 hw) (tw_9 hw) (tw_10 hw) (by decide) (tw_10 hw) (tw_6 hw) (au_5 l Z a0 hw b12 b13 k13 ga1 ga5 gz13 ga17 gv23 gk27 h13 n0 Zn14 G fk17 fk18 fk19 V13' ge20) (own_EW hw) C23.1 (allS ⟨fk17.lt, fk25⟩ all0) hS0 hk26 e13 (a := b12) (argsL := [(.ref b13)]) (rest := [(.ref b12)]) (pc' := 38) rfl (by rw [hml]; rfl) (lenOf pd_1 rfl) rfl rfl (W := 1) (Nat.le_of_eq rfl) (by decide) (by decide) (by decide) (by decide) (hb hby d1_35) ?_
    intro v27 T27 L27 h27 e27 q27 C27 S27 Z27 O27 X27
    obtain ⟨b27_0, k27_0, rfl, N27, K27, F27_0, F27_1, F27_2, F27_3⟩ := q27
    show Go _ _ _ _ (T27.setTop (mkF m 38 #[.val (.int p0), .val (.int z3), .val (.int z4), .val (.int z8), .unset] [(.ref b12)]))
    subst hFF
    have C28 : CHr Z EL0 s.vm s.heap T27.vm h27 := (C23.trans C27)
    refine Go.retRW X27 hx hlk Z27 (own_EW hw) e27 S27 (Nat.le_refl _) C28 (t := (.object "java/lang/String")) hret rfl rfl (hb hby d1_38) (by decide) (by decide) (fun hat => ?_)
    have Kp29 : Keep h0 h27 [] := (Kp16.trans K27 (allS (Or.inr sz21) all0))
    have fk30 : Safe Z EL0 T27.vm h27 b12 := (C27.safe fk17.lt fk25)
    exact ⟨b12, rfl, (Fr.app (Fr.nil n0) N27), Kp29, sz21, (hat.safe F27_0.lt fk30), F27_0⟩
  · refine Go.ifYes X0 hx (pc' := 39) (hb hby d1_25) (feq hc11).2 (by decide) (by decide) ?_
    refine Go.iloadN X0 hx (pc' := 40) rfl (hb hby d1_39) rfl ?_
    refine Go.iconst X0 hx (pc' := 41) rfl (hb hby d1_40) (v := (1 : Int32)) rfl ?_
    by_cases hc31 : z3 = (1 : Int32)
    · refine Go.icmpNo X0 hx (pc' := 44) rfl (hb hby d1_41) (teq hc31).2 ?_
      refine Go.iloadN X0 hx (pc' := 45) rfl (hb hby d1_44) rfl ?_
      refine Go.callS X0 hx hZ hown (tw_112 hw) (tw_113 hw) (tw_6 hw) (tw_114 hw) (by decide) (tw_114 hw) (tw_6 hw) (au_7 l Z a0 hw z4 ga1 ga5 gz13 ga17 gv23 gk27 h0 n0 Z0 O0 G r5) e0 (argsL := [(.int z4)]) (rest := []) (pc' := 48) rfl (by rw [hml]; rfl) (lenOf pd_5 rfl) rfl rfl (W := 0) (Nat.le_of_eq rfl) (by decide) (by decide) (by decide) (by decide) (hb hby d1_45) ?_
      intro v32 T32 L32 q32 X32
      obtain ⟨h32, e32⟩ : ∃ z, T32.heap = z := ⟨_, rfl⟩
      rw [e32] at q32
      obtain ⟨z32_0, b32_0, b32_1, k32_0, d32_0, rfl, N32, K32, s32_0, s32_1, n32_0, F32_0, F32_1, F32_2, F32_3, F32_4⟩ := q32
      show Go _ _ _ _ (T32.setTop (mkF m 48 #[.val (.int p0), .val (.int z3), .val (.int z4), .val (.int z8), .unset] [(.ref b32_0)]))
      subst hFF
      have C33 : CHr Z EL0 s.vm s.heap s.vm h32 := (C0.trans (CHr.keep K32 sf0 C0.1))
      have hk34 := (Nat.le_trans (Nat.le_refl _) K32.1)
      refine Go.retRW X32 hx hlk hZ (own_EW hw) e32 hS0 hk34 C33 (t := (.object "java/lang/String")) hret rfl rfl (hb hby d1_48) (by decide) (by decide) (fun hat => ?_)
      have Kp35 : Keep h0 h32 [] := ((Keep.refl h0 []).trans K32 all0)
      have sz36 : h0.size ≤ b32_0 := Nat.le_trans (Keep.refl h0 []).1 s32_0
      have sz37 : h0.size ≤ b32_1 := Nat.le_trans (Keep.refl h0 []).1 s32_1
      have fk38 : Safe Z EL0 s.vm h32 b32_0 := (Safe.keep K32 sf0 C0.1 (Safe.new s32_0 : Safe Z EL0 s.vm h0 b32_0))
      have fk39 : Safe Z EL0 s.vm h32 b32_1 := (Safe.keep K32 sf0 C0.1 (Safe.new s32_1 : Safe Z EL0 s.vm h0 b32_1))
      exact ⟨b32_0, rfl, (Fr.app (Fr.nil n0) N32), Kp35, sz36, (hat.safe F32_0.lt fk38), F32_0⟩
    · refine Go.icmpYes X0 hx (pc' := 49) (hb hby d1_41) (feq hc31).2 (by decide) (by decide) ?_
      refine Go.iconst X0 hx (pc' := 50) rfl (hb hby d1_49) (v := (2 : Int32)) rfl ?_
      refine Go.newarray X0 hx hZ (ty := .char) rfl (tw_7 hw) e0 (by decide) (cap := 2) (by decide) (by decide) (by decide) (by decide) (ad := "[C") (by decide) 2 (pc' := 52) rfl (hb hby d1_50) ?_
      intro T40 h40 b40 k40 e40 E40 g40 V40 A40 X40
      have V40' : Arv Z h40 b40 k40 .char (2 : Int32) [(.int 0), (.int 0)] (.int 0) := V40
      refine Go.astore X40 hx (pc' := 54) rfl (hb hby d1_52) (Ls' := #[.val (.int p0), .val (.int z3), .val (.int z4), .val (.int z8), .val (.ref b40)]) rfl rfl ?_
      refine Go.aload X40 hx (pc' := 56) rfl (hb hby d1_54) rfl rfl ?_
      refine Go.iconst X40 hx (pc' := 57) rfl (hb hby d1_56) (v := (0 : Int32)) rfl ?_
      refine Go.iloadN X40 hx (pc' := 58) rfl (hb hby d1_57) rfl ?_
      have sz42 : h0.size ≤ b40 := Nat.le_trans (Keep.refl h0 []).1 (Nat.le_of_eq g40.symm)
      have ge41 : n0 ≤ b40 := Nat.le_trans Z0 sz42
      refine Go.castore X40 hx hZ e40 V40' z4 (own_nar_char r5 (by decide) (by decide)) ⟨by decide, by decide⟩ 0 rfl (Nat.le_of_ble_eq_true rfl) (pc' := 59) rfl (hb hby d1_58) ?_
      intro T43 h43 e43 W43 V43 X43
      have N43 := Fr.snoc X43 (Fr.nil n0) ge41
      refine Go.aload X43 hx (pc' := 61) rfl (hb hby d1_59) rfl rfl ?_
      refine Go.iconst X43 hx (pc' := 62) rfl (hb hby d1_61) (v := (1 : Int32)) rfl ?_
      refine Go.iloadN X43 hx (pc' := 63) rfl (hb hby d1_62) rfl ?_
      refine Go.castore X43 hx hZ e43 V43 z8 (own_nar_char r9 (by decide) (by decide)) ⟨by decide, by decide⟩ 1 rfl (Nat.le_of_ble_eq_true rfl) (pc' := 64) rfl (hb hby d1_63) ?_
      intro T44 h44 e44 W44 V44 X44
      have N44 := Fr.snoc X44 N43 ge41
      refine Go.new X44 hx hZ hown (tw_4 hw) (tw_5 hw) (tw_6 hw) e44 (by decide) (by decide) (pc' := 67) rfl (hb hby d1_64) ?_
      intro T45 h45 b45 e45 E45 g45 A45 D45 X45
      have b45_value : Fld Z h45 b45 "java/lang/String" "value" "[B" .null := D45 (Or.inr (tw_20 hw)) (ty := (.array .byte)) (by decide)
      have b45_coder : Fld Z h45 b45 "java/lang/String" "coder" "B" (.int 0) := D45 (Or.inr (tw_21 hw)) (ty := .byte) (by decide)
      refine Go.dup X45 hx (pc' := 68) rfl (hb hby d1_67) rfl ?_
      refine Go.aload X45 hx (pc' := 70) rfl (hb hby d1_68) rfl rfl ?_
      have Kp47 : Keep h0 h40 [] := ((Keep.refl h0 []).ext E40)
      have Kp48 : Keep h0 h43 [] := (Kp47.wr W43 (Or.inr sz42))
      have Kp49 : Keep h0 h44 [] := (Kp48.wr W44 (Or.inr sz42))
      have Kp50 : Keep h0 h45 [] := (Kp49.ext E45)
      have Zn46 : n0 ≤ h45.size := Nat.le_trans Z0 Kp50.1
      have O51 := (O0.ext E40)
      have O52 := (O51.wr W43 ge41)
      have O53 := (O52.wr W44 ge41)
      have O54 := (O53.ext E45)
      have V55 : Arv Z h44 b40 k40 .char (2 : Int32) [(.int z4), (.int z8)] (.int 0) := V44
      have fk56 := (V55.ext E45)
      have sz58 : h0.size ≤ b45 := Nat.le_trans Kp49.1 (Nat.le_of_eq g45.symm)
      have ge57 : n0 ≤ b45 := Nat.le_trans Z0 sz58
      refine Go.callN X45 hx hZ hown rfl (tw_8 hw) (tw_9 hw) (tw_10 hw) (by decide) (tw_10 hw) (tw_6 hw) (au_11 l Z a0 hw b45 b40 k40 z4 z8 ga1 ga5 gz13 ga17 gv23 gk27 h45 n0 Zn46 O54 G A45 b45_coder b45_value fk56 r5 r9 ge57) e45 (a := b45) (argsL := [(.ref b40)]) (rest := [(.ref b45)]) (pc' := 73) rfl (by rw [hml]; rfl) (lenOf pd_1 rfl) rfl rfl (W := 1) (Nat.le_of_eq rfl) (by decide) (by decide) (by decide) (by decide) (hb hby d1_70) ?_
      intro v59 T59 L59 q59 X59
      obtain ⟨h59, e59⟩ : ∃ z, T59.heap = z := ⟨_, rfl⟩
      rw [e59] at q59
      obtain ⟨z59_0, z59_1, b59_0, k59_0, d59_0, d59_1, rfl, N59, K59, s59_0, F59_0, F59_1, F59_2, F59_3, F59_4⟩ := q59
      show Go _ _ _ _ (T59.setTop (mkF m 73 #[.val (.int p0), .val (.int z3), .val (.int z4), .val (.int z8), .val (.ref b40)] [(.ref b45)]))
      subst hFF
      have C60 : CHr Z EL0 s.vm s.heap s.vm h40 := (C0.trans (CHr.ext E40 C0.1))
      have fk61 : Safe Z EL0 s.vm h40 b40 := (Safe.ext E40 C0.1 (Safe.new (Nat.le_of_eq g40.symm) : Safe Z EL0 s.vm h0 b40))
      have C62 : CHr Z EL0 s.vm s.heap s.vm h43 := (C60.trans (CHr.wr W43 fk61 C60.1))
      have fk63 : Safe Z EL0 s.vm h43 b40 := (Safe.wr W43 fk61 C60.1 fk61)
      have C64 : CHr Z EL0 s.vm s.heap s.vm h44 := (C62.trans (CHr.wr W44 fk63 C62.1))
      have C65 : CHr Z EL0 s.vm s.heap s.vm h45 := (C64.trans (CHr.ext E45 C64.1))
      have fk66 : Safe Z EL0 s.vm h45 b45 := (Safe.ext E45 C64.1 (Safe.new (Nat.le_of_eq g45.symm) : Safe Z EL0 s.vm h44 b45))
      have C67 : CHr Z EL0 s.vm s.heap s.vm h59 := (C65.trans (CHr.keep K59 (sfS fk66 sf0) C65.1))
      have hk68 := (Nat.le_trans (Nat.le_trans (Nat.le_trans (Nat.le_trans (Nat.le_trans (Nat.le_refl _) E40.1) (Keep.of_wr W43).1) (Keep.of_wr W44).1) E45.1) K59.1)
      refine Go.retRW X59 hx hlk hZ (own_EW hw) e59 hS0 hk68 C67 (t := (.object "java/lang/String")) hret rfl rfl (hb hby d1_73) (by decide) (by decide) (fun hat => ?_)
      have Kp69 : Keep h0 h59 [] := (Kp50.trans K59 (allS (Or.inr sz58) all0))
      have sz70 : h0.size ≤ b59_0 := Nat.le_trans Kp50.1 s59_0
      have ne71 : b45 ≠ b59_0 := Nat.ne_of_lt (Nat.lt_of_lt_of_le A45.lt s59_0)
      have fk72 : Safe Z EL0 s.vm h59 b45 := (Safe.keep K59 (sfS fk66 sf0) C65.1 fk66)
      have fk73 : Safe Z EL0 s.vm h59 b59_0 := (Safe.keep K59 (sfS fk66 sf0) C65.1 (Safe.new s59_0 : Safe Z EL0 s.vm h45 b59_0))
      exact ⟨b45, rfl, (Fr.app N44 N59), Kp69, sz58, (hat.safe F59_0.lt fk72), F59_0⟩
theorem pd_9 : parseMethodDescriptor "(I)Ljava/lang/String;" = some ⟨[.int], some (.object "java/lang/String")⟩ := by decide +kernel
theorem own_cs_0_3 {z : Int32} (h : 0 ≤ z.toInt ∧ z.toInt ≤ 3) : z = (0 : Int32) ∨ z = (1 : Int32) ∨ z = (2 : Int32) ∨ z = (3 : Int32) := by
  have q : z.toInt = 0 ∨ z.toInt = 1 ∨ z.toInt = 2 ∨ z.toInt = 3 := by omega
  rcases q with h | h | h | h <;> simp [← Int32.toInt_inj, h]
theorem d5_0 : decode prog_5_method_2_code 0 = .ok (.new 8, 3) := by decide +kernel
theorem d5_3 : decode prog_5_method_2_code 3 = .ok (.dup, 1) := by decide +kernel
theorem d5_4 : decode prog_5_method_2_code 4 = .ok (.aload_n 0, 1) := by decide +kernel
theorem d6_0 : decode jdk_40_method_47_code 0 = .ok (.aload_n 0, 1) := by decide +kernel
theorem d6_1 : decode jdk_40_method_47_code 1 = .ok (.arraylength, 1) := by decide +kernel
theorem d6_2 : decode jdk_40_method_47_code 2 = .ok (.tableswitch 57 0 2 #[26, 32, 43], 26) := by decide +kernel
theorem d6_28 : decode jdk_40_method_47_code 28 = .ok (.getstatic 90, 3) := by decide +kernel
theorem d6_31 : decode jdk_40_method_47_code 31 = .ok (.astore_n 1, 1) := by decide +kernel
theorem d6_32 : decode jdk_40_method_47_code 32 = .ok (.aload_n 1, 1) := by decide +kernel
theorem d6_33 : decode jdk_40_method_47_code 33 = .ok (.areturn, 1) := by decide +kernel
theorem ef_6_R (m : MethodId) (x0 : Addr) : entryFrame m #[(.ref x0)] 2 = mkF m 0 #[.val (.ref x0), .unset] [] := by first | (simp [entryFrame, mkF, argsToLocals, Value.category]; done) | rfl
theorem pn_c4 : plainName "java/util/List" = true := by first | (simp [plainName, overriddenIn]; done) | decide +kernel
-- java/util/List.of
set_option maxRecDepth 65536 in
set_option maxHeartbeats 4000000 in
theorem au_17 (l : Launch) (Z : State) (a0 : Array Value) (hw : ∀ d ∈ tables_1, d.before a0 Z = true) (x0 : Addr) (kk0 : ClassId) (ga1 : Addr) (ga5 : Addr) (gz13 : Int32) (ga17 : Addr) (gv23 : Value) (gk27 : ClassId) (h0 : Heap) (n0 : Nat) (Z0 : n0 ≤ h0.size) (O0 : Old Z n0 h0) (G : Glob Z ga1 ga5 gz13 ga17 gv23 gk27) (P0 : Arv Z h0 x0 kk0 (.object "java/lang/String") (0 : Int32) [] .null) :
    Ctr l Z (⟨"java/util/List", "of", "([Ljava/lang/Object;)Ljava/util/List;"⟩ : MethodName) jdk_40_method_47_code 2 (some (.object "java/util/List")) ({ frames := 0, cells := 0, slots := 0, locals := 0 } : Room) #[(.ref x0)] h0 (fun v h L => v = some (.ref ga1) ∧ Fr n0 L ∧ h = h0) := by
  refine Ctr.of (plainFor_of_name pn_c4) ?_
  intro p e s m below meth c T0 hx hZ hby hml hown hnm hret hlk e0 es X0
  have G' := G
  obtain ⟨G0, -, -, -, -, -, -, -, -, -, -, -, -⟩ := G'
  refine Go.cast (ef_6_R m x0) ?_
  generalize hFF : EndN s _ _ _ = FF
  refine Go.aloadN X0 hx (pc' := 1) rfl (hb hby d6_0) rfl rfl ?_
  refine Go.arraylength X0 hx hZ e0 P0 (pc' := 2) rfl (hb hby d6_1) ?_
  refine Go.tswIn X0 hx (pc' := 28) (hb hby d6_2) (by decide) (o := 26) (by decide) (by decide) (by decide) ?_
  have fk1 : Sta Z h0 "java/util/ImmutableCollections" "EMPTY_LIST" "Ljava/util/ImmutableCollections$ListN;" (.ref ga1) := G0.ext O0.2
  refine Go.getS X0 hx hZ hown (host := "") (Or.inl (tw_37 hw)) Via.refl e0 fk1 (pc' := 31) rfl (hb hby d6_28) ?_
  intro T2 e2 X2
  refine Go.astoreN X2 hx (pc' := 32) rfl (hb hby d6_31) (Ls' := #[.val (.ref x0), .val (.ref ga1)]) rfl rfl ?_
  refine Go.aloadN X2 hx (pc' := 33) rfl (hb hby d6_32) rfl rfl ?_
  subst hFF
  refine Go.retR X2 hx hlk (t := (.object "java/util/List")) hret rfl rfl (hb hby d6_33) (by decide) (by decide) ?_
  rw [e2]
  exact ⟨rfl, (Fr.nil n0), rfl⟩
theorem pd_10 : parseMethodDescriptor "([Ljava/lang/Object;)Ljava/util/List;" = some ⟨[(.array (.object "java/lang/Object"))], some (.object "java/util/List")⟩ := by decide +kernel
theorem d5_5 : decode prog_5_method_2_code 5 = .ok (.invokestatic 13, 3) := by decide +kernel
theorem d7_0 : decode prog_5_method_1_code 0 = .ok (.aload_n 0, 1) := by decide +kernel
theorem d7_1 : decode prog_5_method_1_code 1 = .ok (.invokespecial 1, 3) := by decide +kernel
theorem d7_4 : decode prog_5_method_1_code 4 = .ok (.aload_n 0, 1) := by decide +kernel
theorem d7_5 : decode prog_5_method_1_code 5 = .ok (.aload_n 1, 1) := by decide +kernel
theorem d7_6 : decode prog_5_method_1_code 6 = .ok (.putfield 7, 3) := by decide +kernel
theorem d7_9 : decode prog_5_method_1_code 9 = .ok (.return_, 1) := by decide +kernel
theorem ef_7_RR (m : MethodId) (x0 : Addr) (x1 : Addr) : entryFrame m #[(.ref x0), (.ref x1)] 2 = mkF m 0 #[.val (.ref x0), .val (.ref x1)] [] := by first | (simp [entryFrame, mkF, argsToLocals, Value.category]; done) | rfl
theorem pn_c5 : plainName "com/example/dirbound/dirbound/CompositeName" = true := by first | (simp [plainName, overriddenIn]; done) | decide +kernel
-- com/example/dirbound/dirbound/CompositeName.init
set_option maxRecDepth 65536 in
set_option maxHeartbeats 4000000 in
theorem au_18 (l : Launch) (Z : State) (a0 : Array Value) (hw : ∀ d ∈ tables_1, d.before a0 Z = true) (x0 : Addr) (ga1 : Addr) (ga5 : Addr) (gz13 : Int32) (ga17 : Addr) (gv23 : Value) (gk27 : ClassId) (h0 : Heap) (n0 : Nat) (Z0 : n0 ≤ h0.size) (P0 : Exa Z h0 x0 "com/example/dirbound/dirbound/CompositeName") (P1 : Fld Z h0 x0 "com/example/dirbound/dirbound/CompositeName" "components" "Ljava/util/List;" .null) (g_x0 : n0 ≤ x0) :
    Ctr l Z (⟨"com/example/dirbound/dirbound/CompositeName", "<init>", "(Ljava/util/List;)V"⟩ : MethodName) prog_5_method_1_code 2 none ({ frames := 1, cells := 0, slots := 0, locals := 12 } : Room) #[(.ref x0), (.ref ga1)] h0 (fun v h L => v = none ∧ Fr n0 L ∧ Keep h0 h [x0] ∧ Exa Z h x0 "com/example/dirbound/dirbound/CompositeName" ∧ Fld Z h x0 "com/example/dirbound/dirbound/CompositeName" "components" "Ljava/util/List;" (.ref ga1)) := by
  refine Ctr.of (plainFor_of_name pn_c5) ?_
  intro p e s m below meth c T0 hx hZ hby hml hown hnm hret hlk e0 es X0
  refine Go.cast (ef_7_RR m x0 ga1) ?_
  generalize hFF : EndN s _ _ _ = FF
  refine Go.aloadN X0 hx (pc' := 1) rfl (hb hby d7_0) rfl rfl ?_
  refine Go.initO X0 hx hZ hown (tw_42 hw) (tw_16 hw) (tw_17 hw) e0 (by decide) (W := 0) (by rw [hml]; rfl) (Nat.le_of_eq rfl) (by decide) (pc' := 4) rfl (hb hby d7_1) ?_
  intro T1 e1 X1
  refine Go.aloadN X1 hx (pc' := 5) rfl (hb hby d7_4) rfl rfl ?_
  refine Go.aloadN X1 hx (pc' := 6) rfl (hb hby d7_5) rfl rfl ?_
  refine Go.putF X1 hx hZ hown (host := "") (Or.inl (tw_43 hw)) Via.refl e1 P1 P0 (Or.inr ⟨(tw_44 hw), rfl, hnm⟩) (tw_32 hw) (ty := (.object "java/util/List")) (by decide) rfl rfl (pc' := 9) rfl (hb hby d7_6) ?_
  intro T2 h2 e2 W2 F2 X2
  have N2 := Fr.snoc X2 (Fr.nil n0) g_x0
  subst hFF
  refine Go.ret0 X2 hx hlk hret (hb hby d7_9) (by decide) (by decide) ?_
  rw [e2]
  have fk3 : Exa Z h2 x0 "com/example/dirbound/dirbound/CompositeName" := (P0.wr W2)
  have Kp4 : Keep h0 h2 [x0] := ((Keep.refl h0 [x0]).wr W2 (Or.inl (List.mem_of_getElem? (i := 0) rfl)))
  exact ⟨rfl, N2, Kp4, fk3, F2⟩
theorem pd_11 : parseMethodDescriptor "(Ljava/util/List;)V" = some ⟨[(.object "java/util/List")], none⟩ := by decide +kernel
theorem d5_8 : decode prog_5_method_2_code 8 = .ok (.invokespecial 19, 3) := by decide +kernel
theorem d5_11 : decode prog_5_method_2_code 11 = .ok (.areturn, 1) := by decide +kernel
theorem ef_5_R (m : MethodId) (x0 : Addr) : entryFrame m #[(.ref x0)] 1 = mkF m 0 #[.val (.ref x0)] [] := by first | (simp [entryFrame, mkF, argsToLocals, Value.category]; done) | rfl
-- com/example/dirbound/dirbound/CompositeName.of
set_option maxRecDepth 65536 in
set_option maxHeartbeats 4000000 in
theorem au_16 (l : Launch) (Z : State) (a0 : Array Value) (hw : ∀ d ∈ tables_1, d.before a0 Z = true) (x0 : Addr) (kk0 : ClassId) (ga1 : Addr) (ga5 : Addr) (gz13 : Int32) (ga17 : Addr) (gv23 : Value) (gk27 : ClassId) (h0 : Heap) (n0 : Nat) (Z0 : n0 ≤ h0.size) (O0 : Old Z n0 h0) (G : Glob Z ga1 ga5 gz13 ga17 gv23 gk27) (P0 : Arv Z h0 x0 kk0 (.object "java/lang/String") (0 : Int32) [] .null) :
    Ctr l Z (⟨"com/example/dirbound/dirbound/CompositeName", "of", "([Ljava/lang/String;)Lcom/example/dirbound/dirbound/CompositeName;"⟩ : MethodName) prog_5_method_2_code 1 (some (.object "com/example/dirbound/dirbound/CompositeName")) ({ frames := 2, cells := 1, slots := 1, locals := 26 } : Room) #[(.ref x0)] h0 (fun v h L => ∃ (b1 : Addr), v = some (.ref b1) ∧ Fr n0 L ∧ Keep h0 h [] ∧ h0.size ≤ b1 ∧ Exa Z h b1 "com/example/dirbound/dirbound/CompositeName" ∧ Fld Z h b1 "com/example/dirbound/dirbound/CompositeName" "components" "Ljava/util/List;" (.ref ga1)) := by
  refine Ctr.of (plainFor_of_name pn_c5) ?_
  intro p e s m below meth c T0 hx hZ hby hml hown hnm hret hlk e0 es X0
  refine Go.cast (ef_5_R m x0) ?_
  generalize hFF : EndN s _ _ _ = FF
  refine Go.new X0 hx hZ hown (tw_31 hw) (tw_32 hw) (tw_29 hw) e0 (by decide) (by decide) (pc' := 3) rfl (hb hby d5_0) ?_
  intro T1 h1 b1 e1 E1 g1 A1 D1 X1
  have b1_components : Fld Z h1 b1 "com/example/dirbound/dirbound/CompositeName" "components" "Ljava/util/List;" .null := D1 (Or.inr (tw_44 hw)) (ty := (.object "java/util/List")) (by decide)
  refine Go.dup X1 hx (pc' := 4) rfl (hb hby d5_3) rfl ?_
  refine Go.aloadN X1 hx (pc' := 5) rfl (hb hby d5_4) rfl rfl ?_
  have Kp3 : Keep h0 h1 [] := ((Keep.refl h0 []).ext E1)
  have Zn2 : n0 ≤ h1.size := Nat.le_trans Z0 Kp3.1
  have O4 := (O0.ext E1)
  have fk5 := (P0.ext E1)
  refine Go.callS X1 hx hZ hown (tw_33 hw) (tw_34 hw) (tw_35 hw) (tw_36 hw) (by decide) (tw_36 hw) (tw_35 hw) (au_17 l Z a0 hw x0 kk0 ga1 ga5 gz13 ga17 gv23 gk27 h1 n0 Zn2 O4 G fk5) e1 (argsL := [(.ref x0)]) (rest := [(.ref b1), (.ref b1)]) (pc' := 8) rfl (by rw [hml]; rfl) (lenOf pd_10 rfl) rfl rfl (W := 2) (Nat.le_of_eq rfl) (by decide) (by decide) (by decide) (by decide) (hb hby d5_5) ?_
  intro v6 T6 L6 q6 X6
  obtain ⟨rfl, N6, e6⟩ := q6
  show Go _ _ _ _ (T6.setTop (mkF m 8 #[.val (.ref x0)] [(.ref ga1), (.ref b1), (.ref b1)]))
  have sz8 : h0.size ≤ b1 := Nat.le_trans (Keep.refl h0 []).1 (Nat.le_of_eq g1.symm)
  have ge7 : n0 ≤ b1 := Nat.le_trans Z0 sz8
  refine Go.callN X6 hx hZ hown rfl (tw_39 hw) (tw_40 hw) (tw_41 hw) (by decide) (tw_41 hw) (tw_29 hw) (au_18 l Z a0 hw b1 ga1 ga5 gz13 ga17 gv23 gk27 h1 n0 Zn2 A1 b1_components ge7) e6 (a := b1) (argsL := [(.ref ga1)]) (rest := [(.ref b1)]) (pc' := 11) rfl (by rw [hml]; rfl) (lenOf pd_11 rfl) rfl rfl (W := 1) (Nat.le_of_eq rfl) (by decide) (by decide) (by decide) (by decide) (hb hby d5_8) ?_
  intro v9 T9 L9 q9 X9
  obtain ⟨h9, e9⟩ : ∃ z, T9.heap = z := ⟨_, rfl⟩
  rw [e9] at q9
  obtain ⟨rfl, N9, K9, F9_0, F9_1⟩ := q9
  show Go _ _ _ _ (T9.setTop (mkF m 11 #[.val (.ref x0)] [(.ref b1)]))
  subst hFF
  refine Go.retR X9 hx hlk (t := (.object "com/example/dirbound/dirbound/CompositeName")) hret rfl rfl (hb hby d5_11) (by decide) (by decide) ?_
  rw [e9]
  have Kp10 : Keep h0 h9 [] := (Kp3.trans K9 (allS (Or.inr sz8) all0))
  exact ⟨b1, rfl, (Fr.app (Fr.app (Fr.nil n0) N6) N9), Kp10, sz8, F9_0, F9_1⟩
theorem pd_12 : parseMethodDescriptor "([Ljava/lang/String;)Lcom/example/dirbound/dirbound/CompositeName;" = some ⟨[(.array (.object "java/lang/String"))], some (.object "com/example/dirbound/dirbound/CompositeName")⟩ := by decide +kernel
theorem d8_0 : decode prog_5_method_6_code 0 = .ok (.aload_n 0, 1) := by decide +kernel
theorem d8_1 : decode prog_5_method_6_code 1 = .ok (.getfield 7, 3) := by decide +kernel
theorem d8_4 : decode prog_5_method_6_code 4 = .ok (.areturn, 1) := by decide +kernel
theorem ef_8_R (m : MethodId) (x0 : Addr) : entryFrame m #[(.ref x0)] 1 = mkF m 0 #[.val (.ref x0)] [] := by first | (simp [entryFrame, mkF, argsToLocals, Value.category]; done) | rfl
-- com/example/dirbound/dirbound/CompositeName.components
set_option maxRecDepth 65536 in
set_option maxHeartbeats 4000000 in
theorem au_19 (l : Launch) (Z : State) (a0 : Array Value) (hw : ∀ d ∈ tables_1, d.before a0 Z = true) (x0 : Addr) (ga1 : Addr) (ga5 : Addr) (gz13 : Int32) (ga17 : Addr) (gv23 : Value) (gk27 : ClassId) (h0 : Heap) (n0 : Nat) (Z0 : n0 ≤ h0.size) (P1 : Fld Z h0 x0 "com/example/dirbound/dirbound/CompositeName" "components" "Ljava/util/List;" (.ref ga1)) :
    Ctr l Z (⟨"com/example/dirbound/dirbound/CompositeName", "components", "()Ljava/util/List;"⟩ : MethodName) prog_5_method_6_code 1 (some (.object "java/util/List")) ({ frames := 0, cells := 0, slots := 0, locals := 0 } : Room) #[(.ref x0)] h0 (fun v h L => v = some (.ref ga1) ∧ Fr n0 L ∧ h = h0) := by
  refine Ctr.of (plainFor_of_name pn_c5) ?_
  intro p e s m below meth c T0 hx hZ hby hml hown hnm hret hlk e0 es X0
  refine Go.cast (ef_8_R m x0) ?_
  generalize hFF : EndN s _ _ _ = FF
  refine Go.aloadN X0 hx (pc' := 1) rfl (hb hby d8_0) rfl rfl ?_
  refine Go.getF X0 hx hZ hown (host := "") (Or.inl (tw_43 hw)) Via.refl e0 P1 (pc' := 4) rfl (hb hby d8_1) ?_
  intro T1 e1 X1
  subst hFF
  refine Go.retR X1 hx hlk (t := (.object "java/util/List")) hret rfl rfl (hb hby d8_4) (by decide) (by decide) ?_
  rw [e1]
  exact ⟨rfl, (Fr.nil n0), rfl⟩
theorem pd_13 : parseMethodDescriptor "()Ljava/util/List;" = some ⟨[], some (.object "java/util/List")⟩ := by decide +kernel
theorem d9_0 : decode jdk_45_method_3_code 0 = .ok (.aload_n 0, 1) := by decide +kernel
theorem d9_1 : decode jdk_45_method_3_code 1 = .ok (.getfield 7, 3) := by decide +kernel
theorem d9_4 : decode jdk_45_method_3_code 4 = .ok (.arraylength, 1) := by decide +kernel
theorem d9_5 : decode jdk_45_method_3_code 5 = .ok (.ireturn, 1) := by decide +kernel
theorem ef_9_R (m : MethodId) (x0 : Addr) : entryFrame m #[(.ref x0)] 1 = mkF m 0 #[.val (.ref x0)] [] := by first | (simp [entryFrame, mkF, argsToLocals, Value.category]; done) | rfl
theorem pn_c6 : plainName "java/util/ImmutableCollections$ListN" = true := by first | (simp [plainName, overriddenIn]; done) | decide +kernel
-- java/util/ImmutableCollections$ListN.size
set_option maxRecDepth 65536 in
set_option maxHeartbeats 4000000 in
theorem au_20 (l : Launch) (Z : State) (a0 : Array Value) (hw : ∀ d ∈ tables_1, d.before a0 Z = true) (ga1 : Addr) (ga5 : Addr) (gz13 : Int32) (ga17 : Addr) (gv23 : Value) (gk27 : ClassId) (h0 : Heap) (n0 : Nat) (Z0 : n0 ≤ h0.size) (O0 : Old Z n0 h0) (G : Glob Z ga1 ga5 gz13 ga17 gv23 gk27) :
    Ctr l Z (⟨"java/util/ImmutableCollections$ListN", "size", "()I"⟩ : MethodName) jdk_45_method_3_code 1 (some .int) ({ frames := 0, cells := 0, slots := 0, locals := 0 } : Room) #[(.ref ga1)] h0 (fun v h L => v = some (.int 0) ∧ Fr n0 L ∧ h = h0) := by
  refine Ctr.of (plainFor_of_name pn_c6) ?_
  intro p e s m below meth c T0 hx hZ hby hml hown hnm hret hlk e0 es X0
  have G' := G
  obtain ⟨-, -, G2, -, -, -, -, -, -, -, G10, -, -⟩ := G'
  refine Go.cast (ef_9_R m ga1) ?_
  generalize hFF : EndN s _ _ _ = FF
  refine Go.aloadN X0 hx (pc' := 1) rfl (hb hby d9_0) rfl rfl ?_
  have fk1 : Fld Z h0 ga1 "java/util/ImmutableCollections$ListN" "elements" "[Ljava/lang/Object;" (.ref ga5) := G2.ext O0.2
  refine Go.getF X0 hx hZ hown (host := "") (Or.inl (tw_60 hw)) Via.refl e0 fk1 (pc' := 4) rfl (hb hby d9_1) ?_
  intro T2 e2 X2
  have fk3 : Arv Z h0 ga5 gk27 (.object "java/lang/Object") (0 : Int32) [] .null := G10.ext O0.2
  refine Go.arraylength X2 hx hZ e2 fk3 (pc' := 5) rfl (hb hby d9_4) ?_
  subst hFF
  refine Go.retI X2 hx hlk hret (hb hby d9_5) (by decide) (by decide) ?_
  rw [e2]
  exact ⟨rfl, (Fr.nil n0), rfl⟩
theorem pd_14 : parseMethodDescriptor "()I" = some ⟨[], some .int⟩ := by decide +kernel
theorem d6_34 : decode jdk_40_method_47_code 34 = .ok (.new 96, 3) := by decide +kernel
theorem d6_37 : decode jdk_40_method_47_code 37 = .ok (.dup, 1) := by decide +kernel
theorem d6_38 : decode jdk_40_method_47_code 38 = .ok (.aload_n 0, 1) := by decide +kernel
theorem d6_39 : decode jdk_40_method_47_code 39 = .ok (.iconst 0, 1) := by decide +kernel
theorem d6_40 : decode jdk_40_method_47_code 40 = .ok (.aaload, 1) := by decide +kernel
theorem d28_0 : decode jdk_44_method_1_code 0 = .ok (.aload_n 0, 1) := by decide +kernel
theorem d13_0 : decode jdk_46_method_1_code 0 = .ok (.aload_n 0, 1) := by decide +kernel
theorem d14_0 : decode jdk_47_method_1_code 0 = .ok (.aload_n 0, 1) := by decide +kernel
theorem d15_0 : decode jdk_22_method_1_code 0 = .ok (.aload_n 0, 1) := by decide +kernel
theorem d15_1 : decode jdk_22_method_1_code 1 = .ok (.invokespecial 1, 3) := by decide +kernel
theorem d15_4 : decode jdk_22_method_1_code 4 = .ok (.return_, 1) := by decide +kernel
theorem ef_15_R (m : MethodId) (x0 : Addr) : entryFrame m #[(.ref x0)] 1 = mkF m 0 #[.val (.ref x0)] [] := by first | (simp [entryFrame, mkF, argsToLocals, Value.category]; done) | rfl
theorem pn_c7 : plainName "java/util/AbstractCollection" = true := by first | (simp [plainName, overriddenIn]; done) | decide +kernel
-- java/util/AbstractCollection.init
set_option maxRecDepth 65536 in
set_option maxHeartbeats 4000000 in
theorem au_26 (l : Launch) (Z : State) (a0 : Array Value) (hw : ∀ d ∈ tables_1, d.before a0 Z = true) (x0 : Addr) (h0 : Heap) (n0 : Nat) (Z0 : n0 ≤ h0.size) :
    Ctr l Z (⟨"java/util/AbstractCollection", "<init>", "()V"⟩ : MethodName) jdk_22_method_1_code 1 none ({ frames := 1, cells := 0, slots := 0, locals := 12 } : Room) #[(.ref x0)] h0 (fun v h L => v = none ∧ Fr n0 L ∧ h = h0) := by
  refine Ctr.of (plainFor_of_name pn_c7) ?_
  intro p e s m below meth c T0 hx hZ hby hml hown hnm hret hlk e0 es X0
  refine Go.cast (ef_15_R m x0) ?_
  generalize hFF : EndN s _ _ _ = FF
  refine Go.aloadN X0 hx (pc' := 1) rfl (hb hby d15_0) rfl rfl ?_
  refine Go.initO X0 hx hZ hown (tw_96 hw) (tw_16 hw) (tw_17 hw) e0 (by decide) (W := 0) (by rw [hml]; rfl) (Nat.le_of_eq rfl) (by decide) (pc' := 4) rfl (hb hby d15_1) ?_
  intro T1 e1 X1
  subst hFF
  refine Go.ret0 X1 hx hlk hret (hb hby d15_4) (by decide) (by decide) ?_
  rw [e1]
  exact ⟨rfl, (Fr.nil n0), rfl⟩
theorem pd_15 : parseMethodDescriptor "()V" = some ⟨[], none⟩ := by decide +kernel
theorem d14_1 : decode jdk_47_method_1_code 1 = .ok (.invokespecial 1, 3) := by decide +kernel
theorem d14_4 : decode jdk_47_method_1_code 4 = .ok (.return_, 1) := by decide +kernel
theorem ef_14_R (m : MethodId) (x0 : Addr) : entryFrame m #[(.ref x0)] 1 = mkF m 0 #[.val (.ref x0)] [] := by first | (simp [entryFrame, mkF, argsToLocals, Value.category]; done) | rfl
theorem pn_c8 : plainName "java/util/ImmutableCollections$AbstractImmutableCollection" = true := by first | (simp [plainName, overriddenIn]; done) | decide +kernel
-- java/util/ImmutableCollections$AbstractImmutableCollection.init
set_option maxRecDepth 65536 in
set_option maxHeartbeats 4000000 in
theorem au_25 (l : Launch) (Z : State) (a0 : Array Value) (hw : ∀ d ∈ tables_1, d.before a0 Z = true) (x0 : Addr) (h0 : Heap) (n0 : Nat) (Z0 : n0 ≤ h0.size) :
    Ctr l Z (⟨"java/util/ImmutableCollections$AbstractImmutableCollection", "<init>", "()V"⟩ : MethodName) jdk_47_method_1_code 1 none ({ frames := 2, cells := 0, slots := 0, locals := 24 } : Room) #[(.ref x0)] h0 (fun v h L => v = none ∧ Fr n0 L ∧ h = h0) := by
  refine Ctr.of (plainFor_of_name pn_c8) ?_
  intro p e s m below meth c T0 hx hZ hby hml hown hnm hret hlk e0 es X0
  refine Go.cast (ef_14_R m x0) ?_
  generalize hFF : EndN s _ _ _ = FF
  refine Go.aloadN X0 hx (pc' := 1) rfl (hb hby d14_0) rfl rfl ?_
  refine Go.callN X0 hx hZ hown rfl (tw_90 hw) (tw_91 hw) (tw_95 hw) (by decide) (tw_95 hw) (tw_94 hw) (au_26 l Z a0 hw x0 h0 n0 Z0) e0 (a := x0) (argsL := []) (rest := []) (pc' := 4) rfl (by rw [hml]; rfl) (lenOf pd_15 rfl) rfl rfl (W := 0) (Nat.le_of_eq rfl) (by decide) (by decide) (by decide) (by decide) (hb hby d14_1) ?_
  intro v1 T1 L1 q1 X1
  obtain ⟨rfl, N1, e1⟩ := q1
  show Go _ _ _ _ (T1.setTop (mkF m 4 #[.val (.ref x0)] []))
  subst hFF
  refine Go.ret0 X1 hx hlk hret (hb hby d14_4) (by decide) (by decide) ?_
  rw [e1]
  exact ⟨rfl, (Fr.app (Fr.nil n0) N1), rfl⟩
theorem d13_1 : decode jdk_46_method_1_code 1 = .ok (.invokespecial 1, 3) := by decide +kernel
theorem d13_4 : decode jdk_46_method_1_code 4 = .ok (.return_, 1) := by decide +kernel
theorem ef_13_R (m : MethodId) (x0 : Addr) : entryFrame m #[(.ref x0)] 1 = mkF m 0 #[.val (.ref x0)] [] := by first | (simp [entryFrame, mkF, argsToLocals, Value.category]; done) | rfl
theorem pn_c9 : plainName "java/util/ImmutableCollections$AbstractImmutableList" = true := by first | (simp [plainName, overriddenIn]; done) | decide +kernel
-- java/util/ImmutableCollections$AbstractImmutableList.init
set_option maxRecDepth 65536 in
set_option maxHeartbeats 4000000 in
theorem au_24 (l : Launch) (Z : State) (a0 : Array Value) (hw : ∀ d ∈ tables_1, d.before a0 Z = true) (x0 : Addr) (h0 : Heap) (n0 : Nat) (Z0 : n0 ≤ h0.size) :
    Ctr l Z (⟨"java/util/ImmutableCollections$AbstractImmutableList", "<init>", "()V"⟩ : MethodName) jdk_46_method_1_code 1 none ({ frames := 3, cells := 0, slots := 0, locals := 36 } : Room) #[(.ref x0)] h0 (fun v h L => v = none ∧ Fr n0 L ∧ h = h0) := by
  refine Ctr.of (plainFor_of_name pn_c9) ?_
  intro p e s m below meth c T0 hx hZ hby hml hown hnm hret hlk e0 es X0
  refine Go.cast (ef_13_R m x0) ?_
  generalize hFF : EndN s _ _ _ = FF
  refine Go.aloadN X0 hx (pc' := 1) rfl (hb hby d13_0) rfl rfl ?_
  refine Go.callN X0 hx hZ hown rfl (tw_84 hw) (tw_85 hw) (tw_89 hw) (by decide) (tw_89 hw) (tw_88 hw) (au_25 l Z a0 hw x0 h0 n0 Z0) e0 (a := x0) (argsL := []) (rest := []) (pc' := 4) rfl (by rw [hml]; rfl) (lenOf pd_15 rfl) rfl rfl (W := 0) (Nat.le_of_eq rfl) (by decide) (by decide) (by decide) (by decide) (hb hby d13_1) ?_
  intro v1 T1 L1 q1 X1
  obtain ⟨rfl, N1, e1⟩ := q1
  show Go _ _ _ _ (T1.setTop (mkF m 4 #[.val (.ref x0)] []))
  subst hFF
  refine Go.ret0 X1 hx hlk hret (hb hby d13_4) (by decide) (by decide) ?_
  rw [e1]
  exact ⟨rfl, (Fr.app (Fr.nil n0) N1), rfl⟩
theorem d28_1 : decode jdk_44_method_1_code 1 = .ok (.invokespecial 1, 3) := by decide +kernel
theorem d28_4 : decode jdk_44_method_1_code 4 = .ok (.aload_n 0, 1) := by decide +kernel
theorem d28_5 : decode jdk_44_method_1_code 5 = .ok (.aload_n 1, 1) := by decide +kernel
theorem d11_0 : decode jdk_31_method_10_code 0 = .ok (.aload_n 0, 1) := by decide +kernel
theorem d11_1 : decode jdk_31_method_10_code 1 = .ok (.ifnonnull 11, 3) := by decide +kernel
theorem d11_12 : decode jdk_31_method_10_code 12 = .ok (.aload_n 0, 1) := by decide +kernel
theorem d11_13 : decode jdk_31_method_10_code 13 = .ok (.areturn, 1) := by decide +kernel
theorem ef_11_R (m : MethodId) (x0 : Addr) : entryFrame m #[(.ref x0)] 1 = mkF m 0 #[.val (.ref x0)] [] := by first | (simp [entryFrame, mkF, argsToLocals, Value.category]; done) | rfl
theorem pn_c10 : plainName "java/util/Objects" = true := by first | (simp [plainName, overriddenIn]; done) | decide +kernel
-- java/util/Objects.requireNonNull
set_option maxRecDepth 65536 in
set_option maxHeartbeats 4000000 in
theorem au_27 (l : Launch) (Z : State) (a0 : Array Value) (hw : ∀ d ∈ tables_1, d.before a0 Z = true) (x0 : Addr) (h0 : Heap) (n0 : Nat) (Z0 : n0 ≤ h0.size) :
    Ctr l Z (⟨"java/util/Objects", "requireNonNull", "(Ljava/lang/Object;)Ljava/lang/Object;"⟩ : MethodName) jdk_31_method_10_code 1 (some (.object "java/lang/Object")) ({ frames := 0, cells := 0, slots := 0, locals := 0 } : Room) #[(.ref x0)] h0 (fun v h L => v = some (.ref x0) ∧ Fr n0 L ∧ h = h0) := by
  refine Ctr.of (plainFor_of_name pn_c10) ?_
  intro p e s m below meth c T0 hx hZ hby hml hown hnm hret hlk e0 es X0
  refine Go.cast (ef_11_R m x0) ?_
  generalize hFF : EndN s _ _ _ = FF
  refine Go.aloadN X0 hx (pc' := 1) rfl (hb hby d11_0) rfl rfl ?_
  refine Go.ifnonnullYes X0 hx (pc' := 12) (hb hby d11_1) (by decide) (by decide) ?_
  refine Go.aloadN X0 hx (pc' := 13) rfl (hb hby d11_12) rfl rfl ?_
  subst hFF
  refine Go.retR X0 hx hlk (t := (.object "java/lang/Object")) hret rfl rfl (hb hby d11_13) (by decide) (by decide) ?_
  rw [e0]
  exact ⟨rfl, (Fr.nil n0), rfl⟩
theorem pd_16 : parseMethodDescriptor "(Ljava/lang/Object;)Ljava/lang/Object;" = some ⟨[(.object "java/lang/Object")], some (.object "java/lang/Object")⟩ := by decide +kernel
theorem d28_6 : decode jdk_44_method_1_code 6 = .ok (.invokestatic 7, 3) := by decide +kernel
theorem d28_9 : decode jdk_44_method_1_code 9 = .ok (.putfield 13, 3) := by decide +kernel
theorem d28_12 : decode jdk_44_method_1_code 12 = .ok (.aload_n 0, 1) := by decide +kernel
theorem d28_13 : decode jdk_44_method_1_code 13 = .ok (.getstatic 19, 3) := by decide +kernel
theorem d28_16 : decode jdk_44_method_1_code 16 = .ok (.putfield 24, 3) := by decide +kernel
theorem d28_19 : decode jdk_44_method_1_code 19 = .ok (.return_, 1) := by decide +kernel
theorem ef_28_RR (m : MethodId) (x0 : Addr) (x1 : Addr) : entryFrame m #[(.ref x0), (.ref x1)] 2 = mkF m 0 #[.val (.ref x0), .val (.ref x1)] [] := by first | (simp [entryFrame, mkF, argsToLocals, Value.category]; done) | rfl
theorem pn_c11 : plainName "java/util/ImmutableCollections$List12" = true := by first | (simp [plainName, overriddenIn]; done) | decide +kernel
-- java/util/ImmutableCollections$List12.init
set_option maxRecDepth 65536 in
set_option maxHeartbeats 4000000 in
theorem au_23 (l : Launch) (Z : State) (a0 : Array Value) (hw : ∀ d ∈ tables_1, d.before a0 Z = true) (x0 : Addr) (x1 : Addr) (ga1 : Addr) (ga5 : Addr) (gz13 : Int32) (ga17 : Addr) (gv23 : Value) (gk27 : ClassId) (h0 : Heap) (n0 : Nat) (Z0 : n0 ≤ h0.size) (O0 : Old Z n0 h0) (G : Glob Z ga1 ga5 gz13 ga17 gv23 gk27) (P0 : Exa Z h0 x0 "java/util/ImmutableCollections$List12") (P1 : Fld Z h0 x0 "java/util/ImmutableCollections$List12" "e0" "Ljava/lang/Object;" .null) (P2 : Fld Z h0 x0 "java/util/ImmutableCollections$List12" "e1" "Ljava/lang/Object;" .null) (g_x0 : n0 ≤ x0) :
    Ctr l Z (⟨"java/util/ImmutableCollections$List12", "<init>", "(Ljava/lang/Object;)V"⟩ : MethodName) jdk_44_method_1_code 2 none ({ frames := 4, cells := 0, slots := 0, locals := 48 } : Room) #[(.ref x0), (.ref x1)] h0 (fun v h L => v = none ∧ Fr n0 L ∧ Keep h0 h [x0] ∧ Exa Z h x0 "java/util/ImmutableCollections$List12" ∧ Fld Z h x0 "java/util/ImmutableCollections$List12" "e0" "Ljava/lang/Object;" (.ref x1) ∧ Fld Z h x0 "java/util/ImmutableCollections$List12" "e1" "Ljava/lang/Object;" (.ref ga17)) := by
  refine Ctr.of (plainFor_of_name pn_c11) ?_
  intro p e s m below meth c T0 hx hZ hby hml hown hnm hret hlk e0 es X0
  have G' := G
  obtain ⟨-, -, -, -, -, -, G6, -, -, -, -, -, -⟩ := G'
  refine Go.cast (ef_28_RR m x0 x1) ?_
  generalize hFF : EndN s _ _ _ = FF
  refine Go.aloadN X0 hx (pc' := 1) rfl (hb hby d28_0) rfl rfl ?_
  refine Go.callN X0 hx hZ hown rfl (tw_144 hw) (tw_79 hw) (tw_83 hw) (by decide) (tw_83 hw) (tw_82 hw) (au_24 l Z a0 hw x0 h0 n0 Z0) e0 (a := x0) (argsL := []) (rest := []) (pc' := 4) rfl (by rw [hml]; rfl) (lenOf pd_15 rfl) rfl rfl (W := 0) (Nat.le_of_eq rfl) (by decide) (by decide) (by decide) (by decide) (hb hby d28_1) ?_
  intro v1 T1 L1 q1 X1
  obtain ⟨rfl, N1, e1⟩ := q1
  show Go _ _ _ _ (T1.setTop (mkF m 4 #[.val (.ref x0), .val (.ref x1)] []))
  refine Go.aloadN X1 hx (pc' := 5) rfl (hb hby d28_4) rfl rfl ?_
  refine Go.aloadN X1 hx (pc' := 6) rfl (hb hby d28_5) rfl rfl ?_
  refine Go.callS X1 hx hZ hown (tw_148 hw) (tw_68 hw) (tw_69 hw) (tw_70 hw) (by decide) (tw_70 hw) (tw_69 hw) (au_27 l Z a0 hw x1 h0 n0 Z0) e1 (argsL := [(.ref x1)]) (rest := [(.ref x0)]) (pc' := 9) rfl (by rw [hml]; rfl) (lenOf pd_16 rfl) rfl rfl (W := 1) (Nat.le_of_eq rfl) (by decide) (by decide) (by decide) (by decide) (hb hby d28_6) ?_
  intro v2 T2 L2 q2 X2
  obtain ⟨rfl, N2, e2⟩ := q2
  show Go _ _ _ _ (T2.setTop (mkF m 9 #[.val (.ref x0), .val (.ref x1)] [(.ref x1), (.ref x0)]))
  refine Go.putF X2 hx hZ hown (host := "") (Or.inl (tw_149 hw)) Via.refl e2 P1 P0 (Or.inr ⟨(tw_150 hw), rfl, hnm⟩) (tw_138 hw) (ty := (.object "java/lang/Object")) (by decide) rfl rfl (pc' := 12) rfl (hb hby d28_9) ?_
  intro T3 h3 e3 W3 F3 X3
  have N3 := Fr.snoc X3 (Fr.app (Fr.app (Fr.nil n0) N1) N2) g_x0
  refine Go.aloadN X3 hx (pc' := 13) rfl (hb hby d28_12) rfl rfl ?_
  have O5 := (O0.wr W3 g_x0)
  have fk4 : Sta Z h3 "java/util/ImmutableCollections" "EMPTY" "Ljava/lang/Object;" (.ref ga17) := G6.ext O5.2
  refine Go.getS X3 hx hZ hown (Or.inr (tw_159 hw)) Via.refl e3 fk4 (pc' := 16) rfl (hb hby d28_13) ?_
  intro T6 e6 X6
  have fk7 : Fld Z h3 x0 "java/util/ImmutableCollections$List12" "e1" "Ljava/lang/Object;" .null := (P2.other W3 (Or.inr (slot_ne (Or.inr (tw_152 hw)) (Or.inr (tw_150 hw)) (by decide) (t := (.object "java/lang/Object")) (t' := (.object "java/lang/Object")) (by decide) (by decide))))
  have fk8 : Exa Z h3 x0 "java/util/ImmutableCollections$List12" := (P0.wr W3)
  refine Go.putF X6 hx hZ hown (host := "") (Or.inl (tw_151 hw)) Via.refl e6 fk7 fk8 (Or.inr ⟨(tw_152 hw), rfl, hnm⟩) (tw_138 hw) (ty := (.object "java/lang/Object")) (by decide) rfl rfl (pc' := 19) rfl (hb hby d28_16) ?_
  intro T9 h9 e9 W9 F9 X9
  have N9 := Fr.snoc X9 N3 g_x0
  subst hFF
  refine Go.ret0 X9 hx hlk hret (hb hby d28_19) (by decide) (by decide) ?_
  rw [e9]
  have fk10 : Exa Z h9 x0 "java/util/ImmutableCollections$List12" := (fk8.wr W9)
  have fk11 : Fld Z h9 x0 "java/util/ImmutableCollections$List12" "e0" "Ljava/lang/Object;" (.ref x1) := (F3.other W9 (Or.inr (slot_ne (Or.inr (tw_150 hw)) (Or.inr (tw_152 hw)) (by decide) (t := (.object "java/lang/Object")) (t' := (.object "java/lang/Object")) (by decide) (by decide))))
  have Kp12 : Keep h0 h3 [x0] := ((Keep.refl h0 [x0]).wr W3 (Or.inl (List.mem_of_getElem? (i := 0) rfl)))
  have Kp13 : Keep h0 h9 [x0] := (Kp12.wr W9 (Or.inl (List.mem_of_getElem? (i := 0) rfl)))
  exact ⟨rfl, N9, Kp13, fk10, fk11, F9⟩
theorem pd_17 : parseMethodDescriptor "(Ljava/lang/Object;)V" = some ⟨[(.object "java/lang/Object")], none⟩ := by decide +kernel
theorem d6_41 : decode jdk_40_method_47_code 41 = .ok (.invokespecial 98, 3) := by decide +kernel
theorem d6_44 : decode jdk_40_method_47_code 44 = .ok (.areturn, 1) := by decide +kernel
-- java/util/List.of
set_option maxRecDepth 65536 in
set_option maxHeartbeats 4000000 in
theorem au_22 (l : Launch) (Z : State) (a0 : Array Value) (hw : ∀ d ∈ tables_1, d.before a0 Z = true) (x0 : Addr) (kk0 : ClassId) (x1 : Addr) (ga1 : Addr) (ga5 : Addr) (gz13 : Int32) (ga17 : Addr) (gv23 : Value) (gk27 : ClassId) (h0 : Heap) (n0 : Nat) (Z0 : n0 ≤ h0.size) (O0 : Old Z n0 h0) (G : Glob Z ga1 ga5 gz13 ga17 gv23 gk27) (P0 : Arv Z h0 x0 kk0 (.object "java/lang/String") (1 : Int32) [(.ref x1)] .null) :
    Ctr l Z (⟨"java/util/List", "of", "([Ljava/lang/Object;)Ljava/util/List;"⟩ : MethodName) jdk_40_method_47_code 2 (some (.object "java/util/List")) ({ frames := 5, cells := 1, slots := 2, locals := 62 } : Room) #[(.ref x0)] h0 (fun v h L => ∃ (b1 : Addr), v = some (.ref b1) ∧ Fr n0 L ∧ Keep h0 h [] ∧ h0.size ≤ b1 ∧ Exa Z h b1 "java/util/ImmutableCollections$List12" ∧ Fld Z h b1 "java/util/ImmutableCollections$List12" "e0" "Ljava/lang/Object;" (.ref x1) ∧ Fld Z h b1 "java/util/ImmutableCollections$List12" "e1" "Ljava/lang/Object;" (.ref ga17)) := by
  refine Ctr.of (plainFor_of_name pn_c4) ?_
  intro p e s m below meth c T0 hx hZ hby hml hown hnm hret hlk e0 es X0
  refine Go.cast (ef_6_R m x0) ?_
  generalize hFF : EndN s _ _ _ = FF
  refine Go.aloadN X0 hx (pc' := 1) rfl (hb hby d6_0) rfl rfl ?_
  refine Go.arraylength X0 hx hZ e0 P0 (pc' := 2) rfl (hb hby d6_1) ?_
  refine Go.tswIn X0 hx (pc' := 34) (hb hby d6_2) (by decide) (o := 32) (by decide) (by decide) (by decide) ?_
  refine Go.new X0 hx hZ hown (tw_137 hw) (tw_138 hw) (tw_139 hw) e0 (by decide) (by decide) (pc' := 37) rfl (hb hby d6_34) ?_
  intro T1 h1 b1 e1 E1 g1 A1 D1 X1
  have b1_e0 : Fld Z h1 b1 "java/util/ImmutableCollections$List12" "e0" "Ljava/lang/Object;" .null := D1 (Or.inr (tw_150 hw)) (ty := (.object "java/lang/Object")) (by decide)
  have b1_e1 : Fld Z h1 b1 "java/util/ImmutableCollections$List12" "e1" "Ljava/lang/Object;" .null := D1 (Or.inr (tw_152 hw)) (ty := (.object "java/lang/Object")) (by decide)
  refine Go.dup X1 hx (pc' := 38) rfl (hb hby d6_37) rfl ?_
  refine Go.aloadN X1 hx (pc' := 39) rfl (hb hby d6_38) rfl rfl ?_
  refine Go.iconst X1 hx (pc' := 40) rfl (hb hby d6_39) (v := (0 : Int32)) rfl ?_
  have fk2 := (P0.ext E1)
  refine Go.aaload X1 hx hZ e1 rfl fk2 (v := (.ref x1)) ⟨by decide, by decide⟩ rfl (pc' := 41) rfl (hb hby d6_40) ?_
  have Kp4 : Keep h0 h1 [] := ((Keep.refl h0 []).ext E1)
  have Zn3 : n0 ≤ h1.size := Nat.le_trans Z0 Kp4.1
  have O5 := (O0.ext E1)
  have sz7 : h0.size ≤ b1 := Nat.le_trans (Keep.refl h0 []).1 (Nat.le_of_eq g1.symm)
  have ge6 : n0 ≤ b1 := Nat.le_trans Z0 sz7
  refine Go.callN X1 hx hZ hown rfl (tw_165 hw) (tw_166 hw) (tw_167 hw) (by decide) (tw_167 hw) (tw_139 hw) (au_23 l Z a0 hw b1 x1 ga1 ga5 gz13 ga17 gv23 gk27 h1 n0 Zn3 O5 G A1 b1_e0 b1_e1 ge6) e1 (a := b1) (argsL := [(.ref x1)]) (rest := [(.ref b1)]) (pc' := 44) rfl (by rw [hml]; rfl) (lenOf pd_17 rfl) rfl rfl (W := 1) (Nat.le_of_eq rfl) (by decide) (by decide) (by decide) (by decide) (hb hby d6_41) ?_
  intro v8 T8 L8 q8 X8
  obtain ⟨h8, e8⟩ : ∃ z, T8.heap = z := ⟨_, rfl⟩
  rw [e8] at q8
  obtain ⟨rfl, N8, K8, F8_0, F8_1, F8_2⟩ := q8
  show Go _ _ _ _ (T8.setTop (mkF m 44 #[.val (.ref x0), .unset] [(.ref b1)]))
  subst hFF
  refine Go.retR X8 hx hlk (t := (.object "java/util/List")) hret rfl rfl (hb hby d6_44) (by decide) (by decide) ?_
  rw [e8]
  have Kp9 : Keep h0 h8 [] := (Kp4.trans K8 (allS (Or.inr sz7) all0))
  exact ⟨b1, rfl, (Fr.app (Fr.nil n0) N8), Kp9, sz7, F8_0, F8_1, F8_2⟩
-- com/example/dirbound/dirbound/CompositeName.init
set_option maxRecDepth 65536 in
set_option maxHeartbeats 4000000 in
theorem au_28 (l : Launch) (Z : State) (a0 : Array Value) (hw : ∀ d ∈ tables_1, d.before a0 Z = true) (x0 : Addr) (x1 : Addr) (h0 : Heap) (n0 : Nat) (Z0 : n0 ≤ h0.size) (P0 : Exa Z h0 x0 "com/example/dirbound/dirbound/CompositeName") (P1 : Fld Z h0 x0 "com/example/dirbound/dirbound/CompositeName" "components" "Ljava/util/List;" .null) (g_x0 : n0 ≤ x0) :
    Ctr l Z (⟨"com/example/dirbound/dirbound/CompositeName", "<init>", "(Ljava/util/List;)V"⟩ : MethodName) prog_5_method_1_code 2 none ({ frames := 1, cells := 0, slots := 0, locals := 12 } : Room) #[(.ref x0), (.ref x1)] h0 (fun v h L => v = none ∧ Fr n0 L ∧ Keep h0 h [x0] ∧ Exa Z h x0 "com/example/dirbound/dirbound/CompositeName" ∧ Fld Z h x0 "com/example/dirbound/dirbound/CompositeName" "components" "Ljava/util/List;" (.ref x1)) := by
  refine Ctr.of (plainFor_of_name pn_c5) ?_
  intro p e s m below meth c T0 hx hZ hby hml hown hnm hret hlk e0 es X0
  refine Go.cast (ef_7_RR m x0 x1) ?_
  generalize hFF : EndN s _ _ _ = FF
  refine Go.aloadN X0 hx (pc' := 1) rfl (hb hby d7_0) rfl rfl ?_
  refine Go.initO X0 hx hZ hown (tw_42 hw) (tw_16 hw) (tw_17 hw) e0 (by decide) (W := 0) (by rw [hml]; rfl) (Nat.le_of_eq rfl) (by decide) (pc' := 4) rfl (hb hby d7_1) ?_
  intro T1 e1 X1
  refine Go.aloadN X1 hx (pc' := 5) rfl (hb hby d7_4) rfl rfl ?_
  refine Go.aloadN X1 hx (pc' := 6) rfl (hb hby d7_5) rfl rfl ?_
  refine Go.putF X1 hx hZ hown (host := "") (Or.inl (tw_43 hw)) Via.refl e1 P1 P0 (Or.inr ⟨(tw_44 hw), rfl, hnm⟩) (tw_32 hw) (ty := (.object "java/util/List")) (by decide) rfl rfl (pc' := 9) rfl (hb hby d7_6) ?_
  intro T2 h2 e2 W2 F2 X2
  have N2 := Fr.snoc X2 (Fr.nil n0) g_x0
  subst hFF
  refine Go.ret0 X2 hx hlk hret (hb hby d7_9) (by decide) (by decide) ?_
  rw [e2]
  have fk3 : Exa Z h2 x0 "com/example/dirbound/dirbound/CompositeName" := (P0.wr W2)
  have Kp4 : Keep h0 h2 [x0] := ((Keep.refl h0 [x0]).wr W2 (Or.inl (List.mem_of_getElem? (i := 0) rfl)))
  exact ⟨rfl, N2, Kp4, fk3, F2⟩
-- com/example/dirbound/dirbound/CompositeName.of
set_option maxRecDepth 65536 in
set_option maxHeartbeats 4000000 in
theorem au_21 (l : Launch) (Z : State) (a0 : Array Value) (hw : ∀ d ∈ tables_1, d.before a0 Z = true) (x0 : Addr) (kk0 : ClassId) (x1 : Addr) (ga1 : Addr) (ga5 : Addr) (gz13 : Int32) (ga17 : Addr) (gv23 : Value) (gk27 : ClassId) (h0 : Heap) (n0 : Nat) (Z0 : n0 ≤ h0.size) (O0 : Old Z n0 h0) (G : Glob Z ga1 ga5 gz13 ga17 gv23 gk27) (P0 : Arv Z h0 x0 kk0 (.object "java/lang/String") (1 : Int32) [(.ref x1)] .null) :
    Ctr l Z (⟨"com/example/dirbound/dirbound/CompositeName", "of", "([Ljava/lang/String;)Lcom/example/dirbound/dirbound/CompositeName;"⟩ : MethodName) prog_5_method_2_code 1 (some (.object "com/example/dirbound/dirbound/CompositeName")) ({ frames := 6, cells := 2, slots := 3, locals := 77 } : Room) #[(.ref x0)] h0 (fun v h L => ∃ (b1 : Addr) (b6_0 : Addr), v = some (.ref b1) ∧ Fr n0 L ∧ Keep h0 h [] ∧ h0.size ≤ b1 ∧ h0.size ≤ b6_0 ∧ b6_0 ≠ b1 ∧ Exa Z h b1 "com/example/dirbound/dirbound/CompositeName" ∧ Fld Z h b1 "com/example/dirbound/dirbound/CompositeName" "components" "Ljava/util/List;" (.ref b6_0) ∧ Exa Z h b6_0 "java/util/ImmutableCollections$List12" ∧ Fld Z h b6_0 "java/util/ImmutableCollections$List12" "e0" "Ljava/lang/Object;" (.ref x1) ∧ Fld Z h b6_0 "java/util/ImmutableCollections$List12" "e1" "Ljava/lang/Object;" (.ref ga17)) := by
  refine Ctr.of (plainFor_of_name pn_c5) ?_
  intro p e s m below meth c T0 hx hZ hby hml hown hnm hret hlk e0 es X0
  refine Go.cast (ef_5_R m x0) ?_
  generalize hFF : EndN s _ _ _ = FF
  refine Go.new X0 hx hZ hown (tw_31 hw) (tw_32 hw) (tw_29 hw) e0 (by decide) (by decide) (pc' := 3) rfl (hb hby d5_0) ?_
  intro T1 h1 b1 e1 E1 g1 A1 D1 X1
  have b1_components : Fld Z h1 b1 "com/example/dirbound/dirbound/CompositeName" "components" "Ljava/util/List;" .null := D1 (Or.inr (tw_44 hw)) (ty := (.object "java/util/List")) (by decide)
  refine Go.dup X1 hx (pc' := 4) rfl (hb hby d5_3) rfl ?_
  refine Go.aloadN X1 hx (pc' := 5) rfl (hb hby d5_4) rfl rfl ?_
  have Kp3 : Keep h0 h1 [] := ((Keep.refl h0 []).ext E1)
  have Zn2 : n0 ≤ h1.size := Nat.le_trans Z0 Kp3.1
  have O4 := (O0.ext E1)
  have fk5 := (P0.ext E1)
  refine Go.callS X1 hx hZ hown (tw_33 hw) (tw_34 hw) (tw_35 hw) (tw_36 hw) (by decide) (tw_36 hw) (tw_35 hw) (au_22 l Z a0 hw x0 kk0 x1 ga1 ga5 gz13 ga17 gv23 gk27 h1 n0 Zn2 O4 G fk5) e1 (argsL := [(.ref x0)]) (rest := [(.ref b1), (.ref b1)]) (pc' := 8) rfl (by rw [hml]; rfl) (lenOf pd_10 rfl) rfl rfl (W := 2) (Nat.le_of_eq rfl) (by decide) (by decide) (by decide) (by decide) (hb hby d5_5) ?_
  intro v6 T6 L6 q6 X6
  obtain ⟨h6, e6⟩ : ∃ z, T6.heap = z := ⟨_, rfl⟩
  rw [e6] at q6
  obtain ⟨b6_0, rfl, N6, K6, s6_0, F6_0, F6_1, F6_2⟩ := q6
  show Go _ _ _ _ (T6.setTop (mkF m 8 #[.val (.ref x0)] [(.ref b6_0), (.ref b1), (.ref b1)]))
  have Kp8 : Keep h0 h6 [] := (Kp3.trans K6 all0)
  have Zn7 : n0 ≤ h6.size := Nat.le_trans Z0 Kp8.1
  have fk9 : Exa Z h6 b1 "com/example/dirbound/dirbound/CompositeName" := (A1.keep K6)
  have fk10 : Fld Z h6 b1 "com/example/dirbound/dirbound/CompositeName" "components" "Ljava/util/List;" .null := (b1_components.keep K6 nin0)
  have sz12 : h0.size ≤ b1 := Nat.le_trans (Keep.refl h0 []).1 (Nat.le_of_eq g1.symm)
  have ge11 : n0 ≤ b1 := Nat.le_trans Z0 sz12
  refine Go.callN X6 hx hZ hown rfl (tw_39 hw) (tw_40 hw) (tw_41 hw) (by decide) (tw_41 hw) (tw_29 hw) (au_28 l Z a0 hw b1 b6_0 h6 n0 Zn7 fk9 fk10 ge11) e6 (a := b1) (argsL := [(.ref b6_0)]) (rest := [(.ref b1)]) (pc' := 11) rfl (by rw [hml]; rfl) (lenOf pd_11 rfl) rfl rfl (W := 1) (Nat.le_of_eq rfl) (by decide) (by decide) (by decide) (by decide) (hb hby d5_8) ?_
  intro v13 T13 L13 q13 X13
  obtain ⟨h13, e13⟩ : ∃ z, T13.heap = z := ⟨_, rfl⟩
  rw [e13] at q13
  obtain ⟨rfl, N13, K13, F13_0, F13_1⟩ := q13
  show Go _ _ _ _ (T13.setTop (mkF m 11 #[.val (.ref x0)] [(.ref b1)]))
  subst hFF
  refine Go.retR X13 hx hlk (t := (.object "com/example/dirbound/dirbound/CompositeName")) hret rfl rfl (hb hby d5_11) (by decide) (by decide) ?_
  rw [e13]
  have fk14 : Exa Z h13 b6_0 "java/util/ImmutableCollections$List12" := (F6_0.keep K13)
  have ne15 : b1 ≠ b6_0 := Nat.ne_of_lt (Nat.lt_of_lt_of_le A1.lt s6_0)
  have fk16 : Fld Z h13 b6_0 "java/util/ImmutableCollections$List12" "e0" "Ljava/lang/Object;" (.ref x1) := (F6_1.keep K13 (ninS (Ne.symm ne15) nin0))
  have fk17 : Fld Z h13 b6_0 "java/util/ImmutableCollections$List12" "e1" "Ljava/lang/Object;" (.ref ga17) := (F6_2.keep K13 (ninS (Ne.symm ne15) nin0))
  have Kp18 : Keep h0 h13 [] := (Kp8.trans K13 (allS (Or.inr sz12) all0))
  have sz19 : h0.size ≤ b6_0 := Nat.le_trans Kp3.1 s6_0
  exact ⟨b1, b6_0, rfl, (Fr.app (Fr.app (Fr.nil n0) N6) N13), Kp18, sz12, sz19, (Ne.symm ne15), F13_0, F13_1, fk14, fk16, fk17⟩
-- com/example/dirbound/dirbound/CompositeName.components
set_option maxRecDepth 65536 in
set_option maxHeartbeats 4000000 in
theorem au_29 (l : Launch) (Z : State) (a0 : Array Value) (hw : ∀ d ∈ tables_1, d.before a0 Z = true) (x0 : Addr) (x1 : Addr) (h0 : Heap) (n0 : Nat) (Z0 : n0 ≤ h0.size) (P1 : Fld Z h0 x0 "com/example/dirbound/dirbound/CompositeName" "components" "Ljava/util/List;" (.ref x1)) :
    Ctr l Z (⟨"com/example/dirbound/dirbound/CompositeName", "components", "()Ljava/util/List;"⟩ : MethodName) prog_5_method_6_code 1 (some (.object "java/util/List")) ({ frames := 0, cells := 0, slots := 0, locals := 0 } : Room) #[(.ref x0)] h0 (fun v h L => v = some (.ref x1) ∧ Fr n0 L ∧ h = h0) := by
  refine Ctr.of (plainFor_of_name pn_c5) ?_
  intro p e s m below meth c T0 hx hZ hby hml hown hnm hret hlk e0 es X0
  refine Go.cast (ef_8_R m x0) ?_
  generalize hFF : EndN s _ _ _ = FF
  refine Go.aloadN X0 hx (pc' := 1) rfl (hb hby d8_0) rfl rfl ?_
  refine Go.getF X0 hx hZ hown (host := "") (Or.inl (tw_43 hw)) Via.refl e0 P1 (pc' := 4) rfl (hb hby d8_1) ?_
  intro T1 e1 X1
  subst hFF
  refine Go.retR X1 hx hlk (t := (.object "java/util/List")) hret rfl rfl (hb hby d8_4) (by decide) (by decide) ?_
  rw [e1]
  exact ⟨rfl, (Fr.nil n0), rfl⟩
theorem d26_0 : decode jdk_44_method_3_code 0 = .ok (.aload_n 0, 1) := by decide +kernel
theorem d26_1 : decode jdk_44_method_3_code 1 = .ok (.getfield 24, 3) := by decide +kernel
theorem d26_4 : decode jdk_44_method_3_code 4 = .ok (.getstatic 19, 3) := by decide +kernel
theorem d26_7 : decode jdk_44_method_3_code 7 = .ok (.if_acmp .eq 7, 3) := by decide +kernel
theorem d26_14 : decode jdk_44_method_3_code 14 = .ok (.iconst 1, 1) := by decide +kernel
theorem d26_15 : decode jdk_44_method_3_code 15 = .ok (.ireturn, 1) := by decide +kernel
theorem ef_26_R (m : MethodId) (x0 : Addr) : entryFrame m #[(.ref x0)] 1 = mkF m 0 #[.val (.ref x0)] [] := by first | (simp [entryFrame, mkF, argsToLocals, Value.category]; done) | rfl
-- java/util/ImmutableCollections$List12.size
set_option maxRecDepth 65536 in
set_option maxHeartbeats 4000000 in
theorem au_30 (l : Launch) (Z : State) (a0 : Array Value) (hw : ∀ d ∈ tables_1, d.before a0 Z = true) (x0 : Addr) (ga1 : Addr) (ga5 : Addr) (gz13 : Int32) (ga17 : Addr) (gv23 : Value) (gk27 : ClassId) (h0 : Heap) (n0 : Nat) (Z0 : n0 ≤ h0.size) (O0 : Old Z n0 h0) (G : Glob Z ga1 ga5 gz13 ga17 gv23 gk27) (P2 : Fld Z h0 x0 "java/util/ImmutableCollections$List12" "e1" "Ljava/lang/Object;" (.ref ga17)) :
    Ctr l Z (⟨"java/util/ImmutableCollections$List12", "size", "()I"⟩ : MethodName) jdk_44_method_3_code 1 (some .int) ({ frames := 0, cells := 0, slots := 0, locals := 0 } : Room) #[(.ref x0)] h0 (fun v h L => v = some (.int 1) ∧ Fr n0 L ∧ h = h0) := by
  refine Ctr.of (plainFor_of_name pn_c11) ?_
  intro p e s m below meth c T0 hx hZ hby hml hown hnm hret hlk e0 es X0
  have G' := G
  obtain ⟨-, -, -, -, -, -, G6, -, -, -, -, -, -⟩ := G'
  refine Go.cast (ef_26_R m x0) ?_
  generalize hFF : EndN s _ _ _ = FF
  refine Go.aloadN X0 hx (pc' := 1) rfl (hb hby d26_0) rfl rfl ?_
  refine Go.getF X0 hx hZ hown (host := "") (Or.inl (tw_151 hw)) Via.refl e0 P2 (pc' := 4) rfl (hb hby d26_1) ?_
  intro T1 e1 X1
  have fk2 : Sta Z h0 "java/util/ImmutableCollections" "EMPTY" "Ljava/lang/Object;" (.ref ga17) := G6.ext O0.2
  refine Go.getS X1 hx hZ hown (Or.inr (tw_159 hw)) Via.refl e1 fk2 (pc' := 7) rfl (hb hby d26_4) ?_
  intro T3 e3 X3
  refine Go.acmp X3 hx (pc' := 14) (same := true) (hb hby d26_7) rfl rfl (decide_eq_true rfl) (by decide) (by decide) ?_
  refine Go.iconst X3 hx (pc' := 15) rfl (hb hby d26_14) (v := (1 : Int32)) rfl ?_
  subst hFF
  refine Go.retI X3 hx hlk hret (hb hby d26_15) (by decide) (by decide) ?_
  rw [e3]
  exact ⟨rfl, (Fr.nil n0), rfl⟩
theorem d27_0 : decode jdk_44_method_5_code 0 = .ok (.iload_n 1, 1) := by decide +kernel
theorem d27_1 : decode jdk_44_method_5_code 1 = .ok (.ifCond .ne 8, 3) := by decide +kernel
theorem d27_4 : decode jdk_44_method_5_code 4 = .ok (.aload_n 0, 1) := by decide +kernel
theorem d27_5 : decode jdk_44_method_5_code 5 = .ok (.getfield 13, 3) := by decide +kernel
theorem d27_8 : decode jdk_44_method_5_code 8 = .ok (.areturn, 1) := by decide +kernel
theorem ef_27_RI (m : MethodId) (x0 : Addr) (x1 : Int32) : entryFrame m #[(.ref x0), (.int x1)] 2 = mkF m 0 #[.val (.ref x0), .val (.int x1)] [] := by first | (simp [entryFrame, mkF, argsToLocals, Value.category]; done) | rfl
-- java/util/ImmutableCollections$List12.get
set_option maxRecDepth 65536 in
set_option maxHeartbeats 4000000 in
theorem au_31 (l : Launch) (Z : State) (a0 : Array Value) (hw : ∀ d ∈ tables_1, d.before a0 Z = true) (x0 : Addr) (x1 : Addr) (h0 : Heap) (n0 : Nat) (Z0 : n0 ≤ h0.size) (P1 : Fld Z h0 x0 "java/util/ImmutableCollections$List12" "e0" "Ljava/lang/Object;" (.ref x1)) :
    Ctr l Z (⟨"java/util/ImmutableCollections$List12", "get", "(I)Ljava/lang/Object;"⟩ : MethodName) jdk_44_method_5_code 2 (some (.object "java/lang/Object")) ({ frames := 0, cells := 0, slots := 0, locals := 0 } : Room) #[(.ref x0), (.int 0)] h0 (fun v h L => v = some (.ref x1) ∧ Fr n0 L ∧ h = h0) := by
  refine Ctr.of (plainFor_of_name pn_c11) ?_
  intro p e s m below meth c T0 hx hZ hby hml hown hnm hret hlk e0 es X0
  refine Go.cast (ef_27_RI m x0 (0 : Int32)) ?_
  generalize hFF : EndN s _ _ _ = FF
  refine Go.iloadN X0 hx (pc' := 1) rfl (hb hby d27_0) rfl ?_
  refine Go.ifNo X0 hx (pc' := 4) rfl (hb hby d27_1) (by decide) ?_
  refine Go.aloadN X0 hx (pc' := 5) rfl (hb hby d27_4) rfl rfl ?_
  refine Go.getF X0 hx hZ hown (host := "") (Or.inl (tw_149 hw)) Via.refl e0 P1 (pc' := 8) rfl (hb hby d27_5) ?_
  intro T1 e1 X1
  subst hFF
  refine Go.retR X1 hx hlk (t := (.object "java/lang/Object")) hret rfl rfl (hb hby d27_8) (by decide) (by decide) ?_
  rw [e1]
  exact ⟨rfl, (Fr.nil n0), rfl⟩
theorem pd_18 : parseMethodDescriptor "(I)Ljava/lang/Object;" = some ⟨[.int], some (.object "java/lang/Object")⟩ := by decide +kernel
theorem d17_0 : decode jdk_42_method_66_code 0 = .ok (.aload_n 0, 1) := by decide +kernel
theorem d17_1 : decode jdk_42_method_66_code 1 = .ok (.aload_n 1, 1) := by decide +kernel
theorem d17_2 : decode jdk_42_method_66_code 2 = .ok (.if_acmp .ne 5, 3) := by decide +kernel
theorem d17_5 : decode jdk_42_method_66_code 5 = .ok (.iconst 1, 1) := by decide +kernel
theorem d17_6 : decode jdk_42_method_66_code 6 = .ok (.ireturn, 1) := by decide +kernel
theorem ef_17_RR (m : MethodId) (x0 : Addr) (x1 : Addr) : entryFrame m #[(.ref x0), (.ref x1)] 3 = mkF m 0 #[.val (.ref x0), .val (.ref x1), .unset] [] := by first | (simp [entryFrame, mkF, argsToLocals, Value.category]; done) | rfl
-- java/lang/String.equals
set_option maxRecDepth 65536 in
set_option maxHeartbeats 4000000 in
theorem au_32 (l : Launch) (Z : State) (a0 : Array Value) (hw : ∀ d ∈ tables_1, d.before a0 Z = true) (x0 : Addr) (h0 : Heap) (n0 : Nat) (Z0 : n0 ≤ h0.size) :
    Ctr l Z (⟨"java/lang/String", "equals", "(Ljava/lang/Object;)Z"⟩ : MethodName) jdk_42_method_66_code 3 (some .boolean) ({ frames := 0, cells := 0, slots := 0, locals := 0 } : Room) #[(.ref x0), (.ref x0)] h0 (fun v h L => v = some (.int 1) ∧ Fr n0 L ∧ h = h0) := by
  refine Ctr.of (plainFor_of_name pn_c0) ?_
  intro p e s m below meth c T0 hx hZ hby hml hown hnm hret hlk e0 es X0
  refine Go.cast (ef_17_RR m x0 x0) ?_
  generalize hFF : EndN s _ _ _ = FF
  refine Go.aloadN X0 hx (pc' := 1) rfl (hb hby d17_0) rfl rfl ?_
  refine Go.aloadN X0 hx (pc' := 2) rfl (hb hby d17_1) rfl rfl ?_
  refine Go.acmp X0 hx (pc' := 5) (same := true) (hb hby d17_2) rfl rfl (decide_eq_true rfl) (by decide) (by decide) ?_
  refine Go.iconst X0 hx (pc' := 6) rfl (hb hby d17_5) (v := (1 : Int32)) rfl ?_
  subst hFF
  refine Go.retN X0 hx hlk (t := .boolean) hret (by simp) (hb hby d17_6) (by decide) (by decide) ?_
  rw [e0]
  exact ⟨(congrArg (fun z => some (Value.int z)) (by decide : nar .boolean (1 : Int32) = (1 : Int32))), (Fr.nil n0), rfl⟩
theorem pd_19 : parseMethodDescriptor "(Ljava/lang/Object;)Z" = some ⟨[(.object "java/lang/Object")], some .boolean⟩ := by decide +kernel
theorem d6_45 : decode jdk_40_method_47_code 45 = .ok (.new 96, 3) := by decide +kernel
theorem d6_48 : decode jdk_40_method_47_code 48 = .ok (.dup, 1) := by decide +kernel
theorem d6_49 : decode jdk_40_method_47_code 49 = .ok (.aload_n 0, 1) := by decide +kernel
theorem d6_50 : decode jdk_40_method_47_code 50 = .ok (.iconst 0, 1) := by decide +kernel
theorem d6_51 : decode jdk_40_method_47_code 51 = .ok (.aaload, 1) := by decide +kernel
theorem d6_52 : decode jdk_40_method_47_code 52 = .ok (.aload_n 0, 1) := by decide +kernel
theorem d6_53 : decode jdk_40_method_47_code 53 = .ok (.iconst 1, 1) := by decide +kernel
theorem d6_54 : decode jdk_40_method_47_code 54 = .ok (.aaload, 1) := by decide +kernel
theorem d25_0 : decode jdk_44_method_2_code 0 = .ok (.aload_n 0, 1) := by decide +kernel
theorem d25_1 : decode jdk_44_method_2_code 1 = .ok (.invokespecial 1, 3) := by decide +kernel
theorem d25_4 : decode jdk_44_method_2_code 4 = .ok (.aload_n 0, 1) := by decide +kernel
theorem d25_5 : decode jdk_44_method_2_code 5 = .ok (.aload_n 1, 1) := by decide +kernel
theorem d25_6 : decode jdk_44_method_2_code 6 = .ok (.invokestatic 7, 3) := by decide +kernel
theorem d25_9 : decode jdk_44_method_2_code 9 = .ok (.putfield 13, 3) := by decide +kernel
theorem d25_12 : decode jdk_44_method_2_code 12 = .ok (.aload_n 0, 1) := by decide +kernel
theorem d25_13 : decode jdk_44_method_2_code 13 = .ok (.aload_n 2, 1) := by decide +kernel
theorem d25_14 : decode jdk_44_method_2_code 14 = .ok (.invokestatic 7, 3) := by decide +kernel
theorem d25_17 : decode jdk_44_method_2_code 17 = .ok (.putfield 24, 3) := by decide +kernel
theorem d25_20 : decode jdk_44_method_2_code 20 = .ok (.return_, 1) := by decide +kernel
theorem ef_25_RRR (m : MethodId) (x0 : Addr) (x1 : Addr) (x2 : Addr) : entryFrame m #[(.ref x0), (.ref x1), (.ref x2)] 3 = mkF m 0 #[.val (.ref x0), .val (.ref x1), .val (.ref x2)] [] := by first | (simp [entryFrame, mkF, argsToLocals, Value.category]; done) | rfl
-- java/util/ImmutableCollections$List12.init
set_option maxRecDepth 65536 in
set_option maxHeartbeats 4000000 in
theorem au_35 (l : Launch) (Z : State) (a0 : Array Value) (hw : ∀ d ∈ tables_1, d.before a0 Z = true) (x0 : Addr) (x1 : Addr) (x2 : Addr) (h0 : Heap) (n0 : Nat) (Z0 : n0 ≤ h0.size) (P0 : Exa Z h0 x0 "java/util/ImmutableCollections$List12") (P1 : Fld Z h0 x0 "java/util/ImmutableCollections$List12" "e0" "Ljava/lang/Object;" .null) (P2 : Fld Z h0 x0 "java/util/ImmutableCollections$List12" "e1" "Ljava/lang/Object;" .null) (g_x0 : n0 ≤ x0) :
    Ctr l Z (⟨"java/util/ImmutableCollections$List12", "<init>", "(Ljava/lang/Object;Ljava/lang/Object;)V"⟩ : MethodName) jdk_44_method_2_code 3 none ({ frames := 4, cells := 0, slots := 0, locals := 48 } : Room) #[(.ref x0), (.ref x1), (.ref x2)] h0 (fun v h L => v = none ∧ Fr n0 L ∧ Keep h0 h [x0] ∧ Exa Z h x0 "java/util/ImmutableCollections$List12" ∧ Fld Z h x0 "java/util/ImmutableCollections$List12" "e0" "Ljava/lang/Object;" (.ref x1) ∧ Fld Z h x0 "java/util/ImmutableCollections$List12" "e1" "Ljava/lang/Object;" (.ref x2)) := by
  refine Ctr.of (plainFor_of_name pn_c11) ?_
  intro p e s m below meth c T0 hx hZ hby hml hown hnm hret hlk e0 es X0
  refine Go.cast (ef_25_RRR m x0 x1 x2) ?_
  generalize hFF : EndN s _ _ _ = FF
  refine Go.aloadN X0 hx (pc' := 1) rfl (hb hby d25_0) rfl rfl ?_
  refine Go.callN X0 hx hZ hown rfl (tw_144 hw) (tw_79 hw) (tw_83 hw) (by decide) (tw_83 hw) (tw_82 hw) (au_24 l Z a0 hw x0 h0 n0 Z0) e0 (a := x0) (argsL := []) (rest := []) (pc' := 4) rfl (by rw [hml]; rfl) (lenOf pd_15 rfl) rfl rfl (W := 0) (Nat.le_of_eq rfl) (by decide) (by decide) (by decide) (by decide) (hb hby d25_1) ?_
  intro v1 T1 L1 q1 X1
  obtain ⟨rfl, N1, e1⟩ := q1
  show Go _ _ _ _ (T1.setTop (mkF m 4 #[.val (.ref x0), .val (.ref x1), .val (.ref x2)] []))
  refine Go.aloadN X1 hx (pc' := 5) rfl (hb hby d25_4) rfl rfl ?_
  refine Go.aloadN X1 hx (pc' := 6) rfl (hb hby d25_5) rfl rfl ?_
  refine Go.callS X1 hx hZ hown (tw_148 hw) (tw_68 hw) (tw_69 hw) (tw_70 hw) (by decide) (tw_70 hw) (tw_69 hw) (au_27 l Z a0 hw x1 h0 n0 Z0) e1 (argsL := [(.ref x1)]) (rest := [(.ref x0)]) (pc' := 9) rfl (by rw [hml]; rfl) (lenOf pd_16 rfl) rfl rfl (W := 1) (Nat.le_of_eq rfl) (by decide) (by decide) (by decide) (by decide) (hb hby d25_6) ?_
  intro v2 T2 L2 q2 X2
  obtain ⟨rfl, N2, e2⟩ := q2
  show Go _ _ _ _ (T2.setTop (mkF m 9 #[.val (.ref x0), .val (.ref x1), .val (.ref x2)] [(.ref x1), (.ref x0)]))
  refine Go.putF X2 hx hZ hown (host := "") (Or.inl (tw_149 hw)) Via.refl e2 P1 P0 (Or.inr ⟨(tw_150 hw), rfl, hnm⟩) (tw_138 hw) (ty := (.object "java/lang/Object")) (by decide) rfl rfl (pc' := 12) rfl (hb hby d25_9) ?_
  intro T3 h3 e3 W3 F3 X3
  have N3 := Fr.snoc X3 (Fr.app (Fr.app (Fr.nil n0) N1) N2) g_x0
  refine Go.aloadN X3 hx (pc' := 13) rfl (hb hby d25_12) rfl rfl ?_
  refine Go.aloadN X3 hx (pc' := 14) rfl (hb hby d25_13) rfl rfl ?_
  have Kp5 : Keep h0 h3 [x0] := ((Keep.refl h0 [x0]).wr W3 (Or.inl (List.mem_of_getElem? (i := 0) rfl)))
  have Zn4 : n0 ≤ h3.size := Nat.le_trans Z0 Kp5.1
  refine Go.callS X3 hx hZ hown (tw_148 hw) (tw_68 hw) (tw_69 hw) (tw_70 hw) (by decide) (tw_70 hw) (tw_69 hw) (au_27 l Z a0 hw x2 h3 n0 Zn4) e3 (argsL := [(.ref x2)]) (rest := [(.ref x0)]) (pc' := 17) rfl (by rw [hml]; rfl) (lenOf pd_16 rfl) rfl rfl (W := 1) (Nat.le_of_eq rfl) (by decide) (by decide) (by decide) (by decide) (hb hby d25_14) ?_
  intro v6 T6 L6 q6 X6
  obtain ⟨rfl, N6, e6⟩ := q6
  show Go _ _ _ _ (T6.setTop (mkF m 17 #[.val (.ref x0), .val (.ref x1), .val (.ref x2)] [(.ref x2), (.ref x0)]))
  have fk7 : Fld Z h3 x0 "java/util/ImmutableCollections$List12" "e1" "Ljava/lang/Object;" .null := (P2.other W3 (Or.inr (slot_ne (Or.inr (tw_152 hw)) (Or.inr (tw_150 hw)) (by decide) (t := (.object "java/lang/Object")) (t' := (.object "java/lang/Object")) (by decide) (by decide))))
  have fk8 : Exa Z h3 x0 "java/util/ImmutableCollections$List12" := (P0.wr W3)
  refine Go.putF X6 hx hZ hown (host := "") (Or.inl (tw_151 hw)) Via.refl e6 fk7 fk8 (Or.inr ⟨(tw_152 hw), rfl, hnm⟩) (tw_138 hw) (ty := (.object "java/lang/Object")) (by decide) rfl rfl (pc' := 20) rfl (hb hby d25_17) ?_
  intro T9 h9 e9 W9 F9 X9
  have N9 := Fr.snoc X9 (Fr.app N3 N6) g_x0
  subst hFF
  refine Go.ret0 X9 hx hlk hret (hb hby d25_20) (by decide) (by decide) ?_
  rw [e9]
  have fk10 : Exa Z h9 x0 "java/util/ImmutableCollections$List12" := (fk8.wr W9)
  have fk11 : Fld Z h9 x0 "java/util/ImmutableCollections$List12" "e0" "Ljava/lang/Object;" (.ref x1) := (F3.other W9 (Or.inr (slot_ne (Or.inr (tw_150 hw)) (Or.inr (tw_152 hw)) (by decide) (t := (.object "java/lang/Object")) (t' := (.object "java/lang/Object")) (by decide) (by decide))))
  have Kp12 : Keep h0 h9 [x0] := (Kp5.wr W9 (Or.inl (List.mem_of_getElem? (i := 0) rfl)))
  exact ⟨rfl, N9, Kp12, fk10, fk11, F9⟩
theorem pd_20 : parseMethodDescriptor "(Ljava/lang/Object;Ljava/lang/Object;)V" = some ⟨[(.object "java/lang/Object"), (.object "java/lang/Object")], none⟩ := by decide +kernel
theorem d6_55 : decode jdk_40_method_47_code 55 = .ok (.invokespecial 100, 3) := by decide +kernel
theorem d6_58 : decode jdk_40_method_47_code 58 = .ok (.areturn, 1) := by decide +kernel
-- java/util/List.of
set_option maxRecDepth 65536 in
set_option maxHeartbeats 4000000 in
theorem au_34 (l : Launch) (Z : State) (a0 : Array Value) (hw : ∀ d ∈ tables_1, d.before a0 Z = true) (x0 : Addr) (kk0 : ClassId) (x1 : Addr) (x2 : Addr) (h0 : Heap) (n0 : Nat) (Z0 : n0 ≤ h0.size) (P0 : Arv Z h0 x0 kk0 (.object "java/lang/String") (2 : Int32) [(.ref x1), (.ref x2)] .null) :
    Ctr l Z (⟨"java/util/List", "of", "([Ljava/lang/Object;)Ljava/util/List;"⟩ : MethodName) jdk_40_method_47_code 2 (some (.object "java/util/List")) ({ frames := 5, cells := 1, slots := 2, locals := 63 } : Room) #[(.ref x0)] h0 (fun v h L => ∃ (b1 : Addr), v = some (.ref b1) ∧ Fr n0 L ∧ Keep h0 h [] ∧ h0.size ≤ b1 ∧ Exa Z h b1 "java/util/ImmutableCollections$List12" ∧ Fld Z h b1 "java/util/ImmutableCollections$List12" "e0" "Ljava/lang/Object;" (.ref x1) ∧ Fld Z h b1 "java/util/ImmutableCollections$List12" "e1" "Ljava/lang/Object;" (.ref x2)) := by
  refine Ctr.of (plainFor_of_name pn_c4) ?_
  intro p e s m below meth c T0 hx hZ hby hml hown hnm hret hlk e0 es X0
  refine Go.cast (ef_6_R m x0) ?_
  generalize hFF : EndN s _ _ _ = FF
  refine Go.aloadN X0 hx (pc' := 1) rfl (hb hby d6_0) rfl rfl ?_
  refine Go.arraylength X0 hx hZ e0 P0 (pc' := 2) rfl (hb hby d6_1) ?_
  refine Go.tswIn X0 hx (pc' := 45) (hb hby d6_2) (by decide) (o := 43) (by decide) (by decide) (by decide) ?_
  refine Go.new X0 hx hZ hown (tw_137 hw) (tw_138 hw) (tw_139 hw) e0 (by decide) (by decide) (pc' := 48) rfl (hb hby d6_45) ?_
  intro T1 h1 b1 e1 E1 g1 A1 D1 X1
  have b1_e0 : Fld Z h1 b1 "java/util/ImmutableCollections$List12" "e0" "Ljava/lang/Object;" .null := D1 (Or.inr (tw_150 hw)) (ty := (.object "java/lang/Object")) (by decide)
  have b1_e1 : Fld Z h1 b1 "java/util/ImmutableCollections$List12" "e1" "Ljava/lang/Object;" .null := D1 (Or.inr (tw_152 hw)) (ty := (.object "java/lang/Object")) (by decide)
  refine Go.dup X1 hx (pc' := 49) rfl (hb hby d6_48) rfl ?_
  refine Go.aloadN X1 hx (pc' := 50) rfl (hb hby d6_49) rfl rfl ?_
  refine Go.iconst X1 hx (pc' := 51) rfl (hb hby d6_50) (v := (0 : Int32)) rfl ?_
  have fk2 := (P0.ext E1)
  refine Go.aaload X1 hx hZ e1 rfl fk2 (v := (.ref x1)) ⟨by decide, by decide⟩ rfl (pc' := 52) rfl (hb hby d6_51) ?_
  refine Go.aloadN X1 hx (pc' := 53) rfl (hb hby d6_52) rfl rfl ?_
  refine Go.iconst X1 hx (pc' := 54) rfl (hb hby d6_53) (v := (1 : Int32)) rfl ?_
  refine Go.aaload X1 hx hZ e1 rfl fk2 (v := (.ref x2)) ⟨by decide, by decide⟩ rfl (pc' := 55) rfl (hb hby d6_54) ?_
  have Kp4 : Keep h0 h1 [] := ((Keep.refl h0 []).ext E1)
  have Zn3 : n0 ≤ h1.size := Nat.le_trans Z0 Kp4.1
  have sz6 : h0.size ≤ b1 := Nat.le_trans (Keep.refl h0 []).1 (Nat.le_of_eq g1.symm)
  have ge5 : n0 ≤ b1 := Nat.le_trans Z0 sz6
  refine Go.callN X1 hx hZ hown rfl (tw_140 hw) (tw_141 hw) (tw_143 hw) (by decide) (tw_143 hw) (tw_139 hw) (au_35 l Z a0 hw b1 x1 x2 h1 n0 Zn3 A1 b1_e0 b1_e1 ge5) e1 (a := b1) (argsL := [(.ref x1), (.ref x2)]) (rest := [(.ref b1)]) (pc' := 58) rfl (by rw [hml]; rfl) (lenOf pd_20 rfl) rfl rfl (W := 1) (Nat.le_of_eq rfl) (by decide) (by decide) (by decide) (by decide) (hb hby d6_55) ?_
  intro v7 T7 L7 q7 X7
  obtain ⟨h7, e7⟩ : ∃ z, T7.heap = z := ⟨_, rfl⟩
  rw [e7] at q7
  obtain ⟨rfl, N7, K7, F7_0, F7_1, F7_2⟩ := q7
  show Go _ _ _ _ (T7.setTop (mkF m 58 #[.val (.ref x0), .unset] [(.ref b1)]))
  subst hFF
  refine Go.retR X7 hx hlk (t := (.object "java/util/List")) hret rfl rfl (hb hby d6_58) (by decide) (by decide) ?_
  rw [e7]
  have Kp8 : Keep h0 h7 [] := (Kp4.trans K7 (allS (Or.inr sz6) all0))
  exact ⟨b1, rfl, (Fr.app (Fr.nil n0) N7), Kp8, sz6, F7_0, F7_1, F7_2⟩
-- com/example/dirbound/dirbound/CompositeName.init
set_option maxRecDepth 65536 in
set_option maxHeartbeats 4000000 in
theorem au_36 (l : Launch) (Z : State) (a0 : Array Value) (hw : ∀ d ∈ tables_1, d.before a0 Z = true) (x0 : Addr) (x1 : Addr) (h0 : Heap) (n0 : Nat) (Z0 : n0 ≤ h0.size) (P0 : Exa Z h0 x0 "com/example/dirbound/dirbound/CompositeName") (P1 : Fld Z h0 x0 "com/example/dirbound/dirbound/CompositeName" "components" "Ljava/util/List;" .null) (g_x0 : n0 ≤ x0) :
    Ctr l Z (⟨"com/example/dirbound/dirbound/CompositeName", "<init>", "(Ljava/util/List;)V"⟩ : MethodName) prog_5_method_1_code 2 none ({ frames := 1, cells := 0, slots := 0, locals := 12 } : Room) #[(.ref x0), (.ref x1)] h0 (fun v h L => v = none ∧ Fr n0 L ∧ Keep h0 h [x0] ∧ Exa Z h x0 "com/example/dirbound/dirbound/CompositeName" ∧ Fld Z h x0 "com/example/dirbound/dirbound/CompositeName" "components" "Ljava/util/List;" (.ref x1)) := by
  refine Ctr.of (plainFor_of_name pn_c5) ?_
  intro p e s m below meth c T0 hx hZ hby hml hown hnm hret hlk e0 es X0
  refine Go.cast (ef_7_RR m x0 x1) ?_
  generalize hFF : EndN s _ _ _ = FF
  refine Go.aloadN X0 hx (pc' := 1) rfl (hb hby d7_0) rfl rfl ?_
  refine Go.initO X0 hx hZ hown (tw_42 hw) (tw_16 hw) (tw_17 hw) e0 (by decide) (W := 0) (by rw [hml]; rfl) (Nat.le_of_eq rfl) (by decide) (pc' := 4) rfl (hb hby d7_1) ?_
  intro T1 e1 X1
  refine Go.aloadN X1 hx (pc' := 5) rfl (hb hby d7_4) rfl rfl ?_
  refine Go.aloadN X1 hx (pc' := 6) rfl (hb hby d7_5) rfl rfl ?_
  refine Go.putF X1 hx hZ hown (host := "") (Or.inl (tw_43 hw)) Via.refl e1 P1 P0 (Or.inr ⟨(tw_44 hw), rfl, hnm⟩) (tw_32 hw) (ty := (.object "java/util/List")) (by decide) rfl rfl (pc' := 9) rfl (hb hby d7_6) ?_
  intro T2 h2 e2 W2 F2 X2
  have N2 := Fr.snoc X2 (Fr.nil n0) g_x0
  subst hFF
  refine Go.ret0 X2 hx hlk hret (hb hby d7_9) (by decide) (by decide) ?_
  rw [e2]
  have fk3 : Exa Z h2 x0 "com/example/dirbound/dirbound/CompositeName" := (P0.wr W2)
  have Kp4 : Keep h0 h2 [x0] := ((Keep.refl h0 [x0]).wr W2 (Or.inl (List.mem_of_getElem? (i := 0) rfl)))
  exact ⟨rfl, N2, Kp4, fk3, F2⟩
-- com/example/dirbound/dirbound/CompositeName.of
set_option maxRecDepth 65536 in
set_option maxHeartbeats 4000000 in
theorem au_33 (l : Launch) (Z : State) (a0 : Array Value) (hw : ∀ d ∈ tables_1, d.before a0 Z = true) (x0 : Addr) (kk0 : ClassId) (x1 : Addr) (x2 : Addr) (h0 : Heap) (n0 : Nat) (Z0 : n0 ≤ h0.size) (P0 : Arv Z h0 x0 kk0 (.object "java/lang/String") (2 : Int32) [(.ref x1), (.ref x2)] .null) :
    Ctr l Z (⟨"com/example/dirbound/dirbound/CompositeName", "of", "([Ljava/lang/String;)Lcom/example/dirbound/dirbound/CompositeName;"⟩ : MethodName) prog_5_method_2_code 1 (some (.object "com/example/dirbound/dirbound/CompositeName")) ({ frames := 6, cells := 2, slots := 3, locals := 78 } : Room) #[(.ref x0)] h0 (fun v h L => ∃ (b1 : Addr) (b5_0 : Addr), v = some (.ref b1) ∧ Fr n0 L ∧ Keep h0 h [] ∧ h0.size ≤ b1 ∧ h0.size ≤ b5_0 ∧ b5_0 ≠ b1 ∧ Exa Z h b1 "com/example/dirbound/dirbound/CompositeName" ∧ Fld Z h b1 "com/example/dirbound/dirbound/CompositeName" "components" "Ljava/util/List;" (.ref b5_0) ∧ Exa Z h b5_0 "java/util/ImmutableCollections$List12" ∧ Fld Z h b5_0 "java/util/ImmutableCollections$List12" "e0" "Ljava/lang/Object;" (.ref x1) ∧ Fld Z h b5_0 "java/util/ImmutableCollections$List12" "e1" "Ljava/lang/Object;" (.ref x2)) := by
  refine Ctr.of (plainFor_of_name pn_c5) ?_
  intro p e s m below meth c T0 hx hZ hby hml hown hnm hret hlk e0 es X0
  refine Go.cast (ef_5_R m x0) ?_
  generalize hFF : EndN s _ _ _ = FF
  refine Go.new X0 hx hZ hown (tw_31 hw) (tw_32 hw) (tw_29 hw) e0 (by decide) (by decide) (pc' := 3) rfl (hb hby d5_0) ?_
  intro T1 h1 b1 e1 E1 g1 A1 D1 X1
  have b1_components : Fld Z h1 b1 "com/example/dirbound/dirbound/CompositeName" "components" "Ljava/util/List;" .null := D1 (Or.inr (tw_44 hw)) (ty := (.object "java/util/List")) (by decide)
  refine Go.dup X1 hx (pc' := 4) rfl (hb hby d5_3) rfl ?_
  refine Go.aloadN X1 hx (pc' := 5) rfl (hb hby d5_4) rfl rfl ?_
  have Kp3 : Keep h0 h1 [] := ((Keep.refl h0 []).ext E1)
  have Zn2 : n0 ≤ h1.size := Nat.le_trans Z0 Kp3.1
  have fk4 := (P0.ext E1)
  refine Go.callS X1 hx hZ hown (tw_33 hw) (tw_34 hw) (tw_35 hw) (tw_36 hw) (by decide) (tw_36 hw) (tw_35 hw) (au_34 l Z a0 hw x0 kk0 x1 x2 h1 n0 Zn2 fk4) e1 (argsL := [(.ref x0)]) (rest := [(.ref b1), (.ref b1)]) (pc' := 8) rfl (by rw [hml]; rfl) (lenOf pd_10 rfl) rfl rfl (W := 2) (Nat.le_of_eq rfl) (by decide) (by decide) (by decide) (by decide) (hb hby d5_5) ?_
  intro v5 T5 L5 q5 X5
  obtain ⟨h5, e5⟩ : ∃ z, T5.heap = z := ⟨_, rfl⟩
  rw [e5] at q5
  obtain ⟨b5_0, rfl, N5, K5, s5_0, F5_0, F5_1, F5_2⟩ := q5
  show Go _ _ _ _ (T5.setTop (mkF m 8 #[.val (.ref x0)] [(.ref b5_0), (.ref b1), (.ref b1)]))
  have Kp7 : Keep h0 h5 [] := (Kp3.trans K5 all0)
  have Zn6 : n0 ≤ h5.size := Nat.le_trans Z0 Kp7.1
  have fk8 : Exa Z h5 b1 "com/example/dirbound/dirbound/CompositeName" := (A1.keep K5)
  have fk9 : Fld Z h5 b1 "com/example/dirbound/dirbound/CompositeName" "components" "Ljava/util/List;" .null := (b1_components.keep K5 nin0)
  have sz11 : h0.size ≤ b1 := Nat.le_trans (Keep.refl h0 []).1 (Nat.le_of_eq g1.symm)
  have ge10 : n0 ≤ b1 := Nat.le_trans Z0 sz11
  refine Go.callN X5 hx hZ hown rfl (tw_39 hw) (tw_40 hw) (tw_41 hw) (by decide) (tw_41 hw) (tw_29 hw) (au_36 l Z a0 hw b1 b5_0 h5 n0 Zn6 fk8 fk9 ge10) e5 (a := b1) (argsL := [(.ref b5_0)]) (rest := [(.ref b1)]) (pc' := 11) rfl (by rw [hml]; rfl) (lenOf pd_11 rfl) rfl rfl (W := 1) (Nat.le_of_eq rfl) (by decide) (by decide) (by decide) (by decide) (hb hby d5_8) ?_
  intro v12 T12 L12 q12 X12
  obtain ⟨h12, e12⟩ : ∃ z, T12.heap = z := ⟨_, rfl⟩
  rw [e12] at q12
  obtain ⟨rfl, N12, K12, F12_0, F12_1⟩ := q12
  show Go _ _ _ _ (T12.setTop (mkF m 11 #[.val (.ref x0)] [(.ref b1)]))
  subst hFF
  refine Go.retR X12 hx hlk (t := (.object "com/example/dirbound/dirbound/CompositeName")) hret rfl rfl (hb hby d5_11) (by decide) (by decide) ?_
  rw [e12]
  have fk13 : Exa Z h12 b5_0 "java/util/ImmutableCollections$List12" := (F5_0.keep K12)
  have ne14 : b1 ≠ b5_0 := Nat.ne_of_lt (Nat.lt_of_lt_of_le A1.lt s5_0)
  have fk15 : Fld Z h12 b5_0 "java/util/ImmutableCollections$List12" "e0" "Ljava/lang/Object;" (.ref x1) := (F5_1.keep K12 (ninS (Ne.symm ne14) nin0))
  have fk16 : Fld Z h12 b5_0 "java/util/ImmutableCollections$List12" "e1" "Ljava/lang/Object;" (.ref x2) := (F5_2.keep K12 (ninS (Ne.symm ne14) nin0))
  have Kp17 : Keep h0 h12 [] := (Kp7.trans K12 (allS (Or.inr sz11) all0))
  have sz18 : h0.size ≤ b5_0 := Nat.le_trans Kp3.1 s5_0
  exact ⟨b1, b5_0, rfl, (Fr.app (Fr.app (Fr.nil n0) N5) N12), Kp17, sz11, sz18, (Ne.symm ne14), F12_0, F12_1, fk13, fk15, fk16⟩
-- com/example/dirbound/dirbound/CompositeName.components
set_option maxRecDepth 65536 in
set_option maxHeartbeats 4000000 in
theorem au_37 (l : Launch) (Z : State) (a0 : Array Value) (hw : ∀ d ∈ tables_1, d.before a0 Z = true) (x0 : Addr) (x1 : Addr) (h0 : Heap) (n0 : Nat) (Z0 : n0 ≤ h0.size) (P1 : Fld Z h0 x0 "com/example/dirbound/dirbound/CompositeName" "components" "Ljava/util/List;" (.ref x1)) :
    Ctr l Z (⟨"com/example/dirbound/dirbound/CompositeName", "components", "()Ljava/util/List;"⟩ : MethodName) prog_5_method_6_code 1 (some (.object "java/util/List")) ({ frames := 0, cells := 0, slots := 0, locals := 0 } : Room) #[(.ref x0)] h0 (fun v h L => v = some (.ref x1) ∧ Fr n0 L ∧ h = h0) := by
  refine Ctr.of (plainFor_of_name pn_c5) ?_
  intro p e s m below meth c T0 hx hZ hby hml hown hnm hret hlk e0 es X0
  refine Go.cast (ef_8_R m x0) ?_
  generalize hFF : EndN s _ _ _ = FF
  refine Go.aloadN X0 hx (pc' := 1) rfl (hb hby d8_0) rfl rfl ?_
  refine Go.getF X0 hx hZ hown (host := "") (Or.inl (tw_43 hw)) Via.refl e0 P1 (pc' := 4) rfl (hb hby d8_1) ?_
  intro T1 e1 X1
  subst hFF
  refine Go.retR X1 hx hlk (t := (.object "java/util/List")) hret rfl rfl (hb hby d8_4) (by decide) (by decide) ?_
  rw [e1]
  exact ⟨rfl, (Fr.nil n0), rfl⟩
theorem d26_10 : decode jdk_44_method_3_code 10 = .ok (.iconst 2, 1) := by decide +kernel
theorem d26_11 : decode jdk_44_method_3_code 11 = .ok (.goto 4, 3) := by decide +kernel
-- java/util/ImmutableCollections$List12.size
set_option maxRecDepth 65536 in
set_option maxHeartbeats 4000000 in
theorem au_38 (l : Launch) (Z : State) (a0 : Array Value) (hw : ∀ d ∈ tables_1, d.before a0 Z = true) (x0 : Addr) (x2 : Addr) (ga1 : Addr) (ga5 : Addr) (gz13 : Int32) (ga17 : Addr) (gv23 : Value) (gk27 : ClassId) (h0 : Heap) (n0 : Nat) (Z0 : n0 ≤ h0.size) (O0 : Old Z n0 h0) (G : Glob Z ga1 ga5 gz13 ga17 gv23 gk27) (P2 : Fld Z h0 x0 "java/util/ImmutableCollections$List12" "e1" "Ljava/lang/Object;" (.ref x2)) (g_x2 : n0 ≤ x2) :
    Ctr l Z (⟨"java/util/ImmutableCollections$List12", "size", "()I"⟩ : MethodName) jdk_44_method_3_code 1 (some .int) ({ frames := 0, cells := 0, slots := 0, locals := 0 } : Room) #[(.ref x0)] h0 (fun v h L => v = some (.int 2) ∧ Fr n0 L ∧ h = h0) := by
  refine Ctr.of (plainFor_of_name pn_c11) ?_
  intro p e s m below meth c T0 hx hZ hby hml hown hnm hret hlk e0 es X0
  have G' := G
  obtain ⟨-, -, -, -, -, -, G6, G7, -, -, -, -, -⟩ := G'
  refine Go.cast (ef_26_R m x0) ?_
  generalize hFF : EndN s _ _ _ = FF
  refine Go.aloadN X0 hx (pc' := 1) rfl (hb hby d26_0) rfl rfl ?_
  refine Go.getF X0 hx hZ hown (host := "") (Or.inl (tw_151 hw)) Via.refl e0 P2 (pc' := 4) rfl (hb hby d26_1) ?_
  intro T1 e1 X1
  have fk2 : Sta Z h0 "java/util/ImmutableCollections" "EMPTY" "Ljava/lang/Object;" (.ref ga17) := G6.ext O0.2
  refine Go.getS X1 hx hZ hown (Or.inr (tw_159 hw)) Via.refl e1 fk2 (pc' := 7) rfl (hb hby d26_4) ?_
  intro T3 e3 X3
  refine Go.acmp X3 hx (pc' := 10) (same := false) (hb hby d26_7) rfl rfl (decide_eq_false (fun q => (Ne.symm (O0.ne G7.lt g_x2)) (Value.ref.inj q))) (by decide) (by decide) ?_
  refine Go.iconst X3 hx (pc' := 11) rfl (hb hby d26_10) (v := (2 : Int32)) rfl ?_
  refine Go.goto X3 hx (pc' := 15) (hb hby d26_11) (by decide) (by decide) ?_
  subst hFF
  refine Go.retI X3 hx hlk hret (hb hby d26_15) (by decide) (by decide) ?_
  rw [e3]
  exact ⟨rfl, (Fr.nil n0), rfl⟩
-- java/util/ImmutableCollections$List12.get
set_option maxRecDepth 65536 in
set_option maxHeartbeats 4000000 in
theorem au_39 (l : Launch) (Z : State) (a0 : Array Value) (hw : ∀ d ∈ tables_1, d.before a0 Z = true) (x0 : Addr) (x1 : Addr) (h0 : Heap) (n0 : Nat) (Z0 : n0 ≤ h0.size) (P1 : Fld Z h0 x0 "java/util/ImmutableCollections$List12" "e0" "Ljava/lang/Object;" (.ref x1)) :
    Ctr l Z (⟨"java/util/ImmutableCollections$List12", "get", "(I)Ljava/lang/Object;"⟩ : MethodName) jdk_44_method_5_code 2 (some (.object "java/lang/Object")) ({ frames := 0, cells := 0, slots := 0, locals := 0 } : Room) #[(.ref x0), (.int 0)] h0 (fun v h L => v = some (.ref x1) ∧ Fr n0 L ∧ h = h0) := by
  refine Ctr.of (plainFor_of_name pn_c11) ?_
  intro p e s m below meth c T0 hx hZ hby hml hown hnm hret hlk e0 es X0
  refine Go.cast (ef_27_RI m x0 (0 : Int32)) ?_
  generalize hFF : EndN s _ _ _ = FF
  refine Go.iloadN X0 hx (pc' := 1) rfl (hb hby d27_0) rfl ?_
  refine Go.ifNo X0 hx (pc' := 4) rfl (hb hby d27_1) (by decide) ?_
  refine Go.aloadN X0 hx (pc' := 5) rfl (hb hby d27_4) rfl rfl ?_
  refine Go.getF X0 hx hZ hown (host := "") (Or.inl (tw_149 hw)) Via.refl e0 P1 (pc' := 8) rfl (hb hby d27_5) ?_
  intro T1 e1 X1
  subst hFF
  refine Go.retR X1 hx hlk (t := (.object "java/lang/Object")) hret rfl rfl (hb hby d27_8) (by decide) (by decide) ?_
  rw [e1]
  exact ⟨rfl, (Fr.nil n0), rfl⟩
theorem d27_9 : decode jdk_44_method_5_code 9 = .ok (.iload_n 1, 1) := by decide +kernel
theorem d27_10 : decode jdk_44_method_5_code 10 = .ok (.iconst 1, 1) := by decide +kernel
theorem d27_11 : decode jdk_44_method_5_code 11 = .ok (.if_icmp .ne 18, 3) := by decide +kernel
theorem d27_14 : decode jdk_44_method_5_code 14 = .ok (.aload_n 0, 1) := by decide +kernel
theorem d27_15 : decode jdk_44_method_5_code 15 = .ok (.getfield 24, 3) := by decide +kernel
theorem d27_18 : decode jdk_44_method_5_code 18 = .ok (.getstatic 19, 3) := by decide +kernel
theorem d27_21 : decode jdk_44_method_5_code 21 = .ok (.if_acmp .eq 8, 3) := by decide +kernel
theorem d27_24 : decode jdk_44_method_5_code 24 = .ok (.aload_n 0, 1) := by decide +kernel
theorem d27_25 : decode jdk_44_method_5_code 25 = .ok (.getfield 24, 3) := by decide +kernel
theorem d27_28 : decode jdk_44_method_5_code 28 = .ok (.areturn, 1) := by decide +kernel
-- java/util/ImmutableCollections$List12.get
set_option maxRecDepth 65536 in
set_option maxHeartbeats 4000000 in
theorem au_40 (l : Launch) (Z : State) (a0 : Array Value) (hw : ∀ d ∈ tables_1, d.before a0 Z = true) (x0 : Addr) (x2 : Addr) (ga1 : Addr) (ga5 : Addr) (gz13 : Int32) (ga17 : Addr) (gv23 : Value) (gk27 : ClassId) (h0 : Heap) (n0 : Nat) (Z0 : n0 ≤ h0.size) (O0 : Old Z n0 h0) (G : Glob Z ga1 ga5 gz13 ga17 gv23 gk27) (P2 : Fld Z h0 x0 "java/util/ImmutableCollections$List12" "e1" "Ljava/lang/Object;" (.ref x2)) (g_x2 : n0 ≤ x2) :
    Ctr l Z (⟨"java/util/ImmutableCollections$List12", "get", "(I)Ljava/lang/Object;"⟩ : MethodName) jdk_44_method_5_code 2 (some (.object "java/lang/Object")) ({ frames := 0, cells := 0, slots := 0, locals := 0 } : Room) #[(.ref x0), (.int 1)] h0 (fun v h L => v = some (.ref x2) ∧ Fr n0 L ∧ h = h0) := by
  refine Ctr.of (plainFor_of_name pn_c11) ?_
  intro p e s m below meth c T0 hx hZ hby hml hown hnm hret hlk e0 es X0
  have G' := G
  obtain ⟨-, -, -, -, -, -, G6, G7, -, -, -, -, -⟩ := G'
  refine Go.cast (ef_27_RI m x0 (1 : Int32)) ?_
  generalize hFF : EndN s _ _ _ = FF
  refine Go.iloadN X0 hx (pc' := 1) rfl (hb hby d27_0) rfl ?_
  refine Go.ifYes X0 hx (pc' := 9) (hb hby d27_1) (by decide) (by decide) (by decide) ?_
  refine Go.iloadN X0 hx (pc' := 10) rfl (hb hby d27_9) rfl ?_
  refine Go.iconst X0 hx (pc' := 11) rfl (hb hby d27_10) (v := (1 : Int32)) rfl ?_
  refine Go.icmpNo X0 hx (pc' := 14) rfl (hb hby d27_11) (by decide) ?_
  refine Go.aloadN X0 hx (pc' := 15) rfl (hb hby d27_14) rfl rfl ?_
  refine Go.getF X0 hx hZ hown (host := "") (Or.inl (tw_151 hw)) Via.refl e0 P2 (pc' := 18) rfl (hb hby d27_15) ?_
  intro T1 e1 X1
  have fk2 : Sta Z h0 "java/util/ImmutableCollections" "EMPTY" "Ljava/lang/Object;" (.ref ga17) := G6.ext O0.2
  refine Go.getS X1 hx hZ hown (Or.inr (tw_159 hw)) Via.refl e1 fk2 (pc' := 21) rfl (hb hby d27_18) ?_
  intro T3 e3 X3
  refine Go.acmp X3 hx (pc' := 24) (same := false) (hb hby d27_21) rfl rfl (decide_eq_false (fun q => (Ne.symm (O0.ne G7.lt g_x2)) (Value.ref.inj q))) (by decide) (by decide) ?_
  refine Go.aloadN X3 hx (pc' := 25) rfl (hb hby d27_24) rfl rfl ?_
  refine Go.getF X3 hx hZ hown (host := "") (Or.inl (tw_151 hw)) Via.refl e3 P2 (pc' := 28) rfl (hb hby d27_25) ?_
  intro T4 e4 X4
  subst hFF
  refine Go.retR X4 hx hlk (t := (.object "java/lang/Object")) hret rfl rfl (hb hby d27_28) (by decide) (by decide) ?_
  rw [e4]
  exact ⟨rfl, (Fr.nil n0), rfl⟩
theorem d6_59 : decode jdk_40_method_47_code 59 = .ok (.aload_n 0, 1) := by decide +kernel
theorem d10_0 : decode jdk_56_method_4_code 0 = .ok (.aload_n 0, 1) := by decide +kernel
theorem d10_1 : decode jdk_56_method_4_code 1 = .ok (.arraylength, 1) := by decide +kernel
theorem d10_2 : decode jdk_56_method_4_code 2 = .ok (.anewarray 2, 3) := by decide +kernel
theorem d10_5 : decode jdk_56_method_4_code 5 = .ok (.astore_n 1, 1) := by decide +kernel
theorem d10_6 : decode jdk_56_method_4_code 6 = .ok (.iconst 0, 1) := by decide +kernel
theorem d10_7 : decode jdk_56_method_4_code 7 = .ok (.istore_n 2, 1) := by decide +kernel
theorem d10_8 : decode jdk_56_method_4_code 8 = .ok (.iload_n 2, 1) := by decide +kernel
theorem d10_9 : decode jdk_56_method_4_code 9 = .ok (.aload_n 0, 1) := by decide +kernel
theorem d10_10 : decode jdk_56_method_4_code 10 = .ok (.arraylength, 1) := by decide +kernel
theorem d10_11 : decode jdk_56_method_4_code 11 = .ok (.if_icmp .ge 18, 3) := by decide +kernel
theorem d10_14 : decode jdk_56_method_4_code 14 = .ok (.aload_n 1, 1) := by decide +kernel
theorem d10_15 : decode jdk_56_method_4_code 15 = .ok (.iload_n 2, 1) := by decide +kernel
theorem d10_16 : decode jdk_56_method_4_code 16 = .ok (.aload_n 0, 1) := by decide +kernel
theorem d10_17 : decode jdk_56_method_4_code 17 = .ok (.iload_n 2, 1) := by decide +kernel
theorem d10_18 : decode jdk_56_method_4_code 18 = .ok (.aaload, 1) := by decide +kernel
theorem d10_19 : decode jdk_56_method_4_code 19 = .ok (.invokestatic 37, 3) := by decide +kernel
theorem d10_22 : decode jdk_56_method_4_code 22 = .ok (.aastore, 1) := by decide +kernel
theorem d10_23 : decode jdk_56_method_4_code 23 = .ok (.iinc 2 1, 3) := by decide +kernel
theorem d10_26 : decode jdk_56_method_4_code 26 = .ok (.goto (-18), 3) := by decide +kernel
theorem d10_29 : decode jdk_56_method_4_code 29 = .ok (.new 12, 3) := by decide +kernel
theorem d10_32 : decode jdk_56_method_4_code 32 = .ok (.dup, 1) := by decide +kernel
theorem d10_33 : decode jdk_56_method_4_code 33 = .ok (.aload_n 1, 1) := by decide +kernel
theorem d10_34 : decode jdk_56_method_4_code 34 = .ok (.iconst 0, 1) := by decide +kernel
theorem d12_0 : decode jdk_45_method_1_code 0 = .ok (.aload_n 0, 1) := by decide +kernel
-- java/util/AbstractCollection.init
set_option maxRecDepth 65536 in
set_option maxHeartbeats 4000000 in
theorem au_47 (l : Launch) (Z : State) (a0 : Array Value) (hw : ∀ d ∈ tables_1, d.before a0 Z = true) (x0 : Addr) (h0 : Heap) (n0 : Nat) (Z0 : n0 ≤ h0.size) :
    Ctr l Z (⟨"java/util/AbstractCollection", "<init>", "()V"⟩ : MethodName) jdk_22_method_1_code 1 none ({ frames := 1, cells := 0, slots := 0, locals := 12 } : Room) #[(.ref x0)] h0 (fun v h L => v = none ∧ Fr n0 L ∧ h = h0) := by
  refine Ctr.of (plainFor_of_name pn_c7) ?_
  intro p e s m below meth c T0 hx hZ hby hml hown hnm hret hlk e0 es X0
  refine Go.cast (ef_15_R m x0) ?_
  generalize hFF : EndN s _ _ _ = FF
  refine Go.aloadN X0 hx (pc' := 1) rfl (hb hby d15_0) rfl rfl ?_
  refine Go.initO X0 hx hZ hown (tw_96 hw) (tw_16 hw) (tw_17 hw) e0 (by decide) (W := 0) (by rw [hml]; rfl) (Nat.le_of_eq rfl) (by decide) (pc' := 4) rfl (hb hby d15_1) ?_
  intro T1 e1 X1
  subst hFF
  refine Go.ret0 X1 hx hlk hret (hb hby d15_4) (by decide) (by decide) ?_
  rw [e1]
  exact ⟨rfl, (Fr.nil n0), rfl⟩
-- java/util/ImmutableCollections$AbstractImmutableCollection.init
set_option maxRecDepth 65536 in
set_option maxHeartbeats 4000000 in
theorem au_46 (l : Launch) (Z : State) (a0 : Array Value) (hw : ∀ d ∈ tables_1, d.before a0 Z = true) (x0 : Addr) (h0 : Heap) (n0 : Nat) (Z0 : n0 ≤ h0.size) :
    Ctr l Z (⟨"java/util/ImmutableCollections$AbstractImmutableCollection", "<init>", "()V"⟩ : MethodName) jdk_47_method_1_code 1 none ({ frames := 2, cells := 0, slots := 0, locals := 24 } : Room) #[(.ref x0)] h0 (fun v h L => v = none ∧ Fr n0 L ∧ h = h0) := by
  refine Ctr.of (plainFor_of_name pn_c8) ?_
  intro p e s m below meth c T0 hx hZ hby hml hown hnm hret hlk e0 es X0
  refine Go.cast (ef_14_R m x0) ?_
  generalize hFF : EndN s _ _ _ = FF
  refine Go.aloadN X0 hx (pc' := 1) rfl (hb hby d14_0) rfl rfl ?_
  refine Go.callN X0 hx hZ hown rfl (tw_90 hw) (tw_91 hw) (tw_95 hw) (by decide) (tw_95 hw) (tw_94 hw) (au_47 l Z a0 hw x0 h0 n0 Z0) e0 (a := x0) (argsL := []) (rest := []) (pc' := 4) rfl (by rw [hml]; rfl) (lenOf pd_15 rfl) rfl rfl (W := 0) (Nat.le_of_eq rfl) (by decide) (by decide) (by decide) (by decide) (hb hby d14_1) ?_
  intro v1 T1 L1 q1 X1
  obtain ⟨rfl, N1, e1⟩ := q1
  show Go _ _ _ _ (T1.setTop (mkF m 4 #[.val (.ref x0)] []))
  subst hFF
  refine Go.ret0 X1 hx hlk hret (hb hby d14_4) (by decide) (by decide) ?_
  rw [e1]
  exact ⟨rfl, (Fr.app (Fr.nil n0) N1), rfl⟩
-- java/util/ImmutableCollections$AbstractImmutableList.init
set_option maxRecDepth 65536 in
set_option maxHeartbeats 4000000 in
theorem au_45 (l : Launch) (Z : State) (a0 : Array Value) (hw : ∀ d ∈ tables_1, d.before a0 Z = true) (x0 : Addr) (h0 : Heap) (n0 : Nat) (Z0 : n0 ≤ h0.size) :
    Ctr l Z (⟨"java/util/ImmutableCollections$AbstractImmutableList", "<init>", "()V"⟩ : MethodName) jdk_46_method_1_code 1 none ({ frames := 3, cells := 0, slots := 0, locals := 36 } : Room) #[(.ref x0)] h0 (fun v h L => v = none ∧ Fr n0 L ∧ h = h0) := by
  refine Ctr.of (plainFor_of_name pn_c9) ?_
  intro p e s m below meth c T0 hx hZ hby hml hown hnm hret hlk e0 es X0
  refine Go.cast (ef_13_R m x0) ?_
  generalize hFF : EndN s _ _ _ = FF
  refine Go.aloadN X0 hx (pc' := 1) rfl (hb hby d13_0) rfl rfl ?_
  refine Go.callN X0 hx hZ hown rfl (tw_84 hw) (tw_85 hw) (tw_89 hw) (by decide) (tw_89 hw) (tw_88 hw) (au_46 l Z a0 hw x0 h0 n0 Z0) e0 (a := x0) (argsL := []) (rest := []) (pc' := 4) rfl (by rw [hml]; rfl) (lenOf pd_15 rfl) rfl rfl (W := 0) (Nat.le_of_eq rfl) (by decide) (by decide) (by decide) (by decide) (hb hby d13_1) ?_
  intro v1 T1 L1 q1 X1
  obtain ⟨rfl, N1, e1⟩ := q1
  show Go _ _ _ _ (T1.setTop (mkF m 4 #[.val (.ref x0)] []))
  subst hFF
  refine Go.ret0 X1 hx hlk hret (hb hby d13_4) (by decide) (by decide) ?_
  rw [e1]
  exact ⟨rfl, (Fr.app (Fr.nil n0) N1), rfl⟩
theorem d12_1 : decode jdk_45_method_1_code 1 = .ok (.invokespecial 1, 3) := by decide +kernel
theorem d12_4 : decode jdk_45_method_1_code 4 = .ok (.aload_n 0, 1) := by decide +kernel
theorem d12_5 : decode jdk_45_method_1_code 5 = .ok (.aload_n 1, 1) := by decide +kernel
theorem d12_6 : decode jdk_45_method_1_code 6 = .ok (.putfield 7, 3) := by decide +kernel
theorem d12_9 : decode jdk_45_method_1_code 9 = .ok (.aload_n 0, 1) := by decide +kernel
theorem d12_10 : decode jdk_45_method_1_code 10 = .ok (.iload_n 2, 1) := by decide +kernel
theorem d12_11 : decode jdk_45_method_1_code 11 = .ok (.putfield 13, 3) := by decide +kernel
theorem d12_14 : decode jdk_45_method_1_code 14 = .ok (.return_, 1) := by decide +kernel
theorem ef_12_RRI (m : MethodId) (x0 : Addr) (x1 : Addr) (x2 : Int32) : entryFrame m #[(.ref x0), (.ref x1), (.int x2)] 3 = mkF m 0 #[.val (.ref x0), .val (.ref x1), .val (.int x2)] [] := by first | (simp [entryFrame, mkF, argsToLocals, Value.category]; done) | rfl
-- java/util/ImmutableCollections$ListN.init
set_option maxRecDepth 65536 in
set_option maxHeartbeats 4000000 in
theorem au_44 (l : Launch) (Z : State) (a0 : Array Value) (hw : ∀ d ∈ tables_1, d.before a0 Z = true) (x0 : Addr) (x1 : Addr) (h0 : Heap) (n0 : Nat) (Z0 : n0 ≤ h0.size) (P0 : Exa Z h0 x0 "java/util/ImmutableCollections$ListN") (P1 : Fld Z h0 x0 "java/util/ImmutableCollections$ListN" "allowNulls" "Z" (.int 0)) (P2 : Fld Z h0 x0 "java/util/ImmutableCollections$ListN" "elements" "[Ljava/lang/Object;" .null) (g_x0 : n0 ≤ x0) :
    Ctr l Z (⟨"java/util/ImmutableCollections$ListN", "<init>", "([Ljava/lang/Object;Z)V"⟩ : MethodName) jdk_45_method_1_code 3 none ({ frames := 4, cells := 0, slots := 0, locals := 48 } : Room) #[(.ref x0), (.ref x1), (.int 0)] h0 (fun v h L => v = none ∧ Fr n0 L ∧ Keep h0 h [x0] ∧ Exa Z h x0 "java/util/ImmutableCollections$ListN" ∧ Fld Z h x0 "java/util/ImmutableCollections$ListN" "allowNulls" "Z" (.int 0) ∧ Fld Z h x0 "java/util/ImmutableCollections$ListN" "elements" "[Ljava/lang/Object;" (.ref x1)) := by
  refine Ctr.of (plainFor_of_name pn_c6) ?_
  intro p e s m below meth c T0 hx hZ hby hml hown hnm hret hlk e0 es X0
  refine Go.cast (ef_12_RRI m x0 x1 (0 : Int32)) ?_
  generalize hFF : EndN s _ _ _ = FF
  refine Go.aloadN X0 hx (pc' := 1) rfl (hb hby d12_0) rfl rfl ?_
  refine Go.callN X0 hx hZ hown rfl (tw_78 hw) (tw_79 hw) (tw_83 hw) (by decide) (tw_83 hw) (tw_82 hw) (au_45 l Z a0 hw x0 h0 n0 Z0) e0 (a := x0) (argsL := []) (rest := []) (pc' := 4) rfl (by rw [hml]; rfl) (lenOf pd_15 rfl) rfl rfl (W := 0) (Nat.le_of_eq rfl) (by decide) (by decide) (by decide) (by decide) (hb hby d12_1) ?_
  intro v1 T1 L1 q1 X1
  obtain ⟨rfl, N1, e1⟩ := q1
  show Go _ _ _ _ (T1.setTop (mkF m 4 #[.val (.ref x0), .val (.ref x1), .val (.int 0)] []))
  refine Go.aloadN X1 hx (pc' := 5) rfl (hb hby d12_4) rfl rfl ?_
  refine Go.aloadN X1 hx (pc' := 6) rfl (hb hby d12_5) rfl rfl ?_
  refine Go.putF X1 hx hZ hown (host := "") (Or.inl (tw_60 hw)) Via.refl e1 P2 P0 (Or.inr ⟨(tw_61 hw), rfl, hnm⟩) (tw_73 hw) (ty := (.array (.object "java/lang/Object"))) (by decide) rfl rfl (pc' := 9) rfl (hb hby d12_6) ?_
  intro T2 h2 e2 W2 F2 X2
  have N2 := Fr.snoc X2 (Fr.app (Fr.nil n0) N1) g_x0
  refine Go.aloadN X2 hx (pc' := 10) rfl (hb hby d12_9) rfl rfl ?_
  refine Go.iloadN X2 hx (pc' := 11) rfl (hb hby d12_10) rfl ?_
  have fk3 : Fld Z h2 x0 "java/util/ImmutableCollections$ListN" "allowNulls" "Z" (.int 0) := (P1.other W2 (Or.inr (slot_ne (Or.inr (tw_98 hw)) (Or.inr (tw_61 hw)) (by decide) (t := .boolean) (t' := (.array (.object "java/lang/Object"))) (by decide) (by decide))))
  have fk4 : Exa Z h2 x0 "java/util/ImmutableCollections$ListN" := (P0.wr W2)
  refine Go.putFN X2 hx hZ hown (tw_97 hw) Via.refl e2 fk3 fk4 (Or.inr ⟨(tw_98 hw), rfl, hnm⟩) (tw_73 hw) (ty := .boolean) (v' := (.int 0)) (by decide) (by decide) (by decide) (pc' := 14) rfl (hb hby d12_11) ?_
  intro T5 h5 e5 W5 F5 X5
  have N5 := Fr.snoc X5 N2 g_x0
  subst hFF
  refine Go.ret0 X5 hx hlk hret (hb hby d12_14) (by decide) (by decide) ?_
  rw [e5]
  have fk6 : Exa Z h5 x0 "java/util/ImmutableCollections$ListN" := (fk4.wr W5)
  have fk7 : Fld Z h5 x0 "java/util/ImmutableCollections$ListN" "elements" "[Ljava/lang/Object;" (.ref x1) := (F2.other W5 (Or.inr (slot_ne (Or.inr (tw_61 hw)) (Or.inr (tw_98 hw)) (by decide) (t := (.array (.object "java/lang/Object"))) (t' := .boolean) (by decide) (by decide))))
  have Kp8 : Keep h0 h2 [x0] := ((Keep.refl h0 [x0]).wr W2 (Or.inl (List.mem_of_getElem? (i := 0) rfl)))
  have Kp9 : Keep h0 h5 [x0] := (Kp8.wr W5 (Or.inl (List.mem_of_getElem? (i := 0) rfl)))
  exact ⟨rfl, N5, Kp9, fk6, F5, fk7⟩
theorem pd_21 : parseMethodDescriptor "([Ljava/lang/Object;Z)V" = some ⟨[(.array (.object "java/lang/Object")), .boolean], none⟩ := by decide +kernel
theorem d10_35 : decode jdk_56_method_4_code 35 = .ok (.invokespecial 43, 3) := by decide +kernel
theorem d10_38 : decode jdk_56_method_4_code 38 = .ok (.areturn, 1) := by decide +kernel
theorem ef_10_R (m : MethodId) (x0 : Addr) : entryFrame m #[(.ref x0)] 3 = mkF m 0 #[.val (.ref x0), .unset, .unset] [] := by first | (simp [entryFrame, mkF, argsToLocals, Value.category]; done) | rfl
theorem pn_c12 : plainName "java/util/ImmutableCollections" = true := by first | (simp [plainName, overriddenIn]; done) | decide +kernel
-- java/util/ImmutableCollections.listFromArray
set_option maxRecDepth 65536 in
set_option maxHeartbeats 4000000 in
theorem au_43 (l : Launch) (Z : State) (a0 : Array Value) (hw : ∀ d ∈ tables_1, d.before a0 Z = true) (x0 : Addr) (kk0 : ClassId) (x1 : Addr) (x2 : Addr) (x3 : Addr) (h0 : Heap) (n0 : Nat) (Z0 : n0 ≤ h0.size) (P0 : Arv Z h0 x0 kk0 (.object "java/lang/String") (3 : Int32) [(.ref x1), (.ref x2), (.ref x3)] .null) (P2 : Exa Z h0 x1 "java/lang/String") (P3 : Exa Z h0 x2 "java/lang/String") (P4 : Exa Z h0 x3 "java/lang/String") :
    Ctr l Z (⟨"java/util/ImmutableCollections", "listFromArray", "([Ljava/lang/Object;)Ljava/util/List;"⟩ : MethodName) jdk_56_method_4_code 3 (some (.object "java/util/List")) ({ frames := 5, cells := 2, slots := 5, locals := 63 } : Room) #[(.ref x0)] h0 (fun v h L => ∃ (b24 : Addr) (b1 : Addr) (k1 : ClassId), v = some (.ref b24) ∧ Fr n0 L ∧ Keep h0 h [] ∧ h0.size ≤ b24 ∧ h0.size ≤ b1 ∧ b1 ≠ b24 ∧ Exa Z h b24 "java/util/ImmutableCollections$ListN" ∧ Fld Z h b24 "java/util/ImmutableCollections$ListN" "allowNulls" "Z" (.int 0) ∧ Fld Z h b24 "java/util/ImmutableCollections$ListN" "elements" "[Ljava/lang/Object;" (.ref b1) ∧ Arv Z h b1 k1 (.object "java/lang/Object") (3 : Int32) [(.ref x1), (.ref x2), (.ref x3)] .null ∧ Exa Z h b1 "[Ljava/lang/Object;") := by
  refine Ctr.of (plainFor_of_name pn_c12) ?_
  intro p e s m below meth c T0 hx hZ hby hml hown hnm hret hlk e0 es X0
  refine Go.cast (ef_10_R m x0) ?_
  generalize hFF : EndN s _ _ _ = FF
  refine Go.aloadN X0 hx (pc' := 1) rfl (hb hby d10_0) rfl rfl ?_
  refine Go.arraylength X0 hx hZ e0 P0 (pc' := 2) rfl (hb hby d10_1) ?_
  refine Go.anewarray X0 hx hZ hown (tw_65 hw) (tw_66 hw) e0 (by decide) (cap := 3) (by decide) (by decide) (by decide) (by decide) (ad := "[Ljava/lang/Object;") (by decide) 3 (pc' := 5) rfl (hb hby d10_2) ?_
  intro T1 h1 b1 k1 e1 E1 g1 V1 A1 O1 X1
  have V1' : Arv Z h1 b1 k1 (.object "java/lang/Object") (3 : Int32) [.null, .null, .null] .null := V1
  refine Go.astoreN X1 hx (pc' := 6) rfl (hb hby d10_5) (Ls' := #[.val (.ref x0), .val (.ref b1), .unset]) rfl rfl ?_
  refine Go.iconst X1 hx (pc' := 7) rfl (hb hby d10_6) (v := (0 : Int32)) rfl ?_
  refine Go.istoreN X1 hx (pc' := 8) rfl (hb hby d10_7) (Ls' := #[.val (.ref x0), .val (.ref b1), .val (.int 0)]) rfl ?_
  refine Go.iloadN X1 hx (pc' := 9) rfl (hb hby d10_8) rfl ?_
  refine Go.aloadN X1 hx (pc' := 10) rfl (hb hby d10_9) rfl rfl ?_
  have fk2 := (P0.ext E1)
  refine Go.arraylength X1 hx hZ e1 fk2 (pc' := 11) rfl (hb hby d10_10) ?_
  refine Go.icmpNo X1 hx (pc' := 14) rfl (hb hby d10_11) (by decide) ?_
  refine Go.aloadN X1 hx (pc' := 15) rfl (hb hby d10_14) rfl rfl ?_
  refine Go.iloadN X1 hx (pc' := 16) rfl (hb hby d10_15) rfl ?_
  refine Go.aloadN X1 hx (pc' := 17) rfl (hb hby d10_16) rfl rfl ?_
  refine Go.iloadN X1 hx (pc' := 18) rfl (hb hby d10_17) rfl ?_
  refine Go.aaload X1 hx hZ e1 rfl fk2 (v := (.ref x1)) ⟨by decide, by decide⟩ rfl (pc' := 19) rfl (hb hby d10_18) ?_
  have Kp4 : Keep h0 h1 [] := ((Keep.refl h0 []).ext E1)
  have Zn3 : n0 ≤ h1.size := Nat.le_trans Z0 Kp4.1
  refine Go.callS X1 hx hZ hown (tw_67 hw) (tw_68 hw) (tw_69 hw) (tw_70 hw) (by decide) (tw_70 hw) (tw_69 hw) (au_27 l Z a0 hw x1 h1 n0 Zn3) e1 (argsL := [(.ref x1)]) (rest := [(.int 0), (.ref b1)]) (pc' := 22) rfl (by rw [hml]; rfl) (lenOf pd_16 rfl) rfl rfl (W := 2) (Nat.le_of_eq rfl) (by decide) (by decide) (by decide) (by decide) (hb hby d10_19) ?_
  intro v5 T5 L5 q5 X5
  obtain ⟨rfl, N5, e5⟩ := q5
  show Go _ _ _ _ (T5.setTop (mkF m 22 #[.val (.ref x0), .val (.ref b1), .val (.int 0)] [(.ref x1), (.int 0), (.ref b1)]))
  have sz7 : h0.size ≤ b1 := Nat.le_trans (Keep.refl h0 []).1 (Nat.le_of_eq g1.symm)
  have ge6 : n0 ≤ b1 := Nat.le_trans Z0 sz7
  have fk8 : Exa Z h1 x1 "java/lang/String" := (P2.ext E1)
  refine Go.aastore X5 hx hZ e5 V1' rfl (Sto.ofArv V1' O1 (Ins.of_exa fk8 (tw_71 hw))) rfl ⟨by decide, by decide⟩ 0 rfl (Nat.le_of_ble_eq_true rfl) (pc' := 23) rfl (hb hby d10_22) ?_
  intro T9 h9 e9 W9 V9 X9
  have N9 := Fr.snoc X9 (Fr.app (Fr.nil n0) N5) ge6
  refine Go.iinc X9 hx (pc' := 26) rfl (hb hby d10_23) rfl (y := (1 : Int32)) (by decide) (Ls' := #[.val (.ref x0), .val (.ref b1), .val (.int 1)]) rfl ?_
  refine Go.goto X9 hx (pc' := 8) (hb hby d10_26) (by decide) (by decide) ?_
  refine Go.iloadN X9 hx (pc' := 9) rfl (hb hby d10_8) rfl ?_
  refine Go.aloadN X9 hx (pc' := 10) rfl (hb hby d10_9) rfl rfl ?_
  have ne10 : x0 ≠ b1 := Nat.ne_of_lt (Nat.lt_of_lt_of_le P0.lt (Nat.le_of_eq g1.symm))
  have fk11 := (fk2.other W9 ne10)
  refine Go.arraylength X9 hx hZ e9 fk11 (pc' := 11) rfl (hb hby d10_10) ?_
  refine Go.icmpNo X9 hx (pc' := 14) rfl (hb hby d10_11) (by decide) ?_
  refine Go.aloadN X9 hx (pc' := 15) rfl (hb hby d10_14) rfl rfl ?_
  refine Go.iloadN X9 hx (pc' := 16) rfl (hb hby d10_15) rfl ?_
  refine Go.aloadN X9 hx (pc' := 17) rfl (hb hby d10_16) rfl rfl ?_
  refine Go.iloadN X9 hx (pc' := 18) rfl (hb hby d10_17) rfl ?_
  refine Go.aaload X9 hx hZ e9 rfl fk11 (v := (.ref x2)) ⟨by decide, by decide⟩ rfl (pc' := 19) rfl (hb hby d10_18) ?_
  have Kp13 : Keep h0 h9 [] := (Kp4.wr W9 (Or.inr sz7))
  have Zn12 : n0 ≤ h9.size := Nat.le_trans Z0 Kp13.1
  refine Go.callS X9 hx hZ hown (tw_67 hw) (tw_68 hw) (tw_69 hw) (tw_70 hw) (by decide) (tw_70 hw) (tw_69 hw) (au_27 l Z a0 hw x2 h9 n0 Zn12) e9 (argsL := [(.ref x2)]) (rest := [(.int 1), (.ref b1)]) (pc' := 22) rfl (by rw [hml]; rfl) (lenOf pd_16 rfl) rfl rfl (W := 2) (Nat.le_of_eq rfl) (by decide) (by decide) (by decide) (by decide) (hb hby d10_19) ?_
  intro v14 T14 L14 q14 X14
  obtain ⟨rfl, N14, e14⟩ := q14
  show Go _ _ _ _ (T14.setTop (mkF m 22 #[.val (.ref x0), .val (.ref b1), .val (.int 1)] [(.ref x2), (.int 1), (.ref b1)]))
  have fk15 : Exa Z h9 x2 "java/lang/String" := ((P3.ext E1).wr W9)
  refine Go.aastore X14 hx hZ e14 V9 rfl (Sto.ofArv V9 O1 (Ins.of_exa fk15 (tw_71 hw))) rfl ⟨by decide, by decide⟩ 1 rfl (Nat.le_of_ble_eq_true rfl) (pc' := 23) rfl (hb hby d10_22) ?_
  intro T16 h16 e16 W16 V16 X16
  have N16 := Fr.snoc X16 (Fr.app N9 N14) ge6
  refine Go.iinc X16 hx (pc' := 26) rfl (hb hby d10_23) rfl (y := (2 : Int32)) (by decide) (Ls' := #[.val (.ref x0), .val (.ref b1), .val (.int 2)]) rfl ?_
  refine Go.goto X16 hx (pc' := 8) (hb hby d10_26) (by decide) (by decide) ?_
  refine Go.iloadN X16 hx (pc' := 9) rfl (hb hby d10_8) rfl ?_
  refine Go.aloadN X16 hx (pc' := 10) rfl (hb hby d10_9) rfl rfl ?_
  have fk17 := (fk11.other W16 ne10)
  refine Go.arraylength X16 hx hZ e16 fk17 (pc' := 11) rfl (hb hby d10_10) ?_
  refine Go.icmpNo X16 hx (pc' := 14) rfl (hb hby d10_11) (by decide) ?_
  refine Go.aloadN X16 hx (pc' := 15) rfl (hb hby d10_14) rfl rfl ?_
  refine Go.iloadN X16 hx (pc' := 16) rfl (hb hby d10_15) rfl ?_
  refine Go.aloadN X16 hx (pc' := 17) rfl (hb hby d10_16) rfl rfl ?_
  refine Go.iloadN X16 hx (pc' := 18) rfl (hb hby d10_17) rfl ?_
  refine Go.aaload X16 hx hZ e16 rfl fk17 (v := (.ref x3)) ⟨by decide, by decide⟩ rfl (pc' := 19) rfl (hb hby d10_18) ?_
  have Kp19 : Keep h0 h16 [] := (Kp13.wr W16 (Or.inr sz7))
  have Zn18 : n0 ≤ h16.size := Nat.le_trans Z0 Kp19.1
  refine Go.callS X16 hx hZ hown (tw_67 hw) (tw_68 hw) (tw_69 hw) (tw_70 hw) (by decide) (tw_70 hw) (tw_69 hw) (au_27 l Z a0 hw x3 h16 n0 Zn18) e16 (argsL := [(.ref x3)]) (rest := [(.int 2), (.ref b1)]) (pc' := 22) rfl (by rw [hml]; rfl) (lenOf pd_16 rfl) rfl rfl (W := 2) (Nat.le_of_eq rfl) (by decide) (by decide) (by decide) (by decide) (hb hby d10_19) ?_
  intro v20 T20 L20 q20 X20
  obtain ⟨rfl, N20, e20⟩ := q20
  show Go _ _ _ _ (T20.setTop (mkF m 22 #[.val (.ref x0), .val (.ref b1), .val (.int 2)] [(.ref x3), (.int 2), (.ref b1)]))
  have fk21 : Exa Z h16 x3 "java/lang/String" := (((P4.ext E1).wr W9).wr W16)
  refine Go.aastore X20 hx hZ e20 V16 rfl (Sto.ofArv V16 O1 (Ins.of_exa fk21 (tw_71 hw))) rfl ⟨by decide, by decide⟩ 2 rfl (Nat.le_of_ble_eq_true rfl) (pc' := 23) rfl (hb hby d10_22) ?_
  intro T22 h22 e22 W22 V22 X22
  have N22 := Fr.snoc X22 (Fr.app N16 N20) ge6
  refine Go.iinc X22 hx (pc' := 26) rfl (hb hby d10_23) rfl (y := (3 : Int32)) (by decide) (Ls' := #[.val (.ref x0), .val (.ref b1), .val (.int 3)]) rfl ?_
  refine Go.goto X22 hx (pc' := 8) (hb hby d10_26) (by decide) (by decide) ?_
  refine Go.iloadN X22 hx (pc' := 9) rfl (hb hby d10_8) rfl ?_
  refine Go.aloadN X22 hx (pc' := 10) rfl (hb hby d10_9) rfl rfl ?_
  have fk23 := (fk17.other W22 ne10)
  refine Go.arraylength X22 hx hZ e22 fk23 (pc' := 11) rfl (hb hby d10_10) ?_
  refine Go.icmpYes X22 hx (pc' := 29) (hb hby d10_11) (by decide) (by decide) (by decide) ?_
  refine Go.new X22 hx hZ hown (tw_72 hw) (tw_73 hw) (tw_58 hw) e22 (by decide) (by decide) (pc' := 32) rfl (hb hby d10_29) ?_
  intro T24 h24 b24 e24 E24 g24 A24 D24 X24
  have b24_elements : Fld Z h24 b24 "java/util/ImmutableCollections$ListN" "elements" "[Ljava/lang/Object;" .null := D24 (Or.inr (tw_61 hw)) (ty := (.array (.object "java/lang/Object"))) (by decide)
  have b24_allowNulls : Fld Z h24 b24 "java/util/ImmutableCollections$ListN" "allowNulls" "Z" (.int 0) := D24 (Or.inr (tw_98 hw)) (ty := .boolean) (by decide)
  refine Go.dup X24 hx (pc' := 33) rfl (hb hby d10_32) rfl ?_
  refine Go.aloadN X24 hx (pc' := 34) rfl (hb hby d10_33) rfl rfl ?_
  refine Go.iconst X24 hx (pc' := 35) rfl (hb hby d10_34) (v := (0 : Int32)) rfl ?_
  have Kp26 : Keep h0 h22 [] := (Kp19.wr W22 (Or.inr sz7))
  have Kp27 : Keep h0 h24 [] := (Kp26.ext E24)
  have Zn25 : n0 ≤ h24.size := Nat.le_trans Z0 Kp27.1
  have sz29 : h0.size ≤ b24 := Nat.le_trans Kp26.1 (Nat.le_of_eq g24.symm)
  have ge28 : n0 ≤ b24 := Nat.le_trans Z0 sz29
  refine Go.callNN X24 hx hZ hown rfl (tw_74 hw) (tw_75 hw) (tw_77 hw) (by decide) (tw_77 hw) (tw_58 hw) (au_44 l Z a0 hw b24 b1 h24 n0 Zn25 A24 b24_allowNulls b24_elements ge28) e24 (a := b24) (argsL := [(.ref b1), (.int 0)]) (rest := [(.ref b24)]) (pc' := 38) rfl (by rw [hml]; rfl) (lenOf pd_21 rfl) rfl rfl (W := 1) (Nat.le_of_eq rfl) (by decide) (by decide) (by decide) (by decide) (hb hby d10_35) ?_
  intro v30 T30 L30 q30 X30
  obtain ⟨h30, e30⟩ : ∃ z, T30.heap = z := ⟨_, rfl⟩
  rw [e30] at q30
  obtain ⟨rfl, N30, K30, F30_0, F30_1, F30_2⟩ := q30
  show Go _ _ _ _ (T30.setTop (mkF m 38 #[.val (.ref x0), .val (.ref b1), .val (.int 3)] [(.ref b24)]))
  subst hFF
  refine Go.retR X30 hx hlk (t := (.object "java/util/List")) hret rfl rfl (hb hby d10_38) (by decide) (by decide) ?_
  rw [e30]
  have V31 : Arv Z h22 b1 k1 (.object "java/lang/Object") (3 : Int32) [(.ref x1), (.ref x2), (.ref x3)] .null := V22
  have fk33 : Exa Z h22 b1 "[Ljava/lang/Object;" := (((A1.wr W9).wr W16).wr W22)
  have ne32 : b1 ≠ b24 := Nat.ne_of_lt (Nat.lt_of_lt_of_le fk33.lt (Nat.le_of_eq g24.symm))
  have fk34 := ((V31.ext E24).keep K30 (ninS ne32 nin0))
  have fk35 : Exa Z h30 b1 "[Ljava/lang/Object;" := ((fk33.ext E24).keep K30)
  have Kp36 : Keep h0 h30 [] := (Kp27.trans K30 (allS (Or.inr sz29) all0))
  exact ⟨b24, b1, k1, rfl, (Fr.app N22 N30), Kp36, sz29, sz7, ne32, F30_0, F30_1, F30_2, fk34, fk35⟩
theorem d6_60 : decode jdk_40_method_47_code 60 = .ok (.invokestatic 109, 3) := by decide +kernel
theorem d6_63 : decode jdk_40_method_47_code 63 = .ok (.areturn, 1) := by decide +kernel
-- java/util/List.of
set_option maxRecDepth 65536 in
set_option maxHeartbeats 4000000 in
theorem au_42 (l : Launch) (Z : State) (a0 : Array Value) (hw : ∀ d ∈ tables_1, d.before a0 Z = true) (x0 : Addr) (kk0 : ClassId) (x1 : Addr) (x2 : Addr) (x3 : Addr) (h0 : Heap) (n0 : Nat) (Z0 : n0 ≤ h0.size) (P0 : Arv Z h0 x0 kk0 (.object "java/lang/String") (3 : Int32) [(.ref x1), (.ref x2), (.ref x3)] .null) (P2 : Exa Z h0 x1 "java/lang/String") (P3 : Exa Z h0 x2 "java/lang/String") (P4 : Exa Z h0 x3 "java/lang/String") :
    Ctr l Z (⟨"java/util/List", "of", "([Ljava/lang/Object;)Ljava/util/List;"⟩ : MethodName) jdk_40_method_47_code 2 (some (.object "java/util/List")) ({ frames := 6, cells := 2, slots := 5, locals := 77 } : Room) #[(.ref x0)] h0 (fun v h L => ∃ (b1_0 : Addr) (b1_1 : Addr) (k1_0 : ClassId), v = some (.ref b1_0) ∧ Fr n0 L ∧ Keep h0 h [] ∧ h0.size ≤ b1_0 ∧ h0.size ≤ b1_1 ∧ b1_1 ≠ b1_0 ∧ Exa Z h b1_0 "java/util/ImmutableCollections$ListN" ∧ Fld Z h b1_0 "java/util/ImmutableCollections$ListN" "allowNulls" "Z" (.int 0) ∧ Fld Z h b1_0 "java/util/ImmutableCollections$ListN" "elements" "[Ljava/lang/Object;" (.ref b1_1) ∧ Arv Z h b1_1 k1_0 (.object "java/lang/Object") (3 : Int32) [(.ref x1), (.ref x2), (.ref x3)] .null ∧ Exa Z h b1_1 "[Ljava/lang/Object;") := by
  refine Ctr.of (plainFor_of_name pn_c4) ?_
  intro p e s m below meth c T0 hx hZ hby hml hown hnm hret hlk e0 es X0
  refine Go.cast (ef_6_R m x0) ?_
  generalize hFF : EndN s _ _ _ = FF
  refine Go.aloadN X0 hx (pc' := 1) rfl (hb hby d6_0) rfl rfl ?_
  refine Go.arraylength X0 hx hZ e0 P0 (pc' := 2) rfl (hb hby d6_1) ?_
  refine Go.tswOut X0 hx (pc' := 59) (hb hby d6_2) (by decide) (by decide) (by decide) ?_
  refine Go.aloadN X0 hx (pc' := 60) rfl (hb hby d6_59) rfl rfl ?_
  refine Go.callS X0 hx hZ hown (tw_62 hw) (tw_63 hw) (tw_38 hw) (tw_64 hw) (by decide) (tw_64 hw) (tw_38 hw) (au_43 l Z a0 hw x0 kk0 x1 x2 x3 h0 n0 Z0 P0 P2 P3 P4) e0 (argsL := [(.ref x0)]) (rest := []) (pc' := 63) rfl (by rw [hml]; rfl) (lenOf pd_10 rfl) rfl rfl (W := 0) (Nat.le_of_eq rfl) (by decide) (by decide) (by decide) (by decide) (hb hby d6_60) ?_
  intro v1 T1 L1 q1 X1
  obtain ⟨h1, e1⟩ : ∃ z, T1.heap = z := ⟨_, rfl⟩
  rw [e1] at q1
  obtain ⟨b1_0, b1_1, k1_0, rfl, N1, K1, s1_0, s1_1, n1_0, F1_0, F1_1, F1_2, F1_3, F1_4⟩ := q1
  show Go _ _ _ _ (T1.setTop (mkF m 63 #[.val (.ref x0), .unset] [(.ref b1_0)]))
  subst hFF
  refine Go.retR X1 hx hlk (t := (.object "java/util/List")) hret rfl rfl (hb hby d6_63) (by decide) (by decide) ?_
  rw [e1]
  have Kp2 : Keep h0 h1 [] := ((Keep.refl h0 []).trans K1 all0)
  have sz3 : h0.size ≤ b1_0 := Nat.le_trans (Keep.refl h0 []).1 s1_0
  have sz4 : h0.size ≤ b1_1 := Nat.le_trans (Keep.refl h0 []).1 s1_1
  exact ⟨b1_0, b1_1, k1_0, rfl, (Fr.app (Fr.nil n0) N1), Kp2, sz3, sz4, n1_0, F1_0, F1_1, F1_2, F1_3, F1_4⟩
-- com/example/dirbound/dirbound/CompositeName.init
set_option maxRecDepth 65536 in
set_option maxHeartbeats 4000000 in
theorem au_48 (l : Launch) (Z : State) (a0 : Array Value) (hw : ∀ d ∈ tables_1, d.before a0 Z = true) (x0 : Addr) (x1 : Addr) (h0 : Heap) (n0 : Nat) (Z0 : n0 ≤ h0.size) (P0 : Exa Z h0 x0 "com/example/dirbound/dirbound/CompositeName") (P1 : Fld Z h0 x0 "com/example/dirbound/dirbound/CompositeName" "components" "Ljava/util/List;" .null) (g_x0 : n0 ≤ x0) :
    Ctr l Z (⟨"com/example/dirbound/dirbound/CompositeName", "<init>", "(Ljava/util/List;)V"⟩ : MethodName) prog_5_method_1_code 2 none ({ frames := 1, cells := 0, slots := 0, locals := 12 } : Room) #[(.ref x0), (.ref x1)] h0 (fun v h L => v = none ∧ Fr n0 L ∧ Keep h0 h [x0] ∧ Exa Z h x0 "com/example/dirbound/dirbound/CompositeName" ∧ Fld Z h x0 "com/example/dirbound/dirbound/CompositeName" "components" "Ljava/util/List;" (.ref x1)) := by
  refine Ctr.of (plainFor_of_name pn_c5) ?_
  intro p e s m below meth c T0 hx hZ hby hml hown hnm hret hlk e0 es X0
  refine Go.cast (ef_7_RR m x0 x1) ?_
  generalize hFF : EndN s _ _ _ = FF
  refine Go.aloadN X0 hx (pc' := 1) rfl (hb hby d7_0) rfl rfl ?_
  refine Go.initO X0 hx hZ hown (tw_42 hw) (tw_16 hw) (tw_17 hw) e0 (by decide) (W := 0) (by rw [hml]; rfl) (Nat.le_of_eq rfl) (by decide) (pc' := 4) rfl (hb hby d7_1) ?_
  intro T1 e1 X1
  refine Go.aloadN X1 hx (pc' := 5) rfl (hb hby d7_4) rfl rfl ?_
  refine Go.aloadN X1 hx (pc' := 6) rfl (hb hby d7_5) rfl rfl ?_
  refine Go.putF X1 hx hZ hown (host := "") (Or.inl (tw_43 hw)) Via.refl e1 P1 P0 (Or.inr ⟨(tw_44 hw), rfl, hnm⟩) (tw_32 hw) (ty := (.object "java/util/List")) (by decide) rfl rfl (pc' := 9) rfl (hb hby d7_6) ?_
  intro T2 h2 e2 W2 F2 X2
  have N2 := Fr.snoc X2 (Fr.nil n0) g_x0
  subst hFF
  refine Go.ret0 X2 hx hlk hret (hb hby d7_9) (by decide) (by decide) ?_
  rw [e2]
  have fk3 : Exa Z h2 x0 "com/example/dirbound/dirbound/CompositeName" := (P0.wr W2)
  have Kp4 : Keep h0 h2 [x0] := ((Keep.refl h0 [x0]).wr W2 (Or.inl (List.mem_of_getElem? (i := 0) rfl)))
  exact ⟨rfl, N2, Kp4, fk3, F2⟩
-- com/example/dirbound/dirbound/CompositeName.of
set_option maxRecDepth 65536 in
set_option maxHeartbeats 4000000 in
theorem au_41 (l : Launch) (Z : State) (a0 : Array Value) (hw : ∀ d ∈ tables_1, d.before a0 Z = true) (x0 : Addr) (kk0 : ClassId) (x1 : Addr) (x2 : Addr) (x3 : Addr) (h0 : Heap) (n0 : Nat) (Z0 : n0 ≤ h0.size) (P0 : Arv Z h0 x0 kk0 (.object "java/lang/String") (3 : Int32) [(.ref x1), (.ref x2), (.ref x3)] .null) (P2 : Exa Z h0 x1 "java/lang/String") (P3 : Exa Z h0 x2 "java/lang/String") (P4 : Exa Z h0 x3 "java/lang/String") :
    Ctr l Z (⟨"com/example/dirbound/dirbound/CompositeName", "of", "([Ljava/lang/String;)Lcom/example/dirbound/dirbound/CompositeName;"⟩ : MethodName) prog_5_method_2_code 1 (some (.object "com/example/dirbound/dirbound/CompositeName")) ({ frames := 7, cells := 3, slots := 6, locals := 92 } : Room) #[(.ref x0)] h0 (fun v h L => ∃ (b1 : Addr) (b8_0 : Addr) (b8_1 : Addr) (k8_0 : ClassId), v = some (.ref b1) ∧ Fr n0 L ∧ Keep h0 h [] ∧ h0.size ≤ b1 ∧ h0.size ≤ b8_0 ∧ h0.size ≤ b8_1 ∧ b8_0 ≠ b1 ∧ b8_1 ≠ b1 ∧ b8_1 ≠ b8_0 ∧ Exa Z h b1 "com/example/dirbound/dirbound/CompositeName" ∧ Fld Z h b1 "com/example/dirbound/dirbound/CompositeName" "components" "Ljava/util/List;" (.ref b8_0) ∧ Exa Z h b8_0 "java/util/ImmutableCollections$ListN" ∧ Fld Z h b8_0 "java/util/ImmutableCollections$ListN" "allowNulls" "Z" (.int 0) ∧ Fld Z h b8_0 "java/util/ImmutableCollections$ListN" "elements" "[Ljava/lang/Object;" (.ref b8_1) ∧ Arv Z h b8_1 k8_0 (.object "java/lang/Object") (3 : Int32) [(.ref x1), (.ref x2), (.ref x3)] .null ∧ Exa Z h b8_1 "[Ljava/lang/Object;") := by
  refine Ctr.of (plainFor_of_name pn_c5) ?_
  intro p e s m below meth c T0 hx hZ hby hml hown hnm hret hlk e0 es X0
  refine Go.cast (ef_5_R m x0) ?_
  generalize hFF : EndN s _ _ _ = FF
  refine Go.new X0 hx hZ hown (tw_31 hw) (tw_32 hw) (tw_29 hw) e0 (by decide) (by decide) (pc' := 3) rfl (hb hby d5_0) ?_
  intro T1 h1 b1 e1 E1 g1 A1 D1 X1
  have b1_components : Fld Z h1 b1 "com/example/dirbound/dirbound/CompositeName" "components" "Ljava/util/List;" .null := D1 (Or.inr (tw_44 hw)) (ty := (.object "java/util/List")) (by decide)
  refine Go.dup X1 hx (pc' := 4) rfl (hb hby d5_3) rfl ?_
  refine Go.aloadN X1 hx (pc' := 5) rfl (hb hby d5_4) rfl rfl ?_
  have Kp3 : Keep h0 h1 [] := ((Keep.refl h0 []).ext E1)
  have Zn2 : n0 ≤ h1.size := Nat.le_trans Z0 Kp3.1
  have fk4 := (P0.ext E1)
  have fk5 : Exa Z h1 x1 "java/lang/String" := (P2.ext E1)
  have fk6 : Exa Z h1 x2 "java/lang/String" := (P3.ext E1)
  have fk7 : Exa Z h1 x3 "java/lang/String" := (P4.ext E1)
  refine Go.callS X1 hx hZ hown (tw_33 hw) (tw_34 hw) (tw_35 hw) (tw_36 hw) (by decide) (tw_36 hw) (tw_35 hw) (au_42 l Z a0 hw x0 kk0 x1 x2 x3 h1 n0 Zn2 fk4 fk5 fk6 fk7) e1 (argsL := [(.ref x0)]) (rest := [(.ref b1), (.ref b1)]) (pc' := 8) rfl (by rw [hml]; rfl) (lenOf pd_10 rfl) rfl rfl (W := 2) (Nat.le_of_eq rfl) (by decide) (by decide) (by decide) (by decide) (hb hby d5_5) ?_
  intro v8 T8 L8 q8 X8
  obtain ⟨h8, e8⟩ : ∃ z, T8.heap = z := ⟨_, rfl⟩
  rw [e8] at q8
  obtain ⟨b8_0, b8_1, k8_0, rfl, N8, K8, s8_0, s8_1, n8_0, F8_0, F8_1, F8_2, F8_3, F8_4⟩ := q8
  show Go _ _ _ _ (T8.setTop (mkF m 8 #[.val (.ref x0)] [(.ref b8_0), (.ref b1), (.ref b1)]))
  have Kp10 : Keep h0 h8 [] := (Kp3.trans K8 all0)
  have Zn9 : n0 ≤ h8.size := Nat.le_trans Z0 Kp10.1
  have fk11 : Exa Z h8 b1 "com/example/dirbound/dirbound/CompositeName" := (A1.keep K8)
  have fk12 : Fld Z h8 b1 "com/example/dirbound/dirbound/CompositeName" "components" "Ljava/util/List;" .null := (b1_components.keep K8 nin0)
  have sz14 : h0.size ≤ b1 := Nat.le_trans (Keep.refl h0 []).1 (Nat.le_of_eq g1.symm)
  have ge13 : n0 ≤ b1 := Nat.le_trans Z0 sz14
  refine Go.callN X8 hx hZ hown rfl (tw_39 hw) (tw_40 hw) (tw_41 hw) (by decide) (tw_41 hw) (tw_29 hw) (au_48 l Z a0 hw b1 b8_0 h8 n0 Zn9 fk11 fk12 ge13) e8 (a := b1) (argsL := [(.ref b8_0)]) (rest := [(.ref b1)]) (pc' := 11) rfl (by rw [hml]; rfl) (lenOf pd_11 rfl) rfl rfl (W := 1) (Nat.le_of_eq rfl) (by decide) (by decide) (by decide) (by decide) (hb hby d5_8) ?_
  intro v15 T15 L15 q15 X15
  obtain ⟨h15, e15⟩ : ∃ z, T15.heap = z := ⟨_, rfl⟩
  rw [e15] at q15
  obtain ⟨rfl, N15, K15, F15_0, F15_1⟩ := q15
  show Go _ _ _ _ (T15.setTop (mkF m 11 #[.val (.ref x0)] [(.ref b1)]))
  subst hFF
  refine Go.retR X15 hx hlk (t := (.object "com/example/dirbound/dirbound/CompositeName")) hret rfl rfl (hb hby d5_11) (by decide) (by decide) ?_
  rw [e15]
  have fk16 : Exa Z h15 b8_0 "java/util/ImmutableCollections$ListN" := (F8_0.keep K15)
  have ne17 : b1 ≠ b8_0 := Nat.ne_of_lt (Nat.lt_of_lt_of_le A1.lt s8_0)
  have fk18 : Fld Z h15 b8_0 "java/util/ImmutableCollections$ListN" "allowNulls" "Z" (.int 0) := (F8_1.keep K15 (ninS (Ne.symm ne17) nin0))
  have fk19 : Fld Z h15 b8_0 "java/util/ImmutableCollections$ListN" "elements" "[Ljava/lang/Object;" (.ref b8_1) := (F8_2.keep K15 (ninS (Ne.symm ne17) nin0))
  have ne20 : b1 ≠ b8_1 := Nat.ne_of_lt (Nat.lt_of_lt_of_le A1.lt s8_1)
  have fk21 := (F8_3.keep K15 (ninS (Ne.symm ne20) nin0))
  have fk22 : Exa Z h15 b8_1 "[Ljava/lang/Object;" := (F8_4.keep K15)
  have Kp23 : Keep h0 h15 [] := (Kp10.trans K15 (allS (Or.inr sz14) all0))
  have sz24 : h0.size ≤ b8_0 := Nat.le_trans Kp3.1 s8_0
  have sz25 : h0.size ≤ b8_1 := Nat.le_trans Kp3.1 s8_1
  exact ⟨b1, b8_0, b8_1, k8_0, rfl, (Fr.app (Fr.app (Fr.nil n0) N8) N15), Kp23, sz14, sz24, sz25, (Ne.symm ne17), (Ne.symm ne20), n8_0, F15_0, F15_1, fk16, fk18, fk19, fk21, fk22⟩
-- com/example/dirbound/dirbound/CompositeName.components
set_option maxRecDepth 65536 in
set_option maxHeartbeats 4000000 in
theorem au_49 (l : Launch) (Z : State) (a0 : Array Value) (hw : ∀ d ∈ tables_1, d.before a0 Z = true) (x0 : Addr) (x1 : Addr) (h0 : Heap) (n0 : Nat) (Z0 : n0 ≤ h0.size) (P1 : Fld Z h0 x0 "com/example/dirbound/dirbound/CompositeName" "components" "Ljava/util/List;" (.ref x1)) :
    Ctr l Z (⟨"com/example/dirbound/dirbound/CompositeName", "components", "()Ljava/util/List;"⟩ : MethodName) prog_5_method_6_code 1 (some (.object "java/util/List")) ({ frames := 0, cells := 0, slots := 0, locals := 0 } : Room) #[(.ref x0)] h0 (fun v h L => v = some (.ref x1) ∧ Fr n0 L ∧ h = h0) := by
  refine Ctr.of (plainFor_of_name pn_c5) ?_
  intro p e s m below meth c T0 hx hZ hby hml hown hnm hret hlk e0 es X0
  refine Go.cast (ef_8_R m x0) ?_
  generalize hFF : EndN s _ _ _ = FF
  refine Go.aloadN X0 hx (pc' := 1) rfl (hb hby d8_0) rfl rfl ?_
  refine Go.getF X0 hx hZ hown (host := "") (Or.inl (tw_43 hw)) Via.refl e0 P1 (pc' := 4) rfl (hb hby d8_1) ?_
  intro T1 e1 X1
  subst hFF
  refine Go.retR X1 hx hlk (t := (.object "java/util/List")) hret rfl rfl (hb hby d8_4) (by decide) (by decide) ?_
  rw [e1]
  exact ⟨rfl, (Fr.nil n0), rfl⟩
-- java/util/ImmutableCollections$ListN.size
set_option maxRecDepth 65536 in
set_option maxHeartbeats 4000000 in
theorem au_50 (l : Launch) (Z : State) (a0 : Array Value) (hw : ∀ d ∈ tables_1, d.before a0 Z = true) (x0 : Addr) (x1 : Addr) (kk0 : ClassId) (x2 : Addr) (x3 : Addr) (x4 : Addr) (h0 : Heap) (n0 : Nat) (Z0 : n0 ≤ h0.size) (P2 : Fld Z h0 x0 "java/util/ImmutableCollections$ListN" "elements" "[Ljava/lang/Object;" (.ref x1)) (P3 : Arv Z h0 x1 kk0 (.object "java/lang/Object") (3 : Int32) [(.ref x2), (.ref x3), (.ref x4)] .null) :
    Ctr l Z (⟨"java/util/ImmutableCollections$ListN", "size", "()I"⟩ : MethodName) jdk_45_method_3_code 1 (some .int) ({ frames := 0, cells := 0, slots := 0, locals := 0 } : Room) #[(.ref x0)] h0 (fun v h L => v = some (.int 3) ∧ Fr n0 L ∧ h = h0) := by
  refine Ctr.of (plainFor_of_name pn_c6) ?_
  intro p e s m below meth c T0 hx hZ hby hml hown hnm hret hlk e0 es X0
  refine Go.cast (ef_9_R m x0) ?_
  generalize hFF : EndN s _ _ _ = FF
  refine Go.aloadN X0 hx (pc' := 1) rfl (hb hby d9_0) rfl rfl ?_
  refine Go.getF X0 hx hZ hown (host := "") (Or.inl (tw_60 hw)) Via.refl e0 P2 (pc' := 4) rfl (hb hby d9_1) ?_
  intro T1 e1 X1
  refine Go.arraylength X1 hx hZ e1 P3 (pc' := 5) rfl (hb hby d9_4) ?_
  subst hFF
  refine Go.retI X1 hx hlk hret (hb hby d9_5) (by decide) (by decide) ?_
  rw [e1]
  exact ⟨rfl, (Fr.nil n0), rfl⟩
theorem d16_0 : decode jdk_45_method_4_code 0 = .ok (.aload_n 0, 1) := by decide +kernel
theorem d16_1 : decode jdk_45_method_4_code 1 = .ok (.getfield 7, 3) := by decide +kernel
theorem d16_4 : decode jdk_45_method_4_code 4 = .ok (.iload_n 1, 1) := by decide +kernel
theorem d16_5 : decode jdk_45_method_4_code 5 = .ok (.aaload, 1) := by decide +kernel
theorem d16_6 : decode jdk_45_method_4_code 6 = .ok (.areturn, 1) := by decide +kernel
theorem ef_16_RI (m : MethodId) (x0 : Addr) (x1 : Int32) : entryFrame m #[(.ref x0), (.int x1)] 2 = mkF m 0 #[.val (.ref x0), .val (.int x1)] [] := by first | (simp [entryFrame, mkF, argsToLocals, Value.category]; done) | rfl
-- java/util/ImmutableCollections$ListN.get
set_option maxRecDepth 65536 in
set_option maxHeartbeats 4000000 in
theorem au_51 (l : Launch) (Z : State) (a0 : Array Value) (hw : ∀ d ∈ tables_1, d.before a0 Z = true) (x0 : Addr) (x1 : Addr) (kk0 : ClassId) (x2 : Addr) (x3 : Addr) (x4 : Addr) (h0 : Heap) (n0 : Nat) (Z0 : n0 ≤ h0.size) (P2 : Fld Z h0 x0 "java/util/ImmutableCollections$ListN" "elements" "[Ljava/lang/Object;" (.ref x1)) (P3 : Arv Z h0 x1 kk0 (.object "java/lang/Object") (3 : Int32) [(.ref x2), (.ref x3), (.ref x4)] .null) :
    Ctr l Z (⟨"java/util/ImmutableCollections$ListN", "get", "(I)Ljava/lang/Object;"⟩ : MethodName) jdk_45_method_4_code 2 (some (.object "java/lang/Object")) ({ frames := 0, cells := 0, slots := 0, locals := 0 } : Room) #[(.ref x0), (.int 0)] h0 (fun v h L => v = some (.ref x2) ∧ Fr n0 L ∧ h = h0) := by
  refine Ctr.of (plainFor_of_name pn_c6) ?_
  intro p e s m below meth c T0 hx hZ hby hml hown hnm hret hlk e0 es X0
  refine Go.cast (ef_16_RI m x0 (0 : Int32)) ?_
  generalize hFF : EndN s _ _ _ = FF
  refine Go.aloadN X0 hx (pc' := 1) rfl (hb hby d16_0) rfl rfl ?_
  refine Go.getF X0 hx hZ hown (host := "") (Or.inl (tw_60 hw)) Via.refl e0 P2 (pc' := 4) rfl (hb hby d16_1) ?_
  intro T1 e1 X1
  refine Go.iloadN X1 hx (pc' := 5) rfl (hb hby d16_4) rfl ?_
  refine Go.aaload X1 hx hZ e1 rfl P3 (v := (.ref x2)) ⟨by decide, by decide⟩ rfl (pc' := 6) rfl (hb hby d16_5) ?_
  subst hFF
  refine Go.retR X1 hx hlk (t := (.object "java/lang/Object")) hret rfl rfl (hb hby d16_6) (by decide) (by decide) ?_
  rw [e1]
  exact ⟨rfl, (Fr.nil n0), rfl⟩
-- java/util/ImmutableCollections$ListN.get
set_option maxRecDepth 65536 in
set_option maxHeartbeats 4000000 in
theorem au_52 (l : Launch) (Z : State) (a0 : Array Value) (hw : ∀ d ∈ tables_1, d.before a0 Z = true) (x0 : Addr) (x1 : Addr) (kk0 : ClassId) (x2 : Addr) (x3 : Addr) (x4 : Addr) (h0 : Heap) (n0 : Nat) (Z0 : n0 ≤ h0.size) (P2 : Fld Z h0 x0 "java/util/ImmutableCollections$ListN" "elements" "[Ljava/lang/Object;" (.ref x1)) (P3 : Arv Z h0 x1 kk0 (.object "java/lang/Object") (3 : Int32) [(.ref x2), (.ref x3), (.ref x4)] .null) :
    Ctr l Z (⟨"java/util/ImmutableCollections$ListN", "get", "(I)Ljava/lang/Object;"⟩ : MethodName) jdk_45_method_4_code 2 (some (.object "java/lang/Object")) ({ frames := 0, cells := 0, slots := 0, locals := 0 } : Room) #[(.ref x0), (.int 1)] h0 (fun v h L => v = some (.ref x3) ∧ Fr n0 L ∧ h = h0) := by
  refine Ctr.of (plainFor_of_name pn_c6) ?_
  intro p e s m below meth c T0 hx hZ hby hml hown hnm hret hlk e0 es X0
  refine Go.cast (ef_16_RI m x0 (1 : Int32)) ?_
  generalize hFF : EndN s _ _ _ = FF
  refine Go.aloadN X0 hx (pc' := 1) rfl (hb hby d16_0) rfl rfl ?_
  refine Go.getF X0 hx hZ hown (host := "") (Or.inl (tw_60 hw)) Via.refl e0 P2 (pc' := 4) rfl (hb hby d16_1) ?_
  intro T1 e1 X1
  refine Go.iloadN X1 hx (pc' := 5) rfl (hb hby d16_4) rfl ?_
  refine Go.aaload X1 hx hZ e1 rfl P3 (v := (.ref x3)) ⟨by decide, by decide⟩ rfl (pc' := 6) rfl (hb hby d16_5) ?_
  subst hFF
  refine Go.retR X1 hx hlk (t := (.object "java/lang/Object")) hret rfl rfl (hb hby d16_6) (by decide) (by decide) ?_
  rw [e1]
  exact ⟨rfl, (Fr.nil n0), rfl⟩
-- java/util/ImmutableCollections$ListN.get
set_option maxRecDepth 65536 in
set_option maxHeartbeats 4000000 in
theorem au_53 (l : Launch) (Z : State) (a0 : Array Value) (hw : ∀ d ∈ tables_1, d.before a0 Z = true) (x0 : Addr) (x1 : Addr) (kk0 : ClassId) (x2 : Addr) (x3 : Addr) (x4 : Addr) (h0 : Heap) (n0 : Nat) (Z0 : n0 ≤ h0.size) (P2 : Fld Z h0 x0 "java/util/ImmutableCollections$ListN" "elements" "[Ljava/lang/Object;" (.ref x1)) (P3 : Arv Z h0 x1 kk0 (.object "java/lang/Object") (3 : Int32) [(.ref x2), (.ref x3), (.ref x4)] .null) :
    Ctr l Z (⟨"java/util/ImmutableCollections$ListN", "get", "(I)Ljava/lang/Object;"⟩ : MethodName) jdk_45_method_4_code 2 (some (.object "java/lang/Object")) ({ frames := 0, cells := 0, slots := 0, locals := 0 } : Room) #[(.ref x0), (.int 2)] h0 (fun v h L => v = some (.ref x4) ∧ Fr n0 L ∧ h = h0) := by
  refine Ctr.of (plainFor_of_name pn_c6) ?_
  intro p e s m below meth c T0 hx hZ hby hml hown hnm hret hlk e0 es X0
  refine Go.cast (ef_16_RI m x0 (2 : Int32)) ?_
  generalize hFF : EndN s _ _ _ = FF
  refine Go.aloadN X0 hx (pc' := 1) rfl (hb hby d16_0) rfl rfl ?_
  refine Go.getF X0 hx hZ hown (host := "") (Or.inl (tw_60 hw)) Via.refl e0 P2 (pc' := 4) rfl (hb hby d16_1) ?_
  intro T1 e1 X1
  refine Go.iloadN X1 hx (pc' := 5) rfl (hb hby d16_4) rfl ?_
  refine Go.aaload X1 hx hZ e1 rfl P3 (v := (.ref x4)) ⟨by decide, by decide⟩ rfl (pc' := 6) rfl (hb hby d16_5) ?_
  subst hFF
  refine Go.retR X1 hx hlk (t := (.object "java/lang/Object")) hret rfl rfl (hb hby d16_6) (by decide) (by decide) ?_
  rw [e1]
  exact ⟨rfl, (Fr.nil n0), rfl⟩
theorem ef_0_IIIII (m : MethodId) (x0 : Int32) (x1 : Int32) (x2 : Int32) (x3 : Int32) (x4 : Int32) : entryFrame m #[(.int x0), (.int x1), (.int x2), (.int x3), (.int x4)] maxLocals = mkF m 0 #[.val (.int x0), .val (.int x1), .val (.int x2), .val (.int x3), .val (.int x4), .unset, .unset, .unset, .unset, .unset, .unset, .unset, .unset] [] := by first | (simp [entryFrame, mkF, argsToLocals, Value.category, maxLocals]; done) | rfl
set_option maxRecDepth 65536 in
set_option maxHeartbeats 40000000 in
theorem rm0 (l : Launch) (Z : State) (a0 : Array Value) (hw : ∀ d ∈ tables_1, d.before a0 Z = true) (p0 : Int32) (p1 : Int32) (p2 : Int32) (p3 : Int32) (p4 : Int32) (ga1 : Addr) (ga5 : Addr) (gz13 : Int32) (ga17 : Addr) (gv23 : Value) (gk27 : ClassId) (h0 : Heap) (n0 : Nat) (Z0 : n0 ≤ h0.size) (O0 : Old Z n0 h0) (G : Glob Z ga1 ga5 gz13 ga17 gv23 gk27) :
    CtrW l Z EL0 x code maxLocals ret room_1 #[(.int p0), (.int p1), (.int p2), (.int p3), (.int p4)] h0 [] (fun v vm h L => v = some (.int (1 : Int32)) ∧ Fr n0 L) := by
  refine CtrW.of (plainFor_of_name pn_c3) ?_
  intro p e s m below meth c T0 hx hZ hby hml hown hnm hret hlk e0 es hS0 C0 hsf X0
  refine Go.cast (ef_0_IIIII m p0 p1 p2 p3 p4) ?_
  have G' := G
  obtain ⟨-, G1, -, -, -, -, -, -, -, -, -, -, -⟩ := G'
  refine Go.iloadN X0 hx (pc' := 1) rfl (hb hby at_0) rfl ?_
  refine Go.iconst X0 hx (pc' := 2) rfl (hb hby at_1) (v := (3 : Int32)) rfl ?_
  refine Go.iand X0 hx (pc' := 3) rfl (hb hby at_2) ?_
  generalize hz1 : (p0 &&& (3 : Int32)) = z1
  refine Go.istore X0 hx (pc' := 5) rfl (hb hby at_3) (Ls' := #[.val (.int p0), .val (.int p1), .val (.int p2), .val (.int p3), .val (.int p4), .val (.int z1), .unset, .unset, .unset, .unset, .unset, .unset, .unset]) rfl ?_
  refine Go.iloadN X0 hx (pc' := 6) rfl (hb hby at_5) rfl ?_
  refine Go.callSW X0 hx hZ hown (tw_0 hw) (tw_1 hw) (tw_2 hw) (tw_3 hw) (by decide) (tw_3 hw) (tw_2 hw) (au_6 l Z a0 hw p1 ga1 ga5 gz13 ga17 gv23 gk27 h0 n0 Z0 O0 G) (own_EW hw) C0.1 all0 hS0 (Nat.le_refl _) e0 (argsL := [(.int p1)]) (rest := []) (pc' := 9) rfl (by rw [hml]; rfl) (lenOf pd_9 rfl) rfl rfl (W := 0) (Nat.le_of_eq rfl) (by decide) (by decide) (by decide) (by decide) (hb hby at_6) ?_
  intro v2 T2 L2 h2 e2 q2 C2 S2 Z2 O2 X2
  obtain ⟨b2_0, rfl, N2, K2, s2_0, y2_0, F2_0⟩ := q2
  show Go _ _ _ _ (T2.setTop (mkF m 9 #[.val (.int p0), .val (.int p1), .val (.int p2), .val (.int p3), .val (.int p4), .val (.int z1), .unset, .unset, .unset, .unset, .unset, .unset, .unset] [(.ref b2_0)]))
  refine Go.astore X2 hx (pc' := 11) rfl (hb hby at_9) (Ls' := #[.val (.int p0), .val (.int p1), .val (.int p2), .val (.int p3), .val (.int p4), .val (.int z1), .val (.ref b2_0), .unset, .unset, .unset, .unset, .unset, .unset]) rfl rfl ?_
  refine Go.iloadN X2 hx (pc' := 12) rfl (hb hby at_11) rfl ?_
  have Kp4 : Keep h0 h2 [] := ((Keep.refl h0 []).trans K2 all0)
  have Zn3 : n0 ≤ h2.size := Nat.le_trans Z0 Kp4.1
  have O5 := (O0.keep K2 all0)
  have C6 : CHr Z EL0 s.vm s.heap T2.vm h2 := (C0.trans C2)
  refine Go.callSW X2 hx Z2 O2 (tw_0 hw) (tw_1 hw) (tw_2 hw) (tw_3 hw) (by decide) (tw_3 hw) (tw_2 hw) (au_6 l Z a0 hw p2 ga1 ga5 gz13 ga17 gv23 gk27 h2 n0 Zn3 O5 G) (own_EW hw) C6.1 all0 S2 (Nat.le_refl _) e2 (argsL := [(.int p2)]) (rest := []) (pc' := 15) rfl (by rw [hml]; rfl) (lenOf pd_9 rfl) rfl rfl (W := 0) (Nat.le_of_eq rfl) (by decide) (by decide) (by decide) (by decide) (hb hby at_12) ?_
  intro v7 T7 L7 h7 e7 q7 C7 S7 Z7 O7 X7
  obtain ⟨b7_0, rfl, N7, K7, s7_0, y7_0, F7_0⟩ := q7
  show Go _ _ _ _ (T7.setTop (mkF m 15 #[.val (.int p0), .val (.int p1), .val (.int p2), .val (.int p3), .val (.int p4), .val (.int z1), .val (.ref b2_0), .unset, .unset, .unset, .unset, .unset, .unset] [(.ref b7_0)]))
  refine Go.astore X7 hx (pc' := 17) rfl (hb hby at_15) (Ls' := #[.val (.int p0), .val (.int p1), .val (.int p2), .val (.int p3), .val (.int p4), .val (.int z1), .val (.ref b2_0), .val (.ref b7_0), .unset, .unset, .unset, .unset, .unset]) rfl rfl ?_
  refine Go.iloadN X7 hx (pc' := 18) rfl (hb hby at_17) rfl ?_
  have Kp9 : Keep h0 h7 [] := (Kp4.trans K7 all0)
  have Zn8 : n0 ≤ h7.size := Nat.le_trans Z0 Kp9.1
  have O10 := (O5.keep K7 all0)
  have C11 : CHr Z EL0 s.vm s.heap T7.vm h7 := (C6.trans C7)
  refine Go.callSW X7 hx Z7 O7 (tw_0 hw) (tw_1 hw) (tw_2 hw) (tw_3 hw) (by decide) (tw_3 hw) (tw_2 hw) (au_6 l Z a0 hw p3 ga1 ga5 gz13 ga17 gv23 gk27 h7 n0 Zn8 O10 G) (own_EW hw) C11.1 all0 S7 (Nat.le_refl _) e7 (argsL := [(.int p3)]) (rest := []) (pc' := 21) rfl (by rw [hml]; rfl) (lenOf pd_9 rfl) rfl rfl (W := 0) (Nat.le_of_eq rfl) (by decide) (by decide) (by decide) (by decide) (hb hby at_18) ?_
  intro v12 T12 L12 h12 e12 q12 C12 S12 Z12 O12 X12
  obtain ⟨b12_0, rfl, N12, K12, s12_0, y12_0, F12_0⟩ := q12
  show Go _ _ _ _ (T12.setTop (mkF m 21 #[.val (.int p0), .val (.int p1), .val (.int p2), .val (.int p3), .val (.int p4), .val (.int z1), .val (.ref b2_0), .val (.ref b7_0), .unset, .unset, .unset, .unset, .unset] [(.ref b12_0)]))
  refine Go.astore X12 hx (pc' := 23) rfl (hb hby at_21) (Ls' := #[.val (.int p0), .val (.int p1), .val (.int p2), .val (.int p3), .val (.int p4), .val (.int z1), .val (.ref b2_0), .val (.ref b7_0), .val (.ref b12_0), .unset, .unset, .unset, .unset]) rfl rfl ?_
  refine Go.iload X12 hx (pc' := 25) rfl (hb hby at_23) rfl ?_
  have Kp14 : Keep h0 h12 [] := (Kp9.trans K12 all0)
  have Zn13 : n0 ≤ h12.size := Nat.le_trans Z0 Kp14.1
  have O15 := (O10.keep K12 all0)
  have C16 : CHr Z EL0 s.vm s.heap T12.vm h12 := (C11.trans C12)
  refine Go.callSW X12 hx Z12 O12 (tw_0 hw) (tw_1 hw) (tw_2 hw) (tw_3 hw) (by decide) (tw_3 hw) (tw_2 hw) (au_6 l Z a0 hw p4 ga1 ga5 gz13 ga17 gv23 gk27 h12 n0 Zn13 O15 G) (own_EW hw) C16.1 all0 S12 (Nat.le_refl _) e12 (argsL := [(.int p4)]) (rest := []) (pc' := 28) rfl (by rw [hml]; rfl) (lenOf pd_9 rfl) rfl rfl (W := 0) (Nat.le_of_eq rfl) (by decide) (by decide) (by decide) (by decide) (hb hby at_25) ?_
  intro v17 T17 L17 h17 e17 q17 C17 S17 Z17 O17 X17
  obtain ⟨b17_0, rfl, N17, K17, s17_0, y17_0, F17_0⟩ := q17
  show Go _ _ _ _ (T17.setTop (mkF m 28 #[.val (.int p0), .val (.int p1), .val (.int p2), .val (.int p3), .val (.int p4), .val (.int z1), .val (.ref b2_0), .val (.ref b7_0), .val (.ref b12_0), .unset, .unset, .unset, .unset] [(.ref b17_0)]))
  refine Go.astore X17 hx (pc' := 30) rfl (hb hby at_28) (Ls' := #[.val (.int p0), .val (.int p1), .val (.int p2), .val (.int p3), .val (.int p4), .val (.int z1), .val (.ref b2_0), .val (.ref b7_0), .val (.ref b12_0), .val (.ref b17_0), .unset, .unset, .unset]) rfl rfl ?_
  have r18 : 0 ≤ z1.toInt ∧ z1.toInt ≤ 3 := own_rand hz1 (by decide)
  rcases own_cs_0_3 r18 with rfl | rfl | rfl | rfl
  · refine Go.iload X17 hx (pc' := 32) rfl (hb hby at_30) rfl ?_
    refine Go.anewarray X17 hx Z17 O17 (tw_4 hw) (tw_26 hw) e17 (by decide) (cap := 0) (by decide) (by decide) (by decide) (by decide) (ad := "[Ljava/lang/String;") (by decide) 0 (pc' := 35) rfl (hb hby at_32) ?_
    intro T19 h19 b19 k19 e19 E19 g19 V19 A19 O19 X19
    have V19' : Arv Z h19 b19 k19 (.object "java/lang/String") (0 : Int32) [] .null := V19
    refine Go.astore X19 hx (pc' := 37) rfl (hb hby at_35) (Ls' := #[.val (.int p0), .val (.int p1), .val (.int p2), .val (.int p3), .val (.int p4), .val (.int 0), .val (.ref b2_0), .val (.ref b7_0), .val (.ref b12_0), .val (.ref b17_0), .val (.ref b19), .unset, .unset]) rfl rfl ?_
    refine Go.iload X19 hx (pc' := 39) rfl (hb hby at_37) rfl ?_
    refine Go.ifYes X19 hx (pc' := 48) (hb hby at_39) (by decide) (by decide) (by decide) ?_
    refine Go.iload X19 hx (pc' := 50) rfl (hb hby at_48) rfl ?_
    refine Go.iconst X19 hx (pc' := 51) rfl (hb hby at_50) (v := (1 : Int32)) rfl ?_
    refine Go.icmpYes X19 hx (pc' := 60) (hb hby at_51) (by decide) (by decide) (by decide) ?_
    refine Go.iload X19 hx (pc' := 62) rfl (hb hby at_60) rfl ?_
    refine Go.iconst X19 hx (pc' := 63) rfl (hb hby at_62) (v := (2 : Int32)) rfl ?_
    refine Go.icmpYes X19 hx (pc' := 72) (hb hby at_63) (by decide) (by decide) (by decide) ?_
    refine Go.aload X19 hx (pc' := 74) rfl (hb hby at_72) rfl rfl ?_
    have Kp21 : Keep h0 h17 [] := (Kp14.trans K17 all0)
    have Kp22 : Keep h0 h19 [] := (Kp21.ext E19)
    have Zn20 : n0 ≤ h19.size := Nat.le_trans Z0 Kp22.1
    have O23 := (O15.keep K17 all0)
    have O24 := (O23.ext E19)
    refine Go.callS X19 hx Z17 O17 (tw_27 hw) (tw_28 hw) (tw_29 hw) (tw_30 hw) (by decide) (tw_30 hw) (tw_29 hw) (au_16 l Z a0 hw b19 k19 ga1 ga5 gz13 ga17 gv23 gk27 h19 n0 Zn20 O24 G V19') e19 (argsL := [(.ref b19)]) (rest := []) (pc' := 77) rfl (by rw [hml]; rfl) (lenOf pd_12 rfl) rfl rfl (W := 0) (Nat.le_of_eq rfl) (by decide) (by decide) (by decide) (by decide) (hb hby at_74) ?_
    intro v25 T25 L25 q25 X25
    obtain ⟨h25, e25⟩ : ∃ z, T25.heap = z := ⟨_, rfl⟩
    rw [e25] at q25
    obtain ⟨b25_0, rfl, N25, K25, s25_0, F25_0, F25_1⟩ := q25
    show Go _ _ _ _ (T25.setTop (mkF m 77 #[.val (.int p0), .val (.int p1), .val (.int p2), .val (.int p3), .val (.int p4), .val (.int 0), .val (.ref b2_0), .val (.ref b7_0), .val (.ref b12_0), .val (.ref b17_0), .val (.ref b19), .unset, .unset] [(.ref b25_0)]))
    refine Go.astore X25 hx (pc' := 79) rfl (hb hby at_77) (Ls' := #[.val (.int p0), .val (.int p1), .val (.int p2), .val (.int p3), .val (.int p4), .val (.int 0), .val (.ref b2_0), .val (.ref b7_0), .val (.ref b12_0), .val (.ref b17_0), .val (.ref b19), .val (.ref b25_0), .unset]) rfl rfl ?_
    refine Go.iload X25 hx (pc' := 81) rfl (hb hby at_79) rfl ?_
    refine Go.ifYes X25 hx (pc' := 90) (hb hby at_81) (by decide) (by decide) (by decide) ?_
    refine Go.aload X25 hx (pc' := 92) rfl (hb hby at_90) rfl rfl ?_
    have Kp27 : Keep h0 h25 [] := (Kp22.trans K25 all0)
    have Zn26 : n0 ≤ h25.size := Nat.le_trans Z0 Kp27.1
    refine Go.callV X25 hx Z17 O17 (tw_45 hw) (tw_46 hw) (notFace_of_selects (args := #[]) (mvT Z17 (tw_48 hw))) (tw_48 hw) (tw_47 hw) (by decide) (tw_49 hw) (tw_29 hw) (au_19 l Z a0 hw b25_0 ga1 ga5 gz13 ga17 gv23 gk27 h25 n0 Zn26 F25_1) e25 F25_0 (argsL := []) (rest := []) (pc' := 95) rfl (by rw [hml]; rfl) (lenOf pd_13 rfl) rfl rfl (W := 0) (Nat.le_of_eq rfl) (by decide) (by decide) (by decide) (by decide) (hb hby at_92) ?_
    intro v28 T28 L28 q28 X28
    obtain ⟨rfl, N28, e28⟩ := q28
    show Go _ _ _ _ (T28.setTop (mkF m 95 #[.val (.int p0), .val (.int p1), .val (.int p2), .val (.int p3), .val (.int p4), .val (.int 0), .val (.ref b2_0), .val (.ref b7_0), .val (.ref b12_0), .val (.ref b17_0), .val (.ref b19), .val (.ref b25_0), .unset] [(.ref ga1)]))
    refine Go.astore X28 hx (pc' := 97) rfl (hb hby at_95) (Ls' := #[.val (.int p0), .val (.int p1), .val (.int p2), .val (.int p3), .val (.int p4), .val (.int 0), .val (.ref b2_0), .val (.ref b7_0), .val (.ref b12_0), .val (.ref b17_0), .val (.ref b19), .val (.ref b25_0), .val (.ref ga1)]) rfl rfl ?_
    refine Go.aload X28 hx (pc' := 99) rfl (hb hby at_97) rfl rfl ?_
    have O29 := (O24.keep K25 all0)
    have fk30 : Exa Z h25 ga1 "java/util/ImmutableCollections$ListN" := G1.ext O29.2
    refine Go.callI X28 hx Z17 O17 (tw_50 hw) (tw_51 hw) (tw_52 hw) (tw_53 hw) (tw_54 hw) (tw_55 hw) (tw_56 hw) (tw_57 hw) (by decide) (tw_59 hw) (tw_58 hw) (au_20 l Z a0 hw ga1 ga5 gz13 ga17 gv23 gk27 h25 n0 Zn26 O29 G) e28 fk30 (argsL := []) (rest := []) (pc' := 104) rfl (by rw [hml]; rfl) (lenOf pd_14 rfl) rfl rfl (W := 0) (Nat.le_of_eq rfl) (by decide) (by decide) (by decide) (by decide) (hb hby at_99) ?_
    intro v31 T31 L31 q31 X31
    obtain ⟨rfl, N31, e31⟩ := q31
    show Go _ _ _ _ (T31.setTop (mkF m 104 #[.val (.int p0), .val (.int p1), .val (.int p2), .val (.int p3), .val (.int p4), .val (.int 0), .val (.ref b2_0), .val (.ref b7_0), .val (.ref b12_0), .val (.ref b17_0), .val (.ref b19), .val (.ref b25_0), .val (.ref ga1)] [(.int 0)]))
    refine Go.iload X31 hx (pc' := 106) rfl (hb hby at_104) rfl ?_
    refine Go.icmpYes X31 hx (pc' := 111) (hb hby at_106) (by decide) (by decide) (by decide) ?_
    refine Go.iload X31 hx (pc' := 113) rfl (hb hby at_111) rfl ?_
    refine Go.ifYes X31 hx (pc' := 137) (hb hby at_113) (by decide) (by decide) (by decide) ?_
    refine Go.iload X31 hx (pc' := 139) rfl (hb hby at_137) rfl ?_
    refine Go.iconst X31 hx (pc' := 140) rfl (hb hby at_139) (v := (1 : Int32)) rfl ?_
    refine Go.icmpYes X31 hx (pc' := 164) (hb hby at_140) (by decide) (by decide) (by decide) ?_
    refine Go.iload X31 hx (pc' := 166) rfl (hb hby at_164) rfl ?_
    refine Go.iconst X31 hx (pc' := 167) rfl (hb hby at_166) (v := (2 : Int32)) rfl ?_
    refine Go.icmpYes X31 hx (pc' := 191) (hb hby at_167) (by decide) (by decide) (by decide) ?_
    refine Go.iconst X31 hx (pc' := 192) rfl (hb hby at_191) (v := (1 : Int32)) rfl ?_
    have C32 : CHr Z EL0 s.vm s.heap T17.vm h17 := (C16.trans C17)
    have C33 : CHr Z EL0 s.vm s.heap T17.vm h19 := (C32.trans (CHr.ext E19 C32.1))
    have C34 : CHr Z EL0 s.vm s.heap T17.vm h25 := (C33.trans (CHr.keep K25 sf0 C33.1))
    have hk35 := (Nat.le_trans (Nat.le_trans (Nat.le_refl _) E19.1) K25.1)
    refine Go.retNW X31 hx hlk Z17 (own_EW hw) e31 S17 hk35 C34 (t := .boolean) hret (by simp) (hb hby at_192) (by decide) (by decide) (fun hat => ?_)
    exact ⟨rfl, (Fr.app (Fr.app (Fr.app (Fr.app (Fr.app (Fr.app (Fr.app (Fr.nil n0) N2) N7) N12) N17) N25) N28) N31)⟩
  · refine Go.iload X17 hx (pc' := 32) rfl (hb hby at_30) rfl ?_
    refine Go.anewarray X17 hx Z17 O17 (tw_4 hw) (tw_26 hw) e17 (by decide) (cap := 1) (by decide) (by decide) (by decide) (by decide) (ad := "[Ljava/lang/String;") (by decide) 1 (pc' := 35) rfl (hb hby at_32) ?_
    intro T36 h36 b36 k36 e36 E36 g36 V36 A36 O36 X36
    have V36' : Arv Z h36 b36 k36 (.object "java/lang/String") (1 : Int32) [.null] .null := V36
    refine Go.astore X36 hx (pc' := 37) rfl (hb hby at_35) (Ls' := #[.val (.int p0), .val (.int p1), .val (.int p2), .val (.int p3), .val (.int p4), .val (.int 1), .val (.ref b2_0), .val (.ref b7_0), .val (.ref b12_0), .val (.ref b17_0), .val (.ref b36), .unset, .unset]) rfl rfl ?_
    refine Go.iload X36 hx (pc' := 39) rfl (hb hby at_37) rfl ?_
    refine Go.ifNo X36 hx (pc' := 42) rfl (hb hby at_39) (by decide) ?_
    refine Go.aload X36 hx (pc' := 44) rfl (hb hby at_42) rfl rfl ?_
    refine Go.iconst X36 hx (pc' := 45) rfl (hb hby at_44) (v := (0 : Int32)) rfl ?_
    refine Go.aload X36 hx (pc' := 47) rfl (hb hby at_45) rfl rfl ?_
    have Kp39 : Keep h0 h17 [] := (Kp14.trans K17 all0)
    have sz38 : h0.size ≤ b36 := Nat.le_trans Kp39.1 (Nat.le_of_eq g36.symm)
    have ge37 : n0 ≤ b36 := Nat.le_trans Z0 sz38
    have fk40 : Exa Z h36 b2_0 "java/lang/String" := ((((F2_0.keep K7).keep K12).keep K17).ext E36)
    refine Go.aastore X36 hx Z17 e36 V36' rfl (Sto.ofArv V36' O36 (Ins.self fk40)) rfl ⟨by decide, by decide⟩ 0 rfl (Nat.le_of_ble_eq_true rfl) (pc' := 48) rfl (hb hby at_47) ?_
    intro T41 h41 e41 W41 V41 X41
    have N41 := Fr.snoc X41 (Fr.app (Fr.app (Fr.app (Fr.app (Fr.nil n0) N2) N7) N12) N17) ge37
    refine Go.iload X41 hx (pc' := 50) rfl (hb hby at_48) rfl ?_
    refine Go.iconst X41 hx (pc' := 51) rfl (hb hby at_50) (v := (1 : Int32)) rfl ?_
    refine Go.icmpYes X41 hx (pc' := 60) (hb hby at_51) (by decide) (by decide) (by decide) ?_
    refine Go.iload X41 hx (pc' := 62) rfl (hb hby at_60) rfl ?_
    refine Go.iconst X41 hx (pc' := 63) rfl (hb hby at_62) (v := (2 : Int32)) rfl ?_
    refine Go.icmpYes X41 hx (pc' := 72) (hb hby at_63) (by decide) (by decide) (by decide) ?_
    refine Go.aload X41 hx (pc' := 74) rfl (hb hby at_72) rfl rfl ?_
    have Kp43 : Keep h0 h36 [] := (Kp39.ext E36)
    have Kp44 : Keep h0 h41 [] := (Kp43.wr W41 (Or.inr sz38))
    have Zn42 : n0 ≤ h41.size := Nat.le_trans Z0 Kp44.1
    have O45 := (O15.keep K17 all0)
    have O46 := (O45.ext E36)
    have O47 := (O46.wr W41 ge37)
    have V48 : Arv Z h41 b36 k36 (.object "java/lang/String") (1 : Int32) [(.ref b2_0)] .null := V41
    refine Go.callS X41 hx Z17 O17 (tw_27 hw) (tw_28 hw) (tw_29 hw) (tw_30 hw) (by decide) (tw_30 hw) (tw_29 hw) (au_21 l Z a0 hw b36 k36 b2_0 ga1 ga5 gz13 ga17 gv23 gk27 h41 n0 Zn42 O47 G V48) e41 (argsL := [(.ref b36)]) (rest := []) (pc' := 77) rfl (by rw [hml]; rfl) (lenOf pd_12 rfl) rfl rfl (W := 0) (Nat.le_of_eq rfl) (by decide) (by decide) (by decide) (by decide) (hb hby at_74) ?_
    intro v49 T49 L49 q49 X49
    obtain ⟨h49, e49⟩ : ∃ z, T49.heap = z := ⟨_, rfl⟩
    rw [e49] at q49
    obtain ⟨b49_0, b49_1, rfl, N49, K49, s49_0, s49_1, n49_0, F49_0, F49_1, F49_2, F49_3, F49_4⟩ := q49
    show Go _ _ _ _ (T49.setTop (mkF m 77 #[.val (.int p0), .val (.int p1), .val (.int p2), .val (.int p3), .val (.int p4), .val (.int 1), .val (.ref b2_0), .val (.ref b7_0), .val (.ref b12_0), .val (.ref b17_0), .val (.ref b36), .unset, .unset] [(.ref b49_0)]))
    refine Go.astore X49 hx (pc' := 79) rfl (hb hby at_77) (Ls' := #[.val (.int p0), .val (.int p1), .val (.int p2), .val (.int p3), .val (.int p4), .val (.int 1), .val (.ref b2_0), .val (.ref b7_0), .val (.ref b12_0), .val (.ref b17_0), .val (.ref b36), .val (.ref b49_0), .unset]) rfl rfl ?_
    refine Go.iload X49 hx (pc' := 81) rfl (hb hby at_79) rfl ?_
    refine Go.ifNo X49 hx (pc' := 84) rfl (hb hby at_81) (by decide) ?_
    refine Go.aload X49 hx (pc' := 86) rfl (hb hby at_84) rfl rfl ?_
    refine Go.iconst X49 hx (pc' := 87) rfl (hb hby at_86) (v := (0 : Int32)) rfl ?_
    refine Go.aload X49 hx (pc' := 89) rfl (hb hby at_87) rfl rfl ?_
    have fk50 := (V48.keep K49 nin0)
    have fk51 : Exa Z h49 b17_0 "java/lang/String" := (((F17_0.ext E36).wr W41).keep K49)
    refine Go.aastore X49 hx Z17 e49 fk50 rfl (Sto.ofArv fk50 O36 (Ins.self fk51)) rfl ⟨by decide, by decide⟩ 0 rfl (Nat.le_of_ble_eq_true rfl) (pc' := 90) rfl (hb hby at_89) ?_
    intro T52 h52 e52 W52 V52 X52
    have N52 := Fr.snoc X52 (Fr.app N41 N49) ge37
    refine Go.aload X52 hx (pc' := 92) rfl (hb hby at_90) rfl rfl ?_
    have Kp54 : Keep h0 h49 [] := (Kp44.trans K49 all0)
    have Kp55 : Keep h0 h52 [] := (Kp54.wr W52 (Or.inr sz38))
    have Zn53 : n0 ≤ h52.size := Nat.le_trans Z0 Kp55.1
    have fk57 : Exa Z h41 b36 "[Ljava/lang/String;" := (A36.wr W41)
    have ne56 : b36 ≠ b49_0 := Nat.ne_of_lt (Nat.lt_of_lt_of_le fk57.lt s49_0)
    have fk58 : Fld Z h52 b49_0 "com/example/dirbound/dirbound/CompositeName" "components" "Ljava/util/List;" (.ref b49_1) := (F49_1.other W52 (Or.inl (Ne.symm ne56)))
    have fk59 : Exa Z h52 b49_0 "com/example/dirbound/dirbound/CompositeName" := (F49_0.wr W52)
    refine Go.callV X52 hx Z17 O17 (tw_45 hw) (tw_46 hw) (notFace_of_selects (args := #[]) (mvT Z17 (tw_48 hw))) (tw_48 hw) (tw_47 hw) (by decide) (tw_49 hw) (tw_29 hw) (au_29 l Z a0 hw b49_0 b49_1 h52 n0 Zn53 fk58) e52 fk59 (argsL := []) (rest := []) (pc' := 95) rfl (by rw [hml]; rfl) (lenOf pd_13 rfl) rfl rfl (W := 0) (Nat.le_of_eq rfl) (by decide) (by decide) (by decide) (by decide) (hb hby at_92) ?_
    intro v60 T60 L60 q60 X60
    obtain ⟨rfl, N60, e60⟩ := q60
    show Go _ _ _ _ (T60.setTop (mkF m 95 #[.val (.int p0), .val (.int p1), .val (.int p2), .val (.int p3), .val (.int p4), .val (.int 1), .val (.ref b2_0), .val (.ref b7_0), .val (.ref b12_0), .val (.ref b17_0), .val (.ref b36), .val (.ref b49_0), .unset] [(.ref b49_1)]))
    refine Go.astore X60 hx (pc' := 97) rfl (hb hby at_95) (Ls' := #[.val (.int p0), .val (.int p1), .val (.int p2), .val (.int p3), .val (.int p4), .val (.int 1), .val (.ref b2_0), .val (.ref b7_0), .val (.ref b12_0), .val (.ref b17_0), .val (.ref b36), .val (.ref b49_0), .val (.ref b49_1)]) rfl rfl ?_
    refine Go.aload X60 hx (pc' := 99) rfl (hb hby at_97) rfl rfl ?_
    have O61 := (O47.keep K49 all0)
    have O62 := (O61.wr W52 ge37)
    have ne63 : b36 ≠ b49_1 := Nat.ne_of_lt (Nat.lt_of_lt_of_le fk57.lt s49_1)
    have fk64 : Fld Z h52 b49_1 "java/util/ImmutableCollections$List12" "e1" "Ljava/lang/Object;" (.ref ga17) := (F49_4.other W52 (Or.inl (Ne.symm ne63)))
    have fk65 : Exa Z h52 b49_1 "java/util/ImmutableCollections$List12" := (F49_2.wr W52)
    refine Go.callI X60 hx Z17 O17 (tw_50 hw) (tw_51 hw) (tw_52 hw) (tw_153 hw) (tw_154 hw) (tw_155 hw) (tw_156 hw) (tw_157 hw) (by decide) (tw_158 hw) (tw_139 hw) (au_30 l Z a0 hw b49_1 ga1 ga5 gz13 ga17 gv23 gk27 h52 n0 Zn53 O62 G fk64) e60 fk65 (argsL := []) (rest := []) (pc' := 104) rfl (by rw [hml]; rfl) (lenOf pd_14 rfl) rfl rfl (W := 0) (Nat.le_of_eq rfl) (by decide) (by decide) (by decide) (by decide) (hb hby at_99) ?_
    intro v66 T66 L66 q66 X66
    obtain ⟨rfl, N66, e66⟩ := q66
    show Go _ _ _ _ (T66.setTop (mkF m 104 #[.val (.int p0), .val (.int p1), .val (.int p2), .val (.int p3), .val (.int p4), .val (.int 1), .val (.ref b2_0), .val (.ref b7_0), .val (.ref b12_0), .val (.ref b17_0), .val (.ref b36), .val (.ref b49_0), .val (.ref b49_1)] [(.int 1)]))
    refine Go.iload X66 hx (pc' := 106) rfl (hb hby at_104) rfl ?_
    refine Go.icmpYes X66 hx (pc' := 111) (hb hby at_106) (by decide) (by decide) (by decide) ?_
    refine Go.iload X66 hx (pc' := 113) rfl (hb hby at_111) rfl ?_
    refine Go.ifNo X66 hx (pc' := 116) rfl (hb hby at_113) (by decide) ?_
    refine Go.aload X66 hx (pc' := 118) rfl (hb hby at_116) rfl rfl ?_
    refine Go.iconst X66 hx (pc' := 119) rfl (hb hby at_118) (v := (0 : Int32)) rfl ?_
    have fk67 : Fld Z h52 b49_1 "java/util/ImmutableCollections$List12" "e0" "Ljava/lang/Object;" (.ref b2_0) := (F49_3.other W52 (Or.inl (Ne.symm ne63)))
    refine Go.callI X66 hx Z17 O17 (tw_99 hw) (tw_100 hw) (tw_101 hw) (tw_160 hw) (tw_161 hw) (tw_162 hw) (tw_163 hw) (tw_157 hw) (by decide) (tw_164 hw) (tw_139 hw) (au_31 l Z a0 hw b49_1 b2_0 h52 n0 Zn53 fk67) e66 fk65 (argsL := [(.int 0)]) (rest := []) (pc' := 124) rfl (by rw [hml]; rfl) (lenOf pd_18 rfl) rfl rfl (W := 0) (Nat.le_of_eq rfl) (by decide) (by decide) (by decide) (by decide) (hb hby at_119) ?_
    intro v68 T68 L68 q68 X68
    obtain ⟨rfl, N68, e68⟩ := q68
    show Go _ _ _ _ (T68.setTop (mkF m 124 #[.val (.int p0), .val (.int p1), .val (.int p2), .val (.int p3), .val (.int p4), .val (.int 1), .val (.ref b2_0), .val (.ref b7_0), .val (.ref b12_0), .val (.ref b17_0), .val (.ref b36), .val (.ref b49_0), .val (.ref b49_1)] [(.ref b2_0)]))
    have fk69 : Exa Z h52 b2_0 "java/lang/String" := (((fk40.wr W41).keep K49).wr W52)
    refine Go.castY X68 hx Z17 O17 (tw_4 hw) e68 (Ins.self fk69) (pc' := 127) rfl (hb hby at_124) ?_
    intro T70 e70 X70
    refine Go.aload X70 hx (pc' := 129) rfl (hb hby at_127) rfl rfl ?_
    refine Go.callV X70 hx Z17 O17 (tw_107 hw) (tw_108 hw) (notFace_of_selects (args := #[]) (mvT Z17 (tw_110 hw))) (tw_110 hw) (tw_109 hw) (by decide) (tw_111 hw) (tw_6 hw) (au_32 l Z a0 hw b2_0 h52 n0 Zn53) e70 fk69 (argsL := [(.ref b2_0)]) (rest := []) (pc' := 132) rfl (by rw [hml]; rfl) (lenOf pd_19 rfl) rfl rfl (W := 0) (Nat.le_of_eq rfl) (by decide) (by decide) (by decide) (by decide) (hb hby at_129) ?_
    intro v71 T71 L71 q71 X71
    obtain ⟨rfl, N71, e71⟩ := q71
    show Go _ _ _ _ (T71.setTop (mkF m 132 #[.val (.int p0), .val (.int p1), .val (.int p2), .val (.int p3), .val (.int p4), .val (.int 1), .val (.ref b2_0), .val (.ref b7_0), .val (.ref b12_0), .val (.ref b17_0), .val (.ref b36), .val (.ref b49_0), .val (.ref b49_1)] [(.int 1)]))
    refine Go.ifYes X71 hx (pc' := 137) (hb hby at_132) (by decide) (by decide) (by decide) ?_
    refine Go.iload X71 hx (pc' := 139) rfl (hb hby at_137) rfl ?_
    refine Go.iconst X71 hx (pc' := 140) rfl (hb hby at_139) (v := (1 : Int32)) rfl ?_
    refine Go.icmpYes X71 hx (pc' := 164) (hb hby at_140) (by decide) (by decide) (by decide) ?_
    refine Go.iload X71 hx (pc' := 166) rfl (hb hby at_164) rfl ?_
    refine Go.iconst X71 hx (pc' := 167) rfl (hb hby at_166) (v := (2 : Int32)) rfl ?_
    refine Go.icmpYes X71 hx (pc' := 191) (hb hby at_167) (by decide) (by decide) (by decide) ?_
    refine Go.iconst X71 hx (pc' := 192) rfl (hb hby at_191) (v := (1 : Int32)) rfl ?_
    have C72 : CHr Z EL0 s.vm s.heap T17.vm h17 := (C16.trans C17)
    have C73 : CHr Z EL0 s.vm s.heap T17.vm h36 := (C72.trans (CHr.ext E36 C72.1))
    have fk74 : Safe Z EL0 T17.vm h36 b36 := (Safe.ext E36 C72.1 (Safe.new (Nat.le_of_eq g36.symm) : Safe Z EL0 T17.vm h17 b36))
    have C75 : CHr Z EL0 s.vm s.heap T17.vm h41 := (C73.trans (CHr.wr W41 fk74 C73.1))
    have C76 : CHr Z EL0 s.vm s.heap T17.vm h49 := (C75.trans (CHr.keep K49 sf0 C75.1))
    have fk77 : Safe Z EL0 T17.vm h41 b36 := (Safe.wr W41 fk74 C73.1 fk74)
    have fk78 : Safe Z EL0 T17.vm h49 b36 := (Safe.keep K49 sf0 C75.1 fk77)
    have C79 : CHr Z EL0 s.vm s.heap T17.vm h52 := (C76.trans (CHr.wr W52 fk78 C76.1))
    have hk80 := (Nat.le_trans (Nat.le_trans (Nat.le_trans (Nat.le_trans (Nat.le_refl _) E36.1) (Keep.of_wr W41).1) K49.1) (Keep.of_wr W52).1)
    refine Go.retNW X71 hx hlk Z17 (own_EW hw) e71 S17 hk80 C79 (t := .boolean) hret (by simp) (hb hby at_192) (by decide) (by decide) (fun hat => ?_)
    exact ⟨rfl, (Fr.app (Fr.app (Fr.app (Fr.app N52 N60) N66) N68) N71)⟩
  · refine Go.iload X17 hx (pc' := 32) rfl (hb hby at_30) rfl ?_
    refine Go.anewarray X17 hx Z17 O17 (tw_4 hw) (tw_26 hw) e17 (by decide) (cap := 2) (by decide) (by decide) (by decide) (by decide) (ad := "[Ljava/lang/String;") (by decide) 2 (pc' := 35) rfl (hb hby at_32) ?_
    intro T81 h81 b81 k81 e81 E81 g81 V81 A81 O81 X81
    have V81' : Arv Z h81 b81 k81 (.object "java/lang/String") (2 : Int32) [.null, .null] .null := V81
    refine Go.astore X81 hx (pc' := 37) rfl (hb hby at_35) (Ls' := #[.val (.int p0), .val (.int p1), .val (.int p2), .val (.int p3), .val (.int p4), .val (.int 2), .val (.ref b2_0), .val (.ref b7_0), .val (.ref b12_0), .val (.ref b17_0), .val (.ref b81), .unset, .unset]) rfl rfl ?_
    refine Go.iload X81 hx (pc' := 39) rfl (hb hby at_37) rfl ?_
    refine Go.ifNo X81 hx (pc' := 42) rfl (hb hby at_39) (by decide) ?_
    refine Go.aload X81 hx (pc' := 44) rfl (hb hby at_42) rfl rfl ?_
    refine Go.iconst X81 hx (pc' := 45) rfl (hb hby at_44) (v := (0 : Int32)) rfl ?_
    refine Go.aload X81 hx (pc' := 47) rfl (hb hby at_45) rfl rfl ?_
    have Kp84 : Keep h0 h17 [] := (Kp14.trans K17 all0)
    have sz83 : h0.size ≤ b81 := Nat.le_trans Kp84.1 (Nat.le_of_eq g81.symm)
    have ge82 : n0 ≤ b81 := Nat.le_trans Z0 sz83
    have fk85 : Exa Z h81 b2_0 "java/lang/String" := ((((F2_0.keep K7).keep K12).keep K17).ext E81)
    refine Go.aastore X81 hx Z17 e81 V81' rfl (Sto.ofArv V81' O81 (Ins.self fk85)) rfl ⟨by decide, by decide⟩ 0 rfl (Nat.le_of_ble_eq_true rfl) (pc' := 48) rfl (hb hby at_47) ?_
    intro T86 h86 e86 W86 V86 X86
    have N86 := Fr.snoc X86 (Fr.app (Fr.app (Fr.app (Fr.app (Fr.nil n0) N2) N7) N12) N17) ge82
    refine Go.iload X86 hx (pc' := 50) rfl (hb hby at_48) rfl ?_
    refine Go.iconst X86 hx (pc' := 51) rfl (hb hby at_50) (v := (1 : Int32)) rfl ?_
    refine Go.icmpNo X86 hx (pc' := 54) rfl (hb hby at_51) (by decide) ?_
    refine Go.aload X86 hx (pc' := 56) rfl (hb hby at_54) rfl rfl ?_
    refine Go.iconst X86 hx (pc' := 57) rfl (hb hby at_56) (v := (1 : Int32)) rfl ?_
    refine Go.aload X86 hx (pc' := 59) rfl (hb hby at_57) rfl rfl ?_
    have fk87 : Exa Z h86 b7_0 "java/lang/String" := ((((F7_0.keep K12).keep K17).ext E81).wr W86)
    refine Go.aastore X86 hx Z17 e86 V86 rfl (Sto.ofArv V86 O81 (Ins.self fk87)) rfl ⟨by decide, by decide⟩ 1 rfl (Nat.le_of_ble_eq_true rfl) (pc' := 60) rfl (hb hby at_59) ?_
    intro T88 h88 e88 W88 V88 X88
    have N88 := Fr.snoc X88 N86 ge82
    refine Go.iload X88 hx (pc' := 62) rfl (hb hby at_60) rfl ?_
    refine Go.iconst X88 hx (pc' := 63) rfl (hb hby at_62) (v := (2 : Int32)) rfl ?_
    refine Go.icmpYes X88 hx (pc' := 72) (hb hby at_63) (by decide) (by decide) (by decide) ?_
    refine Go.aload X88 hx (pc' := 74) rfl (hb hby at_72) rfl rfl ?_
    have Kp90 : Keep h0 h81 [] := (Kp84.ext E81)
    have Kp91 : Keep h0 h86 [] := (Kp90.wr W86 (Or.inr sz83))
    have Kp92 : Keep h0 h88 [] := (Kp91.wr W88 (Or.inr sz83))
    have Zn89 : n0 ≤ h88.size := Nat.le_trans Z0 Kp92.1
    have V93 : Arv Z h88 b81 k81 (.object "java/lang/String") (2 : Int32) [(.ref b2_0), (.ref b7_0)] .null := V88
    refine Go.callS X88 hx Z17 O17 (tw_27 hw) (tw_28 hw) (tw_29 hw) (tw_30 hw) (by decide) (tw_30 hw) (tw_29 hw) (au_33 l Z a0 hw b81 k81 b2_0 b7_0 h88 n0 Zn89 V93) e88 (argsL := [(.ref b81)]) (rest := []) (pc' := 77) rfl (by rw [hml]; rfl) (lenOf pd_12 rfl) rfl rfl (W := 0) (Nat.le_of_eq rfl) (by decide) (by decide) (by decide) (by decide) (hb hby at_74) ?_
    intro v94 T94 L94 q94 X94
    obtain ⟨h94, e94⟩ : ∃ z, T94.heap = z := ⟨_, rfl⟩
    rw [e94] at q94
    obtain ⟨b94_0, b94_1, rfl, N94, K94, s94_0, s94_1, n94_0, F94_0, F94_1, F94_2, F94_3, F94_4⟩ := q94
    show Go _ _ _ _ (T94.setTop (mkF m 77 #[.val (.int p0), .val (.int p1), .val (.int p2), .val (.int p3), .val (.int p4), .val (.int 2), .val (.ref b2_0), .val (.ref b7_0), .val (.ref b12_0), .val (.ref b17_0), .val (.ref b81), .unset, .unset] [(.ref b94_0)]))
    refine Go.astore X94 hx (pc' := 79) rfl (hb hby at_77) (Ls' := #[.val (.int p0), .val (.int p1), .val (.int p2), .val (.int p3), .val (.int p4), .val (.int 2), .val (.ref b2_0), .val (.ref b7_0), .val (.ref b12_0), .val (.ref b17_0), .val (.ref b81), .val (.ref b94_0), .unset]) rfl rfl ?_
    refine Go.iload X94 hx (pc' := 81) rfl (hb hby at_79) rfl ?_
    refine Go.ifNo X94 hx (pc' := 84) rfl (hb hby at_81) (by decide) ?_
    refine Go.aload X94 hx (pc' := 86) rfl (hb hby at_84) rfl rfl ?_
    refine Go.iconst X94 hx (pc' := 87) rfl (hb hby at_86) (v := (0 : Int32)) rfl ?_
    refine Go.aload X94 hx (pc' := 89) rfl (hb hby at_87) rfl rfl ?_
    have fk95 := (V93.keep K94 nin0)
    have fk96 : Exa Z h94 b17_0 "java/lang/String" := ((((F17_0.ext E81).wr W86).wr W88).keep K94)
    refine Go.aastore X94 hx Z17 e94 fk95 rfl (Sto.ofArv fk95 O81 (Ins.self fk96)) rfl ⟨by decide, by decide⟩ 0 rfl (Nat.le_of_ble_eq_true rfl) (pc' := 90) rfl (hb hby at_89) ?_
    intro T97 h97 e97 W97 V97 X97
    have N97 := Fr.snoc X97 (Fr.app N88 N94) ge82
    refine Go.aload X97 hx (pc' := 92) rfl (hb hby at_90) rfl rfl ?_
    have Kp99 : Keep h0 h94 [] := (Kp92.trans K94 all0)
    have Kp100 : Keep h0 h97 [] := (Kp99.wr W97 (Or.inr sz83))
    have Zn98 : n0 ≤ h97.size := Nat.le_trans Z0 Kp100.1
    have fk102 : Exa Z h88 b81 "[Ljava/lang/String;" := ((A81.wr W86).wr W88)
    have ne101 : b81 ≠ b94_0 := Nat.ne_of_lt (Nat.lt_of_lt_of_le fk102.lt s94_0)
    have fk103 : Fld Z h97 b94_0 "com/example/dirbound/dirbound/CompositeName" "components" "Ljava/util/List;" (.ref b94_1) := (F94_1.other W97 (Or.inl (Ne.symm ne101)))
    have fk104 : Exa Z h97 b94_0 "com/example/dirbound/dirbound/CompositeName" := (F94_0.wr W97)
    refine Go.callV X97 hx Z17 O17 (tw_45 hw) (tw_46 hw) (notFace_of_selects (args := #[]) (mvT Z17 (tw_48 hw))) (tw_48 hw) (tw_47 hw) (by decide) (tw_49 hw) (tw_29 hw) (au_37 l Z a0 hw b94_0 b94_1 h97 n0 Zn98 fk103) e97 fk104 (argsL := []) (rest := []) (pc' := 95) rfl (by rw [hml]; rfl) (lenOf pd_13 rfl) rfl rfl (W := 0) (Nat.le_of_eq rfl) (by decide) (by decide) (by decide) (by decide) (hb hby at_92) ?_
    intro v105 T105 L105 q105 X105
    obtain ⟨rfl, N105, e105⟩ := q105
    show Go _ _ _ _ (T105.setTop (mkF m 95 #[.val (.int p0), .val (.int p1), .val (.int p2), .val (.int p3), .val (.int p4), .val (.int 2), .val (.ref b2_0), .val (.ref b7_0), .val (.ref b12_0), .val (.ref b17_0), .val (.ref b81), .val (.ref b94_0), .unset] [(.ref b94_1)]))
    refine Go.astore X105 hx (pc' := 97) rfl (hb hby at_95) (Ls' := #[.val (.int p0), .val (.int p1), .val (.int p2), .val (.int p3), .val (.int p4), .val (.int 2), .val (.ref b2_0), .val (.ref b7_0), .val (.ref b12_0), .val (.ref b17_0), .val (.ref b81), .val (.ref b94_0), .val (.ref b94_1)]) rfl rfl ?_
    refine Go.aload X105 hx (pc' := 99) rfl (hb hby at_97) rfl rfl ?_
    have O106 := (O15.keep K17 all0)
    have O107 := (O106.ext E81)
    have O108 := (O107.wr W86 ge82)
    have O109 := (O108.wr W88 ge82)
    have O110 := (O109.keep K94 all0)
    have O111 := (O110.wr W97 ge82)
    have ne112 : b81 ≠ b94_1 := Nat.ne_of_lt (Nat.lt_of_lt_of_le fk102.lt s94_1)
    have fk113 : Fld Z h97 b94_1 "java/util/ImmutableCollections$List12" "e1" "Ljava/lang/Object;" (.ref b7_0) := (F94_4.other W97 (Or.inl (Ne.symm ne112)))
    have sz115 : h0.size ≤ b7_0 := Nat.le_trans Kp4.1 s7_0
    have ge114 : n0 ≤ b7_0 := Nat.le_trans Z0 sz115
    have fk116 : Exa Z h97 b94_1 "java/util/ImmutableCollections$List12" := (F94_2.wr W97)
    refine Go.callI X105 hx Z17 O17 (tw_50 hw) (tw_51 hw) (tw_52 hw) (tw_153 hw) (tw_154 hw) (tw_155 hw) (tw_156 hw) (tw_157 hw) (by decide) (tw_158 hw) (tw_139 hw) (au_38 l Z a0 hw b94_1 b7_0 ga1 ga5 gz13 ga17 gv23 gk27 h97 n0 Zn98 O111 G fk113 ge114) e105 fk116 (argsL := []) (rest := []) (pc' := 104) rfl (by rw [hml]; rfl) (lenOf pd_14 rfl) rfl rfl (W := 0) (Nat.le_of_eq rfl) (by decide) (by decide) (by decide) (by decide) (hb hby at_99) ?_
    intro v117 T117 L117 q117 X117
    obtain ⟨rfl, N117, e117⟩ := q117
    show Go _ _ _ _ (T117.setTop (mkF m 104 #[.val (.int p0), .val (.int p1), .val (.int p2), .val (.int p3), .val (.int p4), .val (.int 2), .val (.ref b2_0), .val (.ref b7_0), .val (.ref b12_0), .val (.ref b17_0), .val (.ref b81), .val (.ref b94_0), .val (.ref b94_1)] [(.int 2)]))
    refine Go.iload X117 hx (pc' := 106) rfl (hb hby at_104) rfl ?_
    refine Go.icmpYes X117 hx (pc' := 111) (hb hby at_106) (by decide) (by decide) (by decide) ?_
    refine Go.iload X117 hx (pc' := 113) rfl (hb hby at_111) rfl ?_
    refine Go.ifNo X117 hx (pc' := 116) rfl (hb hby at_113) (by decide) ?_
    refine Go.aload X117 hx (pc' := 118) rfl (hb hby at_116) rfl rfl ?_
    refine Go.iconst X117 hx (pc' := 119) rfl (hb hby at_118) (v := (0 : Int32)) rfl ?_
    have fk118 : Fld Z h97 b94_1 "java/util/ImmutableCollections$List12" "e0" "Ljava/lang/Object;" (.ref b2_0) := (F94_3.other W97 (Or.inl (Ne.symm ne112)))
    refine Go.callI X117 hx Z17 O17 (tw_99 hw) (tw_100 hw) (tw_101 hw) (tw_160 hw) (tw_161 hw) (tw_162 hw) (tw_163 hw) (tw_157 hw) (by decide) (tw_164 hw) (tw_139 hw) (au_39 l Z a0 hw b94_1 b2_0 h97 n0 Zn98 fk118) e117 fk116 (argsL := [(.int 0)]) (rest := []) (pc' := 124) rfl (by rw [hml]; rfl) (lenOf pd_18 rfl) rfl rfl (W := 0) (Nat.le_of_eq rfl) (by decide) (by decide) (by decide) (by decide) (hb hby at_119) ?_
    intro v119 T119 L119 q119 X119
    obtain ⟨rfl, N119, e119⟩ := q119
    show Go _ _ _ _ (T119.setTop (mkF m 124 #[.val (.int p0), .val (.int p1), .val (.int p2), .val (.int p3), .val (.int p4), .val (.int 2), .val (.ref b2_0), .val (.ref b7_0), .val (.ref b12_0), .val (.ref b17_0), .val (.ref b81), .val (.ref b94_0), .val (.ref b94_1)] [(.ref b2_0)]))
    have fk120 : Exa Z h97 b2_0 "java/lang/String" := ((((fk85.wr W86).wr W88).keep K94).wr W97)
    refine Go.castY X119 hx Z17 O17 (tw_4 hw) e119 (Ins.self fk120) (pc' := 127) rfl (hb hby at_124) ?_
    intro T121 e121 X121
    refine Go.aload X121 hx (pc' := 129) rfl (hb hby at_127) rfl rfl ?_
    refine Go.callV X121 hx Z17 O17 (tw_107 hw) (tw_108 hw) (notFace_of_selects (args := #[]) (mvT Z17 (tw_110 hw))) (tw_110 hw) (tw_109 hw) (by decide) (tw_111 hw) (tw_6 hw) (au_32 l Z a0 hw b2_0 h97 n0 Zn98) e121 fk120 (argsL := [(.ref b2_0)]) (rest := []) (pc' := 132) rfl (by rw [hml]; rfl) (lenOf pd_19 rfl) rfl rfl (W := 0) (Nat.le_of_eq rfl) (by decide) (by decide) (by decide) (by decide) (hb hby at_129) ?_
    intro v122 T122 L122 q122 X122
    obtain ⟨rfl, N122, e122⟩ := q122
    show Go _ _ _ _ (T122.setTop (mkF m 132 #[.val (.int p0), .val (.int p1), .val (.int p2), .val (.int p3), .val (.int p4), .val (.int 2), .val (.ref b2_0), .val (.ref b7_0), .val (.ref b12_0), .val (.ref b17_0), .val (.ref b81), .val (.ref b94_0), .val (.ref b94_1)] [(.int 1)]))
    refine Go.ifYes X122 hx (pc' := 137) (hb hby at_132) (by decide) (by decide) (by decide) ?_
    refine Go.iload X122 hx (pc' := 139) rfl (hb hby at_137) rfl ?_
    refine Go.iconst X122 hx (pc' := 140) rfl (hb hby at_139) (v := (1 : Int32)) rfl ?_
    refine Go.icmpNo X122 hx (pc' := 143) rfl (hb hby at_140) (by decide) ?_
    refine Go.aload X122 hx (pc' := 145) rfl (hb hby at_143) rfl rfl ?_
    refine Go.iconst X122 hx (pc' := 146) rfl (hb hby at_145) (v := (1 : Int32)) rfl ?_
    refine Go.callI X122 hx Z17 O17 (tw_99 hw) (tw_100 hw) (tw_101 hw) (tw_160 hw) (tw_161 hw) (tw_162 hw) (tw_163 hw) (tw_157 hw) (by decide) (tw_164 hw) (tw_139 hw) (au_40 l Z a0 hw b94_1 b7_0 ga1 ga5 gz13 ga17 gv23 gk27 h97 n0 Zn98 O111 G fk113 ge114) e122 fk116 (argsL := [(.int 1)]) (rest := []) (pc' := 151) rfl (by rw [hml]; rfl) (lenOf pd_18 rfl) rfl rfl (W := 0) (Nat.le_of_eq rfl) (by decide) (by decide) (by decide) (by decide) (hb hby at_146) ?_
    intro v123 T123 L123 q123 X123
    obtain ⟨rfl, N123, e123⟩ := q123
    show Go _ _ _ _ (T123.setTop (mkF m 151 #[.val (.int p0), .val (.int p1), .val (.int p2), .val (.int p3), .val (.int p4), .val (.int 2), .val (.ref b2_0), .val (.ref b7_0), .val (.ref b12_0), .val (.ref b17_0), .val (.ref b81), .val (.ref b94_0), .val (.ref b94_1)] [(.ref b7_0)]))
    have fk124 : Exa Z h97 b7_0 "java/lang/String" := (((fk87.wr W88).keep K94).wr W97)
    refine Go.castY X123 hx Z17 O17 (tw_4 hw) e123 (Ins.self fk124) (pc' := 154) rfl (hb hby at_151) ?_
    intro T125 e125 X125
    refine Go.aload X125 hx (pc' := 156) rfl (hb hby at_154) rfl rfl ?_
    refine Go.callV X125 hx Z17 O17 (tw_107 hw) (tw_108 hw) (notFace_of_selects (args := #[]) (mvT Z17 (tw_110 hw))) (tw_110 hw) (tw_109 hw) (by decide) (tw_111 hw) (tw_6 hw) (au_32 l Z a0 hw b7_0 h97 n0 Zn98) e125 fk124 (argsL := [(.ref b7_0)]) (rest := []) (pc' := 159) rfl (by rw [hml]; rfl) (lenOf pd_19 rfl) rfl rfl (W := 0) (Nat.le_of_eq rfl) (by decide) (by decide) (by decide) (by decide) (hb hby at_156) ?_
    intro v126 T126 L126 q126 X126
    obtain ⟨rfl, N126, e126⟩ := q126
    show Go _ _ _ _ (T126.setTop (mkF m 159 #[.val (.int p0), .val (.int p1), .val (.int p2), .val (.int p3), .val (.int p4), .val (.int 2), .val (.ref b2_0), .val (.ref b7_0), .val (.ref b12_0), .val (.ref b17_0), .val (.ref b81), .val (.ref b94_0), .val (.ref b94_1)] [(.int 1)]))
    refine Go.ifYes X126 hx (pc' := 164) (hb hby at_159) (by decide) (by decide) (by decide) ?_
    refine Go.iload X126 hx (pc' := 166) rfl (hb hby at_164) rfl ?_
    refine Go.iconst X126 hx (pc' := 167) rfl (hb hby at_166) (v := (2 : Int32)) rfl ?_
    refine Go.icmpYes X126 hx (pc' := 191) (hb hby at_167) (by decide) (by decide) (by decide) ?_
    refine Go.iconst X126 hx (pc' := 192) rfl (hb hby at_191) (v := (1 : Int32)) rfl ?_
    have C127 : CHr Z EL0 s.vm s.heap T17.vm h17 := (C16.trans C17)
    have C128 : CHr Z EL0 s.vm s.heap T17.vm h81 := (C127.trans (CHr.ext E81 C127.1))
    have fk129 : Safe Z EL0 T17.vm h81 b81 := (Safe.ext E81 C127.1 (Safe.new (Nat.le_of_eq g81.symm) : Safe Z EL0 T17.vm h17 b81))
    have C130 : CHr Z EL0 s.vm s.heap T17.vm h86 := (C128.trans (CHr.wr W86 fk129 C128.1))
    have fk131 : Safe Z EL0 T17.vm h86 b81 := (Safe.wr W86 fk129 C128.1 fk129)
    have C132 : CHr Z EL0 s.vm s.heap T17.vm h88 := (C130.trans (CHr.wr W88 fk131 C130.1))
    have C133 : CHr Z EL0 s.vm s.heap T17.vm h94 := (C132.trans (CHr.keep K94 sf0 C132.1))
    have fk134 : Safe Z EL0 T17.vm h88 b81 := (Safe.wr W88 fk131 C130.1 fk131)
    have fk135 : Safe Z EL0 T17.vm h94 b81 := (Safe.keep K94 sf0 C132.1 fk134)
    have C136 : CHr Z EL0 s.vm s.heap T17.vm h97 := (C133.trans (CHr.wr W97 fk135 C133.1))
    have hk137 := (Nat.le_trans (Nat.le_trans (Nat.le_trans (Nat.le_trans (Nat.le_trans (Nat.le_refl _) E81.1) (Keep.of_wr W86).1) (Keep.of_wr W88).1) K94.1) (Keep.of_wr W97).1)
    refine Go.retNW X126 hx hlk Z17 (own_EW hw) e126 S17 hk137 C136 (t := .boolean) hret (by simp) (hb hby at_192) (by decide) (by decide) (fun hat => ?_)
    exact ⟨rfl, (Fr.app (Fr.app (Fr.app (Fr.app (Fr.app (Fr.app N97 N105) N117) N119) N122) N123) N126)⟩
  · refine Go.iload X17 hx (pc' := 32) rfl (hb hby at_30) rfl ?_
    refine Go.anewarray X17 hx Z17 O17 (tw_4 hw) (tw_26 hw) e17 (by decide) (cap := 3) (by decide) (by decide) (by decide) (by decide) (ad := "[Ljava/lang/String;") (by decide) 3 (pc' := 35) rfl (hb hby at_32) ?_
    intro T138 h138 b138 k138 e138 E138 g138 V138 A138 O138 X138
    have V138' : Arv Z h138 b138 k138 (.object "java/lang/String") (3 : Int32) [.null, .null, .null] .null := V138
    refine Go.astore X138 hx (pc' := 37) rfl (hb hby at_35) (Ls' := #[.val (.int p0), .val (.int p1), .val (.int p2), .val (.int p3), .val (.int p4), .val (.int 3), .val (.ref b2_0), .val (.ref b7_0), .val (.ref b12_0), .val (.ref b17_0), .val (.ref b138), .unset, .unset]) rfl rfl ?_
    refine Go.iload X138 hx (pc' := 39) rfl (hb hby at_37) rfl ?_
    refine Go.ifNo X138 hx (pc' := 42) rfl (hb hby at_39) (by decide) ?_
    refine Go.aload X138 hx (pc' := 44) rfl (hb hby at_42) rfl rfl ?_
    refine Go.iconst X138 hx (pc' := 45) rfl (hb hby at_44) (v := (0 : Int32)) rfl ?_
    refine Go.aload X138 hx (pc' := 47) rfl (hb hby at_45) rfl rfl ?_
    have Kp141 : Keep h0 h17 [] := (Kp14.trans K17 all0)
    have sz140 : h0.size ≤ b138 := Nat.le_trans Kp141.1 (Nat.le_of_eq g138.symm)
    have ge139 : n0 ≤ b138 := Nat.le_trans Z0 sz140
    have fk142 : Exa Z h138 b2_0 "java/lang/String" := ((((F2_0.keep K7).keep K12).keep K17).ext E138)
    refine Go.aastore X138 hx Z17 e138 V138' rfl (Sto.ofArv V138' O138 (Ins.self fk142)) rfl ⟨by decide, by decide⟩ 0 rfl (Nat.le_of_ble_eq_true rfl) (pc' := 48) rfl (hb hby at_47) ?_
    intro T143 h143 e143 W143 V143 X143
    have N143 := Fr.snoc X143 (Fr.app (Fr.app (Fr.app (Fr.app (Fr.nil n0) N2) N7) N12) N17) ge139
    refine Go.iload X143 hx (pc' := 50) rfl (hb hby at_48) rfl ?_
    refine Go.iconst X143 hx (pc' := 51) rfl (hb hby at_50) (v := (1 : Int32)) rfl ?_
    refine Go.icmpNo X143 hx (pc' := 54) rfl (hb hby at_51) (by decide) ?_
    refine Go.aload X143 hx (pc' := 56) rfl (hb hby at_54) rfl rfl ?_
    refine Go.iconst X143 hx (pc' := 57) rfl (hb hby at_56) (v := (1 : Int32)) rfl ?_
    refine Go.aload X143 hx (pc' := 59) rfl (hb hby at_57) rfl rfl ?_
    have fk144 : Exa Z h143 b7_0 "java/lang/String" := ((((F7_0.keep K12).keep K17).ext E138).wr W143)
    refine Go.aastore X143 hx Z17 e143 V143 rfl (Sto.ofArv V143 O138 (Ins.self fk144)) rfl ⟨by decide, by decide⟩ 1 rfl (Nat.le_of_ble_eq_true rfl) (pc' := 60) rfl (hb hby at_59) ?_
    intro T145 h145 e145 W145 V145 X145
    have N145 := Fr.snoc X145 N143 ge139
    refine Go.iload X145 hx (pc' := 62) rfl (hb hby at_60) rfl ?_
    refine Go.iconst X145 hx (pc' := 63) rfl (hb hby at_62) (v := (2 : Int32)) rfl ?_
    refine Go.icmpNo X145 hx (pc' := 66) rfl (hb hby at_63) (by decide) ?_
    refine Go.aload X145 hx (pc' := 68) rfl (hb hby at_66) rfl rfl ?_
    refine Go.iconst X145 hx (pc' := 69) rfl (hb hby at_68) (v := (2 : Int32)) rfl ?_
    refine Go.aload X145 hx (pc' := 71) rfl (hb hby at_69) rfl rfl ?_
    have fk146 : Exa Z h145 b12_0 "java/lang/String" := ((((F12_0.keep K17).ext E138).wr W143).wr W145)
    refine Go.aastore X145 hx Z17 e145 V145 rfl (Sto.ofArv V145 O138 (Ins.self fk146)) rfl ⟨by decide, by decide⟩ 2 rfl (Nat.le_of_ble_eq_true rfl) (pc' := 72) rfl (hb hby at_71) ?_
    intro T147 h147 e147 W147 V147 X147
    have N147 := Fr.snoc X147 N145 ge139
    refine Go.aload X147 hx (pc' := 74) rfl (hb hby at_72) rfl rfl ?_
    have Kp149 : Keep h0 h138 [] := (Kp141.ext E138)
    have Kp150 : Keep h0 h143 [] := (Kp149.wr W143 (Or.inr sz140))
    have Kp151 : Keep h0 h145 [] := (Kp150.wr W145 (Or.inr sz140))
    have Kp152 : Keep h0 h147 [] := (Kp151.wr W147 (Or.inr sz140))
    have Zn148 : n0 ≤ h147.size := Nat.le_trans Z0 Kp152.1
    have V153 : Arv Z h147 b138 k138 (.object "java/lang/String") (3 : Int32) [(.ref b2_0), (.ref b7_0), (.ref b12_0)] .null := V147
    have fk154 : Exa Z h147 b2_0 "java/lang/String" := (((fk142.wr W143).wr W145).wr W147)
    have fk155 : Exa Z h147 b7_0 "java/lang/String" := ((fk144.wr W145).wr W147)
    have fk156 : Exa Z h147 b12_0 "java/lang/String" := (fk146.wr W147)
    refine Go.callS X147 hx Z17 O17 (tw_27 hw) (tw_28 hw) (tw_29 hw) (tw_30 hw) (by decide) (tw_30 hw) (tw_29 hw) (au_41 l Z a0 hw b138 k138 b2_0 b7_0 b12_0 h147 n0 Zn148 V153 fk154 fk155 fk156) e147 (argsL := [(.ref b138)]) (rest := []) (pc' := 77) rfl (by rw [hml]; rfl) (lenOf pd_12 rfl) rfl rfl (W := 0) (Nat.le_of_eq rfl) (by decide) (by decide) (by decide) (by decide) (hb hby at_74) ?_
    intro v157 T157 L157 q157 X157
    obtain ⟨h157, e157⟩ : ∃ z, T157.heap = z := ⟨_, rfl⟩
    rw [e157] at q157
    obtain ⟨b157_0, b157_1, b157_2, k157_0, rfl, N157, K157, s157_0, s157_1, s157_2, n157_0, n157_1, n157_2, F157_0, F157_1, F157_2, F157_3, F157_4, F157_5, F157_6⟩ := q157
    show Go _ _ _ _ (T157.setTop (mkF m 77 #[.val (.int p0), .val (.int p1), .val (.int p2), .val (.int p3), .val (.int p4), .val (.int 3), .val (.ref b2_0), .val (.ref b7_0), .val (.ref b12_0), .val (.ref b17_0), .val (.ref b138), .unset, .unset] [(.ref b157_0)]))
    refine Go.astore X157 hx (pc' := 79) rfl (hb hby at_77) (Ls' := #[.val (.int p0), .val (.int p1), .val (.int p2), .val (.int p3), .val (.int p4), .val (.int 3), .val (.ref b2_0), .val (.ref b7_0), .val (.ref b12_0), .val (.ref b17_0), .val (.ref b138), .val (.ref b157_0), .unset]) rfl rfl ?_
    refine Go.iload X157 hx (pc' := 81) rfl (hb hby at_79) rfl ?_
    refine Go.ifNo X157 hx (pc' := 84) rfl (hb hby at_81) (by decide) ?_
    refine Go.aload X157 hx (pc' := 86) rfl (hb hby at_84) rfl rfl ?_
    refine Go.iconst X157 hx (pc' := 87) rfl (hb hby at_86) (v := (0 : Int32)) rfl ?_
    refine Go.aload X157 hx (pc' := 89) rfl (hb hby at_87) rfl rfl ?_
    have fk158 := (V153.keep K157 nin0)
    have fk159 : Exa Z h157 b17_0 "java/lang/String" := (((((F17_0.ext E138).wr W143).wr W145).wr W147).keep K157)
    refine Go.aastore X157 hx Z17 e157 fk158 rfl (Sto.ofArv fk158 O138 (Ins.self fk159)) rfl ⟨by decide, by decide⟩ 0 rfl (Nat.le_of_ble_eq_true rfl) (pc' := 90) rfl (hb hby at_89) ?_
    intro T160 h160 e160 W160 V160 X160
    have N160 := Fr.snoc X160 (Fr.app N147 N157) ge139
    refine Go.aload X160 hx (pc' := 92) rfl (hb hby at_90) rfl rfl ?_
    have Kp162 : Keep h0 h157 [] := (Kp152.trans K157 all0)
    have Kp163 : Keep h0 h160 [] := (Kp162.wr W160 (Or.inr sz140))
    have Zn161 : n0 ≤ h160.size := Nat.le_trans Z0 Kp163.1
    have fk165 : Exa Z h147 b138 "[Ljava/lang/String;" := (((A138.wr W143).wr W145).wr W147)
    have ne164 : b138 ≠ b157_0 := Nat.ne_of_lt (Nat.lt_of_lt_of_le fk165.lt s157_0)
    have fk166 : Fld Z h160 b157_0 "com/example/dirbound/dirbound/CompositeName" "components" "Ljava/util/List;" (.ref b157_1) := (F157_1.other W160 (Or.inl (Ne.symm ne164)))
    have fk167 : Exa Z h160 b157_0 "com/example/dirbound/dirbound/CompositeName" := (F157_0.wr W160)
    refine Go.callV X160 hx Z17 O17 (tw_45 hw) (tw_46 hw) (notFace_of_selects (args := #[]) (mvT Z17 (tw_48 hw))) (tw_48 hw) (tw_47 hw) (by decide) (tw_49 hw) (tw_29 hw) (au_49 l Z a0 hw b157_0 b157_1 h160 n0 Zn161 fk166) e160 fk167 (argsL := []) (rest := []) (pc' := 95) rfl (by rw [hml]; rfl) (lenOf pd_13 rfl) rfl rfl (W := 0) (Nat.le_of_eq rfl) (by decide) (by decide) (by decide) (by decide) (hb hby at_92) ?_
    intro v168 T168 L168 q168 X168
    obtain ⟨rfl, N168, e168⟩ := q168
    show Go _ _ _ _ (T168.setTop (mkF m 95 #[.val (.int p0), .val (.int p1), .val (.int p2), .val (.int p3), .val (.int p4), .val (.int 3), .val (.ref b2_0), .val (.ref b7_0), .val (.ref b12_0), .val (.ref b17_0), .val (.ref b138), .val (.ref b157_0), .unset] [(.ref b157_1)]))
    refine Go.astore X168 hx (pc' := 97) rfl (hb hby at_95) (Ls' := #[.val (.int p0), .val (.int p1), .val (.int p2), .val (.int p3), .val (.int p4), .val (.int 3), .val (.ref b2_0), .val (.ref b7_0), .val (.ref b12_0), .val (.ref b17_0), .val (.ref b138), .val (.ref b157_0), .val (.ref b157_1)]) rfl rfl ?_
    refine Go.aload X168 hx (pc' := 99) rfl (hb hby at_97) rfl rfl ?_
    have ne169 : b138 ≠ b157_1 := Nat.ne_of_lt (Nat.lt_of_lt_of_le fk165.lt s157_1)
    have fk170 : Fld Z h160 b157_1 "java/util/ImmutableCollections$ListN" "elements" "[Ljava/lang/Object;" (.ref b157_2) := (F157_4.other W160 (Or.inl (Ne.symm ne169)))
    have ne171 : b138 ≠ b157_2 := Nat.ne_of_lt (Nat.lt_of_lt_of_le fk165.lt s157_2)
    have fk172 := (F157_5.other W160 (Ne.symm ne171))
    have fk173 : Exa Z h160 b157_1 "java/util/ImmutableCollections$ListN" := (F157_2.wr W160)
    refine Go.callI X168 hx Z17 O17 (tw_50 hw) (tw_51 hw) (tw_52 hw) (tw_53 hw) (tw_54 hw) (tw_55 hw) (tw_56 hw) (tw_57 hw) (by decide) (tw_59 hw) (tw_58 hw) (au_50 l Z a0 hw b157_1 b157_2 k157_0 b2_0 b7_0 b12_0 h160 n0 Zn161 fk170 fk172) e168 fk173 (argsL := []) (rest := []) (pc' := 104) rfl (by rw [hml]; rfl) (lenOf pd_14 rfl) rfl rfl (W := 0) (Nat.le_of_eq rfl) (by decide) (by decide) (by decide) (by decide) (hb hby at_99) ?_
    intro v174 T174 L174 q174 X174
    obtain ⟨rfl, N174, e174⟩ := q174
    show Go _ _ _ _ (T174.setTop (mkF m 104 #[.val (.int p0), .val (.int p1), .val (.int p2), .val (.int p3), .val (.int p4), .val (.int 3), .val (.ref b2_0), .val (.ref b7_0), .val (.ref b12_0), .val (.ref b17_0), .val (.ref b138), .val (.ref b157_0), .val (.ref b157_1)] [(.int 3)]))
    refine Go.iload X174 hx (pc' := 106) rfl (hb hby at_104) rfl ?_
    refine Go.icmpYes X174 hx (pc' := 111) (hb hby at_106) (by decide) (by decide) (by decide) ?_
    refine Go.iload X174 hx (pc' := 113) rfl (hb hby at_111) rfl ?_
    refine Go.ifNo X174 hx (pc' := 116) rfl (hb hby at_113) (by decide) ?_
    refine Go.aload X174 hx (pc' := 118) rfl (hb hby at_116) rfl rfl ?_
    refine Go.iconst X174 hx (pc' := 119) rfl (hb hby at_118) (v := (0 : Int32)) rfl ?_
    refine Go.callI X174 hx Z17 O17 (tw_99 hw) (tw_100 hw) (tw_101 hw) (tw_102 hw) (tw_103 hw) (tw_104 hw) (tw_105 hw) (tw_57 hw) (by decide) (tw_106 hw) (tw_58 hw) (au_51 l Z a0 hw b157_1 b157_2 k157_0 b2_0 b7_0 b12_0 h160 n0 Zn161 fk170 fk172) e174 fk173 (argsL := [(.int 0)]) (rest := []) (pc' := 124) rfl (by rw [hml]; rfl) (lenOf pd_18 rfl) rfl rfl (W := 0) (Nat.le_of_eq rfl) (by decide) (by decide) (by decide) (by decide) (hb hby at_119) ?_
    intro v175 T175 L175 q175 X175
    obtain ⟨rfl, N175, e175⟩ := q175
    show Go _ _ _ _ (T175.setTop (mkF m 124 #[.val (.int p0), .val (.int p1), .val (.int p2), .val (.int p3), .val (.int p4), .val (.int 3), .val (.ref b2_0), .val (.ref b7_0), .val (.ref b12_0), .val (.ref b17_0), .val (.ref b138), .val (.ref b157_0), .val (.ref b157_1)] [(.ref b2_0)]))
    have fk176 : Exa Z h160 b2_0 "java/lang/String" := ((fk154.keep K157).wr W160)
    refine Go.castY X175 hx Z17 O17 (tw_4 hw) e175 (Ins.self fk176) (pc' := 127) rfl (hb hby at_124) ?_
    intro T177 e177 X177
    refine Go.aload X177 hx (pc' := 129) rfl (hb hby at_127) rfl rfl ?_
    refine Go.callV X177 hx Z17 O17 (tw_107 hw) (tw_108 hw) (notFace_of_selects (args := #[]) (mvT Z17 (tw_110 hw))) (tw_110 hw) (tw_109 hw) (by decide) (tw_111 hw) (tw_6 hw) (au_32 l Z a0 hw b2_0 h160 n0 Zn161) e177 fk176 (argsL := [(.ref b2_0)]) (rest := []) (pc' := 132) rfl (by rw [hml]; rfl) (lenOf pd_19 rfl) rfl rfl (W := 0) (Nat.le_of_eq rfl) (by decide) (by decide) (by decide) (by decide) (hb hby at_129) ?_
    intro v178 T178 L178 q178 X178
    obtain ⟨rfl, N178, e178⟩ := q178
    show Go _ _ _ _ (T178.setTop (mkF m 132 #[.val (.int p0), .val (.int p1), .val (.int p2), .val (.int p3), .val (.int p4), .val (.int 3), .val (.ref b2_0), .val (.ref b7_0), .val (.ref b12_0), .val (.ref b17_0), .val (.ref b138), .val (.ref b157_0), .val (.ref b157_1)] [(.int 1)]))
    refine Go.ifYes X178 hx (pc' := 137) (hb hby at_132) (by decide) (by decide) (by decide) ?_
    refine Go.iload X178 hx (pc' := 139) rfl (hb hby at_137) rfl ?_
    refine Go.iconst X178 hx (pc' := 140) rfl (hb hby at_139) (v := (1 : Int32)) rfl ?_
    refine Go.icmpNo X178 hx (pc' := 143) rfl (hb hby at_140) (by decide) ?_
    refine Go.aload X178 hx (pc' := 145) rfl (hb hby at_143) rfl rfl ?_
    refine Go.iconst X178 hx (pc' := 146) rfl (hb hby at_145) (v := (1 : Int32)) rfl ?_
    refine Go.callI X178 hx Z17 O17 (tw_99 hw) (tw_100 hw) (tw_101 hw) (tw_102 hw) (tw_103 hw) (tw_104 hw) (tw_105 hw) (tw_57 hw) (by decide) (tw_106 hw) (tw_58 hw) (au_52 l Z a0 hw b157_1 b157_2 k157_0 b2_0 b7_0 b12_0 h160 n0 Zn161 fk170 fk172) e178 fk173 (argsL := [(.int 1)]) (rest := []) (pc' := 151) rfl (by rw [hml]; rfl) (lenOf pd_18 rfl) rfl rfl (W := 0) (Nat.le_of_eq rfl) (by decide) (by decide) (by decide) (by decide) (hb hby at_146) ?_
    intro v179 T179 L179 q179 X179
    obtain ⟨rfl, N179, e179⟩ := q179
    show Go _ _ _ _ (T179.setTop (mkF m 151 #[.val (.int p0), .val (.int p1), .val (.int p2), .val (.int p3), .val (.int p4), .val (.int 3), .val (.ref b2_0), .val (.ref b7_0), .val (.ref b12_0), .val (.ref b17_0), .val (.ref b138), .val (.ref b157_0), .val (.ref b157_1)] [(.ref b7_0)]))
    have fk180 : Exa Z h160 b7_0 "java/lang/String" := ((fk155.keep K157).wr W160)
    refine Go.castY X179 hx Z17 O17 (tw_4 hw) e179 (Ins.self fk180) (pc' := 154) rfl (hb hby at_151) ?_
    intro T181 e181 X181
    refine Go.aload X181 hx (pc' := 156) rfl (hb hby at_154) rfl rfl ?_
    refine Go.callV X181 hx Z17 O17 (tw_107 hw) (tw_108 hw) (notFace_of_selects (args := #[]) (mvT Z17 (tw_110 hw))) (tw_110 hw) (tw_109 hw) (by decide) (tw_111 hw) (tw_6 hw) (au_32 l Z a0 hw b7_0 h160 n0 Zn161) e181 fk180 (argsL := [(.ref b7_0)]) (rest := []) (pc' := 159) rfl (by rw [hml]; rfl) (lenOf pd_19 rfl) rfl rfl (W := 0) (Nat.le_of_eq rfl) (by decide) (by decide) (by decide) (by decide) (hb hby at_156) ?_
    intro v182 T182 L182 q182 X182
    obtain ⟨rfl, N182, e182⟩ := q182
    show Go _ _ _ _ (T182.setTop (mkF m 159 #[.val (.int p0), .val (.int p1), .val (.int p2), .val (.int p3), .val (.int p4), .val (.int 3), .val (.ref b2_0), .val (.ref b7_0), .val (.ref b12_0), .val (.ref b17_0), .val (.ref b138), .val (.ref b157_0), .val (.ref b157_1)] [(.int 1)]))
    refine Go.ifYes X182 hx (pc' := 164) (hb hby at_159) (by decide) (by decide) (by decide) ?_
    refine Go.iload X182 hx (pc' := 166) rfl (hb hby at_164) rfl ?_
    refine Go.iconst X182 hx (pc' := 167) rfl (hb hby at_166) (v := (2 : Int32)) rfl ?_
    refine Go.icmpNo X182 hx (pc' := 170) rfl (hb hby at_167) (by decide) ?_
    refine Go.aload X182 hx (pc' := 172) rfl (hb hby at_170) rfl rfl ?_
    refine Go.iconst X182 hx (pc' := 173) rfl (hb hby at_172) (v := (2 : Int32)) rfl ?_
    refine Go.callI X182 hx Z17 O17 (tw_99 hw) (tw_100 hw) (tw_101 hw) (tw_102 hw) (tw_103 hw) (tw_104 hw) (tw_105 hw) (tw_57 hw) (by decide) (tw_106 hw) (tw_58 hw) (au_53 l Z a0 hw b157_1 b157_2 k157_0 b2_0 b7_0 b12_0 h160 n0 Zn161 fk170 fk172) e182 fk173 (argsL := [(.int 2)]) (rest := []) (pc' := 178) rfl (by rw [hml]; rfl) (lenOf pd_18 rfl) rfl rfl (W := 0) (Nat.le_of_eq rfl) (by decide) (by decide) (by decide) (by decide) (hb hby at_173) ?_
    intro v183 T183 L183 q183 X183
    obtain ⟨rfl, N183, e183⟩ := q183
    show Go _ _ _ _ (T183.setTop (mkF m 178 #[.val (.int p0), .val (.int p1), .val (.int p2), .val (.int p3), .val (.int p4), .val (.int 3), .val (.ref b2_0), .val (.ref b7_0), .val (.ref b12_0), .val (.ref b17_0), .val (.ref b138), .val (.ref b157_0), .val (.ref b157_1)] [(.ref b12_0)]))
    have fk184 : Exa Z h160 b12_0 "java/lang/String" := ((fk156.keep K157).wr W160)
    refine Go.castY X183 hx Z17 O17 (tw_4 hw) e183 (Ins.self fk184) (pc' := 181) rfl (hb hby at_178) ?_
    intro T185 e185 X185
    refine Go.aload X185 hx (pc' := 183) rfl (hb hby at_181) rfl rfl ?_
    refine Go.callV X185 hx Z17 O17 (tw_107 hw) (tw_108 hw) (notFace_of_selects (args := #[]) (mvT Z17 (tw_110 hw))) (tw_110 hw) (tw_109 hw) (by decide) (tw_111 hw) (tw_6 hw) (au_32 l Z a0 hw b12_0 h160 n0 Zn161) e185 fk184 (argsL := [(.ref b12_0)]) (rest := []) (pc' := 186) rfl (by rw [hml]; rfl) (lenOf pd_19 rfl) rfl rfl (W := 0) (Nat.le_of_eq rfl) (by decide) (by decide) (by decide) (by decide) (hb hby at_183) ?_
    intro v186 T186 L186 q186 X186
    obtain ⟨rfl, N186, e186⟩ := q186
    show Go _ _ _ _ (T186.setTop (mkF m 186 #[.val (.int p0), .val (.int p1), .val (.int p2), .val (.int p3), .val (.int p4), .val (.int 3), .val (.ref b2_0), .val (.ref b7_0), .val (.ref b12_0), .val (.ref b17_0), .val (.ref b138), .val (.ref b157_0), .val (.ref b157_1)] [(.int 1)]))
    refine Go.ifYes X186 hx (pc' := 191) (hb hby at_186) (by decide) (by decide) (by decide) ?_
    refine Go.iconst X186 hx (pc' := 192) rfl (hb hby at_191) (v := (1 : Int32)) rfl ?_
    have C187 : CHr Z EL0 s.vm s.heap T17.vm h17 := (C16.trans C17)
    have C188 : CHr Z EL0 s.vm s.heap T17.vm h138 := (C187.trans (CHr.ext E138 C187.1))
    have fk189 : Safe Z EL0 T17.vm h138 b138 := (Safe.ext E138 C187.1 (Safe.new (Nat.le_of_eq g138.symm) : Safe Z EL0 T17.vm h17 b138))
    have C190 : CHr Z EL0 s.vm s.heap T17.vm h143 := (C188.trans (CHr.wr W143 fk189 C188.1))
    have fk191 : Safe Z EL0 T17.vm h143 b138 := (Safe.wr W143 fk189 C188.1 fk189)
    have C192 : CHr Z EL0 s.vm s.heap T17.vm h145 := (C190.trans (CHr.wr W145 fk191 C190.1))
    have fk193 : Safe Z EL0 T17.vm h145 b138 := (Safe.wr W145 fk191 C190.1 fk191)
    have C194 : CHr Z EL0 s.vm s.heap T17.vm h147 := (C192.trans (CHr.wr W147 fk193 C192.1))
    have C195 : CHr Z EL0 s.vm s.heap T17.vm h157 := (C194.trans (CHr.keep K157 sf0 C194.1))
    have fk196 : Safe Z EL0 T17.vm h147 b138 := (Safe.wr W147 fk193 C192.1 fk193)
    have fk197 : Safe Z EL0 T17.vm h157 b138 := (Safe.keep K157 sf0 C194.1 fk196)
    have C198 : CHr Z EL0 s.vm s.heap T17.vm h160 := (C195.trans (CHr.wr W160 fk197 C195.1))
    have hk199 := (Nat.le_trans (Nat.le_trans (Nat.le_trans (Nat.le_trans (Nat.le_trans (Nat.le_trans (Nat.le_refl _) E138.1) (Keep.of_wr W143).1) (Keep.of_wr W145).1) (Keep.of_wr W147).1) K157.1) (Keep.of_wr W160).1)
    refine Go.retNW X186 hx hlk Z17 (own_EW hw) e186 S17 hk199 C198 (t := .boolean) hret (by simp) (hb hby at_192) (by decide) (by decide) (fun hat => ?_)
    exact ⟨rfl, (Fr.app (Fr.app (Fr.app (Fr.app (Fr.app (Fr.app (Fr.app (Fr.app N160 N168) N174) N175) N178) N179) N182) N183) N186)⟩
set_option maxRecDepth 65536 in
set_option maxHeartbeats 4000000 in
theorem comes_1 {Post : Tables → Env → Array Value → State → Outcome → State → Prop} (hpost : ∀ tb e args s v u, (limb_1_1.after args s (.returned v) u = true ∧ limb_1_2.after args s (.returned v) u = true ∧ True) → ReturnedEndW s (.returned v) u (Jvm.fieldLocs frame_1_writes args s ++ Jvm.arrayLocs frame_1_arrays args s ++ Jvm.staticLocs frame_1_statics s) 40 1216 → Post tb e args s (.returned v) u) :
    ArmFor flags0 classFile x code maxLocals ret World_1 tables_1 room_1 Calls_1 rest_1 Pre_1 Post := by
  intro l hfl _ _ p e ha hc hk s m args below hf hA hF happ hP
  obtain ⟨hcalls, hrest, hpre⟩ := hP
  obtain ⟨-, -, -, hnamed, -, -, -, hat⟩ := (Spec.applies_iff hf).mp happ
  obtain ⟨hg, hn⟩ := and_e (Cond.before_iff.mp (show (Jvm.Cond.and given_1 narrow_1).before args s = true from hpre))
  obtain ⟨g501, g502⟩ := and_e hg
  obtain ⟨g503, g504⟩ := and_e g502
  obtain ⟨g505, g506⟩ := and_e g504
  obtain ⟨g507, g508⟩ := and_e g506
  obtain ⟨g509, g510⟩ := and_e g508
  obtain ⟨w0, w1, w2, w3, w4, rfl⟩ : ∃ w0 w1 w2 w3 w4 : Value, args = #[w0, w1, w2, w3, w4] := by
    have hs : args.size = 5 := by simpa [Cond.value, given_1] using g501
    obtain ⟨L⟩ := args
    match L, hs with
    | [w0, w1, w2, w3, w4], _ => exact ⟨w0, w1, w2, w3, w4, rfl⟩
  have hw := fun d (hd : d ∈ tables_1) => atoms_spec (ws := Jvm.Cond.code x code maxLocals ret :: tables_1) hat d (List.mem_cons_of_mem _ hd)
  have hfit : Fit s := fun {y c} hc i hi => by
    obtain ⟨ha, rfl⟩ := Array.getElem?_eq_some_iff.mp hc
    have q := List.all_eq_true.mp ((Array.all_eq_true_iff_forall_mem.mp hF) _ (Array.getElem_mem ha)) i (List.mem_range.mpr hi)
    simpa [Array.getElem?_eq_getElem hi] using q
  obtain ⟨i0, ei0⟩ := is_v g503
  obtain rfl : w0 = (.int i0) := Option.some.inj ei0
  obtain ⟨i1, ei1⟩ := is_v g505
  obtain rfl : w1 = (.int i1) := Option.some.inj ei1
  obtain ⟨i2, ei2⟩ := is_v g507
  obtain rfl : w2 = (.int i2) := Option.some.inj ei2
  obtain ⟨i3, ei3⟩ := is_v g509
  obtain rfl : w3 = (.int i3) := Option.some.inj ei3
  obtain ⟨i4, ei4⟩ := is_v g510
  obtain rfl : w4 = (.int i4) := Option.some.inj ei4
  obtain ⟨hsets, hown0⟩ := atoms_of _ (rest_1_c_eq ▸ (show rest_1_c.before _ s = true from hrest))
  obtain ⟨ga1, ev2⟩ := exa_v (Cond.before_iff.mp (hsets _ (List.mem_of_getElem? (i := 2) rfl)))
  have Sx3 : Sta s s.heap "java/util/ImmutableCollections" "EMPTY_LIST" "Ljava/util/ImmutableCollections$ListN;" (.ref ga1) := Sta.start ev2 (Or.inl (Cond.before_iff.mpr (Cond.before_iff.mp (hsets _ (List.mem_of_getElem? (i := 23) rfl)))))
  have Ex4 := Exa.start ev2 (Cond.before_iff.mp (hsets _ (List.mem_of_getElem? (i := 2) rfl)))
  obtain ⟨ga5, ev6⟩ := arr_v (Cond.before_iff.mp (hsets _ (List.mem_of_getElem? (i := 3) rfl)))
  have Fx7 : Fld s s.heap ga1 "java/util/ImmutableCollections$ListN" "elements" "[Ljava/lang/Object;" (.ref ga5) := Fld.start ((fld_at ev2).symm.trans ev6)
  obtain ⟨clAr8, Ar8⟩ := Arr.start ev6 (Cond.before_iff.mp (hsets _ (List.mem_of_getElem? (i := 3) rfl)))
  have Ex9 := Exa.start ev6 (Cond.before_iff.mp (hsets _ (List.mem_of_getElem? (i := 4) rfl)))
  have Ln10 := own_len ev6 Ar8 (Cond.before_iff.mp (hsets _ (List.mem_of_getElem? (i := 5) rfl)))
  have ei11 := own_eqI (Cond.before_iff.mp (hsets _ (List.mem_of_getElem? (i := 6) rfl)))
  have Fx12 : Fld s s.heap ga1 "java/util/ImmutableCollections$ListN" "allowNulls" "Z" (.int 0) := Fld.start ((fld_at ev2).symm.trans ei11)
  obtain ⟨gz13, ev14⟩ := is_v (Cond.before_iff.mp (hsets _ (List.mem_of_getElem? (i := 8) rfl)))
  have Sx15 : Sta s s.heap "java/lang/String" "COMPACT_STRINGS" "Z" (.int gz13) := Sta.start ev14 (Or.inl (Cond.before_iff.mpr (Cond.before_iff.mp (hsets _ (List.mem_of_getElem? (i := 7) rfl)))))
  have nz16 : ¬ gz13 = (0 : Int32) := gotF (Cond.eq_ints ev14 (Term.int_eval (0))) (not_v (Cond.before_iff.mp (hsets _ (List.mem_of_getElem? (i := 9) rfl))))
  obtain ⟨ga17, ev18⟩ := exa_v (Cond.before_iff.mp (hsets _ (List.mem_of_getElem? (i := 18) rfl)))
  have Sx19 : Sta s s.heap "java/util/ImmutableCollections" "EMPTY" "Ljava/lang/Object;" (.ref ga17) := Sta.start ev18 (Or.inl (Cond.before_iff.mpr (Cond.before_iff.mp (hsets _ (List.mem_of_getElem? (i := 17) rfl)))))
  have Ex20 := Exa.start ev18 (Cond.before_iff.mp (hsets _ (List.mem_of_getElem? (i := 18) rfl)))
  have ei21 := own_eqI (Cond.before_iff.mp (hsets _ (List.mem_of_getElem? (i := 21) rfl)))
  have Sx22 : Sta s s.heap "java/util/ImmutableCollections" "$assertionsDisabled" "Z" (.int 1) := Sta.start ei21 (Or.inl (Cond.before_iff.mpr (Cond.before_iff.mp (hsets _ (List.mem_of_getElem? (i := 20) rfl)))))
  obtain ⟨gv23, ev24, rv25⟩ := isR_v (Cond.before_iff.mp (hsets _ (List.mem_of_getElem? (i := 15) rfl)))
  have Sx26 : Sta s s.heap "jdk/internal/util/Preconditions" "SIOOBE_FORMATTER" "Ljava/util/function/BiFunction;" gv23 := Sta.start ev24 (Or.inl (Cond.before_iff.mpr (Cond.before_iff.mp (hsets _ (List.mem_of_getElem? (i := 14) rfl)))))
  obtain ⟨gk27, hkgk27⟩ : ∃ q, clAr8.cls = q := ⟨_, rfl⟩
  have Vx28 : Arv s s.heap ga5 gk27 (.object "java/lang/Object") (0 : Int32) [] .null := hkgk27 ▸ Arv.start hfit Ar8 Ln10.1 Ln10.2 (by decide) rfl trivial
  have G : Glob s ga1 ga5 gz13 ga17 gv23 gk27 := ⟨Sx3, Ex4, Fx7, Ex9, Fx12, Sx15, Sx19, Ex20, Sx22, Sx26, Vx28, nz16, rv25⟩
  have hCH : CHv s EL0 s.vm s.heap := CHv.start (own_EW hw) (fun p hp => hcalls.1 p hp) (hsets _ (List.mem_of_getElem? (i := 9) rfl)) (tw_19 hw) (tw_5 hw)
  obtain ⟨n, o, h1, h2, h3, _, L, rfl, ⟨rfl, N⟩, hcr, hq⟩ := (rm0 l s _ hw i0 i1 i2 i3 i4 ga1 ga5 gz13 ga17 gv23 gk27 s.heap s.heap.size (Nat.le_refl _) (Old.start s) G) tables_1 p e ha hc hk s m _ below hf ((Spec.applies_iff_loose hf).mp happ).1 ⟨rfl, State.Warmed39.refl s, rfl, hCH, fun _ hx => nomatch hx⟩ trivial
  refine ⟨n, _, h1, h2, h3, hpost _ _ _ _ _ _ ⟨Cond.after_iff.mpr rfl, Cond.after_iff.mpr (eq_i res_at (Term.int_eval (1)) rfl), trivial⟩ ⟨hq.1, hq.2.1, hq.2.2.1, (hq.2.2.2.sift fun y hy => Or.inr (N y hy)).mono (by decide) (by decide)⟩⟩
theorem main_1_1 : Claimed_1_1 := comes_1 fun _ _ _ _ _ _ h hF => ⟨h.1, hF⟩
theorem main_1_2 : Claimed_1_2 := comes_1 fun _ _ _ _ _ _ h hF => ⟨h.2.1, hF⟩
end Jvm.Pilot.@@N@@
namespace Jvm.Pilot.@@N@@
open Jvm Jvm.ClassFile Sem Op Lib Jvm.Free Jvm.Stand Jvm.Pilot.@@N@@.Jvm.D
/-! MADE BY PROGRAM (witnessworld.py) out of the Statement's table words and the real class files: 34 classes; the members and pool entries that the words name. The judged class is class 1, her method 2. -/
namespace start1
open Jvm.ClassFile
def u (s : String) : CpInfo := .utf8 (stringToUtf16 s)
/-- a pool by its gaps: so many unusable entries, then the entry; so many at the end -/
def gap : Nat → List CpInfo → List CpInfo
  | 0, r => r
  | n + 1, r => .unusable :: gap n r
def poolList (es : List (Nat × CpInfo)) (last : Nat) : List CpInfo := es.foldr (fun e r => gap e.1 (e.2 :: r)) (gap last [])
def pool (es : List (Nat × CpInfo)) (last : Nat) : Array CpInfo := ⟨poolList es last⟩
def fileOf (pool : Array CpInfo) (this : Nat) (attrs : Array Attribute := #[]) (ms : Array MethodInfo := #[]) (fl : Nat := 33) (sup : Nat := 0) (ifs : Array Nat := #[]) (fds : Array FieldInfo := #[]) : ClassFile where
  minorVersion := 0
  majorVersion := 65
  constantPool := pool
  accessFlags := fl
  thisClass := this
  superClass := sup
  interfaces := ifs
  fields := fds
  methods := ms
  attributes := attrs
def plain (name : String) (sup : Option ClassId) : Class where
  name := name
  kind := .ordinary
  loader := none
  accessFlags := 33
  super := sup
  interfaces := #[]
  cf := none
  fields := #[]
  methods := #[]
  instanceTypes := #[]
  staticTypes := #[]
  resolved := #[]
  callSites := []
  init := .initialized
  statics := none
  mirror := none

def pool0 : Array CpInfo := pool [(5, u "<init>"), (0, u "()V"), (1, .class_ 10), (1, u "java/lang/Object")] 113

def k0c0 : Code := { maxStack := 0, maxLocals := 1, code := object_method_1_code, exceptionTable := #[], attributes := #[] }
def k0m0 : Method := { name := "<init>", desc := "()V", sig := { parameters := [], returnType := none }, accessFlags := 1, code := some k0c0 }
/-- java/lang/Object -/
def k0 : Class := { plain "java/lang/Object" none with
  accessFlags := 33
  interfaces := #[]
  cf := some (fileOf pool0 8 #[] #[{ accessFlags := 1, nameIndex := 5, descriptorIndex := 6, attributes := #[] }] 33 0 #[] #[])
  fields := #[]
  methods := #[k0m0]
  instanceTypes := #[]
  staticTypes := #[]
  resolved := Array.replicate 124 none
  statics := none }

def pool1 : Array CpInfo := pool [(2, .class_ 4), (1, u "java/lang/Object"), (0, u "<init>"), (0, u "()V"), (0, .class_ 8), (0, u "java/lang/String"), (0, .methodref 7 10), (0, .nameAndType 5 11), (0, u "([C)V"), (0, .methodref 7 13), (0, .nameAndType 14 15), (0, u "valueOf"), (0, u "(C)Ljava/lang/String;"), (0, .methodref 17 18), (0, .class_ 19), (0, .nameAndType 20 21), (0, u "com/example/dirbound/dirbound/CompositeNameOfPinLaw"), (0, u "mk"), (0, u "(I)Ljava/lang/String;"), (0, .methodref 23 24), (0, .class_ 25), (0, .nameAndType 26 27), (0, u "com/example/dirbound/dirbound/CompositeName"), (0, u "of"), (0, u "([Ljava/lang/String;)Lcom/example/dirbound/dirbound/CompositeName;"), (0, .methodref 23 29), (0, .nameAndType 30 31), (0, u "components"), (0, u "()Ljava/util/List;"), (0, .interfaceMethodref 33 34), (0, .class_ 35), (0, .nameAndType 36 37), (0, u "java/util/List"), (0, u "size"), (0, u "()I"), (0, .interfaceMethodref 33 39), (0, .nameAndType 40 41), (0, u "get"), (0, u "(I)Ljava/lang/Object;"), (0, .methodref 7 43), (0, .nameAndType 44 45), (0, u "equals"), (0, u "(Ljava/lang/Object;)Z"), (3, u "law"), (0, u "(IIIII)Z")] 4

def k1m0 : Method := { name := "<init>", desc := "()V", sig := { parameters := [], returnType := none }, accessFlags := 2, code := none }
def k1c1 : Code := { maxStack := 3, maxLocals := 5, code := method_2_code, exceptionTable := #[], attributes := #[] }
def k1m1 : Method := { name := "mk", desc := "(I)Ljava/lang/String;", sig := { parameters := [.int], returnType := some (.object "java/lang/String") }, accessFlags := 10, code := some k1c1 }
def k1c2 : Code := { maxStack := 3, maxLocals := 13, code := code, exceptionTable := #[], attributes := #[] }
def k1m2 : Method := { name := "law", desc := "(IIIII)Z", sig := { parameters := [.int, .int, .int, .int, .int], returnType := some .boolean }, accessFlags := 9, code := some k1c2 }
/-- com/example/dirbound/dirbound/CompositeNameOfPinLaw -/
def k1 : Class := { plain "com/example/dirbound/dirbound/CompositeNameOfPinLaw" (some 0) with
  accessFlags := 49
  interfaces := #[]
  cf := some (fileOf pool1 17 #[] #[{ accessFlags := 2, nameIndex := 5, descriptorIndex := 6, attributes := #[] }, { accessFlags := 10, nameIndex := 20, descriptorIndex := 21, attributes := #[] }, { accessFlags := 9, nameIndex := 49, descriptorIndex := 50, attributes := #[] }] 49 2 #[] #[])
  fields := #[]
  methods := #[k1m0, k1m1, k1m2]
  instanceTypes := #[]
  staticTypes := #[]
  resolved := Array.replicate 55 none
  statics := none }

def pool2 : Array CpInfo := pool [(1, .class_ 2), (0, u "java/io/Serializable"), (0, .class_ 4), (0, u "java/lang/Object")] 2

/-- java/io/Serializable -/
def k2 : Class := { plain "java/io/Serializable" (some 0) with
  accessFlags := 1537
  interfaces := #[]
  cf := some (fileOf pool2 1 #[] #[] 1537 3 #[] #[])
  fields := #[]
  methods := #[]
  instanceTypes := #[]
  staticTypes := #[]
  resolved := Array.replicate 7 none
  statics := none }

def pool3 : Array CpInfo := pool [(1, .class_ 2), (0, u "java/lang/Comparable"), (0, .class_ 4), (0, u "java/lang/Object")] 7

/-- java/lang/Comparable -/
def k3 : Class := { plain "java/lang/Comparable" (some 0) with
  accessFlags := 1537
  interfaces := #[]
  cf := some (fileOf pool3 1 #[] #[] 1537 3 #[] #[])
  fields := #[]
  methods := #[]
  instanceTypes := #[]
  staticTypes := #[]
  resolved := Array.replicate 12 none
  statics := none }

def pool4 : Array CpInfo := pool [(2, .class_ 4), (1, u "java/lang/CharSequence"), (42, .class_ 48), (0, u "java/lang/CharSequence$1CodePointIterator"), (10, .class_ 60), (0, u "java/lang/CharSequence$1CharIterator"), (5, .class_ 67), (0, u "java/lang/Object")] 63

/-- java/lang/CharSequence -/
def k4 : Class := { plain "java/lang/CharSequence" (some 0) with
  accessFlags := 1537
  interfaces := #[]
  cf := some (fileOf pool4 2 #[.nestMembers #[47, 59]] #[] 1537 66 #[] #[])
  fields := #[]
  methods := #[]
  instanceTypes := #[]
  staticTypes := #[]
  resolved := Array.replicate 131 none
  statics := none }

def pool5 : Array CpInfo := pool [(1, .class_ 2), (0, u "java/lang/constant/Constable"), (0, .class_ 4), (0, u "java/lang/Object")] 6

/-- java/lang/constant/Constable -/
def k5 : Class := { plain "java/lang/constant/Constable" (some 0) with
  accessFlags := 1537
  interfaces := #[]
  cf := some (fileOf pool5 1 #[] #[] 1537 3 #[] #[])
  fields := #[]
  methods := #[]
  instanceTypes := #[]
  staticTypes := #[]
  resolved := Array.replicate 11 none
  statics := none }

def pool6 : Array CpInfo := pool [(1, .class_ 2), (0, u "java/lang/constant/ConstantDesc"), (0, .class_ 4), (0, u "java/lang/Object")] 32

/-- java/lang/constant/ConstantDesc -/
def k6 : Class := { plain "java/lang/constant/ConstantDesc" (some 0) with
  accessFlags := 1537
  interfaces := #[]
  cf := some (fileOf pool6 1 #[] #[] 1537 3 #[] #[])
  fields := #[]
  methods := #[]
  instanceTypes := #[]
  staticTypes := #[]
  resolved := Array.replicate 37 none
  statics := none }

def pool7 : Array CpInfo := pool [(1, .methodref 2 3), (0, .class_ 4), (0, .nameAndType 5 6), (0, u "java/lang/Object"), (0, u "<init>"), (0, u "()V"), (0, .string 8), (0, u ""), (0, .fieldref 10 11), (0, .class_ 12), (0, .nameAndType 13 14), (0, u "java/lang/String"), (0, u "value"), (0, u "[B"), (0, .fieldref 10 16), (0, .nameAndType 17 18), (0, u "coder"), (0, u "B"), (2, u "hash"), (0, u "I"), (2, u "hashIsZero"), (0, u "Z"), (0, .methodref 10 28), (0, .nameAndType 5 29), (0, u "([CIILjava/lang/Void;)V"), (8, .fieldref 10 39), (0, .nameAndType 40 26), (0, u "COMPACT_STRINGS"), (1, .class_ 44), (1, u "java/lang/StringUTF16"), (0, u "compress"), (1, .methodref 42 48), (0, .nameAndType 49 50), (0, u "coderFromArrayLen"), (0, u "([BI)B"), (2, u "toBytes"), (53, .class_ 109), (1, u "java/lang/StringLatin1"), (67, .methodref 42 178), (0, .nameAndType 45 179), (0, u "([CII)[B"), (29, .methodref 10 210), (0, .nameAndType 5 211), (0, u "([BB)V"), (157, u "(C)Z"), (173, u "equals"), (29, u "(Ljava/lang/Object;)Z"), (1, .class_ 576), (0, u "java/lang/CharSequence"), (22, u "CASE_INSENSITIVE_ORDER"), (0, u "Ljava/util/Comparator;"), (181, u "valueOf"), (0, u "(C)Ljava/lang/String;"), (226, u "([C)V"), (4, .methodref 107 1016), (0, .nameAndType 1017 369), (0, u "canEncode"), (0, .methodref 107 1019), (0, .nameAndType 53 1020), (0, u "(C)[B"), (80, u "serialPersistentFields"), (0, u "[Ljava/io/ObjectStreamField;"), (0, .class_ 1104), (0, u "java/lang/String$CaseInsensitiveComparator"), (1, .class_ 1107), (0, u "java/io/Serializable"), (0, .class_ 1109), (0, u "java/lang/Comparable"), (0, .class_ 1111), (0, u "java/lang/constant/Constable"), (0, .class_ 1113), (0, u "java/lang/constant/ConstantDesc"), (2, u "serialVersionUID"), (0, u "J"), (3, u "REPL"), (0, u "C"), (2, u "LATIN1"), (1, u "UTF16")] 323

def k7m0 : Method := { name := "<init>", desc := "()V", sig := { parameters := [], returnType := none }, accessFlags := 1, code := none }
def k7c1 : Code := { maxStack := 5, maxLocals := 2, code := jdk_42_method_3_code, exceptionTable := #[], attributes := #[] }
def k7m1 : Method := { name := "<init>", desc := "([C)V", sig := { parameters := [(.array .char)], returnType := none }, accessFlags := 1, code := some k7c1 }
def k7c2 : Code := { maxStack := 2, maxLocals := 3, code := jdk_42_method_66_code, exceptionTable := #[], attributes := #[] }
def k7m2 : Method := { name := "equals", desc := "(Ljava/lang/Object;)Z", sig := { parameters := [(.object "java/lang/Object")], returnType := some .boolean }, accessFlags := 1, code := some k7c2 }
def k7c3 : Code := { maxStack := 4, maxLocals := 1, code := jdk_42_method_139_code, exceptionTable := #[], attributes := #[] }
def k7m3 : Method := { name := "valueOf", desc := "(C)Ljava/lang/String;", sig := { parameters := [.char], returnType := some (.object "java/lang/String") }, accessFlags := 9, code := some k7c3 }
def k7c4 : Code := { maxStack := 4, maxLocals := 6, code := jdk_42_method_149_code, exceptionTable := #[], attributes := #[] }
def k7m4 : Method := { name := "<init>", desc := "([CIILjava/lang/Void;)V", sig := { parameters := [(.array .char), .int, .int, (.object "java/lang/Void")], returnType := none }, accessFlags := 2, code := some k7c4 }
def k7c5 : Code := { maxStack := 2, maxLocals := 3, code := jdk_42_method_151_code, exceptionTable := #[], attributes := #[] }
def k7m5 : Method := { name := "<init>", desc := "([BB)V", sig := { parameters := [(.array .byte), .byte], returnType := none }, accessFlags := 0, code := some k7c5 }
/-- java/lang/String -/
def k7 : Class := { plain "java/lang/String" (some 0) with
  accessFlags := 49
  interfaces := #[2, 3, 4, 5, 6]
  cf := some (fileOf pool7 10 #[.nestMembers #[1103]] #[{ accessFlags := 1, nameIndex := 5, descriptorIndex := 6, attributes := #[] }, { accessFlags := 1, nameIndex := 5, descriptorIndex := 1010, attributes := #[] }, { accessFlags := 1, nameIndex := 543, descriptorIndex := 573, attributes := #[] }, { accessFlags := 9, nameIndex := 782, descriptorIndex := 783, attributes := #[] }, { accessFlags := 2, nameIndex := 5, descriptorIndex := 29, attributes := #[] }, { accessFlags := 0, nameIndex := 5, descriptorIndex := 211, attributes := #[] }] 49 2 #[1106, 1108, 575, 1110, 1112] #[{ accessFlags := 18, nameIndex := 13, descriptorIndex := 14, attributes := #[] }, { accessFlags := 18, nameIndex := 17, descriptorIndex := 18, attributes := #[] }, { accessFlags := 2, nameIndex := 21, descriptorIndex := 22, attributes := #[] }, { accessFlags := 2, nameIndex := 25, descriptorIndex := 26, attributes := #[] }, { accessFlags := 26, nameIndex := 1116, descriptorIndex := 1117, attributes := #[] }, { accessFlags := 24, nameIndex := 40, descriptorIndex := 26, attributes := #[] }, { accessFlags := 26, nameIndex := 1101, descriptorIndex := 1102, attributes := #[] }, { accessFlags := 26, nameIndex := 1121, descriptorIndex := 1122, attributes := #[] }, { accessFlags := 25, nameIndex := 599, descriptorIndex := 600, attributes := #[] }, { accessFlags := 24, nameIndex := 1125, descriptorIndex := 18, attributes := #[] }, { accessFlags := 24, nameIndex := 1127, descriptorIndex := 18, attributes := #[] }])
  fields := #[{ name := "value", type := (.array .byte), accessFlags := 18, slot := 0, constantValue := 0 }, { name := "coder", type := .byte, accessFlags := 18, slot := 1, constantValue := 0 }, { name := "hash", type := .int, accessFlags := 2, slot := 2, constantValue := 0 }, { name := "hashIsZero", type := .boolean, accessFlags := 2, slot := 3, constantValue := 0 }, { name := "serialVersionUID", type := .long, accessFlags := 26, slot := 0, constantValue := 0 }, { name := "COMPACT_STRINGS", type := .boolean, accessFlags := 24, slot := 1, constantValue := 0 }, { name := "serialPersistentFields", type := (.array (.object "java/io/ObjectStreamField")), accessFlags := 26, slot := 2, constantValue := 0 }, { name := "REPL", type := .char, accessFlags := 26, slot := 3, constantValue := 0 }, { name := "CASE_INSENSITIVE_ORDER", type := (.object "java/util/Comparator"), accessFlags := 25, slot := 4, constantValue := 0 }, { name := "LATIN1", type := .byte, accessFlags := 24, slot := 5, constantValue := 0 }, { name := "UTF16", type := .byte, accessFlags := 24, slot := 6, constantValue := 0 }]
  methods := #[k7m0, k7m1, k7m2, k7m3, k7m4, k7m5]
  instanceTypes := #[(.array .byte), .byte, .int, .boolean]
  staticTypes := #[.long, .boolean, (.array (.object "java/io/ObjectStreamField")), .char, (.object "java/util/Comparator"), .byte, .byte]
  resolved := Array.replicate 1451 none
  statics := some 0 }

def pool8 : Array CpInfo := pool [(1, .methodref 2 3), (0, .class_ 4), (0, .nameAndType 5 6), (0, u "java/lang/Object"), (0, u "<init>"), (0, u "()V"), (0, .fieldref 8 9), (0, .class_ 10), (0, .nameAndType 11 12), (0, u "com/example/dirbound/dirbound/CompositeName"), (0, u "components"), (0, u "Ljava/util/List;"), (0, .interfaceMethodref 14 15), (0, .class_ 16), (0, .nameAndType 17 18), (0, u "java/util/List"), (0, u "of"), (0, u "([Ljava/lang/Object;)Ljava/util/List;"), (0, .methodref 8 20), (0, .nameAndType 5 21), (0, u "(Ljava/util/List;)V"), (24, u "SYNTAX"), (0, u "Lcom/example/dirbound/dirbound/CompoundSyntax;"), (12, u "([Ljava/lang/String;)Lcom/example/dirbound/dirbound/CompositeName;"), (87, .class_ 149), (0, u "java/lang/Comparable"), (0, u "SEPARATOR"), (0, u "C"), (12, u "()Ljava/util/List;")] 28

def k8c0 : Code := { maxStack := 2, maxLocals := 2, code := prog_5_method_1_code, exceptionTable := #[], attributes := #[] }
def k8m0 : Method := { name := "<init>", desc := "(Ljava/util/List;)V", sig := { parameters := [(.object "java/util/List")], returnType := none }, accessFlags := 2, code := some k8c0 }
def k8c1 : Code := { maxStack := 3, maxLocals := 1, code := prog_5_method_2_code, exceptionTable := #[], attributes := #[] }
def k8m1 : Method := { name := "of", desc := "([Ljava/lang/String;)Lcom/example/dirbound/dirbound/CompositeName;", sig := { parameters := [(.array (.object "java/lang/String"))], returnType := some (.object "com/example/dirbound/dirbound/CompositeName") }, accessFlags := 137, code := some k8c1 }
def k8c2 : Code := { maxStack := 1, maxLocals := 1, code := prog_5_method_6_code, exceptionTable := #[], attributes := #[] }
def k8m2 : Method := { name := "components", desc := "()Ljava/util/List;", sig := { parameters := [], returnType := some (.object "java/util/List") }, accessFlags := 1, code := some k8c2 }
/-- com/example/dirbound/dirbound/CompositeName -/
def k8 : Class := { plain "com/example/dirbound/dirbound/CompositeName" (some 0) with
  accessFlags := 49
  interfaces := #[3]
  cf := some (fileOf pool8 8 #[] #[{ accessFlags := 2, nameIndex := 5, descriptorIndex := 21, attributes := #[] }, { accessFlags := 137, nameIndex := 17, descriptorIndex := 60, attributes := #[] }, { accessFlags := 1, nameIndex := 11, descriptorIndex := 164, attributes := #[] }] 49 2 #[148] #[{ accessFlags := 26, nameIndex := 150, descriptorIndex := 151, attributes := #[] }, { accessFlags := 26, nameIndex := 46, descriptorIndex := 47, attributes := #[] }, { accessFlags := 18, nameIndex := 11, descriptorIndex := 12, attributes := #[] }])
  fields := #[{ name := "SEPARATOR", type := .char, accessFlags := 26, slot := 0, constantValue := 0 }, { name := "SYNTAX", type := (.object "com/example/dirbound/dirbound/CompoundSyntax"), accessFlags := 26, slot := 1, constantValue := 0 }, { name := "components", type := (.object "java/util/List"), accessFlags := 18, slot := 0, constantValue := 0 }]
  methods := #[k8m0, k8m1, k8m2]
  instanceTypes := #[(.object "java/util/List")]
  staticTypes := #[.char, (.object "com/example/dirbound/dirbound/CompoundSyntax")]
  resolved := Array.replicate 193 none
  statics := none }

def pool9 : Array CpInfo := pool [(8, .class_ 10), (1, u "java/lang/Iterable"), (24, .class_ 36), (0, u "java/lang/Object")] 25

/-- java/lang/Iterable -/
def k9 : Class := { plain "java/lang/Iterable" (some 0) with
  accessFlags := 1537
  interfaces := #[]
  cf := some (fileOf pool9 8 #[] #[] 1537 35 #[] #[])
  fields := #[]
  methods := #[]
  instanceTypes := #[]
  staticTypes := #[]
  resolved := Array.replicate 62 none
  statics := none }

def pool10 : Array CpInfo := pool [(10, .class_ 12), (1, u "java/util/Collection"), (47, .class_ 61), (0, u "java/lang/Object"), (0, .class_ 63), (0, u "java/lang/Iterable")] 51

/-- java/util/Collection -/
def k10 : Class := { plain "java/util/Collection" (some 0) with
  accessFlags := 1537
  interfaces := #[9]
  cf := some (fileOf pool10 10 #[] #[] 1537 60 #[62] #[])
  fields := #[]
  methods := #[]
  instanceTypes := #[]
  staticTypes := #[]
  resolved := Array.replicate 115 none
  statics := none }

def pool11 : Array CpInfo := pool [(8, .class_ 10), (1, u "java/util/SequencedCollection"), (15, .class_ 27), (0, u "java/lang/Object"), (0, .class_ 29), (0, u "java/util/Collection")] 27

/-- java/util/SequencedCollection -/
def k11 : Class := { plain "java/util/SequencedCollection" (some 0) with
  accessFlags := 1537
  interfaces := #[10]
  cf := some (fileOf pool11 8 #[] #[] 1537 26 #[28] #[])
  fields := #[]
  methods := #[]
  instanceTypes := #[]
  staticTypes := #[]
  resolved := Array.replicate 57 none
  statics := none }

def pool12 : Array CpInfo := pool [(8, .class_ 10), (1, u "java/util/List"), (20, u "(Ljava/lang/Object;)V"), (16, u "<init>"), (26, u "get"), (0, u "(I)Ljava/lang/Object;"), (2, u "size"), (0, u "()I"), (7, u "of"), (1, .fieldref 91 92), (0, .class_ 93), (0, .nameAndType 94 95), (0, u "java/util/ImmutableCollections"), (0, u "EMPTY_LIST"), (0, u "Ljava/util/ImmutableCollections$ListN;"), (0, .class_ 97), (0, u "java/util/ImmutableCollections$List12"), (0, .methodref 96 99), (0, .nameAndType 48 31), (0, .methodref 96 101), (0, .nameAndType 48 102), (0, u "(Ljava/lang/Object;Ljava/lang/Object;)V"), (0, .class_ 104), (0, u "java/lang/Object"), (3, u "([Ljava/lang/Object;)Ljava/util/List;"), (0, .methodref 91 110), (0, .nameAndType 111 108), (0, u "listFromArray"), (8, .class_ 121), (0, u "java/util/SequencedCollection")] 129

def k12m0 : Method := { name := "size", desc := "()I", sig := { parameters := [], returnType := some .int }, accessFlags := 1025, code := none }
def k12m1 : Method := { name := "get", desc := "(I)Ljava/lang/Object;", sig := { parameters := [.int], returnType := some (.object "java/lang/Object") }, accessFlags := 1025, code := none }
def k12c2 : Code := { maxStack := 5, maxLocals := 2, code := jdk_40_method_47_code, exceptionTable := #[], attributes := #[] }
def k12m2 : Method := { name := "of", desc := "([Ljava/lang/Object;)Ljava/util/List;", sig := { parameters := [(.array (.object "java/lang/Object"))], returnType := some (.object "java/util/List") }, accessFlags := 137, code := some k12c2 }
/-- java/util/List -/
def k12 : Class := { plain "java/util/List" (some 0) with
  accessFlags := 1537
  interfaces := #[11]
  cf := some (fileOf pool12 8 #[] #[{ accessFlags := 1025, nameIndex := 79, descriptorIndex := 80, attributes := #[] }, { accessFlags := 1025, nameIndex := 75, descriptorIndex := 76, attributes := #[] }, { accessFlags := 137, nameIndex := 88, descriptorIndex := 108, attributes := #[] }] 1537 103 #[120] #[])
  fields := #[]
  methods := #[k12m0, k12m1, k12m2]
  instanceTypes := #[]
  staticTypes := #[]
  resolved := Array.replicate 251 none
  statics := none }

def pool13 : Array CpInfo := pool [(2, .class_ 4), (1, u "java/lang/Object"), (0, u "<init>"), (0, u "()V"), (3, .class_ 11), (0, u "java/util/ImmutableCollections$List12"), (0, .class_ 13), (0, u "java/util/ImmutableCollections$ListN"), (3, u "Z"), (18, u "([Ljava/lang/Object;)Ljava/util/List;"), (0, .methodref 38 39), (0, .class_ 40), (0, .nameAndType 41 42), (0, u "java/util/Objects"), (0, u "requireNonNull"), (0, u "(Ljava/lang/Object;)Ljava/lang/Object;"), (0, .methodref 12 44), (0, .nameAndType 5 45), (0, u "([Ljava/lang/Object;Z)V"), (1, .class_ 49), (1, u "java/util/ImmutableCollections"), (0, u "$assertionsDisabled"), (5, u "[Ljava/lang/Object;"), (5, u "EMPTY_LIST"), (0, u "Ljava/util/ImmutableCollections$ListN;"), (8, u "EMPTY_LIST_NULLS"), (22, u "SALT32L"), (0, u "J"), (2, u "REVERSE"), (6, u "archivedObjects"), (2, u "EMPTY"), (0, u "Ljava/lang/Object;"), (0, .class_ 112), (0, u "java/util/ImmutableCollections$SetN"), (5, u "EMPTY_SET"), (0, u "Ljava/util/ImmutableCollections$SetN;"), (0, .class_ 121), (0, u "java/util/ImmutableCollections$MapN"), (3, u "EMPTY_MAP"), (0, u "Ljava/util/ImmutableCollections$MapN;"), (4, u "EXPAND_FACTOR"), (0, u "I"), (18, u "listFromArray"), (17, .class_ 170), (0, u "java/util/ImmutableCollections$MapN$MapNIterator"), (0, .class_ 172), (0, u "java/util/ImmutableCollections$MapN$1"), (0, .class_ 174), (0, u "java/util/ImmutableCollections$Map1"), (0, .class_ 176), (0, u "java/util/ImmutableCollections$AbstractImmutableMap"), (0, .class_ 178), (0, u "java/util/ImmutableCollections$SetN$SetNIterator"), (0, .class_ 180), (0, u "java/util/ImmutableCollections$Set12"), (0, .class_ 182), (0, u "java/util/ImmutableCollections$Set12$1"), (0, .class_ 184), (0, u "java/util/ImmutableCollections$AbstractImmutableSet"), (0, .class_ 186), (0, u "java/util/ImmutableCollections$SubList"), (0, .class_ 188), (0, u "java/util/ImmutableCollections$ListItr"), (0, .class_ 190), (0, u "java/util/ImmutableCollections$AbstractImmutableList"), (0, .class_ 192), (0, u "java/util/ImmutableCollections$AbstractImmutableCollection"), (0, .class_ 194), (0, u "java/util/ImmutableCollections$Access"), (0, .class_ 196), (0, u "java/util/ImmutableCollections$Access$1")] 16

def k13m0 : Method := { name := "<init>", desc := "()V", sig := { parameters := [], returnType := none }, accessFlags := 2, code := none }
def k13c1 : Code := { maxStack := 4, maxLocals := 3, code := jdk_56_method_4_code, exceptionTable := #[], attributes := #[] }
def k13m1 : Method := { name := "listFromArray", desc := "([Ljava/lang/Object;)Ljava/util/List;", sig := { parameters := [(.array (.object "java/lang/Object"))], returnType := some (.object "java/util/List") }, accessFlags := 136, code := some k13c1 }
/-- java/util/ImmutableCollections -/
def k13 : Class := { plain "java/util/ImmutableCollections" (some 0) with
  accessFlags := 32
  interfaces := #[]
  cf := some (fileOf pool13 47 #[.nestMembers #[120, 169, 171, 173, 175, 111, 177, 179, 181, 183, 12, 10, 185, 187, 189, 191, 193, 195]] #[{ accessFlags := 2, nameIndex := 5, descriptorIndex := 6, attributes := #[] }, { accessFlags := 136, nameIndex := 151, descriptorIndex := 36, attributes := #[] }] 32 2 #[] #[{ accessFlags := 26, nameIndex := 95, descriptorIndex := 96, attributes := #[] }, { accessFlags := 26, nameIndex := 99, descriptorIndex := 17, attributes := #[] }, { accessFlags := 10, nameIndex := 106, descriptorIndex := 56, attributes := #[] }, { accessFlags := 26, nameIndex := 109, descriptorIndex := 110, attributes := #[] }, { accessFlags := 24, nameIndex := 62, descriptorIndex := 63, attributes := #[] }, { accessFlags := 24, nameIndex := 72, descriptorIndex := 63, attributes := #[] }, { accessFlags := 24, nameIndex := 118, descriptorIndex := 119, attributes := #[] }, { accessFlags := 24, nameIndex := 125, descriptorIndex := 126, attributes := #[] }, { accessFlags := 24, nameIndex := 131, descriptorIndex := 132, attributes := #[] }, { accessFlags := 4120, nameIndex := 50, descriptorIndex := 17, attributes := #[] }])
  fields := #[{ name := "SALT32L", type := .long, accessFlags := 26, slot := 0, constantValue := 0 }, { name := "REVERSE", type := .boolean, accessFlags := 26, slot := 1, constantValue := 0 }, { name := "archivedObjects", type := (.array (.object "java/lang/Object")), accessFlags := 10, slot := 2, constantValue := 0 }, { name := "EMPTY", type := (.object "java/lang/Object"), accessFlags := 26, slot := 3, constantValue := 0 }, { name := "EMPTY_LIST", type := (.object "java/util/ImmutableCollections$ListN"), accessFlags := 24, slot := 4, constantValue := 0 }, { name := "EMPTY_LIST_NULLS", type := (.object "java/util/ImmutableCollections$ListN"), accessFlags := 24, slot := 5, constantValue := 0 }, { name := "EMPTY_SET", type := (.object "java/util/ImmutableCollections$SetN"), accessFlags := 24, slot := 6, constantValue := 0 }, { name := "EMPTY_MAP", type := (.object "java/util/ImmutableCollections$MapN"), accessFlags := 24, slot := 7, constantValue := 0 }, { name := "EXPAND_FACTOR", type := .int, accessFlags := 24, slot := 8, constantValue := 0 }, { name := "$assertionsDisabled", type := .boolean, accessFlags := 4120, slot := 9, constantValue := 0 }]
  methods := #[k13m0, k13m1]
  instanceTypes := #[]
  staticTypes := #[.long, .boolean, (.array (.object "java/lang/Object")), (.object "java/lang/Object"), (.object "java/util/ImmutableCollections$ListN"), (.object "java/util/ImmutableCollections$ListN"), (.object "java/util/ImmutableCollections$SetN"), (.object "java/util/ImmutableCollections$MapN"), .int, .boolean]
  resolved := Array.replicate 213 none
  statics := some 1 }

def pool14 : Array CpInfo := pool [(1, .methodref 2 3), (0, .class_ 4), (0, .nameAndType 5 6), (0, u "java/lang/Object"), (0, u "<init>"), (0, u "()V"), (1, .class_ 10), (1, u "java/util/AbstractCollection"), (66, .class_ 78), (0, u "java/util/Collection")] 81

def k14c0 : Code := { maxStack := 1, maxLocals := 1, code := jdk_22_method_1_code, exceptionTable := #[], attributes := #[] }
def k14m0 : Method := { name := "<init>", desc := "()V", sig := { parameters := [], returnType := none }, accessFlags := 4, code := some k14c0 }
/-- java/util/AbstractCollection -/
def k14 : Class := { plain "java/util/AbstractCollection" (some 0) with
  accessFlags := 1057
  interfaces := #[10]
  cf := some (fileOf pool14 8 #[] #[{ accessFlags := 4, nameIndex := 5, descriptorIndex := 6, attributes := #[] }] 1057 2 #[77] #[])
  fields := #[]
  methods := #[k14m0]
  instanceTypes := #[]
  staticTypes := #[]
  resolved := Array.replicate 160 none
  statics := none }

def pool15 : Array CpInfo := pool [(1, .methodref 2 3), (0, .class_ 4), (0, .nameAndType 5 6), (0, u "java/util/AbstractCollection"), (0, u "<init>"), (0, u "()V"), (1, .class_ 10), (1, u "java/util/ImmutableCollections"), (2, .class_ 14), (0, u "java/util/ImmutableCollections$AbstractImmutableCollection")] 41

def k15c0 : Code := { maxStack := 1, maxLocals := 1, code := jdk_47_method_1_code, exceptionTable := #[], attributes := #[] }
def k15m0 : Method := { name := "<init>", desc := "()V", sig := { parameters := [], returnType := none }, accessFlags := 0, code := some k15c0 }
/-- java/util/ImmutableCollections$AbstractImmutableCollection -/
def k15 : Class := { plain "java/util/ImmutableCollections$AbstractImmutableCollection" (some 14) with
  accessFlags := 1056
  interfaces := #[]
  cf := some (fileOf pool15 13 #[.nestHost 8] #[{ accessFlags := 0, nameIndex := 5, descriptorIndex := 6, attributes := #[] }] 1056 2 #[] #[])
  fields := #[]
  methods := #[k15m0]
  instanceTypes := #[]
  staticTypes := #[]
  resolved := Array.replicate 56 none
  statics := none }

def pool16 : Array CpInfo := pool [(1, .class_ 2), (0, u "java/util/RandomAccess"), (0, .class_ 4), (0, u "java/lang/Object")] 2

/-- java/util/RandomAccess -/
def k16 : Class := { plain "java/util/RandomAccess" (some 0) with
  accessFlags := 1537
  interfaces := #[]
  cf := some (fileOf pool16 1 #[] #[] 1537 3 #[] #[])
  fields := #[]
  methods := #[]
  instanceTypes := #[]
  staticTypes := #[]
  resolved := Array.replicate 7 none
  statics := none }

def pool17 : Array CpInfo := pool [(1, .methodref 2 3), (0, .class_ 4), (0, .nameAndType 5 6), (0, u "java/util/ImmutableCollections$AbstractImmutableCollection"), (0, u "<init>"), (0, u "()V"), (1, .class_ 10), (1, u "java/util/ImmutableCollections"), (3, .class_ 16), (1, u "java/util/ImmutableCollections$AbstractImmutableList"), (60, .class_ 78), (0, u "java/util/List"), (45, .class_ 125), (0, u "java/util/RandomAccess")] 70

def k17c0 : Code := { maxStack := 1, maxLocals := 1, code := jdk_46_method_1_code, exceptionTable := #[], attributes := #[] }
def k17m0 : Method := { name := "<init>", desc := "()V", sig := { parameters := [], returnType := none }, accessFlags := 0, code := some k17c0 }
/-- java/util/ImmutableCollections$AbstractImmutableList -/
def k17 : Class := { plain "java/util/ImmutableCollections$AbstractImmutableList" (some 15) with
  accessFlags := 1056
  interfaces := #[12, 16]
  cf := some (fileOf pool17 14 #[.nestHost 8] #[{ accessFlags := 0, nameIndex := 5, descriptorIndex := 6, attributes := #[] }] 1056 2 #[77, 124] #[])
  fields := #[]
  methods := #[k17m0]
  instanceTypes := #[]
  staticTypes := #[]
  resolved := Array.replicate 196 none
  statics := none }

def pool18 : Array CpInfo := pool [(1, .methodref 2 3), (0, .class_ 4), (0, .nameAndType 5 6), (0, u "java/util/ImmutableCollections$AbstractImmutableList"), (0, u "<init>"), (0, u "()V"), (0, .fieldref 8 9), (0, .class_ 10), (0, .nameAndType 11 12), (0, u "java/util/ImmutableCollections$ListN"), (0, u "elements"), (0, u "[Ljava/lang/Object;"), (0, .fieldref 8 14), (0, .nameAndType 15 16), (0, u "allowNulls"), (0, u "Z"), (42, .class_ 60), (0, u "java/io/Serializable"), (4, u "([Ljava/lang/Object;Z)V"), (11, u "size"), (0, u "()I"), (0, u "get"), (0, u "(I)Ljava/lang/Object;"), (33, .class_ 115), (0, u "java/util/ImmutableCollections")] 3

def k18c0 : Code := { maxStack := 2, maxLocals := 3, code := jdk_45_method_1_code, exceptionTable := #[], attributes := #[] }
def k18m0 : Method := { name := "<init>", desc := "([Ljava/lang/Object;Z)V", sig := { parameters := [(.array (.object "java/lang/Object")), .boolean], returnType := none }, accessFlags := 2, code := some k18c0 }
def k18c1 : Code := { maxStack := 1, maxLocals := 1, code := jdk_45_method_3_code, exceptionTable := #[], attributes := #[] }
def k18m1 : Method := { name := "size", desc := "()I", sig := { parameters := [], returnType := some .int }, accessFlags := 1, code := some k18c1 }
def k18c2 : Code := { maxStack := 2, maxLocals := 2, code := jdk_45_method_4_code, exceptionTable := #[], attributes := #[] }
def k18m2 : Method := { name := "get", desc := "(I)Ljava/lang/Object;", sig := { parameters := [.int], returnType := some (.object "java/lang/Object") }, accessFlags := 1, code := some k18c2 }
/-- java/util/ImmutableCollections$ListN -/
def k18 : Class := { plain "java/util/ImmutableCollections$ListN" (some 17) with
  accessFlags := 48
  interfaces := #[2]
  cf := some (fileOf pool18 8 #[.nestHost 114] #[{ accessFlags := 2, nameIndex := 5, descriptorIndex := 65, attributes := #[] }, { accessFlags := 1, nameIndex := 77, descriptorIndex := 78, attributes := #[] }, { accessFlags := 1, nameIndex := 79, descriptorIndex := 80, attributes := #[] }] 48 2 #[59] #[{ accessFlags := 18, nameIndex := 11, descriptorIndex := 12, attributes := #[] }, { accessFlags := 18, nameIndex := 15, descriptorIndex := 16, attributes := #[] }])
  fields := #[{ name := "elements", type := (.array (.object "java/lang/Object")), accessFlags := 18, slot := 0, constantValue := 0 }, { name := "allowNulls", type := .boolean, accessFlags := 18, slot := 1, constantValue := 0 }]
  methods := #[k18m0, k18m1, k18m2]
  instanceTypes := #[(.array (.object "java/lang/Object")), .boolean]
  staticTypes := #[]
  resolved := Array.replicate 119 none
  statics := none }

def pool19 : Array CpInfo := pool [(2, .class_ 4), (1, u "java/lang/Object"), (0, u "<init>"), (0, u "()V"), (35, .class_ 44), (1, u "java/util/Objects"), (0, u "requireNonNull"), (0, u "(Ljava/lang/Object;)Ljava/lang/Object;")] 137

def k19m0 : Method := { name := "<init>", desc := "()V", sig := { parameters := [], returnType := none }, accessFlags := 2, code := none }
def k19c1 : Code := { maxStack := 2, maxLocals := 1, code := jdk_31_method_10_code, exceptionTable := #[], attributes := #[] }
def k19m1 : Method := { name := "requireNonNull", desc := "(Ljava/lang/Object;)Ljava/lang/Object;", sig := { parameters := [(.object "java/lang/Object")], returnType := some (.object "java/lang/Object") }, accessFlags := 9, code := some k19c1 }
/-- java/util/Objects -/
def k19 : Class := { plain "java/util/Objects" (some 0) with
  accessFlags := 49
  interfaces := #[]
  cf := some (fileOf pool19 42 #[] #[{ accessFlags := 2, nameIndex := 5, descriptorIndex := 6, attributes := #[] }, { accessFlags := 9, nameIndex := 45, descriptorIndex := 46, attributes := #[] }] 49 2 #[] #[])
  fields := #[]
  methods := #[k19m0, k19m1]
  instanceTypes := #[]
  staticTypes := #[]
  resolved := Array.replicate 184 none
  statics := none }

def pool20 : Array CpInfo := pool [(4, .class_ 6), (1, u "java/lang/Object"), (0, u "<init>"), (0, u "()V"), (5, .class_ 16), (1, u "java/lang/StringLatin1"), (73, u "canEncode"), (14, u "(C)Z"), (15, u "$assertionsDisabled"), (0, u "Z"), (98, .class_ 223), (1, u "java/lang/StringLatin1$LinesSpliterator"), (156, u "toBytes"), (1, u "(C)[B"), (7, .class_ 391), (0, u "java/lang/StringLatin1$CharsSpliterator")] 3

def k20m0 : Method := { name := "<init>", desc := "()V", sig := { parameters := [], returnType := none }, accessFlags := 0, code := none }
def k20c1 : Code := { maxStack := 2, maxLocals := 1, code := jdk_43_method_3_code, exceptionTable := #[], attributes := #[] }
def k20m1 : Method := { name := "canEncode", desc := "(C)Z", sig := { parameters := [.char], returnType := some .boolean }, accessFlags := 9, code := some k20c1 }
def k20c2 : Code := { maxStack := 4, maxLocals := 1, code := jdk_43_method_46_code, exceptionTable := #[], attributes := #[] }
def k20m2 : Method := { name := "toBytes", desc := "(C)[B", sig := { parameters := [.char], returnType := some (.array .byte) }, accessFlags := 9, code := some k20c2 }
/-- java/lang/StringLatin1 -/
def k20 : Class := { plain "java/lang/StringLatin1" (some 0) with
  accessFlags := 48
  interfaces := #[]
  cf := some (fileOf pool20 14 #[.nestMembers #[390, 221]] #[{ accessFlags := 0, nameIndex := 7, descriptorIndex := 8, attributes := #[] }, { accessFlags := 9, nameIndex := 90, descriptorIndex := 105, attributes := #[] }, { accessFlags := 9, nameIndex := 380, descriptorIndex := 382, attributes := #[] }] 48 4 #[] #[{ accessFlags := 4120, nameIndex := 121, descriptorIndex := 122, attributes := #[] }])
  fields := #[{ name := "$assertionsDisabled", type := .boolean, accessFlags := 4120, slot := 0, constantValue := 0 }]
  methods := #[k20m0, k20m1, k20m2]
  instanceTypes := #[]
  staticTypes := #[.boolean]
  resolved := Array.replicate 395 none
  statics := none }

def pool21 : Array CpInfo := pool [(6, .class_ 8), (1, u "java/lang/Object"), (0, u "<init>"), (0, u "()V"), (1, .class_ 14), (1, u "java/lang/StringUTF16"), (31, u "$assertionsDisabled"), (0, u "Z"), (13, u "HI_BYTE_SHIFT"), (0, u "I"), (2, u "LO_BYTE_SHIFT"), (49, .methodref 12 116), (0, .nameAndType 117 118), (0, u "compress"), (0, u "([CI[BII)I"), (3, u "([CII)[B"), (138, u "coderFromArrayLen"), (0, u "([BI)B"), (106, .class_ 371), (1, u "java/lang/StringUTF16$LinesSpliterator"), (58, u "MAX_LENGTH"), (196, .class_ 628), (0, u "java/lang/StringUTF16$CodePointsSpliterator"), (0, .class_ 630), (0, u "java/lang/StringUTF16$CharsSpliterator")] 4

def k21m0 : Method := { name := "<init>", desc := "()V", sig := { parameters := [], returnType := none }, accessFlags := 0, code := none }
def k21c1 : Code := { maxStack := 2, maxLocals := 2, code := jdk_52_method_15_code, exceptionTable := #[], attributes := #[] }
def k21m1 : Method := { name := "coderFromArrayLen", desc := "([BI)B", sig := { parameters := [(.array .byte), .int], returnType := some .byte }, accessFlags := 8, code := some k21c1 }
def k21c2 : Code := { maxStack := 5, maxLocals := 6, code := jdk_52_method_16_code, exceptionTable := #[], attributes := #[] }
def k21m2 : Method := { name := "compress", desc := "([CII)[B", sig := { parameters := [(.array .char), .int, .int], returnType := some (.array .byte) }, accessFlags := 9, code := some k21c2 }
def k21c3 : Code := { maxStack := 3, maxLocals := 7, code := jdk_52_method_21_code, exceptionTable := #[], attributes := #[] }
def k21m3 : Method := { name := "compress", desc := "([CI[BII)I", sig := { parameters := [(.array .char), .int, (.array .byte), .int, .int], returnType := some .int }, accessFlags := 9, code := some k21c3 }
/-- java/lang/StringUTF16 -/
def k21 : Class := { plain "java/lang/StringUTF16" (some 0) with
  accessFlags := 48
  interfaces := #[]
  cf := some (fileOf pool21 12 #[.nestMembers #[627, 629, 369]] #[{ accessFlags := 0, nameIndex := 9, descriptorIndex := 10, attributes := #[] }, { accessFlags := 8, nameIndex := 261, descriptorIndex := 262, attributes := #[] }, { accessFlags := 9, nameIndex := 117, descriptorIndex := 122, attributes := #[] }, { accessFlags := 9, nameIndex := 117, descriptorIndex := 118, attributes := #[] }] 48 6 #[] #[{ accessFlags := 26, nameIndex := 61, descriptorIndex := 62, attributes := #[] }, { accessFlags := 26, nameIndex := 65, descriptorIndex := 62, attributes := #[] }, { accessFlags := 24, nameIndex := 430, descriptorIndex := 62, attributes := #[] }, { accessFlags := 4120, nameIndex := 46, descriptorIndex := 47, attributes := #[] }])
  fields := #[{ name := "HI_BYTE_SHIFT", type := .int, accessFlags := 26, slot := 0, constantValue := 0 }, { name := "LO_BYTE_SHIFT", type := .int, accessFlags := 26, slot := 1, constantValue := 0 }, { name := "MAX_LENGTH", type := .int, accessFlags := 24, slot := 2, constantValue := 0 }, { name := "$assertionsDisabled", type := .boolean, accessFlags := 4120, slot := 3, constantValue := 0 }]
  methods := #[k21m0, k21m1, k21m2, k21m3]
  instanceTypes := #[]
  staticTypes := #[.int, .int, .int, .boolean]
  resolved := Array.replicate 635 none
  statics := none }

def pool22 : Array CpInfo := pool [(1, .methodref 2 3), (0, .class_ 4), (0, .nameAndType 5 6), (0, u "java/util/ImmutableCollections$AbstractImmutableList"), (0, u "<init>"), (0, u "()V"), (0, .methodref 8 9), (0, .class_ 10), (0, .nameAndType 11 12), (0, u "java/util/Objects"), (0, u "requireNonNull"), (0, u "(Ljava/lang/Object;)Ljava/lang/Object;"), (0, .fieldref 14 15), (0, .class_ 16), (0, .nameAndType 17 18), (0, u "java/util/ImmutableCollections$List12"), (0, u "e0"), (0, u "Ljava/lang/Object;"), (0, .fieldref 20 21), (0, .class_ 22), (0, .nameAndType 23 18), (0, u "java/util/ImmutableCollections"), (0, u "EMPTY"), (0, .fieldref 14 25), (0, .nameAndType 26 18), (0, u "e1"), (24, u "size"), (0, u "()I"), (17, .class_ 71), (0, u "java/io/Serializable"), (4, u "(Ljava/lang/Object;)V"), (8, u "(Ljava/lang/Object;Ljava/lang/Object;)V"), (4, u "get"), (0, u "(I)Ljava/lang/Object;")] 33

def k22c0 : Code := { maxStack := 2, maxLocals := 2, code := jdk_44_method_1_code, exceptionTable := #[], attributes := #[] }
def k22m0 : Method := { name := "<init>", desc := "(Ljava/lang/Object;)V", sig := { parameters := [(.object "java/lang/Object")], returnType := none }, accessFlags := 0, code := some k22c0 }
def k22c1 : Code := { maxStack := 2, maxLocals := 3, code := jdk_44_method_2_code, exceptionTable := #[], attributes := #[] }
def k22m1 : Method := { name := "<init>", desc := "(Ljava/lang/Object;Ljava/lang/Object;)V", sig := { parameters := [(.object "java/lang/Object"), (.object "java/lang/Object")], returnType := none }, accessFlags := 0, code := some k22c1 }
def k22c2 : Code := { maxStack := 2, maxLocals := 1, code := jdk_44_method_3_code, exceptionTable := #[], attributes := #[] }
def k22m2 : Method := { name := "size", desc := "()I", sig := { parameters := [], returnType := some .int }, accessFlags := 1, code := some k22c2 }
def k22c3 : Code := { maxStack := 2, maxLocals := 2, code := jdk_44_method_5_code, exceptionTable := #[], attributes := #[] }
def k22m3 : Method := { name := "get", desc := "(I)Ljava/lang/Object;", sig := { parameters := [.int], returnType := some (.object "java/lang/Object") }, accessFlags := 1, code := some k22c3 }
/-- java/util/ImmutableCollections$List12 -/
def k22 : Class := { plain "java/util/ImmutableCollections$List12" (some 17) with
  accessFlags := 48
  interfaces := #[2]
  cf := some (fileOf pool22 14 #[.nestHost 20] #[{ accessFlags := 0, nameIndex := 5, descriptorIndex := 76, attributes := #[] }, { accessFlags := 0, nameIndex := 5, descriptorIndex := 85, attributes := #[] }, { accessFlags := 1, nameIndex := 51, descriptorIndex := 52, attributes := #[] }, { accessFlags := 1, nameIndex := 90, descriptorIndex := 91, attributes := #[] }] 48 2 #[70] #[{ accessFlags := 18, nameIndex := 17, descriptorIndex := 18, attributes := #[] }, { accessFlags := 18, nameIndex := 26, descriptorIndex := 18, attributes := #[] }])
  fields := #[{ name := "e0", type := (.object "java/lang/Object"), accessFlags := 18, slot := 0, constantValue := 0 }, { name := "e1", type := (.object "java/lang/Object"), accessFlags := 18, slot := 1, constantValue := 0 }]
  methods := #[k22m0, k22m1, k22m2, k22m3]
  instanceTypes := #[(.object "java/lang/Object"), (.object "java/lang/Object")]
  staticTypes := #[]
  resolved := Array.replicate 125 none
  statics := none }

def pool23 : Array CpInfo := pool [(2, .class_ 4), (1, u "java/lang/Object"), (0, u "<init>"), (0, u "()V"), (17, .class_ 26), (1, u "jdk/internal/util/Preconditions"), (28, .class_ 56), (0, u "jdk/internal/util/Preconditions$4"), (57, .class_ 115), (0, u "jdk/internal/util/Preconditions$1"), (7, u "SIOOBE_FORMATTER"), (0, u "Ljava/util/function/BiFunction;"), (0, .class_ 126), (0, u "jdk/internal/util/Preconditions$2"), (3, u "AIOOBE_FORMATTER"), (0, .class_ 132), (0, u "jdk/internal/util/Preconditions$3"), (3, u "IOOBE_FORMATTER")] 57

def k23m0 : Method := { name := "<init>", desc := "()V", sig := { parameters := [], returnType := none }, accessFlags := 1, code := none }
/-- jdk/internal/util/Preconditions -/
def k23 : Class := { plain "jdk/internal/util/Preconditions" (some 0) with
  accessFlags := 33
  interfaces := #[]
  cf := some (fileOf pool23 24 #[.nestMembers #[55, 131, 125, 114]] #[{ accessFlags := 1, nameIndex := 5, descriptorIndex := 6, attributes := #[] }] 33 2 #[] #[{ accessFlags := 25, nameIndex := 123, descriptorIndex := 124, attributes := #[] }, { accessFlags := 25, nameIndex := 130, descriptorIndex := 124, attributes := #[] }, { accessFlags := 25, nameIndex := 136, descriptorIndex := 124, attributes := #[] }])
  fields := #[{ name := "SIOOBE_FORMATTER", type := (.object "java/util/function/BiFunction"), accessFlags := 25, slot := 0, constantValue := 0 }, { name := "AIOOBE_FORMATTER", type := (.object "java/util/function/BiFunction"), accessFlags := 25, slot := 1, constantValue := 0 }, { name := "IOOBE_FORMATTER", type := (.object "java/util/function/BiFunction"), accessFlags := 25, slot := 2, constantValue := 0 }]
  methods := #[k23m0]
  instanceTypes := #[]
  staticTypes := #[(.object "java/util/function/BiFunction"), (.object "java/util/function/BiFunction"), (.object "java/util/function/BiFunction")]
  resolved := Array.replicate 194 none
  statics := some 2 }

def pool24 : Array CpInfo := pool [(9, u "<init>"), (6, .class_ 18), (1, u "java/lang/Object"), (0, u "()V"), (1, .class_ 23), (1, u "jdk/internal/util/ArraysSupport"), (0, u "LOG2_ARRAY_LONG_INDEX_SCALE"), (0, u "I"), (2, u "U"), (0, u "Ljdk/internal/misc/Unsafe;"), (8, u "BIG_ENDIAN"), (0, u "Z"), (8, u "LOG2_BYTE_BIT_SIZE"), (4, u "LOG2_ARRAY_INT_INDEX_SCALE"), (54, u "JLA"), (0, u "Ljdk/internal/access/JavaLangAccess;"), (11, u "LOG2_ARRAY_BOOLEAN_INDEX_SCALE"), (9, u "LOG2_ARRAY_BYTE_INDEX_SCALE"), (5, u "LOG2_ARRAY_CHAR_INDEX_SCALE"), (5, u "LOG2_ARRAY_SHORT_INDEX_SCALE"), (18, u "LOG2_ARRAY_FLOAT_INDEX_SCALE"), (24, u "LOG2_ARRAY_DOUBLE_INDEX_SCALE"), (89, u "T_BOOLEAN"), (2, u "T_CHAR"), (1, u "T_FLOAT"), (1, u "T_DOUBLE"), (1, u "T_BYTE"), (1, u "T_SHORT"), (1, u "T_INT"), (1, u "T_LONG"), (1, u "SOFT_MAX_ARRAY_LENGTH")] 83

def k24m0 : Method := { name := "<init>", desc := "()V", sig := { parameters := [], returnType := none }, accessFlags := 2, code := none }
/-- jdk/internal/util/ArraysSupport -/
def k24 : Class := { plain "jdk/internal/util/ArraysSupport" (some 0) with
  accessFlags := 33
  interfaces := #[]
  cf := some (fileOf pool24 21 #[] #[{ accessFlags := 2, nameIndex := 9, descriptorIndex := 19, attributes := #[] }] 33 16 #[] #[{ accessFlags := 24, nameIndex := 28, descriptorIndex := 29, attributes := #[] }, { accessFlags := 26, nameIndex := 38, descriptorIndex := 39, attributes := #[] }, { accessFlags := 25, nameIndex := 121, descriptorIndex := 25, attributes := #[] }, { accessFlags := 25, nameIndex := 131, descriptorIndex := 25, attributes := #[] }, { accessFlags := 25, nameIndex := 137, descriptorIndex := 25, attributes := #[] }, { accessFlags := 25, nameIndex := 143, descriptorIndex := 25, attributes := #[] }, { accessFlags := 25, nameIndex := 53, descriptorIndex := 25, attributes := #[] }, { accessFlags := 25, nameIndex := 24, descriptorIndex := 25, attributes := #[] }, { accessFlags := 25, nameIndex := 162, descriptorIndex := 25, attributes := #[] }, { accessFlags := 25, nameIndex := 187, descriptorIndex := 25, attributes := #[] }, { accessFlags := 26, nameIndex := 48, descriptorIndex := 25, attributes := #[] }, { accessFlags := 25, nameIndex := 277, descriptorIndex := 25, attributes := #[] }, { accessFlags := 25, nameIndex := 280, descriptorIndex := 25, attributes := #[] }, { accessFlags := 25, nameIndex := 282, descriptorIndex := 25, attributes := #[] }, { accessFlags := 25, nameIndex := 284, descriptorIndex := 25, attributes := #[] }, { accessFlags := 25, nameIndex := 286, descriptorIndex := 25, attributes := #[] }, { accessFlags := 25, nameIndex := 288, descriptorIndex := 25, attributes := #[] }, { accessFlags := 25, nameIndex := 290, descriptorIndex := 25, attributes := #[] }, { accessFlags := 25, nameIndex := 292, descriptorIndex := 25, attributes := #[] }, { accessFlags := 26, nameIndex := 108, descriptorIndex := 109, attributes := #[] }, { accessFlags := 25, nameIndex := 294, descriptorIndex := 25, attributes := #[] }])
  fields := #[{ name := "U", type := (.object "jdk/internal/misc/Unsafe"), accessFlags := 24, slot := 0, constantValue := 0 }, { name := "BIG_ENDIAN", type := .boolean, accessFlags := 26, slot := 1, constantValue := 0 }, { name := "LOG2_ARRAY_BOOLEAN_INDEX_SCALE", type := .int, accessFlags := 25, slot := 2, constantValue := 0 }, { name := "LOG2_ARRAY_BYTE_INDEX_SCALE", type := .int, accessFlags := 25, slot := 3, constantValue := 0 }, { name := "LOG2_ARRAY_CHAR_INDEX_SCALE", type := .int, accessFlags := 25, slot := 4, constantValue := 0 }, { name := "LOG2_ARRAY_SHORT_INDEX_SCALE", type := .int, accessFlags := 25, slot := 5, constantValue := 0 }, { name := "LOG2_ARRAY_INT_INDEX_SCALE", type := .int, accessFlags := 25, slot := 6, constantValue := 0 }, { name := "LOG2_ARRAY_LONG_INDEX_SCALE", type := .int, accessFlags := 25, slot := 7, constantValue := 0 }, { name := "LOG2_ARRAY_FLOAT_INDEX_SCALE", type := .int, accessFlags := 25, slot := 8, constantValue := 0 }, { name := "LOG2_ARRAY_DOUBLE_INDEX_SCALE", type := .int, accessFlags := 25, slot := 9, constantValue := 0 }, { name := "LOG2_BYTE_BIT_SIZE", type := .int, accessFlags := 26, slot := 10, constantValue := 0 }, { name := "T_BOOLEAN", type := .int, accessFlags := 25, slot := 11, constantValue := 0 }, { name := "T_CHAR", type := .int, accessFlags := 25, slot := 12, constantValue := 0 }, { name := "T_FLOAT", type := .int, accessFlags := 25, slot := 13, constantValue := 0 }, { name := "T_DOUBLE", type := .int, accessFlags := 25, slot := 14, constantValue := 0 }, { name := "T_BYTE", type := .int, accessFlags := 25, slot := 15, constantValue := 0 }, { name := "T_SHORT", type := .int, accessFlags := 25, slot := 16, constantValue := 0 }, { name := "T_INT", type := .int, accessFlags := 25, slot := 17, constantValue := 0 }, { name := "T_LONG", type := .int, accessFlags := 25, slot := 18, constantValue := 0 }, { name := "JLA", type := (.object "jdk/internal/access/JavaLangAccess"), accessFlags := 26, slot := 19, constantValue := 0 }, { name := "SOFT_MAX_ARRAY_LENGTH", type := .int, accessFlags := 25, slot := 20, constantValue := 0 }]
  methods := #[k24m0]
  instanceTypes := #[]
  staticTypes := #[(.object "jdk/internal/misc/Unsafe"), .boolean, .int, .int, .int, .int, .int, .int, .int, .int, .int, .int, .int, .int, .int, .int, .int, .int, .int, (.object "jdk/internal/access/JavaLangAccess"), .int]
  resolved := Array.replicate 378 none
  statics := none }

def pool25 : Array CpInfo := pool [(1, u "java/lang/Cloneable"), (0, .class_ 1), (0, u "java/lang/Object"), (0, .class_ 3)] 3

/-- java/lang/Cloneable -/
def k25 : Class := { plain "java/lang/Cloneable" (some 0) with
  accessFlags := 1537
  interfaces := #[]
  cf := some (fileOf pool25 2 #[] #[] 1537 4 #[] #[])
  fields := #[]
  methods := #[]
  instanceTypes := #[]
  staticTypes := #[]
  resolved := Array.replicate 8 none
  statics := none }

/-- the primitive byte -/
def k26 : Class := { plain "byte" none with kind := .primitive 'B', accessFlags := 0x411 }
/-- [B -/
def k27 : Class := { plain "[B" (some 0) with kind := .array 26 .byte, interfaces := #[25, 2], accessFlags := 1041 }

/-- the primitive char -/
def k28 : Class := { plain "char" none with kind := .primitive 'C', accessFlags := 0x411 }
/-- [C -/
def k29 : Class := { plain "[C" (some 0) with kind := .array 28 .char, interfaces := #[25, 2], accessFlags := 1041 }

/-- the primitive int -/
def k30 : Class := { plain "int" none with kind := .primitive 'I', accessFlags := 0x411 }
/-- [I -/
def k31 : Class := { plain "[I" (some 0) with kind := .array 30 .int, interfaces := #[25, 2], accessFlags := 1041 }

/-- [Ljava/lang/Object; -/
def k32 : Class := { plain "[Ljava/lang/Object;" (some 0) with kind := .array 0 (.object "java/lang/Object"), interfaces := #[25, 2], accessFlags := 1041 }

/-- [Ljava/lang/String; -/
def k33 : Class := { plain "[Ljava/lang/String;" (some 0) with kind := .array 7 (.object "java/lang/String"), interfaces := #[25, 2], accessFlags := 1041 }

def heap : Heap := #[{ cls := 7, slots := #[.long 0, .int 1, .null, .int 0, .null, .int 0, .int 0], vm := .statics 7 },
  { cls := 13, slots := #[.long 0, .int 0, .null, .ref 5, .ref 4, .null, .null, .null, .int 0, .int 1], vm := .statics 13 },
  { cls := 23, slots := #[.null, .null, .null], vm := .statics 23 },
  { cls := 32, slots := #[], vm := .none },
  { cls := 18, slots := #[.ref 3, .int 0], vm := .none },
  { cls := 0, slots := #[], vm := .none }]
def classes : Array Class := #[k0, k1, k2, k3, k4, k5, k6, k7, k8, k9, k10, k11, k12, k13, k14, k15, k16, k17, k18, k19, k20, k21, k22, k23, k24, k25, k26, k27, k28, k29, k30, k31, k32, k33]
def interned : List (Array UInt16 × Addr) := []
def slotsUsed : Nat := 22
def theMethod : MethodId := ⟨1, 2⟩
def args0 : Array Value := #[.int 5, .int 5, .int 5, .int 5, .int 5]
def aboutOver (below : List Frame) : State where
  vm := { classes := classes, interned := interned.toArray }
  heap := heap
  slotsUsed := slotsUsed
  threads := #[{ frames := .invoking theMethod args0 :: below }]
def below0 : List Frame := [.native { method := ⟨0, 0⟩, args := #[] }]
def about1 : State := aboutOver below0
def p0 : Program := .bare "" "" ""
def e0 : Env := launch0.env 0 0 0
theorem w_frames : about1.frames = Frame.invoking theMethod args0 :: below0 := rfl
set_option maxRecDepth 65536 in
theorem w_args : argsFit about1.vm theMethod args0 = true := by decide +kernel
set_option maxRecDepth 65536 in
theorem w_heap : heapFits about1 = true := by decide +kernel
set_option maxRecDepth 65536 in
theorem w_runnable : about1.curStatus? = some .runnable := by decide +kernel
set_option maxRecDepth 65536 in
theorem w_alone : about1.alone = true := by decide +kernel
set_option maxRecDepth 65536 in
theorem w_named : about1.methodNamed? x = some theMethod := by decide +kernel
set_option maxRecDepth 65536 in
theorem w_hears : about1.hears theMethod below0 = true := by decide +kernel
set_option maxRecDepth 65536 in
theorem w_ripe : about1.ripe theMethod args0 below0 = true := by decide +kernel
theorem w_running : about1.status = .running := rfl
set_option maxRecDepth 65536 in
theorem w_room : about1.hasRoom e0.platform room_1 = true :=
  launch0.hasRoom_least _ room_1 (by decide +kernel) (by decide +kernel) (by decide +kernel) (by decide +kernel) (by decide +kernel) (by decide +kernel)
theorem allAtoms_all (ts : List Jvm.Cond) (a : Array Jvm.Value) (st : Jvm.State) : (allAtoms ts).before a st = ts.all (fun c => c.before a st) := by
  induction ts with
  | nil => rfl
  | cons c t ih =>
    show (Jvm.Cond.and c (allAtoms t)).before a st = _
    rw [Jvm.Cond.before_and, ih, List.all_cons]
def words1 : List Jvm.Cond := Jvm.Cond.code x code maxLocals ret :: tables_1
/-- a 'code' word, met by the world's own term for the bytes: nothing is compared byte by byte -/
theorem code_word {y : MethodName} {bytes : ByteArray} {mx : Nat} {rt : Option FieldType} {a : Array Value} {s : State} {m : MethodId} {meth : Method} {c : Code} (h1 : s.methodNamed? y = some m) (h2 : s.vm.method? m = some meth) (h3 : meth.code = some c) (h4 : c.code = bytes)
    (h5 : (c.maxLocals == mx && c.exceptionTable.isEmpty && decide (c.maxStack ≤ mostOperands) && decide (meth.sig.returnType = rt) && !meth.locks && decide (parseMethodDescriptor y.desc = some meth.sig)) = true) : (Jvm.Cond.code y bytes mx rt).before a s = true := by
  simp only [Bool.and_eq_true, beq_iff_eq, Bool.not_eq_true', decide_eq_true_eq] at h5
  obtain ⟨⟨⟨⟨⟨g1, g2⟩, g3⟩, g4⟩, g5⟩, g6⟩ := h5
  simp [Cond.before, Cond.holds, Cond.value, h1, h2, h3, h4, g1, g2, g3, g4, g5, g6]
def isCode : Jvm.Cond → Bool
  | .code _ _ _ _ => true
  | _ => false
theorem all_split {L : List Jvm.Cond} {P : Jvm.Cond → Bool} (h1 : L.all (fun c => isCode c || P c) = true) (h2 : ∀ c ∈ L.filter isCode, P c = true) : L.all P = true := by
  refine List.all_eq_true.mpr fun c hc => ?_
  have h := List.all_eq_true.mp h1 c hc
  rcases Bool.eq_false_or_eq_true (isCode c) with hi | hi
  · exact h2 c (List.mem_filter.mpr ⟨hc, hi⟩)
  · simpa [hi] using h
set_option maxRecDepth 65536 in
theorem w_c0 : (Jvm.Cond.code x code maxLocals ret).before args0 about1 = true := code_word (m := ⟨1, 2⟩) (meth := k1m2) (c := k1c2) (by decide +kernel) rfl rfl rfl (by decide +kernel)
set_option maxRecDepth 65536 in
theorem w_c1 : (Jvm.Cond.code ({ cls := "com/example/dirbound/dirbound/CompositeNameOfPinLaw", name := "mk", desc := "(I)Ljava/lang/String;" } : Jvm.MethodName) method_2_code (5 : Nat) (Option.some (Jvm.ClassFile.FieldType.object "java/lang/String"))).before args0 about1 = true := code_word (m := ⟨1, 1⟩) (meth := k1m1) (c := k1c1) (by decide +kernel) rfl rfl rfl (by decide +kernel)
set_option maxRecDepth 65536 in
theorem w_c2 : (Jvm.Cond.code ({ cls := "java/lang/String", name := "<init>", desc := "([C)V" } : Jvm.MethodName) jdk_42_method_3_code (2 : Nat) (Option.none : Option Jvm.ClassFile.FieldType)).before args0 about1 = true := code_word (m := ⟨7, 1⟩) (meth := k7m1) (c := k7c1) (by decide +kernel) rfl rfl rfl (by decide +kernel)
set_option maxRecDepth 65536 in
theorem w_c3 : (Jvm.Cond.code ({ cls := "java/lang/String", name := "<init>", desc := "([CIILjava/lang/Void;)V" } : Jvm.MethodName) jdk_42_method_149_code (6 : Nat) (Option.none : Option Jvm.ClassFile.FieldType)).before args0 about1 = true := code_word (m := ⟨7, 4⟩) (meth := k7m4) (c := k7c4) (by decide +kernel) rfl rfl rfl (by decide +kernel)
set_option maxRecDepth 65536 in
theorem w_c4 : (Jvm.Cond.code ({ cls := "java/lang/Object", name := "<init>", desc := "()V" } : Jvm.MethodName) object_method_1_code (1 : Nat) (Option.none : Option Jvm.ClassFile.FieldType)).before args0 about1 = true := code_word (m := ⟨0, 0⟩) (meth := k0m0) (c := k0c0) (by decide +kernel) rfl rfl rfl (by decide +kernel)
set_option maxRecDepth 65536 in
theorem w_c5 : (Jvm.Cond.code ({ cls := "com/example/dirbound/dirbound/CompositeName", name := "of", desc := "([Ljava/lang/String;)Lcom/example/dirbound/dirbound/CompositeName;" } : Jvm.MethodName) prog_5_method_2_code (1 : Nat) (Option.some (Jvm.ClassFile.FieldType.object "com/example/dirbound/dirbound/CompositeName"))).before args0 about1 = true := code_word (m := ⟨8, 1⟩) (meth := k8m1) (c := k8c1) (by decide +kernel) rfl rfl rfl (by decide +kernel)
set_option maxRecDepth 65536 in
theorem w_c6 : (Jvm.Cond.code ({ cls := "java/util/List", name := "of", desc := "([Ljava/lang/Object;)Ljava/util/List;" } : Jvm.MethodName) jdk_40_method_47_code (2 : Nat) (Option.some (Jvm.ClassFile.FieldType.object "java/util/List"))).before args0 about1 = true := code_word (m := ⟨12, 2⟩) (meth := k12m2) (c := k12c2) (by decide +kernel) rfl rfl rfl (by decide +kernel)
set_option maxRecDepth 65536 in
theorem w_c7 : (Jvm.Cond.code ({ cls := "com/example/dirbound/dirbound/CompositeName", name := "<init>", desc := "(Ljava/util/List;)V" } : Jvm.MethodName) prog_5_method_1_code (2 : Nat) (Option.none : Option Jvm.ClassFile.FieldType)).before args0 about1 = true := code_word (m := ⟨8, 0⟩) (meth := k8m0) (c := k8c0) (by decide +kernel) rfl rfl rfl (by decide +kernel)
set_option maxRecDepth 65536 in
theorem w_c8 : (Jvm.Cond.code ({ cls := "com/example/dirbound/dirbound/CompositeName", name := "components", desc := "()Ljava/util/List;" } : Jvm.MethodName) prog_5_method_6_code (1 : Nat) (Option.some (Jvm.ClassFile.FieldType.object "java/util/List"))).before args0 about1 = true := code_word (m := ⟨8, 2⟩) (meth := k8m2) (c := k8c2) (by decide +kernel) rfl rfl rfl (by decide +kernel)
set_option maxRecDepth 65536 in
theorem w_c9 : (Jvm.Cond.code ({ cls := "java/util/ImmutableCollections$ListN", name := "size", desc := "()I" } : Jvm.MethodName) jdk_45_method_3_code (1 : Nat) (Option.some Jvm.ClassFile.FieldType.int)).before args0 about1 = true := code_word (m := ⟨18, 1⟩) (meth := k18m1) (c := k18c1) (by decide +kernel) rfl rfl rfl (by decide +kernel)
set_option maxRecDepth 65536 in
theorem w_c10 : (Jvm.Cond.code ({ cls := "java/util/ImmutableCollections", name := "listFromArray", desc := "([Ljava/lang/Object;)Ljava/util/List;" } : Jvm.MethodName) jdk_56_method_4_code (3 : Nat) (Option.some (Jvm.ClassFile.FieldType.object "java/util/List"))).before args0 about1 = true := code_word (m := ⟨13, 1⟩) (meth := k13m1) (c := k13c1) (by decide +kernel) rfl rfl rfl (by decide +kernel)
set_option maxRecDepth 65536 in
theorem w_c11 : (Jvm.Cond.code ({ cls := "java/util/Objects", name := "requireNonNull", desc := "(Ljava/lang/Object;)Ljava/lang/Object;" } : Jvm.MethodName) jdk_31_method_10_code (1 : Nat) (Option.some (Jvm.ClassFile.FieldType.object "java/lang/Object"))).before args0 about1 = true := code_word (m := ⟨19, 1⟩) (meth := k19m1) (c := k19c1) (by decide +kernel) rfl rfl rfl (by decide +kernel)
set_option maxRecDepth 65536 in
theorem w_c12 : (Jvm.Cond.code ({ cls := "java/util/ImmutableCollections$ListN", name := "<init>", desc := "([Ljava/lang/Object;Z)V" } : Jvm.MethodName) jdk_45_method_1_code (3 : Nat) (Option.none : Option Jvm.ClassFile.FieldType)).before args0 about1 = true := code_word (m := ⟨18, 0⟩) (meth := k18m0) (c := k18c0) (by decide +kernel) rfl rfl rfl (by decide +kernel)
set_option maxRecDepth 65536 in
theorem w_c13 : (Jvm.Cond.code ({ cls := "java/util/ImmutableCollections$AbstractImmutableList", name := "<init>", desc := "()V" } : Jvm.MethodName) jdk_46_method_1_code (1 : Nat) (Option.none : Option Jvm.ClassFile.FieldType)).before args0 about1 = true := code_word (m := ⟨17, 0⟩) (meth := k17m0) (c := k17c0) (by decide +kernel) rfl rfl rfl (by decide +kernel)
set_option maxRecDepth 65536 in
theorem w_c14 : (Jvm.Cond.code ({ cls := "java/util/ImmutableCollections$AbstractImmutableCollection", name := "<init>", desc := "()V" } : Jvm.MethodName) jdk_47_method_1_code (1 : Nat) (Option.none : Option Jvm.ClassFile.FieldType)).before args0 about1 = true := code_word (m := ⟨15, 0⟩) (meth := k15m0) (c := k15c0) (by decide +kernel) rfl rfl rfl (by decide +kernel)
set_option maxRecDepth 65536 in
theorem w_c15 : (Jvm.Cond.code ({ cls := "java/util/AbstractCollection", name := "<init>", desc := "()V" } : Jvm.MethodName) jdk_22_method_1_code (1 : Nat) (Option.none : Option Jvm.ClassFile.FieldType)).before args0 about1 = true := code_word (m := ⟨14, 0⟩) (meth := k14m0) (c := k14c0) (by decide +kernel) rfl rfl rfl (by decide +kernel)
set_option maxRecDepth 65536 in
theorem w_c16 : (Jvm.Cond.code ({ cls := "java/util/ImmutableCollections$ListN", name := "get", desc := "(I)Ljava/lang/Object;" } : Jvm.MethodName) jdk_45_method_4_code (2 : Nat) (Option.some (Jvm.ClassFile.FieldType.object "java/lang/Object"))).before args0 about1 = true := code_word (m := ⟨18, 2⟩) (meth := k18m2) (c := k18c2) (by decide +kernel) rfl rfl rfl (by decide +kernel)
set_option maxRecDepth 65536 in
theorem w_c17 : (Jvm.Cond.code ({ cls := "java/lang/String", name := "equals", desc := "(Ljava/lang/Object;)Z" } : Jvm.MethodName) jdk_42_method_66_code (3 : Nat) (Option.some Jvm.ClassFile.FieldType.boolean)).before args0 about1 = true := code_word (m := ⟨7, 2⟩) (meth := k7m2) (c := k7c2) (by decide +kernel) rfl rfl rfl (by decide +kernel)
set_option maxRecDepth 65536 in
theorem w_c18 : (Jvm.Cond.code ({ cls := "java/lang/String", name := "valueOf", desc := "(C)Ljava/lang/String;" } : Jvm.MethodName) jdk_42_method_139_code (1 : Nat) (Option.some (Jvm.ClassFile.FieldType.object "java/lang/String"))).before args0 about1 = true := code_word (m := ⟨7, 3⟩) (meth := k7m3) (c := k7c3) (by decide +kernel) rfl rfl rfl (by decide +kernel)
set_option maxRecDepth 65536 in
theorem w_c19 : (Jvm.Cond.code ({ cls := "java/lang/StringLatin1", name := "canEncode", desc := "(C)Z" } : Jvm.MethodName) jdk_43_method_3_code (1 : Nat) (Option.some Jvm.ClassFile.FieldType.boolean)).before args0 about1 = true := code_word (m := ⟨20, 1⟩) (meth := k20m1) (c := k20c1) (by decide +kernel) rfl rfl rfl (by decide +kernel)
set_option maxRecDepth 65536 in
theorem w_c20 : (Jvm.Cond.code ({ cls := "java/lang/StringLatin1", name := "toBytes", desc := "(C)[B" } : Jvm.MethodName) jdk_43_method_46_code (1 : Nat) (Option.some (Jvm.ClassFile.FieldType.array Jvm.ClassFile.FieldType.byte))).before args0 about1 = true := code_word (m := ⟨20, 2⟩) (meth := k20m2) (c := k20c2) (by decide +kernel) rfl rfl rfl (by decide +kernel)
set_option maxRecDepth 65536 in
theorem w_c21 : (Jvm.Cond.code ({ cls := "java/lang/String", name := "<init>", desc := "([BB)V" } : Jvm.MethodName) jdk_42_method_151_code (3 : Nat) (Option.none : Option Jvm.ClassFile.FieldType)).before args0 about1 = true := code_word (m := ⟨7, 5⟩) (meth := k7m5) (c := k7c5) (by decide +kernel) rfl rfl rfl (by decide +kernel)
set_option maxRecDepth 65536 in
theorem w_c22 : (Jvm.Cond.code ({ cls := "java/lang/StringUTF16", name := "compress", desc := "([CII)[B" } : Jvm.MethodName) jdk_52_method_16_code (6 : Nat) (Option.some (Jvm.ClassFile.FieldType.array Jvm.ClassFile.FieldType.byte))).before args0 about1 = true := code_word (m := ⟨21, 2⟩) (meth := k21m2) (c := k21c2) (by decide +kernel) rfl rfl rfl (by decide +kernel)
set_option maxRecDepth 65536 in
theorem w_c23 : (Jvm.Cond.code ({ cls := "java/lang/StringUTF16", name := "compress", desc := "([CI[BII)I" } : Jvm.MethodName) jdk_52_method_21_code (7 : Nat) (Option.some Jvm.ClassFile.FieldType.int)).before args0 about1 = true := code_word (m := ⟨21, 3⟩) (meth := k21m3) (c := k21c3) (by decide +kernel) rfl rfl rfl (by decide +kernel)
set_option maxRecDepth 65536 in
theorem w_c24 : (Jvm.Cond.code ({ cls := "java/lang/StringUTF16", name := "coderFromArrayLen", desc := "([BI)B" } : Jvm.MethodName) jdk_52_method_15_code (2 : Nat) (Option.some Jvm.ClassFile.FieldType.byte)).before args0 about1 = true := code_word (m := ⟨21, 1⟩) (meth := k21m1) (c := k21c1) (by decide +kernel) rfl rfl rfl (by decide +kernel)
set_option maxRecDepth 65536 in
theorem w_c25 : (Jvm.Cond.code ({ cls := "java/util/ImmutableCollections$List12", name := "<init>", desc := "(Ljava/lang/Object;Ljava/lang/Object;)V" } : Jvm.MethodName) jdk_44_method_2_code (3 : Nat) (Option.none : Option Jvm.ClassFile.FieldType)).before args0 about1 = true := code_word (m := ⟨22, 1⟩) (meth := k22m1) (c := k22c1) (by decide +kernel) rfl rfl rfl (by decide +kernel)
set_option maxRecDepth 65536 in
theorem w_c26 : (Jvm.Cond.code ({ cls := "java/util/ImmutableCollections$List12", name := "size", desc := "()I" } : Jvm.MethodName) jdk_44_method_3_code (1 : Nat) (Option.some Jvm.ClassFile.FieldType.int)).before args0 about1 = true := code_word (m := ⟨22, 2⟩) (meth := k22m2) (c := k22c2) (by decide +kernel) rfl rfl rfl (by decide +kernel)
set_option maxRecDepth 65536 in
theorem w_c27 : (Jvm.Cond.code ({ cls := "java/util/ImmutableCollections$List12", name := "get", desc := "(I)Ljava/lang/Object;" } : Jvm.MethodName) jdk_44_method_5_code (2 : Nat) (Option.some (Jvm.ClassFile.FieldType.object "java/lang/Object"))).before args0 about1 = true := code_word (m := ⟨22, 3⟩) (meth := k22m3) (c := k22c3) (by decide +kernel) rfl rfl rfl (by decide +kernel)
set_option maxRecDepth 65536 in
theorem w_c28 : (Jvm.Cond.code ({ cls := "java/util/ImmutableCollections$List12", name := "<init>", desc := "(Ljava/lang/Object;)V" } : Jvm.MethodName) jdk_44_method_1_code (2 : Nat) (Option.none : Option Jvm.ClassFile.FieldType)).before args0 about1 = true := code_word (m := ⟨22, 0⟩) (meth := k22m0) (c := k22c0) (by decide +kernel) rfl rfl rfl (by decide +kernel)
def codes1 : List Jvm.Cond := [Jvm.Cond.code x code maxLocals ret, Jvm.Cond.code ({ cls := "com/example/dirbound/dirbound/CompositeNameOfPinLaw", name := "mk", desc := "(I)Ljava/lang/String;" } : Jvm.MethodName) method_2_code (5 : Nat) (Option.some (Jvm.ClassFile.FieldType.object "java/lang/String")), Jvm.Cond.code ({ cls := "java/lang/String", name := "<init>", desc := "([C)V" } : Jvm.MethodName) jdk_42_method_3_code (2 : Nat) (Option.none : Option Jvm.ClassFile.FieldType), Jvm.Cond.code ({ cls := "java/lang/String", name := "<init>", desc := "([CIILjava/lang/Void;)V" } : Jvm.MethodName) jdk_42_method_149_code (6 : Nat) (Option.none : Option Jvm.ClassFile.FieldType), Jvm.Cond.code ({ cls := "java/lang/Object", name := "<init>", desc := "()V" } : Jvm.MethodName) object_method_1_code (1 : Nat) (Option.none : Option Jvm.ClassFile.FieldType), Jvm.Cond.code ({ cls := "com/example/dirbound/dirbound/CompositeName", name := "of", desc := "([Ljava/lang/String;)Lcom/example/dirbound/dirbound/CompositeName;" } : Jvm.MethodName) prog_5_method_2_code (1 : Nat) (Option.some (Jvm.ClassFile.FieldType.object "com/example/dirbound/dirbound/CompositeName")), Jvm.Cond.code ({ cls := "java/util/List", name := "of", desc := "([Ljava/lang/Object;)Ljava/util/List;" } : Jvm.MethodName) jdk_40_method_47_code (2 : Nat) (Option.some (Jvm.ClassFile.FieldType.object "java/util/List")), Jvm.Cond.code ({ cls := "com/example/dirbound/dirbound/CompositeName", name := "<init>", desc := "(Ljava/util/List;)V" } : Jvm.MethodName) prog_5_method_1_code (2 : Nat) (Option.none : Option Jvm.ClassFile.FieldType), Jvm.Cond.code ({ cls := "com/example/dirbound/dirbound/CompositeName", name := "components", desc := "()Ljava/util/List;" } : Jvm.MethodName) prog_5_method_6_code (1 : Nat) (Option.some (Jvm.ClassFile.FieldType.object "java/util/List")), Jvm.Cond.code ({ cls := "java/util/ImmutableCollections$ListN", name := "size", desc := "()I" } : Jvm.MethodName) jdk_45_method_3_code (1 : Nat) (Option.some Jvm.ClassFile.FieldType.int), Jvm.Cond.code ({ cls := "java/util/ImmutableCollections", name := "listFromArray", desc := "([Ljava/lang/Object;)Ljava/util/List;" } : Jvm.MethodName) jdk_56_method_4_code (3 : Nat) (Option.some (Jvm.ClassFile.FieldType.object "java/util/List")), Jvm.Cond.code ({ cls := "java/util/Objects", name := "requireNonNull", desc := "(Ljava/lang/Object;)Ljava/lang/Object;" } : Jvm.MethodName) jdk_31_method_10_code (1 : Nat) (Option.some (Jvm.ClassFile.FieldType.object "java/lang/Object")), Jvm.Cond.code ({ cls := "java/util/ImmutableCollections$ListN", name := "<init>", desc := "([Ljava/lang/Object;Z)V" } : Jvm.MethodName) jdk_45_method_1_code (3 : Nat) (Option.none : Option Jvm.ClassFile.FieldType), Jvm.Cond.code ({ cls := "java/util/ImmutableCollections$AbstractImmutableList", name := "<init>", desc := "()V" } : Jvm.MethodName) jdk_46_method_1_code (1 : Nat) (Option.none : Option Jvm.ClassFile.FieldType), Jvm.Cond.code ({ cls := "java/util/ImmutableCollections$AbstractImmutableCollection", name := "<init>", desc := "()V" } : Jvm.MethodName) jdk_47_method_1_code (1 : Nat) (Option.none : Option Jvm.ClassFile.FieldType), Jvm.Cond.code ({ cls := "java/util/AbstractCollection", name := "<init>", desc := "()V" } : Jvm.MethodName) jdk_22_method_1_code (1 : Nat) (Option.none : Option Jvm.ClassFile.FieldType), Jvm.Cond.code ({ cls := "java/util/ImmutableCollections$ListN", name := "get", desc := "(I)Ljava/lang/Object;" } : Jvm.MethodName) jdk_45_method_4_code (2 : Nat) (Option.some (Jvm.ClassFile.FieldType.object "java/lang/Object")), Jvm.Cond.code ({ cls := "java/lang/String", name := "equals", desc := "(Ljava/lang/Object;)Z" } : Jvm.MethodName) jdk_42_method_66_code (3 : Nat) (Option.some Jvm.ClassFile.FieldType.boolean), Jvm.Cond.code ({ cls := "java/lang/String", name := "valueOf", desc := "(C)Ljava/lang/String;" } : Jvm.MethodName) jdk_42_method_139_code (1 : Nat) (Option.some (Jvm.ClassFile.FieldType.object "java/lang/String")), Jvm.Cond.code ({ cls := "java/lang/StringLatin1", name := "canEncode", desc := "(C)Z" } : Jvm.MethodName) jdk_43_method_3_code (1 : Nat) (Option.some Jvm.ClassFile.FieldType.boolean), Jvm.Cond.code ({ cls := "java/lang/StringLatin1", name := "toBytes", desc := "(C)[B" } : Jvm.MethodName) jdk_43_method_46_code (1 : Nat) (Option.some (Jvm.ClassFile.FieldType.array Jvm.ClassFile.FieldType.byte)), Jvm.Cond.code ({ cls := "java/lang/String", name := "<init>", desc := "([BB)V" } : Jvm.MethodName) jdk_42_method_151_code (3 : Nat) (Option.none : Option Jvm.ClassFile.FieldType), Jvm.Cond.code ({ cls := "java/lang/StringUTF16", name := "compress", desc := "([CII)[B" } : Jvm.MethodName) jdk_52_method_16_code (6 : Nat) (Option.some (Jvm.ClassFile.FieldType.array Jvm.ClassFile.FieldType.byte)), Jvm.Cond.code ({ cls := "java/lang/StringUTF16", name := "compress", desc := "([CI[BII)I" } : Jvm.MethodName) jdk_52_method_21_code (7 : Nat) (Option.some Jvm.ClassFile.FieldType.int), Jvm.Cond.code ({ cls := "java/lang/StringUTF16", name := "coderFromArrayLen", desc := "([BI)B" } : Jvm.MethodName) jdk_52_method_15_code (2 : Nat) (Option.some Jvm.ClassFile.FieldType.byte), Jvm.Cond.code ({ cls := "java/util/ImmutableCollections$List12", name := "<init>", desc := "(Ljava/lang/Object;Ljava/lang/Object;)V" } : Jvm.MethodName) jdk_44_method_2_code (3 : Nat) (Option.none : Option Jvm.ClassFile.FieldType), Jvm.Cond.code ({ cls := "java/util/ImmutableCollections$List12", name := "size", desc := "()I" } : Jvm.MethodName) jdk_44_method_3_code (1 : Nat) (Option.some Jvm.ClassFile.FieldType.int), Jvm.Cond.code ({ cls := "java/util/ImmutableCollections$List12", name := "get", desc := "(I)Ljava/lang/Object;" } : Jvm.MethodName) jdk_44_method_5_code (2 : Nat) (Option.some (Jvm.ClassFile.FieldType.object "java/lang/Object")), Jvm.Cond.code ({ cls := "java/util/ImmutableCollections$List12", name := "<init>", desc := "(Ljava/lang/Object;)V" } : Jvm.MethodName) jdk_44_method_1_code (2 : Nat) (Option.none : Option Jvm.ClassFile.FieldType)]
set_option maxRecDepth 65536 in
theorem codes_eq : words1.filter isCode = codes1 := rfl
theorem w_codes : ∀ c ∈ words1.filter isCode, c.before args0 about1 = true := by
  rw [codes_eq]
  intro c hc
  simp only [codes1, List.mem_cons, List.not_mem_nil, or_false] at hc
  rcases hc with rfl | rfl | rfl | rfl | rfl | rfl | rfl | rfl | rfl | rfl | rfl | rfl | rfl | rfl | rfl | rfl | rfl | rfl | rfl | rfl | rfl | rfl | rfl | rfl | rfl | rfl | rfl | rfl | rfl
  · exact w_c0
  · exact w_c1
  · exact w_c2
  · exact w_c3
  · exact w_c4
  · exact w_c5
  · exact w_c6
  · exact w_c7
  · exact w_c8
  · exact w_c9
  · exact w_c10
  · exact w_c11
  · exact w_c12
  · exact w_c13
  · exact w_c14
  · exact w_c15
  · exact w_c16
  · exact w_c17
  · exact w_c18
  · exact w_c19
  · exact w_c20
  · exact w_c21
  · exact w_c22
  · exact w_c23
  · exact w_c24
  · exact w_c25
  · exact w_c26
  · exact w_c27
  · exact w_c28
set_option maxRecDepth 65536 in
theorem w_t1 : (words1.take 24).all (fun c => isCode c || c.before args0 about1) = true := by decide +kernel
set_option maxRecDepth 65536 in
theorem w_t2 : ((words1.drop 24).take 24).all (fun c => isCode c || c.before args0 about1) = true := by decide +kernel
set_option maxRecDepth 65536 in
theorem w_t3 : (((words1.drop 24).drop 24).take 24).all (fun c => isCode c || c.before args0 about1) = true := by decide +kernel
set_option maxRecDepth 65536 in
theorem w_t4 : ((((words1.drop 24).drop 24).drop 24).take 24).all (fun c => isCode c || c.before args0 about1) = true := by decide +kernel
set_option maxRecDepth 65536 in
theorem w_t5 : (((((words1.drop 24).drop 24).drop 24).drop 24).take 24).all (fun c => isCode c || c.before args0 about1) = true := by decide +kernel
set_option maxRecDepth 65536 in
theorem w_t6 : ((((((words1.drop 24).drop 24).drop 24).drop 24).drop 24).take 24).all (fun c => isCode c || c.before args0 about1) = true := by decide +kernel
set_option maxRecDepth 65536 in
theorem w_t7 : (((((((words1.drop 24).drop 24).drop 24).drop 24).drop 24).drop 24).take 24).all (fun c => isCode c || c.before args0 about1) = true := by decide +kernel
set_option maxRecDepth 65536 in
theorem w_t8 : (((((((words1.drop 24).drop 24).drop 24).drop 24).drop 24).drop 24).drop 24).all (fun c => isCode c || c.before args0 about1) = true := by decide +kernel
theorem w_tables : (allAtoms (Jvm.Cond.code x code maxLocals ret :: tables_1)).before args0 about1 = true := by
  rw [allAtoms_all]
  show words1.all (fun c => c.before args0 about1) = true
  refine all_split ?_ w_codes
  rw [← List.take_append_drop 24 words1, List.all_append, w_t1, ← List.take_append_drop 24 (words1.drop 24), List.all_append, w_t2, ← List.take_append_drop 24 ((words1.drop 24).drop 24), List.all_append, w_t3, ← List.take_append_drop 24 (((words1.drop 24).drop 24).drop 24), List.all_append, w_t4, ← List.take_append_drop 24 ((((words1.drop 24).drop 24).drop 24).drop 24), List.all_append, w_t5, ← List.take_append_drop 24 (((((words1.drop 24).drop 24).drop 24).drop 24).drop 24), List.all_append, w_t6, ← List.take_append_drop 24 ((((((words1.drop 24).drop 24).drop 24).drop 24).drop 24).drop 24), List.all_append, w_t7, w_t8]
  rfl
set_option maxRecDepth 65536 in
theorem w_rest : rest_1_c.before args0 about1 = true := by decide +kernel
set_option maxRecDepth 65536 in
theorem w_case : (Jvm.Cond.and given_1 narrow_1).before args0 about1 = true := by decide +kernel
set_option maxRecDepth 65536 in
theorem w_consts : constsHeld consts_1 about1 := Jvm.Lit.constsHeldB_iff.mp (by decide +kernel)
theorem w_applies : (headSpec (Jvm.Cond.code x code maxLocals ret :: tables_1) room_1).applies x e0.platform about1 = true :=
  (Spec.applies_iff w_frames).mpr ⟨w_running, w_runnable, w_alone, w_named, w_hears, w_ripe, w_room, w_tables⟩
theorem atStart : AtStart classFile x code maxLocals ret World_1 tables_1 room_1 Calls_1 rest_1 Pre_1 launch0 p0 e0 about1 theMethod args0 below0 :=
  ⟨lists_1, trivial, launch0.admits_env _ _ _, launch0.least_env, fairChoices_fair.cas, fairChoices_fair.clock, w_frames, w_args, w_heap, w_applies, ⟨w_consts, trivial⟩, w_rest, w_case⟩
end start1
theorem witness_1 : WitnessClaimed_1 := ⟨start1.p0, start1.e0, start1.about1, start1.theMethod, start1.args0, start1.below0, start1.atStart⟩
end Jvm.Pilot.@@N@@
