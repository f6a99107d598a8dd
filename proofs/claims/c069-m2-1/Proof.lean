
import JvmDerived
import JvmDerived.Pilot.@@N@@Statement
import JvmDerived.Pilot.@@N@@Code
set_option linter.unusedVariables false
set_option linter.unusedSimpArgs false
namespace Jvm.RoadKit
open Sem ClassFile Op Lib Jvm.Stand Jvm.Free Jvm.LawKit
section OwnGo
variable {p : Program} {l : Launch} {e : Env} {R : Room} {s : State} {m : MethodId} {args : Array Value} {below : List Frame} {meth : Method} {c : Code} {T : State} {locs : List Loc} {cells slots kc ks : Nat} {Z : State} {a0 : Array Value} {h : Heap} {Q : Option Value → Heap → List Loc → Prop} {F0 : State → Outcome → Prop}
/-- what is left of a run from T: it ends, and F0 holds of its end -/
def Go (p : Program) (e : Env) (below : List Frame) (F0 : State → Outcome → Prop) (T : State) : Prop :=
  ∃ (U : State) (o : Outcome), Steps p.tables e below T U ∧ U.status = .running ∧ Ended U below o ∧ F0 U o
def EndN (s : State) (Q : Option Value → Heap → List Loc → Prop) (kc ks : Nat) (U : State) (o : Outcome) : Prop := ∃ v L, o = .returned v ∧ Q v U.heap L ∧ FrameEnd s o U L kc ks
theorem Go.step {T' : State} (g : ∀ t, Steps p.tables e below T' t → Steps p.tables e below T t) (k : Go p e below F0 T') : Go p e below F0 T := by
  obtain ⟨U, o, h1, r⟩ := k
  exact ⟨U, o, g _ h1, r⟩
theorem Go.cast {g g' : JFrame} (q : g = g') (k : Go p e below F0 (T.setTop g')) : Go p e below F0 (T.setTop g) := by rw [q]; exact k
/-- a body's contract: from these arguments and this heap it returns, and Q holds -/
def Ctr (l : Launch) (Z : State) (y : MethodName) (bytes : ByteArray) (maxL : Nat) (ret : Option FieldType) (rm : Room) (as : Array Value) (h : Heap) (Q : Option Value → Heap → List Loc → Prop) : Prop :=
  ∀ ws : List Jvm.Cond, MetFree l y (head1 (Jvm.Cond.code y bytes maxL ret :: ws) rm) (fun a U => a = as ∧ Z.Warmed39 U.vm ∧ U.heap = h) (fun _ _ _ _ _ => True) (fun _ U o U' => ∃ v L, o = .returned v ∧ Q v U'.heap L ∧ FrameEnd U o U' L rm.cells rm.slots)
theorem Ctr.of {y : MethodName} {bytes : ByteArray} {maxL : Nat} {ret : Option FieldType} {rm : Room} {as : Array Value} (hp : plainFor y = true)
    (body : ∀ (p : Program) (e : Env) (s : State) (m : MethodId) (below : List Frame) (meth : Method) (c : Code) (T : State), p.tables.exec = Jvm.exec → Z.Warmed39 s.vm → c.code = bytes → c.maxLocals = maxL → s.vm.findClass y.cls = some m.cls → meth.name = y.name → meth.sig.returnType = ret → meth.locks = false → T.heap = h → s.heap = h → Stand p l e rm s m as below meth c T [] 0 0 →
      Go p e below (EndN s Q rm.cells rm.slots) (T.setTop (entryFrame m as maxL))) : Ctr l Z y bytes maxL ret rm as h Q := by
  intro ws
  refine MetFree.of_bodySF hp hisR ?_
  intro p e s m args below meth c s₁ Bd hml0 hP hK
  obtain ⟨rfl, hZ, hh⟩ := hP
  exact body p e s m below meth c s₁ Bd.exec hZ Bd.bytes hml0 (findClass_of_methodNamed Bd.named) (name_of_methodNamed Bd.named Bd.method).1 Bd.returns Bd.notSynchronized (by rw [← hh, Bd.state]; rfl) hh (Stand.of_body Bd)
theorem Go.ret0 (X : Stand p l e R s m args below meth c T locs cells slots) (hx : p.tables.exec = Jvm.exec) (hlk : meth.locks = false) (hret : meth.sig.returnType = none) {pc : Nat} {Ls : Array Slot} (hd : decode c.code pc = .ok (.return_, 1)) (hc : cells ≤ kc) (hs : slots ≤ ks) (q : Q none T.heap locs) : Go p e below (EndN s Q kc ks) (T.setTop (mkF m pc Ls [])) := by
  obtain ⟨fs, hr, hrun, hended, hW, hsame⟩ := X.leave (v := none) (fun _ => rfl) hlk
  exact ⟨_, _, X.returnOut hx hret hd hr, hrun, hended, _, _, rfl, q, ⟨_, rfl⟩, hW, hsame.mono hc hs⟩
theorem Go.retV (X : Stand p l e R s m args below meth c T locs cells slots) (hx : p.tables.exec = Jvm.exec) (hlk : meth.locks = false) {t : FieldType} (hret : meth.sig.returnType = some t) {pc : Nat} {Ls : Array Slot} {v : Value} {i : Instr} {rest : List Value} (hn : narrow t v = v)
    (hi : (i = .ireturn ∧ (t = .int ∨ t = .boolean ∨ t = .byte ∨ t = .char ∨ t = .short) ∧ ∃ z, v = .int z) ∨ (i = .lreturn ∧ t = .long ∧ ∃ z, v = .long z) ∨ (i = .dreturn ∧ t = .double ∧ ∃ z, v = .double z) ∨ (i = .freturn ∧ t = .float ∧ ∃ z, v = .float z) ∨ (i = .areturn ∧ t.isReference = true ∧ v.isRef = true))
    (hd : decode c.code pc = .ok (i, 1)) (hc : cells ≤ kc) (hs : slots ≤ ks) (q : Q (some v) T.heap locs) : Go p e below (EndN s Q kc ks) (T.setTop (mkF m pc Ls (v :: rest))) := by
  obtain ⟨fs, hr, hrun, hended, hW, hsame⟩ := X.leave (v := some v) (fun h => by rw [hret] at h; cases h) hlk
  exact ⟨_, _, retOut X hx hret hn hi hd hr, hrun, hended, _, _, rfl, q, ⟨_, rfl⟩, hW, hsame.mono hc hs⟩
theorem Go.retI (X : Stand p l e R s m args below meth c T locs cells slots) (hx : p.tables.exec = Jvm.exec) (hlk : meth.locks = false) (hret : meth.sig.returnType = some .int) {pc : Nat} {Ls : Array Slot} {z : Int32} {rest : List Value} (hd : decode c.code pc = .ok (.ireturn, 1)) (hc : cells ≤ kc) (hs : slots ≤ ks) (q : Q (some (.int z)) T.heap locs) : Go p e below (EndN s Q kc ks) (T.setTop (mkF m pc Ls (.int z :: rest))) :=
  Go.retV X hx hlk hret rfl (Or.inl ⟨rfl, Or.inl rfl, _, rfl⟩) hd hc hs q
theorem Go.retR (X : Stand p l e R s m args below meth c T locs cells slots) (hx : p.tables.exec = Jvm.exec) (hlk : meth.locks = false) {t : FieldType} (hret : meth.sig.returnType = some t) (ht : t.isReference = true) {pc : Nat} {Ls : Array Slot} {v : Value} (hv : v.isRef = true) {rest : List Value} (hd : decode c.code pc = .ok (.areturn, 1)) (hc : cells ≤ kc) (hs : slots ≤ ks) (q : Q (some v) T.heap locs) : Go p e below (EndN s Q kc ks) (T.setTop (mkF m pc Ls (v :: rest))) :=
  Go.retV X hx hlk hret (by rcases ref_cases hv with rfl | ⟨z, rfl⟩ <;> cases t <;> simp [FieldType.isReference] at ht <;> rfl) (Or.inr (Or.inr (Or.inr (Or.inr ⟨rfl, ht, hv⟩)))) hd hc hs q
theorem Go.retN (X : Stand p l e R s m args below meth c T locs cells slots) (hx : p.tables.exec = Jvm.exec) (hlk : meth.locks = false) {t : FieldType} (hret : meth.sig.returnType = some t) (ht : t = .boolean ∨ t = .byte ∨ t = .char ∨ t = .short) {pc : Nat} {Ls : Array Slot} {z : Int32} {rest : List Value} (hd : decode c.code pc = .ok (.ireturn, 1)) (hc : cells ≤ kc) (hs : slots ≤ ks) (q : Q (some (.int (nar t z))) T.heap locs) : Go p e below (EndN s Q kc ks) (T.setTop (mkF m pc Ls (.int z :: rest))) := by
  obtain ⟨fs, hr, hrun, hended, hW, hsame⟩ := X.leave (v := some (.int (nar t z))) (fun h => by rw [hret] at h; cases h) hlk
  exact ⟨_, _, Jvm.RoadKit.retN X hx hret ht hd hr, hrun, hended, _, _, rfl, q, ⟨_, rfl⟩, hW, hsame.mono hc hs⟩
theorem Go.iloadN (X : Stand p l e R s m args below meth c T locs cells slots) (hx : p.tables.exec = Jvm.exec) {pc pc' : Nat} {Ls : Array Slot} {st : List Value} {k : Fin 4} {v : Int32} (hp : pc' = pc + 1) (hd : decode c.code pc = .ok (.iload_n k, 1)) (hl : Ls[k.val]? = some (.val (.int v))) (k : Go p e below F0 (T.setTop (mkF m pc' Ls (.int v :: st)))) : Go p e below F0 (T.setTop (mkF m pc Ls st)) := by
  subst hp
  exact Go.step (fun t kt => XS.iloadN X.here hx (g := mkF m pc Ls _) rfl hd hl kt) k
theorem Go.iload (X : Stand p l e R s m args below meth c T locs cells slots) (hx : p.tables.exec = Jvm.exec) {pc pc' : Nat} {Ls : Array Slot} {st : List Value} {k : Nat} {v : Int32} (hp : pc' = pc + 2) (hd : decode c.code pc = .ok (.iload k, 2)) (hl : Ls[k]? = some (.val (.int v))) (k : Go p e below F0 (T.setTop (mkF m pc' Ls (.int v :: st)))) : Go p e below F0 (T.setTop (mkF m pc Ls st)) := by
  subst hp
  exact Go.step (fun t kt => XS.iload X.here hx (g := mkF m pc Ls _) rfl hd hl kt) k
theorem Go.aloadN (X : Stand p l e R s m args below meth c T locs cells slots) (hx : p.tables.exec = Jvm.exec) {pc pc' : Nat} {Ls : Array Slot} {st : List Value} {k : Fin 4} {v : Value} (hp : pc' = pc + 1) (hd : decode c.code pc = .ok (.aload_n k, 1)) (hl : Ls[k.val]? = some (.val v)) (hv : v.isRef = true) (k : Go p e below F0 (T.setTop (mkF m pc' Ls (v :: st)))) : Go p e below F0 (T.setTop (mkF m pc Ls st)) := by
  subst hp
  exact Go.step (fun t kt => XS.aloadN X.here hx (g := mkF m pc Ls _) rfl hd hl hv kt) k
theorem Go.aload (X : Stand p l e R s m args below meth c T locs cells slots) (hx : p.tables.exec = Jvm.exec) {pc pc' : Nat} {Ls : Array Slot} {st : List Value} {k : Nat} {v : Value} (hp : pc' = pc + 2) (hd : decode c.code pc = .ok (.aload k, 2)) (hl : Ls[k]? = some (.val v)) (hv : v.isRef = true) (k : Go p e below F0 (T.setTop (mkF m pc' Ls (v :: st)))) : Go p e below F0 (T.setTop (mkF m pc Ls st)) := by
  subst hp
  exact Go.step (fun t kt => XS.aload X.here hx (g := mkF m pc Ls _) rfl hd hl hv kt) k
theorem Go.iconst (X : Stand p l e R s m args below meth c T locs cells slots) (hx : p.tables.exec = Jvm.exec) {pc pc' : Nat} {Ls : Array Slot} {st : List Value} {i : Int} {v : Int32} (hp : pc' = pc + 1) (hd : decode c.code pc = .ok (.iconst i, 1)) (hv : Int32.ofInt i = v) (k : Go p e below F0 (T.setTop (mkF m pc' Ls (.int v :: st)))) : Go p e below F0 (T.setTop (mkF m pc Ls st)) := by
  subst hp
  exact Go.step (fun t kt => XS.iconst X.here hx (g := mkF m pc Ls _) rfl hd (by rw [hv]; exact kt)) k
theorem Go.bipush (X : Stand p l e R s m args below meth c T locs cells slots) (hx : p.tables.exec = Jvm.exec) {pc pc' : Nat} {Ls : Array Slot} {st : List Value} {i : Int} {v : Int32} (hp : pc' = pc + 2) (hd : decode c.code pc = .ok (.bipush i, 2)) (hv : (Int8.ofInt i).toInt32 = v) (k : Go p e below F0 (T.setTop (mkF m pc' Ls (.int v :: st)))) : Go p e below F0 (T.setTop (mkF m pc Ls st)) := by
  subst hp
  exact Go.step (fun t kt => XS.bipush X.here hx (g := mkF m pc Ls _) rfl hd (by rw [hv]; exact kt)) k
theorem Go.sipush (X : Stand p l e R s m args below meth c T locs cells slots) (hx : p.tables.exec = Jvm.exec) {pc pc' : Nat} {Ls : Array Slot} {st : List Value} {i : Int} {v : Int32} (hp : pc' = pc + 3) (hd : decode c.code pc = .ok (.sipush i, 3)) (hv : (Int16.ofInt i).toInt32 = v) (k : Go p e below F0 (T.setTop (mkF m pc' Ls (.int v :: st)))) : Go p e below F0 (T.setTop (mkF m pc Ls st)) := by
  subst hp
  exact Go.step (fun t kt => XS.sipush X.here hx (g := mkF m pc Ls _) rfl hd (by rw [hv]; exact kt)) k
theorem Go.anull (X : Stand p l e R s m args below meth c T locs cells slots) (hx : p.tables.exec = Jvm.exec) {pc pc' : Nat} {Ls : Array Slot} {st : List Value} (hp : pc' = pc + 1) (hd : decode c.code pc = .ok (.aconst_null, 1))  (k : Go p e below F0 (T.setTop (mkF m pc' Ls (.null :: st)))) : Go p e below F0 (T.setTop (mkF m pc Ls st)) := by
  subst hp
  exact Go.step (fun t kt => XS.aconstNull X.here hx (g := mkF m pc Ls _) rfl hd kt) k
theorem Go.isub (X : Stand p l e R s m args below meth c T locs cells slots) (hx : p.tables.exec = Jvm.exec) {pc pc' : Nat} {Ls : Array Slot} {x y : Int32} {rest : List Value} (hp : pc' = pc + 1) (hd : decode c.code pc = .ok (.isub, 1))  (k : Go p e below F0 (T.setTop (mkF m pc' Ls (.int (x - y) :: rest)))) : Go p e below F0 (T.setTop (mkF m pc Ls (.int y :: .int x :: rest))) := by
  subst hp
  exact Go.step (fun t kt => XS.isub X.here hx (g := mkF m pc Ls _) rfl hd rfl kt) k
theorem Go.iand (X : Stand p l e R s m args below meth c T locs cells slots) (hx : p.tables.exec = Jvm.exec) {pc pc' : Nat} {Ls : Array Slot} {x y : Int32} {rest : List Value} (hp : pc' = pc + 1) (hd : decode c.code pc = .ok (.iand, 1))  (k : Go p e below F0 (T.setTop (mkF m pc' Ls (.int (x &&& y) :: rest)))) : Go p e below F0 (T.setTop (mkF m pc Ls (.int y :: .int x :: rest))) := by
  subst hp
  exact Go.step (fun t kt => XS.iand X.here hx (g := mkF m pc Ls _) rfl hd rfl kt) k
theorem Go.iushr (X : Stand p l e R s m args below meth c T locs cells slots) (hx : p.tables.exec = Jvm.exec) {pc pc' : Nat} {Ls : Array Slot} {x y : Int32} {rest : List Value} (hp : pc' = pc + 1) (hd : decode c.code pc = .ok (.iushr, 1))  (k : Go p e below F0 (T.setTop (mkF m pc' Ls (.int ((x.toUInt32 >>> (y &&& 31).toUInt32).toInt32) :: rest)))) : Go p e below F0 (T.setTop (mkF m pc Ls (.int y :: .int x :: rest))) := by
  subst hp
  exact Go.step (fun t kt => XT.iushr X.here hx (g := mkF m pc Ls _) rfl hd rfl kt) k
theorem Go.irem (X : Stand p l e R s m args below meth c T locs cells slots) (hx : p.tables.exec = Jvm.exec) {pc pc' : Nat} {Ls : Array Slot} {x y : Int32} {rest : List Value} (hp : pc' = pc + 1) (hd : decode c.code pc = .ok (.irem, 1)) (hy : y ≠ 0) (k : Go p e below F0 (T.setTop (mkF m pc' Ls (.int (x % y) :: rest)))) : Go p e below F0 (T.setTop (mkF m pc Ls (.int y :: .int x :: rest))) := by
  subst hp
  exact Go.step (fun t kt => iremM X hx (g := mkF m pc Ls _) rfl hd rfl hy kt) k
theorem Go.i2b (X : Stand p l e R s m args below meth c T locs cells slots) (hx : p.tables.exec = Jvm.exec) {pc pc' : Nat} {Ls : Array Slot} {x : Int32} {rest : List Value} (hp : pc' = pc + 1) (hd : decode c.code pc = .ok (.i2b, 1))  (k : Go p e below F0 (T.setTop (mkF m pc' Ls (.int (x.toInt8.toInt32) :: rest)))) : Go p e below F0 (T.setTop (mkF m pc Ls (.int x :: rest))) := by
  subst hp
  exact Go.step (fun t kt => XT.i2b X.here hx (g := mkF m pc Ls _) rfl hd rfl kt) k
theorem Go.i2c (X : Stand p l e R s m args below meth c T locs cells slots) (hx : p.tables.exec = Jvm.exec) {pc pc' : Nat} {Ls : Array Slot} {x : Int32} {rest : List Value} (hp : pc' = pc + 1) (hd : decode c.code pc = .ok (.i2c, 1))  (k : Go p e below F0 (T.setTop (mkF m pc' Ls (.int (x.toUInt32.toUInt16.toUInt32.toInt32) :: rest)))) : Go p e below F0 (T.setTop (mkF m pc Ls (.int x :: rest))) := by
  subst hp
  exact Go.step (fun t kt => XT.i2c X.here hx (g := mkF m pc Ls _) rfl hd rfl kt) k
theorem Go.dup (X : Stand p l e R s m args below meth c T locs cells slots) (hx : p.tables.exec = Jvm.exec) {pc pc' : Nat} {Ls : Array Slot} {x : Value} {rest : List Value} (hp : pc' = pc + 1) (hd : decode c.code pc = .ok (.dup, 1)) (hc : x.category = 1) (k : Go p e below F0 (T.setTop (mkF m pc' Ls (x :: x :: rest)))) : Go p e below F0 (T.setTop (mkF m pc Ls (x :: rest))) := by
  subst hp
  exact Go.step (fun t kt => XS.dup X.here hx (g := mkF m pc Ls _) rfl hd rfl hc kt) k
theorem Go.istoreN (X : Stand p l e R s m args below meth c T locs cells slots) (hx : p.tables.exec = Jvm.exec) {pc pc' : Nat} {Ls : Array Slot} {k : Fin 4} {x : Int32} {rest : List Value} {Ls' : Array Slot} (hp : pc' = pc + 1) (hd : decode c.code pc = .ok (.istore_n k, 1)) (hl : storeLocals Ls k.val (.int x) = some Ls') (k : Go p e below F0 (T.setTop (mkF m pc' Ls' rest))) : Go p e below F0 (T.setTop (mkF m pc Ls (.int x :: rest))) := by
  subst hp
  exact Go.step (fun t kt => XS.istoreN X.here hx (g := mkF m pc Ls _) rfl hd rfl hl kt) k
theorem Go.istore (X : Stand p l e R s m args below meth c T locs cells slots) (hx : p.tables.exec = Jvm.exec) {pc pc' : Nat} {Ls : Array Slot} {k : Nat} {x : Int32} {rest : List Value} {Ls' : Array Slot} (hp : pc' = pc + 2) (hd : decode c.code pc = .ok (.istore k, 2)) (hl : storeLocals Ls k (.int x) = some Ls') (k : Go p e below F0 (T.setTop (mkF m pc' Ls' rest))) : Go p e below F0 (T.setTop (mkF m pc Ls (.int x :: rest))) := by
  subst hp
  exact Go.step (fun t kt => XS.istore X.here hx (g := mkF m pc Ls _) rfl hd rfl hl kt) k
theorem Go.astoreN (X : Stand p l e R s m args below meth c T locs cells slots) (hx : p.tables.exec = Jvm.exec) {pc pc' : Nat} {Ls : Array Slot} {k : Fin 4} {x : Value} {rest : List Value} {Ls' : Array Slot} (hp : pc' = pc + 1) (hd : decode c.code pc = .ok (.astore_n k, 1)) (hv : x.isRef = true) (hl : storeLocals Ls k.val x = some Ls') (k : Go p e below F0 (T.setTop (mkF m pc' Ls' rest))) : Go p e below F0 (T.setTop (mkF m pc Ls (x :: rest))) := by
  subst hp
  exact Go.step (fun t kt => XS.astoreN X.here hx (g := mkF m pc Ls _) rfl hd rfl hv hl kt) k
theorem Go.astore (X : Stand p l e R s m args below meth c T locs cells slots) (hx : p.tables.exec = Jvm.exec) {pc pc' : Nat} {Ls : Array Slot} {k : Nat} {x : Value} {rest : List Value} {Ls' : Array Slot} (hp : pc' = pc + 2) (hd : decode c.code pc = .ok (.astore k, 2)) (hv : x.isRef = true) (hl : storeLocals Ls k x = some Ls') (k : Go p e below F0 (T.setTop (mkF m pc' Ls' rest))) : Go p e below F0 (T.setTop (mkF m pc Ls (x :: rest))) := by
  subst hp
  exact Go.step (fun t kt => XS.astore X.here hx (g := mkF m pc Ls _) rfl hd rfl hv hl kt) k
theorem Go.iinc (X : Stand p l e R s m args below meth c T locs cells slots) (hx : p.tables.exec = Jvm.exec) {pc pc' : Nat} {Ls : Array Slot} {st : List Value} {k : Nat} {cst : Int} {x y : Int32} {Ls' : Array Slot} (hp : pc' = pc + 3) (hd : decode c.code pc = .ok (.iinc k cst, 3)) (hl : Ls[k]? = some (.val (.int x))) (hy : x + Int32.ofInt cst = y) (hl' : storeLocals Ls k (.int y) = some Ls') (k : Go p e below F0 (T.setTop (mkF m pc' Ls' st))) : Go p e below F0 (T.setTop (mkF m pc Ls st)) := by
  subst hp
  exact Go.step (fun t kt => XS.iinc X.here hx (g := mkF m pc Ls _) rfl hd hl (by rw [hy]; exact hl') kt) k
theorem Go.goto (X : Stand p l e R s m args below meth c T locs cells slots) (hx : p.tables.exec = Jvm.exec) {pc pc' : Nat} {Ls : Array Slot} {o : Int} {st : List Value} (hd : decode c.code pc = .ok (.goto o, 3))  (ho : 0 ≤ (pc : Int) + o) (hp : ((pc : Int) + o).toNat = pc') (k : Go p e below F0 (T.setTop (mkF m pc' Ls st))) : Go p e below F0 (T.setTop (mkF m pc Ls st)) :=
  Go.step (fun t kt => XS.goto X.here hx (g := mkF m pc Ls _) rfl rfl hd ho hp kt) k
theorem Go.ifYes (X : Stand p l e R s m args below meth c T locs cells slots) (hx : p.tables.exec = Jvm.exec) {pc pc' : Nat} {Ls : Array Slot} {o : Int} {cd : ClassFile.Cond} {x : Int32} {rest : List Value} (hd : decode c.code pc = .ok (.ifCond cd o, 3)) (hc : if_icmp.holds cd x 0 = true) (ho : 0 ≤ (pc : Int) + o) (hp : ((pc : Int) + o).toNat = pc') (k : Go p e below F0 (T.setTop (mkF m pc' Ls rest))) : Go p e below F0 (T.setTop (mkF m pc Ls (.int x :: rest))) :=
  Go.step (fun t kt => XS.ifYes X.here hx (g := mkF m pc Ls _) rfl rfl hd rfl ((if0 _ _).trans hc) ho hp kt) k
theorem Go.icmpYes (X : Stand p l e R s m args below meth c T locs cells slots) (hx : p.tables.exec = Jvm.exec) {pc pc' : Nat} {Ls : Array Slot} {o : Int} {cd : ClassFile.Cond} {x y : Int32} {rest : List Value} (hd : decode c.code pc = .ok (.if_icmp cd o, 3)) (hc : if_icmp.holds cd x y = true) (ho : 0 ≤ (pc : Int) + o) (hp : ((pc : Int) + o).toNat = pc') (k : Go p e below F0 (T.setTop (mkF m pc' Ls rest))) : Go p e below F0 (T.setTop (mkF m pc Ls (.int y :: .int x :: rest))) :=
  Go.step (fun t kt => XS.icmpYes X.here hx (g := mkF m pc Ls _) rfl rfl hd rfl hc ho hp kt) k
theorem Go.ifNo (X : Stand p l e R s m args below meth c T locs cells slots) (hx : p.tables.exec = Jvm.exec) {pc pc' : Nat} {Ls : Array Slot} {o : Int} {cd : ClassFile.Cond} {x : Int32} {rest : List Value} (hp : pc' = pc + 3) (hd : decode c.code pc = .ok (.ifCond cd o, 3)) (hc : if_icmp.holds cd x 0 = false) (k : Go p e below F0 (T.setTop (mkF m pc' Ls rest))) : Go p e below F0 (T.setTop (mkF m pc Ls (.int x :: rest))) := by
  subst hp
  exact Go.step (fun t kt => XS.ifNo X.here hx (g := mkF m pc Ls _) rfl hd rfl ((if0 _ _).trans hc) kt) k
theorem Go.icmpNo (X : Stand p l e R s m args below meth c T locs cells slots) (hx : p.tables.exec = Jvm.exec) {pc pc' : Nat} {Ls : Array Slot} {o : Int} {cd : ClassFile.Cond} {x y : Int32} {rest : List Value} (hp : pc' = pc + 3) (hd : decode c.code pc = .ok (.if_icmp cd o, 3)) (hc : if_icmp.holds cd x y = false) (k : Go p e below F0 (T.setTop (mkF m pc' Ls rest))) : Go p e below F0 (T.setTop (mkF m pc Ls (.int y :: .int x :: rest))) := by
  subst hp
  exact Go.step (fun t kt => XS.icmpNo X.here hx (g := mkF m pc Ls _) rfl hd rfl hc kt) k
theorem Go.acmp (X : Stand p l e R s m args below meth c T locs cells slots) (hx : p.tables.exec = Jvm.exec) {pc pc' : Nat} {Ls : Array Slot} {cd : ACond} {x y : Value} {rest : List Value} {o : Int} {same : Bool} (hd : decode c.code pc = .ok (.if_acmp cd o, 3)) (h1 : x.isRef = true) (h2 : y.isRef = true) (hq : decide (x = y) = same) (ho : 0 ≤ (pc : Int) + o) (hp : pc' = if acV cd same = true then ((pc : Int) + o).toNat else pc + 3) (k : Go p e below F0 (T.setTop (mkF m pc' Ls rest))) : Go p e below F0 (T.setTop (mkF m pc Ls (y :: x :: rest))) :=
  Go.step (fun t kt => Jvm.RoadKit.acmp (g := mkF m pc Ls _) X hx rfl h1 h2 rfl hd rfl hq ho hp kt) k
theorem Go.getF (X : Stand p l e R s m args below meth c T locs cells slots) (hx : p.tables.exec = Jvm.exec) (hZ : Z.Warmed39 s.vm) {own : String} {index : Nat} (hown : s.vm.findClass own = some m.cls) {R0 O n d host : String} (wl : (Jvm.Cond.fieldLink own index R0 n d).before a0 Z = true ∨ (Jvm.Cond.fieldLinkNest own index R0 n d host).before a0 Z = true) (via : Via Z R0 O n d) (eT : T.heap = h) {a : Addr} {v : Value} (F : Fld Z h a O n d v) {pc pc' : Nat} {Ls : Array Slot} {rest : List Value} (hp : pc' = pc + 3) (hd : decode c.code pc = .ok (.getfield index, 3))
    (k : ∀ T', T'.heap = h → Stand p l e R s m args below meth c T' locs cells slots → Go p e below F0 (T'.setTop (mkF m pc' Ls (v :: rest)))) : Go p e below F0 (T.setTop (mkF m pc Ls (.ref a :: rest))) := by
  subst hp
  obtain ⟨T', X', e', st⟩ := Jvm.RoadKit.getF X hx hZ hown wl via eT F (g := mkF m pc Ls (.ref a :: rest)) rfl rfl hd
  exact Go.step st (k T' e' X')
theorem Go.getS (X : Stand p l e R s m args below meth c T locs cells slots) (hx : p.tables.exec = Jvm.exec) (hZ : Z.Warmed39 s.vm) {own : String} {index : Nat} (hown : s.vm.findClass own = some m.cls) {R0 O n d host : String} (wl : (Jvm.Cond.fieldLink own index R0 n d).before a0 Z = true ∨ (Jvm.Cond.fieldLinkNest own index R0 n d host).before a0 Z = true) (via : Via Z R0 O n d) (eT : T.heap = h) {v : Value} (F : Sta Z h O n d v) {pc pc' : Nat} {Ls : Array Slot} {rest : List Value} (hp : pc' = pc + 3) (hd : decode c.code pc = .ok (.getstatic index, 3))
    (k : ∀ T', T'.heap = h → Stand p l e R s m args below meth c T' locs cells slots → Go p e below F0 (T'.setTop (mkF m pc' Ls (v :: rest)))) : Go p e below F0 (T.setTop (mkF m pc Ls rest)) := by
  subst hp
  obtain ⟨T', X', e', st⟩ := Jvm.RoadKit.getS2 X hx hZ hown wl via eT F (g := mkF m pc Ls rest) rfl hd
  exact Go.step st (k T' e' X')
theorem Go.putF (X : Stand p l e R s m args below meth c T locs cells slots) (hx : p.tables.exec = Jvm.exec) (hZ : Z.Warmed39 s.vm) {own : String} {index : Nat} (hown : s.vm.findClass own = some m.cls) {R0 O n d host C : String} {kk : Nat} {ty : FieldType} (wl : (Jvm.Cond.fieldLink own index R0 n d).before a0 Z = true ∨ (Jvm.Cond.fieldLinkNest own index R0 n d host).before a0 Z = true) (via : Via Z R0 O n d) (eT : T.heap = h) {a : Addr} {v old : Value} (F : Fld Z h a O n d old) (E : Exa Z h a C) (L : (Jvm.Cond.lays C O n d).before a0 Z = true ∨ ((Jvm.Cond.laysFinal C O n d).before a0 Z = true ∧ own = O ∧ meth.name = "<init>")) (wi : (Jvm.Cond.instantiable C kk).before a0 Z = true) (hty : parseFieldDescriptor d = some ty) (hn : narrow ty v = v) (hf : fits ty v = true) {pc pc' : Nat} {Ls : Array Slot} {rest : List Value} (hp : pc' = pc + 3) (hd : decode c.code pc = .ok (.putfield index, 3))
    (k : ∀ T' h', T'.heap = h' → Wr h h' a (slotOf Z O n d) v → Fld Z h' a O n d v → Stand p l e R s m args below meth c T' (locs ++ [⟨a, slotOf Z O n d⟩]) cells slots → Go p e below F0 (T'.setTop (mkF m pc' Ls rest))) : Go p e below F0 (T.setTop (mkF m pc Ls (v :: .ref a :: rest))) := by
  subst hp
  obtain ⟨T', h', X', e', W, st⟩ := Jvm.RoadKit.putF X hx hZ hown wl via eT F E L wi hty hn hf (g := mkF m pc Ls (v :: .ref a :: rest)) rfl rfl hd
  exact Go.step st (k T' h' e' W (F.same W) X')
theorem Go.putFN (X : Stand p l e R s m args below meth c T locs cells slots) (hx : p.tables.exec = Jvm.exec) (hZ : Z.Warmed39 s.vm) {own : String} {index : Nat} (hown : s.vm.findClass own = some m.cls) {R0 O n d C : String} {kk : Nat} {ty : FieldType} (wl : (Jvm.Cond.fieldLink own index R0 n d).before a0 Z = true) (via : Via Z R0 O n d) (eT : T.heap = h) {a : Addr} {v v' old : Value} (F : Fld Z h a O n d old) (E : Exa Z h a C) (L : (Jvm.Cond.lays C O n d).before a0 Z = true ∨ ((Jvm.Cond.laysFinal C O n d).before a0 Z = true ∧ own = O ∧ meth.name = "<init>")) (wi : (Jvm.Cond.instantiable C kk).before a0 Z = true) (hty : parseFieldDescriptor d = some ty) (hn : narrow ty v = v') (hf : fits ty v' = true) {pc pc' : Nat} {Ls : Array Slot} {rest : List Value} (hp : pc' = pc + 3) (hd : decode c.code pc = .ok (.putfield index, 3))
    (k : ∀ T' h', T'.heap = h' → Wr h h' a (slotOf Z O n d) v' → Fld Z h' a O n d v' → Stand p l e R s m args below meth c T' (locs ++ [⟨a, slotOf Z O n d⟩]) cells slots → Go p e below F0 (T'.setTop (mkF m pc' Ls rest))) : Go p e below F0 (T.setTop (mkF m pc Ls (v :: .ref a :: rest))) := by
  subst hp
  obtain ⟨T', h', X', e', W, st⟩ := Jvm.RoadKit.putFN X hx hZ hown wl via eT F E L wi hty hn hf (g := mkF m pc Ls (v :: .ref a :: rest)) rfl rfl hd
  exact Go.step st (k T' h' e' W (F.same W) X')
theorem Go.new (X : Stand p l e R s m args below meth c T locs cells slots) (hx : p.tables.exec = Jvm.exec) (hZ : Z.Warmed39 s.vm) {own : String} {index : Nat} (hown : s.vm.findClass own = some m.cls) {C : String} {n : Nat} (wl : (Jvm.Cond.classLink own index C).before a0 Z = true) (wi : (Jvm.Cond.instantiable C n).before a0 Z = true) (wz : (Jvm.Cond.initialized C).before a0 Z = true) (eT : T.heap = h) (hc : cells + 1 ≤ R.cells) (hl : slots + n ≤ R.slots) {pc pc' : Nat} {Ls : Array Slot} {rest : List Value} (hp : pc' = pc + 3) (hd : decode c.code pc = .ok (.new index, 3))
    (k : ∀ T' h' a, T'.heap = h' → Ext h h' → a = h.size → Exa Z h' a C → (∀ {O nm d : String} {ty : FieldType}, Laid Z a0 C O nm d → parseFieldDescriptor d = some ty → Fld Z h' a O nm d (defaultValue ty)) → Stand p l e R s m args below meth c T' locs (cells + 1) (slots + n) → Go p e below F0 (T'.setTop (mkF m pc' Ls (.ref a :: rest)))) : Go p e below F0 (T.setTop (mkF m pc Ls rest)) := by
  subst hp
  obtain ⟨T', h', X', e', E, A, D, -, st⟩ := newO X hx hZ hown wl wi wz eT (g := mkF m pc Ls rest) rfl hd hc hl
  exact Go.step st (k T' h' h.size e' E rfl A D X')
theorem Go.newarray (X : Stand p l e R s m args below meth c T locs cells slots) (hx : p.tables.exec = Jvm.exec) (hZ : Z.Warmed39 s.vm) {aty : ArrayType} {ty : FieldType} (hty : newarray.typeOf aty = ty) (wa : (Jvm.Cond.arrayClass ty).before a0 Z = true) (eT : T.heap = h) {n : Int32} (hn : ¬ n < 0) {cap : Nat} (hcap : n.toNatClampNeg ≤ cap) (hb : cap * 8 ≤ 536870912) (hc : cells + 1 ≤ R.cells) (hl : slots + cap ≤ R.slots) {ad : String} (had : "[" ++ ty.toString = ad) (N : Nat) {pc pc' : Nat} {Ls : Array Slot} {rest : List Value} (hp : pc' = pc + 2) (hd : decode c.code pc = .ok (.newarray aty, 2))
    (k : ∀ T' h' a kk, T'.heap = h' → Ext h h' → a = h.size → Arv Z h' a kk ty n (List.replicate N (defaultValue ty)) (defaultValue ty) → Exa Z h' a ad → Stand p l e R s m args below meth c T' locs (cells + 1) (slots + cap) → Go p e below F0 (T'.setTop (mkF m pc' Ls (.ref a :: rest)))) : Go p e below F0 (T.setTop (mkF m pc Ls (.int n :: rest))) := by
  subst hp hty
  obtain ⟨T', h', cA, X', e', E, A, Ex, st⟩ := newPE X hx hZ wa eT (g := mkF m pc Ls (.int n :: rest)) rfl hd rfl hn hcap hb hc hl had
  exact Go.step st (k T' h' h.size cA e' E rfl ((Arv.new A hn).pad (pad_rep [] _ N)) Ex X')
theorem Go.castore (X : Stand p l e R s m args below meth c T locs cells slots) (hx : p.tables.exec = Jvm.exec) (hZ : Z.Warmed39 s.vm) (eT : T.heap = h) {a : Addr} {kk : ClassId} {z : Int32} {vs : List Value} {dv : Value} (V : Arv Z h a kk .char z vs dv) {j : Int32} {x : Int32} (x' : Int32) (hn : nar .char x = x') (hj : ¬ j < 0 ∧ j < z) (i : Nat) (hi : j.toNatClampNeg = i) (hl : i < vs.length) {pc pc' : Nat} {Ls : Array Slot} {rest : List Value} (hp : pc' = pc + 1) (hd : decode c.code pc = .ok (.castore, 1))
    (k : ∀ T' h', T'.heap = h' → Wr h h' a j.toNatClampNeg (.int x') → Arv Z h' a kk .char z (vs.set i (.int x')) dv → Stand p l e R s m args below meth c T' (locs ++ [⟨a, j.toNatClampNeg⟩]) cells slots → Go p e below F0 (T'.setTop (mkF m pc' Ls rest))) : Go p e below F0 (T.setTop (mkF m pc Ls (.int x :: .int j :: .ref a :: rest))) := by
  subst hp hn
  obtain ⟨cl, A, q1, S, q3, H, G⟩ := V
  obtain ⟨T', h', X', e', W, st⟩ := stC X hx hZ eT A (j := j) (x := x) (inb_of S hj) (g := mkF m pc Ls (.int x :: .int j :: .ref a :: rest)) rfl rfl hd
  exact Go.step st (k T' h' e' W (Arv.set A q1 S q3 H G (fits_nar_char x) W i hi hl) X')
theorem Go.bastore (X : Stand p l e R s m args below meth c T locs cells slots) (hx : p.tables.exec = Jvm.exec) (hZ : Z.Warmed39 s.vm) (eT : T.heap = h) {a : Addr} {kk : ClassId} {z : Int32} {vs : List Value} {dv : Value} (V : Arv Z h a kk .byte z vs dv) {j : Int32} {x : Int32} (x' : Int32) (hn : nar .byte x = x') (hj : ¬ j < 0 ∧ j < z) (i : Nat) (hi : j.toNatClampNeg = i) (hl : i < vs.length) {pc pc' : Nat} {Ls : Array Slot} {rest : List Value} (hp : pc' = pc + 1) (hd : decode c.code pc = .ok (.bastore, 1))
    (k : ∀ T' h', T'.heap = h' → Wr h h' a j.toNatClampNeg (.int x') → Arv Z h' a kk .byte z (vs.set i (.int x')) dv → Stand p l e R s m args below meth c T' (locs ++ [⟨a, j.toNatClampNeg⟩]) cells slots → Go p e below F0 (T'.setTop (mkF m pc' Ls rest))) : Go p e below F0 (T.setTop (mkF m pc Ls (.int x :: .int j :: .ref a :: rest))) := by
  subst hp hn
  obtain ⟨cl, A, q1, S, q3, H, G⟩ := V
  obtain ⟨T', h', X', e', W, st⟩ := stB X hx hZ eT A (j := j) (x := x) (inb_of S hj) (g := mkF m pc Ls (.int x :: .int j :: .ref a :: rest)) rfl rfl hd
  exact Go.step st (k T' h' e' W (Arv.set A q1 S q3 H G (fits_nar_byte x) W i hi hl) X')
theorem Go.caload (X : Stand p l e R s m args below meth c T locs cells slots) (hx : p.tables.exec = Jvm.exec) (hZ : Z.Warmed39 s.vm) (eT : T.heap = h) {a : Addr} {kk : ClassId} {z : Int32} {vs : List Value} {dv : Value} (V : Arv Z h a kk .char z vs dv) {j : Int32} {v : Value} (hj : ¬ j < 0 ∧ j < z) (hv : vs.getD j.toNatClampNeg dv = v) {pc pc' : Nat} {Ls : Array Slot} {rest : List Value} (hp : pc' = pc + 1) (hd : decode c.code pc = .ok (.caload, 1)) (k : Go p e below F0 (T.setTop (mkF m pc' Ls (v :: rest)))) : Go p e below F0 (T.setTop (mkF m pc Ls (.int j :: .ref a :: rest))) := by
  subst hp
  obtain ⟨cl, A, q1, S, q3, H, G⟩ := V
  exact Go.step (fun t kt => X.caload hx (j := j) (v := v) (by rw [eT]; exact A.1) (State.isArrayOf_alike hZ.alike A.2.1) A.2.2 (inb_of S hj) (H.at (inb_of S hj) hv) (g := mkF m pc Ls (.int j :: .ref a :: rest)) rfl rfl hd t kt) k
theorem Go.baload (X : Stand p l e R s m args below meth c T locs cells slots) (hx : p.tables.exec = Jvm.exec) (hZ : Z.Warmed39 s.vm) (eT : T.heap = h) {a : Addr} {kk : ClassId} {z : Int32} {vs : List Value} {dv : Value} (V : Arv Z h a kk .byte z vs dv) {j : Int32} {v : Value} (hj : ¬ j < 0 ∧ j < z) (hv : vs.getD j.toNatClampNeg dv = v) {pc pc' : Nat} {Ls : Array Slot} {rest : List Value} (hp : pc' = pc + 1) (hd : decode c.code pc = .ok (.baload, 1)) (k : Go p e below F0 (T.setTop (mkF m pc' Ls (v :: rest)))) : Go p e below F0 (T.setTop (mkF m pc Ls (.int j :: .ref a :: rest))) := by
  subst hp
  obtain ⟨cl, A, q1, S, q3, H, G⟩ := V
  exact Go.step (fun t kt => X.baloadBytes hx (j := j) (v := v) (by rw [eT]; exact A.1) (State.isArrayOf_alike hZ.alike A.2.1) A.2.2 (inb_of S hj) (H.at (inb_of S hj) hv) (g := mkF m pc Ls (.int j :: .ref a :: rest)) rfl rfl hd t kt) k
theorem Go.arraylength (X : Stand p l e R s m args below meth c T locs cells slots) (hx : p.tables.exec = Jvm.exec) (hZ : Z.Warmed39 s.vm) (eT : T.heap = h) {a : Addr} {kk : ClassId} {ty : FieldType} {z : Int32} {vs : List Value} {dv : Value} (V : Arv Z h a kk ty z vs dv) {pc pc' : Nat} {Ls : Array Slot} {rest : List Value} (hp : pc' = pc + 1) (hd : decode c.code pc = .ok (.arraylength, 1)) (k : Go p e below F0 (T.setTop (mkF m pc' Ls (.int z :: rest)))) : Go p e below F0 (T.setTop (mkF m pc Ls (.ref a :: rest))) := by
  subst hp
  obtain ⟨cl, A, q1, S, q3, H, G⟩ := V
  refine Go.step (fun t kt => X.arraylength hx (by rw [eT]; exact A.1) (State.isArrayOf_alike hZ.alike A.2.1) (g := mkF m pc Ls (.ref a :: rest)) rfl rfl hd t kt) ?_
  rw [len_of S q3]
  exact k
theorem Go.castY (X : Stand p l e R s m args below meth c T locs cells slots) (hx : p.tables.exec = Jvm.exec) (hZ : Z.Warmed39 s.vm) {own : String} {index : Nat} (hown : s.vm.findClass own = some m.cls) {K : String} (wl : (Jvm.Cond.classLink own index K).before a0 Z = true) (eT : T.heap = h) {a : Addr} (F : Ins Z h a K true) {pc pc' : Nat} {Ls : Array Slot} {rest : List Value} (hp : pc' = pc + 3) (hd : decode c.code pc = .ok (.checkcast index, 3))
    (k : ∀ T', T'.heap = h → Stand p l e R s m args below meth c T' locs cells slots → Go p e below F0 (T'.setTop (mkF m pc' Ls (.ref a :: rest)))) : Go p e below F0 (T.setTop (mkF m pc Ls (.ref a :: rest))) := by
  subst hp
  obtain ⟨T', X', e', st⟩ := Jvm.RoadKit.castY X hx hZ hown wl eT F (g := mkF m pc Ls (.ref a :: rest)) rfl rfl hd
  exact Go.step st (k T' e' X')
theorem Go.instY (X : Stand p l e R s m args below meth c T locs cells slots) (hx : p.tables.exec = Jvm.exec) (hZ : Z.Warmed39 s.vm) {own : String} {index : Nat} (hown : s.vm.findClass own = some m.cls) {K : String} (wl : (Jvm.Cond.classLink own index K).before a0 Z = true) (eT : T.heap = h) {a : Addr} (F : Ins Z h a K true) {pc pc' : Nat} {Ls : Array Slot} {rest : List Value} (hp : pc' = pc + 3) (hd : decode c.code pc = .ok (.instanceof index, 3))
    (k : ∀ T', T'.heap = h → Stand p l e R s m args below meth c T' locs cells slots → Go p e below F0 (T'.setTop (mkF m pc' Ls (.int 1 :: rest)))) : Go p e below F0 (T.setTop (mkF m pc Ls (.ref a :: rest))) := by
  subst hp
  obtain ⟨T', X', e', st⟩ := Jvm.RoadKit.instY X hx hZ hown wl eT F (g := mkF m pc Ls (.ref a :: rest)) rfl rfl hd
  exact Go.step st (k T' e' X')
theorem Go.initO (X : Stand p l e R s m args below meth c T locs cells slots) (hx : p.tables.exec = Jvm.exec) (hZ : Z.Warmed39 s.vm) {own : String} {index : Nat} (hown : s.vm.findClass own = some m.cls) (w1 : (Jvm.Cond.methodLink own index Lib.objectInit).before a0 Z = true) (w2 : (Jvm.Cond.instanceMethod Lib.objectInit).before a0 Z = true) (w3 : (Jvm.Cond.code Lib.objectInit ⟨#[0xb1]⟩ 1 none).before a0 Z = true) (eT : T.heap = h) {a : Addr} (hf : 1 ≤ R.frames) {W : Nat} {pc pc' : Nat} {Ls : Array Slot} {rest : List Value} (hsz : Ls.size = c.maxLocals) (hW : (rest.map fun v => v.category).sum ≤ W) (hl : W + 12 ≤ R.locals) (hp : pc' = pc + 3) (hd : decode c.code pc = .ok (.invokespecial index, 3))
    (k : ∀ T', T'.heap = h → Stand p l e R s m args below meth c T' locs cells slots → Go p e below F0 (T'.setTop (mkF m pc' Ls rest))) : Go p e below F0 (T.setTop (mkF m pc Ls (.ref a :: rest))) := by
  subst hp
  obtain ⟨T', X', e', st⟩ := Jvm.RoadKit.initO X hx hZ hown w1 w2 w3 eT (g := mkF m pc Ls (.ref a :: rest)) rfl hsz rfl hd hf (W := W) (by show 2 * 0 + _ ≤ _; rw [Nat.mul_zero, Nat.zero_add]; exact hW) hl
  exact Go.step st (k T' e' X')
theorem Go.callSB (X : Stand p l e R s m args below meth c T locs cells slots) (hx : p.tables.exec = Jvm.exec) (hZ : Z.Warmed39 s.vm) {own : String} {index : Nat} (hown : s.vm.findClass own = some m.cls) {y : MethodName} {bytes : ByteArray} {maxL : Nat} {ret : Option FieldType} (w1 : (Jvm.Cond.methodLink own index y).before a0 Z = true) (w2 : (Jvm.Cond.static y).before a0 Z = true) (w3 : (Jvm.Cond.initialized y.cls).before a0 Z = true) (w4 : (Jvm.Cond.code y bytes maxL ret).before a0 Z = true) (hy : y.cls ≠ "java/lang/invoke/MethodHandle" ∧ y.cls ≠ "java/lang/invoke/VarHandle") {W : Nat} {Pre : Pt → Array Value → Prop} {Post : Pt → Array Value → Option Value → Pt → Prop} (hK : Back l R p e below s args y 3 W Pre Post) (eT : T.heap = h)  {pc pc' : Nat} {Ls : Array Slot} {stk argsL rest : List Value} (hp : pc' = pc + 3) (hsz : Ls.size = c.maxLocals) (hlen : ∀ sig, parseMethodDescriptor y.desc = some sig → argsL.length = sig.parameters.length) (hst : stk = argsL.reverse ++ rest) (hW : (rest.map fun v => v.category).sum ≤ W) (hd : decode c.code pc = .ok (.invokestatic index, 3)) (hpre : ∀ vm₁, s.WarmedH vm₁ → Pre ⟨T.setVm vm₁, locs, cells, slots⟩ argsL.toArray)
    (k : ∀ (v : Option Value) (vm₁ : Vm) (T' : State) (locs' : List Loc) (cells' slots' : Nat), Stand p l e R s m args below meth c T' locs' cells' slots' → Post ⟨T.setVm vm₁, locs, cells, slots⟩ argsL.toArray v ⟨T', locs', cells', slots'⟩ → Go p e below F0 (T'.setTop (mkF m pc' Ls (v.toList ++ rest)))) : Go p e below F0 (T.setTop (mkF m pc Ls stk)) := by
  subst hp
  obtain ⟨v, vm₁, ⟨T', L', c', n'⟩, -, X', hP, st⟩ := Jvm.LawKit.callS X hx hown (mvT hZ w1) (mvT hZ w2) (mvT hZ w3) (mvT hZ w4) hy hK (g := mkF m pc Ls stk) rfl hsz hlen hst (by show 2 * 0 + _ ≤ _; rw [Nat.mul_zero, Nat.zero_add]; exact hW) hd hpre
  exact Go.step st (k v vm₁ T' L' c' n' X' hP)
theorem Go.callS (X : Stand p l e R s m args below meth c T locs cells slots) (hx : p.tables.exec = Jvm.exec) (hZ : Z.Warmed39 s.vm) {own : String} {index : Nat} (hown : s.vm.findClass own = some m.cls) {y : MethodName} {bytes : ByteArray} {maxL : Nat} {ret : Option FieldType} (w1 : (Jvm.Cond.methodLink own index y).before a0 Z = true) (w2 : (Jvm.Cond.static y).before a0 Z = true) (w3 : (Jvm.Cond.initialized y.cls).before a0 Z = true) (w4 : (Jvm.Cond.code y bytes maxL ret).before a0 Z = true) (hy : y.cls ≠ "java/lang/invoke/MethodHandle" ∧ y.cls ≠ "java/lang/invoke/VarHandle") {rm : Room} {Qc : Option Value → Heap → List Loc → Prop}  (wc : (Jvm.Cond.code y bytes maxL ret).before a0 Z = true) (wz : (Jvm.Cond.initialized y.cls).before a0 Z = true) {as : Array Value} (hC : Ctr l Z y bytes maxL ret rm as h Qc) (eT : T.heap = h)  {pc pc' : Nat} {Ls : Array Slot} {stk argsL rest : List Value} (hp : pc' = pc + 3) (hsz : Ls.size = c.maxLocals) (hlen : ∀ sig, parseMethodDescriptor y.desc = some sig → argsL.length = sig.parameters.length) (hst : stk = argsL.reverse ++ rest) (has : argsL.toArray = as) {W : Nat} (hW : (rest.map fun v => v.category).sum ≤ W) (hf : rm.frames + 1 ≤ R.frames) (hl : W + (maxL + 11) + rm.locals ≤ R.locals) (hc : cells + rm.cells ≤ R.cells) (hs : slots + rm.slots ≤ R.slots) (hd : decode c.code pc = .ok (.invokestatic index, 3))
    (k : ∀ (v : Option Value) (T' : State) (L : List Loc), Qc v T'.heap L → Stand p l e R s m args below meth c T' (locs ++ L) (cells + rm.cells) (slots + rm.slots) → Go p e below F0 (T'.setTop (mkF m pc' Ls (v.toList ++ rest)))) : Go p e below F0 (T.setTop (mkF m pc Ls stk)) :=
  Go.callSB X hx hZ hown w1 w2 w3 w4 hy (backOf (W := W) (hC []) hZ wc wz hf hl) eT  hp hsz hlen hst hW hd (fun _ _ => ⟨has, eT, hc, hs⟩) (fun v vm₁ T' locs' cells' slots' X' ⟨L, hq, h1, h2, h3⟩ => by
    try dsimp only at h1 h2 h3
    subst h1 h2 h3
    exact k v T' L hq X')
theorem Go.callVB (X : Stand p l e R s m args below meth c T locs cells slots) (hx : p.tables.exec = Jvm.exec) (hZ : Z.Warmed39 s.vm) {own : String} {index : Nat} (hown : s.vm.findClass own = some m.cls) {x y : MethodName} {C : String} (w1 : (Jvm.Cond.methodLink own index x).before a0 Z = true) (w2 : (Jvm.Cond.declares x).before a0 Z = true) (nf : NotFace s x) (w3 : (Jvm.Cond.selects C x y).before a0 Z = true) (w4 : (Jvm.Cond.instanceMethod y).before a0 Z = true) (hy : x.cls ≠ "java/lang/invoke/MethodHandle" ∧ x.cls ≠ "java/lang/invoke/VarHandle") {W : Nat} {Pre : Pt → Array Value → Prop} {Post : Pt → Array Value → Option Value → Pt → Prop} (hK : Back l R p e below s args y 3 W Pre Post) (eT : T.heap = h) {a : Addr} (F : Exa Z h a C) {pc pc' : Nat} {Ls : Array Slot} {stk argsL rest : List Value} (hp : pc' = pc + 3) (hsz : Ls.size = c.maxLocals) (hlen : ∀ sig, parseMethodDescriptor x.desc = some sig → argsL.length = sig.parameters.length) (hst : stk = argsL.reverse ++ .ref a :: rest) (hW : (rest.map fun v => v.category).sum ≤ W) (hd : decode c.code pc = .ok (.invokevirtual index, 3)) (hpre : ∀ vm₁, s.WarmedH vm₁ → Pre ⟨T.setVm vm₁, locs, cells, slots⟩ (.ref a :: argsL).toArray)
    (k : ∀ (v : Option Value) (vm₁ : Vm) (T' : State) (locs' : List Loc) (cells' slots' : Nat), Stand p l e R s m args below meth c T' locs' cells' slots' → Post ⟨T.setVm vm₁, locs, cells, slots⟩ (.ref a :: argsL).toArray v ⟨T', locs', cells', slots'⟩ → Go p e below F0 (T'.setTop (mkF m pc' Ls (v.toList ++ rest)))) : Go p e below F0 (T.setTop (mkF m pc Ls stk)) := by
  subst hp
  obtain ⟨cB, kB, q1, q2, q3⟩ := isOf hZ eT F
  obtain ⟨v, vm₁, ⟨T', L', c', n'⟩, -, X', hP, st⟩ := X.virtualBack hx (y := x) (z := y) hown (mvT hZ w1) (mvT hZ w2) nf (mvT hZ w3) (mvT hZ w4) hy hK q1 q3 (g := mkF m pc Ls stk) rfl hsz (Steps.refl _) hlen hst (by show 2 * 0 + _ ≤ _; rw [Nat.mul_zero, Nat.zero_add]; exact hW) hd hpre
  exact Go.step (fun t kt => st.trans kt) (k v vm₁ T' L' c' n' X' hP)
theorem Go.callV (X : Stand p l e R s m args below meth c T locs cells slots) (hx : p.tables.exec = Jvm.exec) (hZ : Z.Warmed39 s.vm) {own : String} {index : Nat} (hown : s.vm.findClass own = some m.cls) {x y : MethodName} {C : String} (w1 : (Jvm.Cond.methodLink own index x).before a0 Z = true) (w2 : (Jvm.Cond.declares x).before a0 Z = true) (nf : NotFace s x) (w3 : (Jvm.Cond.selects C x y).before a0 Z = true) (w4 : (Jvm.Cond.instanceMethod y).before a0 Z = true) (hy : x.cls ≠ "java/lang/invoke/MethodHandle" ∧ x.cls ≠ "java/lang/invoke/VarHandle") {bytes : ByteArray} {maxL : Nat} {ret : Option FieldType} {rm : Room} {Qc : Option Value → Heap → List Loc → Prop}  (wc : (Jvm.Cond.code y bytes maxL ret).before a0 Z = true) (wz : (Jvm.Cond.initialized y.cls).before a0 Z = true) {as : Array Value} (hC : Ctr l Z y bytes maxL ret rm as h Qc) (eT : T.heap = h) {a : Addr} (F : Exa Z h a C) {pc pc' : Nat} {Ls : Array Slot} {stk argsL rest : List Value} (hp : pc' = pc + 3) (hsz : Ls.size = c.maxLocals) (hlen : ∀ sig, parseMethodDescriptor x.desc = some sig → argsL.length = sig.parameters.length) (hst : stk = argsL.reverse ++ .ref a :: rest) (has : (.ref a :: argsL).toArray = as) {W : Nat} (hW : (rest.map fun v => v.category).sum ≤ W) (hf : rm.frames + 1 ≤ R.frames) (hl : W + (maxL + 11) + rm.locals ≤ R.locals) (hc : cells + rm.cells ≤ R.cells) (hs : slots + rm.slots ≤ R.slots) (hd : decode c.code pc = .ok (.invokevirtual index, 3))
    (k : ∀ (v : Option Value) (T' : State) (L : List Loc), Qc v T'.heap L → Stand p l e R s m args below meth c T' (locs ++ L) (cells + rm.cells) (slots + rm.slots) → Go p e below F0 (T'.setTop (mkF m pc' Ls (v.toList ++ rest)))) : Go p e below F0 (T.setTop (mkF m pc Ls stk)) :=
  Go.callVB X hx hZ hown w1 w2 nf w3 w4 hy (backOf (W := W) (hC []) hZ wc wz hf hl) eT F hp hsz hlen hst hW hd (fun _ _ => ⟨has, eT, hc, hs⟩) (fun v vm₁ T' locs' cells' slots' X' ⟨L, hq, h1, h2, h3⟩ => by
    try dsimp only at h1 h2 h3
    subst h1 h2 h3
    exact k v T' L hq X')
theorem Go.callNB (X : Stand p l e R s m args below meth c T locs cells slots) (hx : p.tables.exec = Jvm.exec) (hZ : Z.Warmed39 s.vm) {own : String} {index : Nat} (hown : s.vm.findClass own = some m.cls) {y : MethodName} {bytes : ByteArray} {maxL : Nat} (hn : y.name = "<init>") (w1 : (Jvm.Cond.methodLink own index y).before a0 Z = true) (w2 : (Jvm.Cond.instanceMethod y).before a0 Z = true) (w4 : (Jvm.Cond.code y bytes maxL none).before a0 Z = true) (hy : y.cls ≠ "java/lang/invoke/MethodHandle" ∧ y.cls ≠ "java/lang/invoke/VarHandle") {W : Nat} {Pre : Pt → Array Value → Prop} {Post : Pt → Array Value → Option Value → Pt → Prop} (hK : Back l R p e below s args y 3 W Pre Post) (eT : T.heap = h) {a : Addr} {pc pc' : Nat} {Ls : Array Slot} {stk argsL rest : List Value} (hp : pc' = pc + 3) (hsz : Ls.size = c.maxLocals) (hlen : ∀ sig, parseMethodDescriptor y.desc = some sig → argsL.length = sig.parameters.length) (hst : stk = argsL.reverse ++ .ref a :: rest) (hW : (rest.map fun v => v.category).sum ≤ W) (hd : decode c.code pc = .ok (.invokespecial index, 3)) (hpre : ∀ vm₁, s.WarmedH vm₁ → Pre ⟨T.setVm vm₁, locs, cells, slots⟩ (.ref a :: argsL).toArray)
    (k : ∀ (v : Option Value) (vm₁ : Vm) (T' : State) (locs' : List Loc) (cells' slots' : Nat), Stand p l e R s m args below meth c T' locs' cells' slots' → Post ⟨T.setVm vm₁, locs, cells, slots⟩ (.ref a :: argsL).toArray v ⟨T', locs', cells', slots'⟩ → Go p e below F0 (T'.setTop (mkF m pc' Ls (v.toList ++ rest)))) : Go p e below F0 (T.setTop (mkF m pc Ls stk)) := by
  subst hp
  obtain ⟨v, vm₁, ⟨T', L', c', n'⟩, -, X', hP, st⟩ := X.specialBack hx (y := y) hn hown (mvT hZ w1) (mvT hZ w2) (mvT hZ w4) hy hK (g := mkF m pc Ls stk) rfl hsz (Steps.refl _) (a := a) hlen hst (by show 2 * 0 + _ ≤ _; rw [Nat.mul_zero, Nat.zero_add]; exact hW) hd hpre
  exact Go.step (fun t kt => st.trans kt) (k v vm₁ T' L' c' n' X' hP)
theorem Go.callN (X : Stand p l e R s m args below meth c T locs cells slots) (hx : p.tables.exec = Jvm.exec) (hZ : Z.Warmed39 s.vm) {own : String} {index : Nat} (hown : s.vm.findClass own = some m.cls) {y : MethodName} {bytes : ByteArray} {maxL : Nat} (hn : y.name = "<init>") (w1 : (Jvm.Cond.methodLink own index y).before a0 Z = true) (w2 : (Jvm.Cond.instanceMethod y).before a0 Z = true) (w4 : (Jvm.Cond.code y bytes maxL none).before a0 Z = true) (hy : y.cls ≠ "java/lang/invoke/MethodHandle" ∧ y.cls ≠ "java/lang/invoke/VarHandle") {rm : Room} {Qc : Option Value → Heap → List Loc → Prop}  (wc : (Jvm.Cond.code y bytes maxL none).before a0 Z = true) (wz : (Jvm.Cond.initialized y.cls).before a0 Z = true) {as : Array Value} (hC : Ctr l Z y bytes maxL none rm as h Qc) (eT : T.heap = h) {a : Addr} {pc pc' : Nat} {Ls : Array Slot} {stk argsL rest : List Value} (hp : pc' = pc + 3) (hsz : Ls.size = c.maxLocals) (hlen : ∀ sig, parseMethodDescriptor y.desc = some sig → argsL.length = sig.parameters.length) (hst : stk = argsL.reverse ++ .ref a :: rest) (has : (.ref a :: argsL).toArray = as) {W : Nat} (hW : (rest.map fun v => v.category).sum ≤ W) (hf : rm.frames + 1 ≤ R.frames) (hl : W + (maxL + 11) + rm.locals ≤ R.locals) (hc : cells + rm.cells ≤ R.cells) (hs : slots + rm.slots ≤ R.slots) (hd : decode c.code pc = .ok (.invokespecial index, 3))
    (k : ∀ (v : Option Value) (T' : State) (L : List Loc), Qc v T'.heap L → Stand p l e R s m args below meth c T' (locs ++ L) (cells + rm.cells) (slots + rm.slots) → Go p e below F0 (T'.setTop (mkF m pc' Ls (v.toList ++ rest)))) : Go p e below F0 (T.setTop (mkF m pc Ls stk)) :=
  Go.callNB X hx hZ hown hn w1 w2 w4 hy (backOf (W := W) (hC []) hZ wc wz hf hl) eT  hp hsz hlen hst hW hd (fun _ _ => ⟨has, eT, hc, hs⟩) (fun v vm₁ T' locs' cells' slots' X' ⟨L, hq, h1, h2, h3⟩ => by
    try dsimp only at h1 h2 h3
    subst h1 h2 h3
    exact k v T' L hq X')
theorem own_NSroot {O K : String} {n : Nat} (wo : (Jvm.Cond.noSuperclass O).before a0 Z = true) (wk : (Jvm.Cond.instantiable K n).before a0 Z = true) (hn : O ≠ K) : NS Z O K := by
  obtain ⟨c, k, h1, h2, h3, -, -⟩ := Cond.noSuperclass_spec wo
  obtain ⟨t, kt, g1, -⟩ := Cond.instantiable_spec wk
  have ne := ids_ne h1 g1 hn
  refine ⟨c, t, h1, g1, fun fuel => ?_⟩
  cases fuel with
  | zero => rfl
  | succ f => simp [Vm.isSubclassAux, ne, h2, h3]
theorem own_NSno {C S K : String} {n : Nat} (wc : (Jvm.Cond.superclass C S).before a0 Z = true) (wk : (Jvm.Cond.instantiable K n).before a0 Z = true) (ns : NS Z C K) (hn : C ≠ K) : ∃ c t, Z.vm.findClass C = some c ∧ Z.vm.findClass K = some t ∧ Z.vm.assignable c t = false := by
  obtain ⟨c, t, h0, g0, n3⟩ := ns
  obtain ⟨q, k, kp, h1, h2, h3, h4, h5, -, h7⟩ := Cond.superclass_spec h0 wc
  obtain ⟨t', kt, g1, g2, g3, g4, -⟩ := Cond.instantiable_spec wk
  cases g0.symm.trans g1
  have ne := ids_ne h0 g0 hn
  have g5 : kt.isInterface = false := by cases hq : kt.isInterface <;> simp [hq] at g4 ⊢
  refine ⟨c, t, h0, g0, ?_⟩
  show Z.vm.assignableAux (255 + 1) c t = false
  simp [Vm.assignableAux, ne, h2, g2, h5, g3, g5, Vm.isSubclass, n3]
theorem Go.instN (X : Stand p l e R s m args below meth c T locs cells slots) (hx : p.tables.exec = Jvm.exec) (hZ : Z.Warmed39 s.vm) {own : String} {index : Nat} (hown : s.vm.findClass own = some m.cls) {K C : String} (wl : (Jvm.Cond.classLink own index K).before a0 Z = true) (eT : T.heap = h) {a : Addr} (E : Exa Z h a C) (F : ∃ c t, Z.vm.findClass C = some c ∧ Z.vm.findClass K = some t ∧ Z.vm.assignable c t = false) {pc pc' : Nat} {Ls : Array Slot} {rest : List Value} (hp : pc' = pc + 3) (hd : decode c.code pc = .ok (.instanceof index, 3))
    (k : ∀ T', T'.heap = h → Stand p l e R s m args below meth c T' locs cells slots → Go p e below F0 (T'.setTop (mkF m pc' Ls (.int 0 :: rest)))) : Go p e below F0 (T.setTop (mkF m pc Ls (.ref a :: rest))) := by
  subst hp
  obtain ⟨T', X', e', st⟩ := Jvm.RoadKit.instNo X hx hZ hown wl eT E F (g := mkF m pc Ls (.ref a :: rest)) rfl rfl hd
  exact Go.step st (k T' e' X')
end OwnGo
end Jvm.RoadKit
namespace Jvm.RoadKit
open Sem ClassFile Op Lib Jvm.Stand Jvm.Free Jvm.LawKit
section OwnWide
variable {p : Program} {l : Launch} {e : Env} {R : Room} {s : State} {m : MethodId} {args : Array Value} {below : List Frame} {meth : Method} {c : Code} {T : State} {locs : List Loc} {cells slots kc ks : Nat} {Z : State} {a0 : Array Value} {h : Heap} {Q : Option Value → Heap → List Loc → Prop} {F0 : State → Outcome → Prop} {EL : List (String × Nat)} {vm0 : Vm} {sf : List Addr} {QW : Option Value → Vm → Heap → List Loc → Prop}
/-- the wide end: constants may have been resolved meanwhile -/
def EndW (Z : State) (EL : List (String × Nat)) (s : State) (QW : Option Value → Vm → Heap → List Loc → Prop) (kc ks : Nat) (U : State) (o : Outcome) : Prop :=
  ∃ v L, o = .returned v ∧ QW v U.vm U.heap L ∧ CHr Z EL s.vm s.heap U.vm U.heap ∧ ReturnedEndW s o U L kc ks
def CtrW (l : Launch) (Z : State) (EL : List (String × Nat)) (y : MethodName) (bytes : ByteArray) (maxL : Nat) (ret : Option FieldType) (rm : Room) (as : Array Value) (h : Heap) (sf : List Addr) (QW : Option Value → Vm → Heap → List Loc → Prop) : Prop :=
  ∀ ws : List Jvm.Cond, MetFree l y (head1 (Jvm.Cond.code y bytes maxL ret :: ws) rm) (fun a U => a = as ∧ Z.Warmed39 U.vm ∧ U.heap = h ∧ CHv Z EL U.vm h ∧ ∀ x ∈ sf, Safe Z EL U.vm h x) (fun _ _ _ _ _ => True) (fun _ U o U' => EndW Z EL U QW rm.cells rm.slots U' o)
theorem since0 (s : State) (n : Nat) : s.Since s.vm n := State.WarmedH.since (State.WarmedH.refl s) n
theorem CtrW.of {y : MethodName} {bytes : ByteArray} {maxL : Nat} {ret : Option FieldType} {rm : Room} {as : Array Value} (hp : plainFor y = true)
    (body : ∀ (p : Program) (e : Env) (s : State) (m : MethodId) (below : List Frame) (meth : Method) (c : Code) (T : State), p.tables.exec = Jvm.exec → Z.Warmed39 s.vm → c.code = bytes → c.maxLocals = maxL → s.vm.findClass y.cls = some m.cls → meth.name = y.name → meth.sig.returnType = ret → meth.locks = false → T.heap = h → s.heap = h → s.Since s.vm h.size → CHr Z EL s.vm s.heap s.vm h → (∀ x ∈ sf, Safe Z EL s.vm h x) → Stand p l e rm (s.setVm s.vm) m as below meth c T [] 0 0 →
      Go p e below (EndW Z EL s QW rm.cells rm.slots) (T.setTop (entryFrame m as maxL))) : CtrW l Z EL y bytes maxL ret rm as h sf QW := by
  intro ws
  refine MetFree.of_bodySF hp hisR ?_
  intro p e s m args below meth c s₁ Bd hml0 hP hK
  obtain ⟨rfl, hZ, hh, hC, hs⟩ := hP
  exact body p e s m below meth c s₁ Bd.exec hZ Bd.bytes hml0 (findClass_of_methodNamed Bd.named) (name_of_methodNamed Bd.named Bd.method).1 Bd.returns Bd.notSynchronized (by rw [← hh, Bd.state]; rfl) hh (since0 s _) (by rw [hh]; exact CHr.refl hC) hs (Stand.of_body Bd)
theorem Go.endW (X : Stand p l e R (s.setVm vm0) m args below meth c T locs cells slots) (hx : p.tables.exec = Jvm.exec) {v : Option Value} (hv : meth.sig.returnType = none → v = none) (hlk : meth.locks = false) (hc : cells ≤ kc) (hs : slots ≤ ks) (hZ : Z.Warmed39 vm0) (hEL : EW Z a0 EL) (eT : T.heap = h) {k0 : Nat} (hS : s.Since vm0 k0) (hk : k0 ≤ h.size) (hC : CHr Z EL s.vm s.heap vm0 h) (q : CHr Z EL vm0 h T.vm h → QW v T.vm h locs) {g : JFrame}
    (st : ∀ fs, (∀ (f : JFrame) (acts : List Action), f.method = m → f.locked = none → f.entered = [] → (doReturn e (T.setTop f) acts v).1 = T.setFrames fs) → Steps p.tables e below (T.setTop g) (T.setFrames fs)) : Go p e below (EndW Z EL s QW kc ks) (T.setTop g) := by
  obtain ⟨fs, hr, hrun, hended, hE⟩ := X.leaveW hS (by rw [eT]; exact hk) (v := v) hv hlk
  have hat := CHv.at X hZ hEL hC.1
  refine ⟨_, _, st fs hr, hrun, hended, v, locs, rfl, ?_, ?_, hE.1, hE.2.1, hE.2.2.1, hE.2.2.2.mono hc hs⟩
  · show QW v T.vm T.heap locs
    rw [eT]; exact q hat
  · show CHr Z EL s.vm s.heap T.vm T.heap
    rw [eT]; exact hC.trans hat
theorem Go.ret0W (X : Stand p l e R (s.setVm vm0) m args below meth c T locs cells slots) (hx : p.tables.exec = Jvm.exec) (hlk : meth.locks = false) (hZ : Z.Warmed39 vm0) (hEL : EW Z a0 EL) (eT : T.heap = h) {k0 : Nat} (hS : s.Since vm0 k0) (hk : k0 ≤ h.size) (hC : CHr Z EL s.vm s.heap vm0 h) (hret : meth.sig.returnType = none) {pc : Nat} {Ls : Array Slot} (hd : decode c.code pc = .ok (.return_, 1)) (hc : cells ≤ kc) (hs : slots ≤ ks) (q : CHr Z EL vm0 h T.vm h → QW none T.vm h locs) : Go p e below (EndW Z EL s QW kc ks) (T.setTop (mkF m pc Ls [])) :=
  Go.endW X hx (fun _ => rfl) hlk hc hs hZ hEL eT hS hk hC q (fun fs hr => X.returnOut hx hret hd hr)
theorem Go.retNW (X : Stand p l e R (s.setVm vm0) m args below meth c T locs cells slots) (hx : p.tables.exec = Jvm.exec) (hlk : meth.locks = false) (hZ : Z.Warmed39 vm0) (hEL : EW Z a0 EL) (eT : T.heap = h) {k0 : Nat} (hS : s.Since vm0 k0) (hk : k0 ≤ h.size) (hC : CHr Z EL s.vm s.heap vm0 h) {t : FieldType} (hret : meth.sig.returnType = some t) (ht : t = .boolean ∨ t = .byte ∨ t = .char ∨ t = .short) {pc : Nat} {Ls : Array Slot} {z : Int32} {rest : List Value} (hd : decode c.code pc = .ok (.ireturn, 1)) (hc : cells ≤ kc) (hs : slots ≤ ks) (q : CHr Z EL vm0 h T.vm h → QW (some (.int (nar t z))) T.vm h locs) : Go p e below (EndW Z EL s QW kc ks) (T.setTop (mkF m pc Ls (.int z :: rest))) :=
  Go.endW X hx (fun h => by rw [hret] at h; cases h) hlk hc hs hZ hEL eT hS hk hC q (fun fs hr => Jvm.RoadKit.retN X hx hret ht hd hr)
theorem Go.retRW (X : Stand p l e R (s.setVm vm0) m args below meth c T locs cells slots) (hx : p.tables.exec = Jvm.exec) (hlk : meth.locks = false) (hZ : Z.Warmed39 vm0) (hEL : EW Z a0 EL) (eT : T.heap = h) {k0 : Nat} (hS : s.Since vm0 k0) (hk : k0 ≤ h.size) (hC : CHr Z EL s.vm s.heap vm0 h) {t : FieldType} (hret : meth.sig.returnType = some t) (ht : t.isReference = true) {pc : Nat} {Ls : Array Slot} {v : Value} (hv : v.isRef = true) {rest : List Value} (hd : decode c.code pc = .ok (.areturn, 1)) (hc : cells ≤ kc) (hs : slots ≤ ks) (q : CHr Z EL vm0 h T.vm h → QW (some v) T.vm h locs) : Go p e below (EndW Z EL s QW kc ks) (T.setTop (mkF m pc Ls (v :: rest))) :=
  Go.endW X hx (fun h => by rw [hret] at h; cases h) hlk hc hs hZ hEL eT hS hk hC q (fun fs hr => retOut X hx hret (by rcases ref_cases hv with rfl | ⟨z, rfl⟩ <;> cases t <;> simp [FieldType.isReference] at ht <;> rfl) (Or.inr (Or.inr (Or.inr (Or.inr ⟨rfl, ht, hv⟩)))) hd hr)
theorem CtrW.back {y : MethodName} {bytes : ByteArray} {maxL : Nat} {ret : Option FieldType} {rm : Room} {len W : Nat} {as : Array Value} (hM : CtrW l Z EL y bytes maxL ret rm as h sf QW)
    (hZ : Z.Warmed39 vm0) (wc : (Jvm.Cond.code y bytes maxL ret).before a0 Z = true) (wz : (Jvm.Cond.initialized y.cls).before a0 Z = true) (hf : rm.frames + 1 ≤ R.frames) (hl : W + (maxL + 11) + rm.locals ≤ R.locals) (hEL : EW Z a0 EL) (H : CHv Z EL vm0 h) (hsf : ∀ x ∈ sf, x < h.size ∧ Safe Z EL vm0 h x) :
    BackS l R p e below (s.setVm vm0) args y len W (fun A a => a = as ∧ A.U.heap = h ∧ A.cells + rm.cells ≤ R.cells ∧ A.slots + rm.slots ≤ R.slots)
      (fun A _ v B => ∃ L, QW v B.U.vm B.U.heap L ∧ B.locs = A.locs ++ L ∧ B.cells = A.cells + rm.cells ∧ B.slots = A.slots + rm.slots ∧ CHr Z EL vm0 h B.U.vm B.U.heap) :=
  BackS.of_freeW (bytes := bytes) (maxL := maxL) (ret := ret) (E := fun _ first o t L k n => k = rm.cells ∧ n = rm.slots ∧ (∃ v, o = .returned v ∧ QW v t.vm t.heap L) ∧ CHr Z EL first.vm first.heap t.vm t.heap) (hM []) hf hl
    (fun m meth c A a Y hp => have hU : Z.Warmed39 A.U.vm := wtrans (s := s.setVm vm0) hZ Y.warmed
      ⟨by show (Jvm.Cond.and _ .tt).before a A.U = true; rw [Cond.before_and, mv hU wc]; rfl, mv hU wc, mv hU wz, hp.2.2.1, hp.2.2.2⟩)
    (fun m meth c A a g mk Y hp => have hA := CHv.at Y hZ hEL H
      ⟨hp.1, wtrans (s := s.setVm vm0) hZ Y.warmed, hp.2.1, hA.1, fun x hx => hA.safe (hsf x hx).1 (hsf x hx).2⟩) (fun _ _ _ _ _ _ _ _ _ => trivial)
    (fun _ _ _ _ ⟨v, L, h1, h2, h3, h4⟩ => ⟨L, _, _, h4, rfl, rfl, ⟨v, h1, h2⟩, h3⟩)
    (fun m meth c A a g mk v t L k n Y hp _ _ ⟨e1, e2, ⟨v', e3, e4⟩, e5⟩ => by
      cases e3; subst e1 e2
      refine ⟨L, e4, rfl, rfl, rfl, (CHv.at Y hZ hEL H).trans ?_⟩
      rw [← hp.2.1]; exact e5)
theorem Go.callSW (X : Stand p l e R (s.setVm vm0) m args below meth c T locs cells slots) (hx : p.tables.exec = Jvm.exec) (hZ : Z.Warmed39 vm0) {own : String} {index : Nat} (hown : vm0.findClass own = some m.cls) {y : MethodName} {bytes : ByteArray} {maxL : Nat} {ret : Option FieldType} {rm : Room} (w1 : (Jvm.Cond.methodLink own index y).before a0 Z = true) (w2 : (Jvm.Cond.static y).before a0 Z = true) (w3 : (Jvm.Cond.initialized y.cls).before a0 Z = true) (w4 : (Jvm.Cond.code y bytes maxL ret).before a0 Z = true) (hy : y.cls ≠ "java/lang/invoke/MethodHandle" ∧ y.cls ≠ "java/lang/invoke/VarHandle") (wc : (Jvm.Cond.code y bytes maxL ret).before a0 Z = true) (wz : (Jvm.Cond.initialized y.cls).before a0 Z = true) {as : Array Value} (hM : CtrW l Z EL y bytes maxL ret rm as h sf QW) (hEL : EW Z a0 EL) (H : CHv Z EL vm0 h) (hsf : ∀ x ∈ sf, x < h.size ∧ Safe Z EL vm0 h x) {k0 : Nat} (hS : s.Since vm0 k0) (hk : k0 ≤ h.size) (eT : T.heap = h)  {pc pc' : Nat} {Ls : Array Slot} {stk argsL rest : List Value} (hp : pc' = pc + 3) (hsz : Ls.size = c.maxLocals) (hlen : ∀ sig, parseMethodDescriptor y.desc = some sig → argsL.length = sig.parameters.length) (hst : stk = argsL.reverse ++ rest) (has : argsL.toArray = as) {W : Nat} (hW : (rest.map fun v => v.category).sum ≤ W) (hf : rm.frames + 1 ≤ R.frames) (hl : W + (maxL + 11) + rm.locals ≤ R.locals) (hc : cells + rm.cells ≤ R.cells) (hs : slots + rm.slots ≤ R.slots) (hd : decode c.code pc = .ok (.invokestatic index, 3))
    (k : ∀ (v : Option Value) (T' : State) (L : List Loc) (h' : Heap), T'.heap = h' → QW v T'.vm h' L → CHr Z EL vm0 h T'.vm h' → s.Since T'.vm h'.size → Z.Warmed39 T'.vm → T'.vm.findClass own = some m.cls → Stand p l e R (s.setVm T'.vm) m args below meth c T' (locs ++ L) (cells + rm.cells) (slots + rm.slots) → Go p e below F0 (T'.setTop (mkF m pc' Ls (v.toList ++ rest)))) : Go p e below F0 (T.setTop (mkF m pc Ls stk)) := by
  subst hp
  obtain ⟨v, vm₁, ⟨T', L', c', n'⟩, -, X', h2, hg, ⟨L, hq, h1, h3, h4, h5⟩, st⟩ := callSS X hx hown (mvT (s := s.setVm vm0) hZ w1) (mvT (s := s.setVm vm0) hZ w2) (mvT (s := s.setVm vm0) hZ w3) (mvT (s := s.setVm vm0) hZ w4) hy (hM.back (W := W) hZ wc wz hf hl hEL H hsf) (g := mkF m pc Ls stk) rfl hsz hlen hst (by show 2 * 0 + _ ≤ _; rw [Nat.mul_zero, Nat.zero_add]; exact hW) hd (fun _ _ => ⟨has, eT, hc, hs⟩)
  obtain ⟨X2, hS2, hZ2, hown2⟩ := rebS hS (by rw [eT]; exact hk) X' h2 hg hZ hown
  try dsimp only at h1 h3 h4
  subst h1 h3 h4
  exact Go.step (fun t kt => st.trans kt) (k v T' L T'.heap rfl hq h5 hS2 hZ2 hown2 X2)
theorem Go.callNW (X : Stand p l e R (s.setVm vm0) m args below meth c T locs cells slots) (hx : p.tables.exec = Jvm.exec) (hZ : Z.Warmed39 vm0) {own : String} {index : Nat} (hown : vm0.findClass own = some m.cls) {y : MethodName} {bytes : ByteArray} {maxL : Nat} {rm : Room} (hn : y.name = "<init>") (w1 : (Jvm.Cond.methodLink own index y).before a0 Z = true) (w2 : (Jvm.Cond.instanceMethod y).before a0 Z = true) (w4 : (Jvm.Cond.code y bytes maxL none).before a0 Z = true) (hy : y.cls ≠ "java/lang/invoke/MethodHandle" ∧ y.cls ≠ "java/lang/invoke/VarHandle") (wc : (Jvm.Cond.code y bytes maxL none).before a0 Z = true) (wz : (Jvm.Cond.initialized y.cls).before a0 Z = true) {as : Array Value} (hM : CtrW l Z EL y bytes maxL none rm as h sf QW) (hEL : EW Z a0 EL) (H : CHv Z EL vm0 h) (hsf : ∀ x ∈ sf, x < h.size ∧ Safe Z EL vm0 h x) {k0 : Nat} (hS : s.Since vm0 k0) (hk : k0 ≤ h.size) (eT : T.heap = h) {a : Addr} {pc pc' : Nat} {Ls : Array Slot} {stk argsL rest : List Value} (hp : pc' = pc + 3) (hsz : Ls.size = c.maxLocals) (hlen : ∀ sig, parseMethodDescriptor y.desc = some sig → argsL.length = sig.parameters.length) (hst : stk = argsL.reverse ++ .ref a :: rest) (has : (.ref a :: argsL).toArray = as) {W : Nat} (hW : (rest.map fun v => v.category).sum ≤ W) (hf : rm.frames + 1 ≤ R.frames) (hl : W + (maxL + 11) + rm.locals ≤ R.locals) (hc : cells + rm.cells ≤ R.cells) (hs : slots + rm.slots ≤ R.slots) (hd : decode c.code pc = .ok (.invokespecial index, 3))
    (k : ∀ (v : Option Value) (T' : State) (L : List Loc) (h' : Heap), T'.heap = h' → QW v T'.vm h' L → CHr Z EL vm0 h T'.vm h' → s.Since T'.vm h'.size → Z.Warmed39 T'.vm → T'.vm.findClass own = some m.cls → Stand p l e R (s.setVm T'.vm) m args below meth c T' (locs ++ L) (cells + rm.cells) (slots + rm.slots) → Go p e below F0 (T'.setTop (mkF m pc' Ls (v.toList ++ rest)))) : Go p e below F0 (T.setTop (mkF m pc Ls stk)) := by
  subst hp
  obtain ⟨v, vm₁, ⟨T', L', c', n'⟩, -, X', h2, hg, ⟨L, hq, h1, h3, h4, h5⟩, st⟩ := X.specialBackS hx (y := y) hn hown (mvT (s := s.setVm vm0) hZ w1) (mvT (s := s.setVm vm0) hZ w2) (mvT (s := s.setVm vm0) hZ w4) hy (hM.back (W := W) hZ wc wz hf hl hEL H hsf) (g := mkF m pc Ls stk) rfl hsz (Steps.refl _) (a := a) hlen hst (by show 2 * 0 + _ ≤ _; rw [Nat.mul_zero, Nat.zero_add]; exact hW) hd (fun _ _ => ⟨has, eT, hc, hs⟩)
  obtain ⟨X2, hS2, hZ2, hown2⟩ := rebS hS (by rw [eT]; exact hk) X' h2 hg hZ hown
  try dsimp only at h1 h3 h4
  subst h1 h3 h4
  exact Go.step (fun t kt => st.trans kt) (k v T' L T'.heap rfl hq h5 hS2 hZ2 hown2 X2)
theorem Go.ldcCH (X : Stand p l e R (s.setVm vm0) m args below meth c T locs cells slots) (hx : p.tables.exec = Jvm.exec) (hZ : Z.Warmed39 vm0) {own text : String} {index : Nat} (hown : vm0.findClass own = some m.cls) (wl : (Jvm.Cond.stringLink own index text).before a0 Z = true) (wS : ∀ a ∈ Bundle.stringAtoms, a.before a0 Z = true) (eT : T.heap = h) {k0 : Nat} (hS : s.Since vm0 k0) (hk : k0 ≤ h.size) (hEL : EW Z a0 EL) (hmem : (own, index) ∈ EL) (H : CHv Z EL vm0 h) {vs : List Value} {z : Int32} (ht : (∀ c ∈ text.toList, c.toNat < 256) ∧ text.toList.map (fun c => Value.int (Jvm.Lit.byteI c.toNat.toUInt16)) = vs) (hz : ¬ z < 0) (hl : z.toNatClampNeg = vs.length) {n : Nat} (hn : 4 * text.toList.length ≤ n) (hbig : n ≤ 536870912) (hc : cells + 2 ≤ R.cells) (hl' : slots + (n + 4) ≤ R.slots) {pc pc' : Nat} {Ls : Array Slot} {rest : List Value} (hp : pc' = pc + 2) (hd : decode c.code pc = .ok (.ldc index, 2))
    (k : ∀ (a : Addr) (T' : State) (h' : Heap) (k1 : Nat) (b : Addr) (kk : ClassId), T'.heap = h' → Ext h h' → s.Since T'.vm k1 → k1 ≤ h'.size → Z.Warmed39 T'.vm → T'.vm.findClass own = some m.cls → Exa Z h' a "java/lang/String" → Fld Z h' a "java/lang/String" "coder" "B" (.int 0) → Fld Z h' a "java/lang/String" "value" "[B" (.ref b) → Arv Z h' b kk .byte z vs (.int 0) → CHr Z EL vm0 h T'.vm h' → (∀ x, Safe Z EL T'.vm h' x → x ≠ a ∧ x ≠ b) → Stand p l e R (s.setVm T'.vm) m args below meth c T' locs (cells + 2) (slots + (n + 4)) → Go p e below F0 (T'.setTop (mkF m pc' Ls (.ref a :: rest)))) : Go p e below F0 (T.setTop (mkF m pc Ls rest)) := by
  subst hp
  obtain ⟨a, T', h', k1, b, kk, X', e', E, hS', hk', hZ', hown', F1, F2, F3, F4, -, -, C, -, hne, st⟩ := Jvm.RoadKit.ldcCH X hx hZ hown wl wS eT hS hk hEL hmem H ht hz hl (g := mkF m pc Ls rest) rfl hd hn hbig hc hl'
  exact Go.step st (k a T' h' k1 b kk e' E hS' hk' hZ' hown' F1 F2 F3 F4 C hne X')
end OwnWide
end Jvm.RoadKit
namespace Jvm.Pilot.@@N@@
open Jvm Jvm.ClassFile Sem Op Lib Jvm.Free Jvm.Stand Jvm.LawKit Jvm.RoadKit Bundle Jvm.Pilot.@@N@@.Jvm.D
theorem tw_0 {Z : State} {a0 : Array Value} (hw : ∀ d ∈ tables_1, d.before a0 Z = true) : (Jvm.Cond.methodLink "com/example/tough_filter/toughfilter/KeywordEqualsPinLaw" (12 : Nat) ({ cls := "com/example/tough_filter/toughfilter/KeywordEqualsPinLaw", name := "word", desc := "(ICC)Ljava/lang/String;" } : Jvm.MethodName)).before a0 Z = true := hw _ (List.mem_of_getElem? (i := 0) rfl)
theorem tw_1 {Z : State} {a0 : Array Value} (hw : ∀ d ∈ tables_1, d.before a0 Z = true) : (Jvm.Cond.static ({ cls := "com/example/tough_filter/toughfilter/KeywordEqualsPinLaw", name := "word", desc := "(ICC)Ljava/lang/String;" } : Jvm.MethodName)).before a0 Z = true := hw _ (List.mem_of_getElem? (i := 1) rfl)
theorem tw_2 {Z : State} {a0 : Array Value} (hw : ∀ d ∈ tables_1, d.before a0 Z = true) : (Jvm.Cond.initialized "com/example/tough_filter/toughfilter/KeywordEqualsPinLaw").before a0 Z = true := hw _ (List.mem_of_getElem? (i := 2) rfl)
theorem tw_3 {Z : State} {a0 : Array Value} (hw : ∀ d ∈ tables_1, d.before a0 Z = true) : (Jvm.Cond.code ({ cls := "com/example/tough_filter/toughfilter/KeywordEqualsPinLaw", name := "word", desc := "(ICC)Ljava/lang/String;" } : Jvm.MethodName) method_2_code (3 : Nat) (Option.some (Jvm.ClassFile.FieldType.object "java/lang/String"))).before a0 Z = true := hw _ (List.mem_of_getElem? (i := 3) rfl)
theorem tw_4 {Z : State} {a0 : Array Value} (hw : ∀ d ∈ tables_1, d.before a0 Z = true) : (Jvm.Cond.classLink "com/example/tough_filter/toughfilter/KeywordEqualsPinLaw" (7 : Nat) "java/lang/String").before a0 Z = true := hw _ (List.mem_of_getElem? (i := 4) rfl)
theorem tw_5 {Z : State} {a0 : Array Value} (hw : ∀ d ∈ tables_1, d.before a0 Z = true) : (Jvm.Cond.instantiable "java/lang/String" (4 : Nat)).before a0 Z = true := hw _ (List.mem_of_getElem? (i := 5) rfl)
theorem tw_6 {Z : State} {a0 : Array Value} (hw : ∀ d ∈ tables_1, d.before a0 Z = true) : (Jvm.Cond.initialized "java/lang/String").before a0 Z = true := hw _ (List.mem_of_getElem? (i := 6) rfl)
theorem tw_7 {Z : State} {a0 : Array Value} (hw : ∀ d ∈ tables_1, d.before a0 Z = true) : (Jvm.Cond.arrayClass Jvm.ClassFile.FieldType.char).before a0 Z = true := hw _ (List.mem_of_getElem? (i := 7) rfl)
theorem tw_8 {Z : State} {a0 : Array Value} (hw : ∀ d ∈ tables_1, d.before a0 Z = true) : (Jvm.Cond.methodLink "com/example/tough_filter/toughfilter/KeywordEqualsPinLaw" (9 : Nat) ({ cls := "java/lang/String", name := "<init>", desc := "([C)V" } : Jvm.MethodName)).before a0 Z = true := hw _ (List.mem_of_getElem? (i := 8) rfl)
theorem tw_9 {Z : State} {a0 : Array Value} (hw : ∀ d ∈ tables_1, d.before a0 Z = true) : (Jvm.Cond.instanceMethod ({ cls := "java/lang/String", name := "<init>", desc := "([C)V" } : Jvm.MethodName)).before a0 Z = true := hw _ (List.mem_of_getElem? (i := 9) rfl)
theorem tw_10 {Z : State} {a0 : Array Value} (hw : ∀ d ∈ tables_1, d.before a0 Z = true) : (Jvm.Cond.code ({ cls := "java/lang/String", name := "<init>", desc := "([C)V" } : Jvm.MethodName) jdk_42_method_3_code (2 : Nat) (Option.none : Option Jvm.ClassFile.FieldType)).before a0 Z = true := hw _ (List.mem_of_getElem? (i := 10) rfl)
theorem tw_11 {Z : State} {a0 : Array Value} (hw : ∀ d ∈ tables_1, d.before a0 Z = true) : (Jvm.Cond.methodLink "java/lang/String" (27 : Nat) ({ cls := "java/lang/String", name := "<init>", desc := "([CIILjava/lang/Void;)V" } : Jvm.MethodName)).before a0 Z = true := hw _ (List.mem_of_getElem? (i := 11) rfl)
theorem tw_12 {Z : State} {a0 : Array Value} (hw : ∀ d ∈ tables_1, d.before a0 Z = true) : (Jvm.Cond.instanceMethod ({ cls := "java/lang/String", name := "<init>", desc := "([CIILjava/lang/Void;)V" } : Jvm.MethodName)).before a0 Z = true := hw _ (List.mem_of_getElem? (i := 12) rfl)
theorem tw_14 {Z : State} {a0 : Array Value} (hw : ∀ d ∈ tables_1, d.before a0 Z = true) : (Jvm.Cond.code ({ cls := "java/lang/String", name := "<init>", desc := "([CIILjava/lang/Void;)V" } : Jvm.MethodName) jdk_42_method_149_code (6 : Nat) (Option.none : Option Jvm.ClassFile.FieldType)).before a0 Z = true := hw _ (List.mem_of_getElem? (i := 14) rfl)
theorem tw_15 {Z : State} {a0 : Array Value} (hw : ∀ d ∈ tables_1, d.before a0 Z = true) : (Jvm.Cond.methodLink "java/lang/String" (1 : Nat) ({ cls := "java/lang/Object", name := "<init>", desc := "()V" } : Jvm.MethodName)).before a0 Z = true := hw _ (List.mem_of_getElem? (i := 15) rfl)
theorem tw_16 {Z : State} {a0 : Array Value} (hw : ∀ d ∈ tables_1, d.before a0 Z = true) : (Jvm.Cond.instanceMethod ({ cls := "java/lang/Object", name := "<init>", desc := "()V" } : Jvm.MethodName)).before a0 Z = true := hw _ (List.mem_of_getElem? (i := 16) rfl)
theorem tw_17 {Z : State} {a0 : Array Value} (hw : ∀ d ∈ tables_1, d.before a0 Z = true) : (Jvm.Cond.code ({ cls := "java/lang/Object", name := "<init>", desc := "()V" } : Jvm.MethodName) object_method_1_code (1 : Nat) (Option.none : Option Jvm.ClassFile.FieldType)).before a0 Z = true := hw _ (List.mem_of_getElem? (i := 17) rfl)
theorem tw_18 {Z : State} {a0 : Array Value} (hw : ∀ d ∈ tables_1, d.before a0 Z = true) : (Jvm.Cond.fieldLink "java/lang/String" (38 : Nat) "java/lang/String" "COMPACT_STRINGS" "Z").before a0 Z = true := hw _ (List.mem_of_getElem? (i := 18) rfl)
theorem tw_19 {Z : State} {a0 : Array Value} (hw : ∀ d ∈ tables_1, d.before a0 Z = true) : (Jvm.Cond.methodLink "java/lang/String" (177 : Nat) ({ cls := "java/lang/StringUTF16", name := "compress", desc := "([CII)[B" } : Jvm.MethodName)).before a0 Z = true := hw _ (List.mem_of_getElem? (i := 19) rfl)
theorem tw_20 {Z : State} {a0 : Array Value} (hw : ∀ d ∈ tables_1, d.before a0 Z = true) : (Jvm.Cond.static ({ cls := "java/lang/StringUTF16", name := "compress", desc := "([CII)[B" } : Jvm.MethodName)).before a0 Z = true := hw _ (List.mem_of_getElem? (i := 20) rfl)
theorem tw_21 {Z : State} {a0 : Array Value} (hw : ∀ d ∈ tables_1, d.before a0 Z = true) : (Jvm.Cond.initialized "java/lang/StringUTF16").before a0 Z = true := hw _ (List.mem_of_getElem? (i := 21) rfl)
theorem tw_22 {Z : State} {a0 : Array Value} (hw : ∀ d ∈ tables_1, d.before a0 Z = true) : (Jvm.Cond.code ({ cls := "java/lang/StringUTF16", name := "compress", desc := "([CII)[B" } : Jvm.MethodName) jdk_52_method_16_code (6 : Nat) (Option.some (Jvm.ClassFile.FieldType.array Jvm.ClassFile.FieldType.byte))).before a0 Z = true := hw _ (List.mem_of_getElem? (i := 22) rfl)
theorem tw_23 {Z : State} {a0 : Array Value} (hw : ∀ d ∈ tables_1, d.before a0 Z = true) : (Jvm.Cond.arrayClass Jvm.ClassFile.FieldType.byte).before a0 Z = true := hw _ (List.mem_of_getElem? (i := 23) rfl)
theorem tw_24 {Z : State} {a0 : Array Value} (hw : ∀ d ∈ tables_1, d.before a0 Z = true) : (Jvm.Cond.methodLink "java/lang/StringUTF16" (115 : Nat) ({ cls := "java/lang/StringUTF16", name := "compress", desc := "([CI[BII)I" } : Jvm.MethodName)).before a0 Z = true := hw _ (List.mem_of_getElem? (i := 24) rfl)
theorem tw_25 {Z : State} {a0 : Array Value} (hw : ∀ d ∈ tables_1, d.before a0 Z = true) : (Jvm.Cond.static ({ cls := "java/lang/StringUTF16", name := "compress", desc := "([CI[BII)I" } : Jvm.MethodName)).before a0 Z = true := hw _ (List.mem_of_getElem? (i := 25) rfl)
theorem tw_26 {Z : State} {a0 : Array Value} (hw : ∀ d ∈ tables_1, d.before a0 Z = true) : (Jvm.Cond.code ({ cls := "java/lang/StringUTF16", name := "compress", desc := "([CI[BII)I" } : Jvm.MethodName) jdk_52_method_21_code (7 : Nat) (Option.some Jvm.ClassFile.FieldType.int)).before a0 Z = true := hw _ (List.mem_of_getElem? (i := 26) rfl)
theorem tw_27 {Z : State} {a0 : Array Value} (hw : ∀ d ∈ tables_1, d.before a0 Z = true) : (Jvm.Cond.methodLink "java/lang/String" (47 : Nat) ({ cls := "java/lang/StringUTF16", name := "coderFromArrayLen", desc := "([BI)B" } : Jvm.MethodName)).before a0 Z = true := hw _ (List.mem_of_getElem? (i := 27) rfl)
theorem tw_28 {Z : State} {a0 : Array Value} (hw : ∀ d ∈ tables_1, d.before a0 Z = true) : (Jvm.Cond.static ({ cls := "java/lang/StringUTF16", name := "coderFromArrayLen", desc := "([BI)B" } : Jvm.MethodName)).before a0 Z = true := hw _ (List.mem_of_getElem? (i := 28) rfl)
theorem tw_29 {Z : State} {a0 : Array Value} (hw : ∀ d ∈ tables_1, d.before a0 Z = true) : (Jvm.Cond.code ({ cls := "java/lang/StringUTF16", name := "coderFromArrayLen", desc := "([BI)B" } : Jvm.MethodName) jdk_52_method_15_code (2 : Nat) (Option.some Jvm.ClassFile.FieldType.byte)).before a0 Z = true := hw _ (List.mem_of_getElem? (i := 29) rfl)
theorem tw_30 {Z : State} {a0 : Array Value} (hw : ∀ d ∈ tables_1, d.before a0 Z = true) : (Jvm.Cond.fieldLink "java/lang/String" (15 : Nat) "java/lang/String" "coder" "B").before a0 Z = true := hw _ (List.mem_of_getElem? (i := 30) rfl)
theorem tw_31 {Z : State} {a0 : Array Value} (hw : ∀ d ∈ tables_1, d.before a0 Z = true) : (Jvm.Cond.laysFinal "java/lang/String" "java/lang/String" "coder" "B").before a0 Z = true := hw _ (List.mem_of_getElem? (i := 31) rfl)
theorem tw_32 {Z : State} {a0 : Array Value} (hw : ∀ d ∈ tables_1, d.before a0 Z = true) : (Jvm.Cond.fieldLink "java/lang/String" (9 : Nat) "java/lang/String" "value" "[B").before a0 Z = true := hw _ (List.mem_of_getElem? (i := 32) rfl)
theorem tw_33 {Z : State} {a0 : Array Value} (hw : ∀ d ∈ tables_1, d.before a0 Z = true) : (Jvm.Cond.laysFinal "java/lang/String" "java/lang/String" "value" "[B").before a0 Z = true := hw _ (List.mem_of_getElem? (i := 33) rfl)
theorem tw_34 {Z : State} {a0 : Array Value} (hw : ∀ d ∈ tables_1, d.before a0 Z = true) : (Jvm.Cond.classLink "com/example/tough_filter/toughfilter/KeywordEqualsPinLaw" (18 : Nat) "com/example/tough_filter/toughfilter/Expression$Keyword").before a0 Z = true := hw _ (List.mem_of_getElem? (i := 34) rfl)
theorem tw_35 {Z : State} {a0 : Array Value} (hw : ∀ d ∈ tables_1, d.before a0 Z = true) : (Jvm.Cond.instantiable "com/example/tough_filter/toughfilter/Expression$Keyword" (2 : Nat)).before a0 Z = true := hw _ (List.mem_of_getElem? (i := 35) rfl)
theorem tw_36 {Z : State} {a0 : Array Value} (hw : ∀ d ∈ tables_1, d.before a0 Z = true) : (Jvm.Cond.initialized "com/example/tough_filter/toughfilter/Expression$Keyword").before a0 Z = true := hw _ (List.mem_of_getElem? (i := 36) rfl)
theorem tw_37 {Z : State} {a0 : Array Value} (hw : ∀ d ∈ tables_1, d.before a0 Z = true) : (Jvm.Cond.methodLink "com/example/tough_filter/toughfilter/KeywordEqualsPinLaw" (20 : Nat) ({ cls := "com/example/tough_filter/toughfilter/Expression$Keyword", name := "<init>", desc := "(Ljava/lang/String;Z)V" } : Jvm.MethodName)).before a0 Z = true := hw _ (List.mem_of_getElem? (i := 37) rfl)
theorem tw_38 {Z : State} {a0 : Array Value} (hw : ∀ d ∈ tables_1, d.before a0 Z = true) : (Jvm.Cond.instanceMethod ({ cls := "com/example/tough_filter/toughfilter/Expression$Keyword", name := "<init>", desc := "(Ljava/lang/String;Z)V" } : Jvm.MethodName)).before a0 Z = true := hw _ (List.mem_of_getElem? (i := 38) rfl)
theorem tw_39 {Z : State} {a0 : Array Value} (hw : ∀ d ∈ tables_1, d.before a0 Z = true) : (Jvm.Cond.code ({ cls := "com/example/tough_filter/toughfilter/Expression$Keyword", name := "<init>", desc := "(Ljava/lang/String;Z)V" } : Jvm.MethodName) prog_7_method_1_code (3 : Nat) (Option.none : Option Jvm.ClassFile.FieldType)).before a0 Z = true := hw _ (List.mem_of_getElem? (i := 39) rfl)
theorem tw_40 {Z : State} {a0 : Array Value} (hw : ∀ d ∈ tables_1, d.before a0 Z = true) : (Jvm.Cond.methodLink "com/example/tough_filter/toughfilter/Expression$Keyword" (1 : Nat) ({ cls := "java/lang/Record", name := "<init>", desc := "()V" } : Jvm.MethodName)).before a0 Z = true := hw _ (List.mem_of_getElem? (i := 40) rfl)
theorem tw_41 {Z : State} {a0 : Array Value} (hw : ∀ d ∈ tables_1, d.before a0 Z = true) : (Jvm.Cond.instanceMethod ({ cls := "java/lang/Record", name := "<init>", desc := "()V" } : Jvm.MethodName)).before a0 Z = true := hw _ (List.mem_of_getElem? (i := 41) rfl)
theorem tw_43 {Z : State} {a0 : Array Value} (hw : ∀ d ∈ tables_1, d.before a0 Z = true) : (Jvm.Cond.initialized "java/lang/Record").before a0 Z = true := hw _ (List.mem_of_getElem? (i := 43) rfl)
theorem tw_44 {Z : State} {a0 : Array Value} (hw : ∀ d ∈ tables_1, d.before a0 Z = true) : (Jvm.Cond.code ({ cls := "java/lang/Record", name := "<init>", desc := "()V" } : Jvm.MethodName) jdk_30_method_1_code (1 : Nat) (Option.none : Option Jvm.ClassFile.FieldType)).before a0 Z = true := hw _ (List.mem_of_getElem? (i := 44) rfl)
theorem tw_45 {Z : State} {a0 : Array Value} (hw : ∀ d ∈ tables_1, d.before a0 Z = true) : (Jvm.Cond.methodLink "java/lang/Record" (1 : Nat) ({ cls := "java/lang/Object", name := "<init>", desc := "()V" } : Jvm.MethodName)).before a0 Z = true := hw _ (List.mem_of_getElem? (i := 45) rfl)
theorem tw_46 {Z : State} {a0 : Array Value} (hw : ∀ d ∈ tables_1, d.before a0 Z = true) : (Jvm.Cond.fieldLink "com/example/tough_filter/toughfilter/Expression$Keyword" (7 : Nat) "com/example/tough_filter/toughfilter/Expression$Keyword" "word" "Ljava/lang/String;").before a0 Z = true := hw _ (List.mem_of_getElem? (i := 46) rfl)
theorem tw_47 {Z : State} {a0 : Array Value} (hw : ∀ d ∈ tables_1, d.before a0 Z = true) : (Jvm.Cond.laysFinal "com/example/tough_filter/toughfilter/Expression$Keyword" "com/example/tough_filter/toughfilter/Expression$Keyword" "word" "Ljava/lang/String;").before a0 Z = true := hw _ (List.mem_of_getElem? (i := 47) rfl)
theorem tw_48 {Z : State} {a0 : Array Value} (hw : ∀ d ∈ tables_1, d.before a0 Z = true) : (Jvm.Cond.fieldLink "com/example/tough_filter/toughfilter/Expression$Keyword" (13 : Nat) "com/example/tough_filter/toughfilter/Expression$Keyword" "pinyin" "Z").before a0 Z = true := hw _ (List.mem_of_getElem? (i := 48) rfl)
theorem tw_49 {Z : State} {a0 : Array Value} (hw : ∀ d ∈ tables_1, d.before a0 Z = true) : (Jvm.Cond.laysFinal "com/example/tough_filter/toughfilter/Expression$Keyword" "com/example/tough_filter/toughfilter/Expression$Keyword" "pinyin" "Z").before a0 Z = true := hw _ (List.mem_of_getElem? (i := 49) rfl)
theorem tw_50 {Z : State} {a0 : Array Value} (hw : ∀ d ∈ tables_1, d.before a0 Z = true) : (Jvm.Cond.stringLink "java/lang/String" (7 : Nat) "").before a0 Z = true := hw _ (List.mem_of_getElem? (i := 50) rfl)
theorem tw_53 {Z : State} {a0 : Array Value} (hw : ∀ d ∈ tables_1, d.before a0 Z = true) : (Jvm.Cond.methodLink "com/example/tough_filter/toughfilter/KeywordEqualsPinLaw" (23 : Nat) ({ cls := "com/example/tough_filter/toughfilter/Expression$Keyword", name := "equals", desc := "(Ljava/lang/Object;)Z" } : Jvm.MethodName)).before a0 Z = true := hw _ (List.mem_of_getElem? (i := 53) rfl)
theorem tw_54 {Z : State} {a0 : Array Value} (hw : ∀ d ∈ tables_1, d.before a0 Z = true) : (Jvm.Cond.declares ({ cls := "com/example/tough_filter/toughfilter/Expression$Keyword", name := "equals", desc := "(Ljava/lang/Object;)Z" } : Jvm.MethodName)).before a0 Z = true := hw _ (List.mem_of_getElem? (i := 54) rfl)
theorem tw_55 {Z : State} {a0 : Array Value} (hw : ∀ d ∈ tables_1, d.before a0 Z = true) : (Jvm.Cond.instanceMethod ({ cls := "com/example/tough_filter/toughfilter/Expression$Keyword", name := "equals", desc := "(Ljava/lang/Object;)Z" } : Jvm.MethodName)).before a0 Z = true := hw _ (List.mem_of_getElem? (i := 55) rfl)
theorem tw_56 {Z : State} {a0 : Array Value} (hw : ∀ d ∈ tables_1, d.before a0 Z = true) : (Jvm.Cond.selects "com/example/tough_filter/toughfilter/Expression$Keyword" ({ cls := "com/example/tough_filter/toughfilter/Expression$Keyword", name := "equals", desc := "(Ljava/lang/Object;)Z" } : Jvm.MethodName) ({ cls := "com/example/tough_filter/toughfilter/Expression$Keyword", name := "equals", desc := "(Ljava/lang/Object;)Z" } : Jvm.MethodName)).before a0 Z = true := hw _ (List.mem_of_getElem? (i := 56) rfl)
theorem tw_57 {Z : State} {a0 : Array Value} (hw : ∀ d ∈ tables_1, d.before a0 Z = true) : (Jvm.Cond.code ({ cls := "com/example/tough_filter/toughfilter/Expression$Keyword", name := "equals", desc := "(Ljava/lang/Object;)Z" } : Jvm.MethodName) prog_7_method_2_code (3 : Nat) (Option.some Jvm.ClassFile.FieldType.boolean)).before a0 Z = true := hw _ (List.mem_of_getElem? (i := 57) rfl)
theorem tw_58 {Z : State} {a0 : Array Value} (hw : ∀ d ∈ tables_1, d.before a0 Z = true) : (Jvm.Cond.classLink "com/example/tough_filter/toughfilter/Expression$Keyword" (8 : Nat) "com/example/tough_filter/toughfilter/Expression$Keyword").before a0 Z = true := hw _ (List.mem_of_getElem? (i := 58) rfl)
theorem tw_60 {Z : State} {a0 : Array Value} (hw : ∀ d ∈ tables_1, d.before a0 Z = true) : (Jvm.Cond.methodLink "com/example/tough_filter/toughfilter/Expression$Keyword" (17 : Nat) ({ cls := "java/lang/String", name := "equals", desc := "(Ljava/lang/Object;)Z" } : Jvm.MethodName)).before a0 Z = true := hw _ (List.mem_of_getElem? (i := 60) rfl)
theorem tw_61 {Z : State} {a0 : Array Value} (hw : ∀ d ∈ tables_1, d.before a0 Z = true) : (Jvm.Cond.declares ({ cls := "java/lang/String", name := "equals", desc := "(Ljava/lang/Object;)Z" } : Jvm.MethodName)).before a0 Z = true := hw _ (List.mem_of_getElem? (i := 61) rfl)
theorem tw_62 {Z : State} {a0 : Array Value} (hw : ∀ d ∈ tables_1, d.before a0 Z = true) : (Jvm.Cond.instanceMethod ({ cls := "java/lang/String", name := "equals", desc := "(Ljava/lang/Object;)Z" } : Jvm.MethodName)).before a0 Z = true := hw _ (List.mem_of_getElem? (i := 62) rfl)
theorem tw_63 {Z : State} {a0 : Array Value} (hw : ∀ d ∈ tables_1, d.before a0 Z = true) : (Jvm.Cond.selects "java/lang/String" ({ cls := "java/lang/String", name := "equals", desc := "(Ljava/lang/Object;)Z" } : Jvm.MethodName) ({ cls := "java/lang/String", name := "equals", desc := "(Ljava/lang/Object;)Z" } : Jvm.MethodName)).before a0 Z = true := hw _ (List.mem_of_getElem? (i := 63) rfl)
theorem tw_64 {Z : State} {a0 : Array Value} (hw : ∀ d ∈ tables_1, d.before a0 Z = true) : (Jvm.Cond.code ({ cls := "java/lang/String", name := "equals", desc := "(Ljava/lang/Object;)Z" } : Jvm.MethodName) jdk_42_method_66_code (3 : Nat) (Option.some Jvm.ClassFile.FieldType.boolean)).before a0 Z = true := hw _ (List.mem_of_getElem? (i := 64) rfl)
theorem tw_65 {Z : State} {a0 : Array Value} (hw : ∀ d ∈ tables_1, d.before a0 Z = true) : (Jvm.Cond.classLink "java/lang/String" (10 : Nat) "java/lang/String").before a0 Z = true := hw _ (List.mem_of_getElem? (i := 65) rfl)
theorem tw_66 {Z : State} {a0 : Array Value} (hw : ∀ d ∈ tables_1, d.before a0 Z = true) : (Jvm.Cond.methodLink "java/lang/String" (541 : Nat) ({ cls := "java/lang/StringLatin1", name := "equals", desc := "([B[B)Z" } : Jvm.MethodName)).before a0 Z = true := hw _ (List.mem_of_getElem? (i := 66) rfl)
theorem tw_67 {Z : State} {a0 : Array Value} (hw : ∀ d ∈ tables_1, d.before a0 Z = true) : (Jvm.Cond.static ({ cls := "java/lang/StringLatin1", name := "equals", desc := "([B[B)Z" } : Jvm.MethodName)).before a0 Z = true := hw _ (List.mem_of_getElem? (i := 67) rfl)
theorem tw_68 {Z : State} {a0 : Array Value} (hw : ∀ d ∈ tables_1, d.before a0 Z = true) : (Jvm.Cond.initialized "java/lang/StringLatin1").before a0 Z = true := hw _ (List.mem_of_getElem? (i := 68) rfl)
theorem tw_69 {Z : State} {a0 : Array Value} (hw : ∀ d ∈ tables_1, d.before a0 Z = true) : (Jvm.Cond.code ({ cls := "java/lang/StringLatin1", name := "equals", desc := "([B[B)Z" } : Jvm.MethodName) jdk_43_method_13_code (3 : Nat) (Option.some Jvm.ClassFile.FieldType.boolean)).before a0 Z = true := hw _ (List.mem_of_getElem? (i := 69) rfl)
theorem tw_70 {Z : State} {a0 : Array Value} (hw : ∀ d ∈ tables_1, d.before a0 Z = true) : (Jvm.Cond.superclass "java/lang/String" "java/lang/Object").before a0 Z = true := hw _ (List.mem_of_getElem? (i := 70) rfl)
theorem tw_71 {Z : State} {a0 : Array Value} (hw : ∀ d ∈ tables_1, d.before a0 Z = true) : (Jvm.Cond.noSuperclass "java/lang/Object").before a0 Z = true := hw _ (List.mem_of_getElem? (i := 71) rfl)
section OwnStart
variable {args : Array Value} {first s : State} {o : Option Outcome} {idx : List Nat} {t : Term}
end OwnStart

section OwnAuto
theorem own_rlit {k : Int32} {n : Int} (h : k.toInt = n) : n ≤ k.toInt ∧ k.toInt ≤ n := by omega
theorem own_rw {x : Int32} {a b c d : Int} (h : a ≤ x.toInt ∧ x.toInt ≤ b) (h1 : c ≤ a) (h2 : b ≤ d) : c ≤ x.toInt ∧ x.toInt ≤ d := by omega
theorem own_rand {x m z : Int32} {k : Int} (h : (x &&& m) = z) (hm : 0 ≤ m.toInt ∧ m.toInt = k) : 0 ≤ z.toInt ∧ z.toInt ≤ k := by subst h; have := c_and x m hm.1; omega
theorem own_ri2b {x z : Int32} (h : (x.toInt8.toInt32) = z) : -128 ≤ z.toInt ∧ z.toInt ≤ 127 := by subst h; have := c_i2b x; omega
theorem own_rushr {x q z : Int32} {k : Nat} {B : Int} (h : ((x.toUInt32 >>> (q &&& 31).toUInt32).toInt32) = z) (hk : q.toBitVec.toNat % 32 = k) (h0 : 0 < k) (hB : (4294967295 : Int) / ((2 ^ k : Nat) : Int) ≤ B) : 0 ≤ z.toInt ∧ z.toInt ≤ B := by
  subst h
  rw [c_iushr x q k hk h0]
  have h1 : 0 ≤ x.toInt % 4294967296 := Int.emod_nonneg _ (by decide)
  have h2 : x.toInt % 4294967296 ≤ 4294967295 := by have := Int.emod_lt_of_pos x.toInt (by decide : (0 : Int) < 4294967296); omega
  have hp : (0 : Int) < ((2 ^ k : Nat) : Int) := Int.ofNat_lt.mpr (Nat.two_pow_pos k)
  exact ⟨Int.ediv_nonneg h1 (Int.le_of_lt hp), Int.le_trans (Int.ediv_le_ediv hp h2) hB⟩
theorem own_rrem {x y z : Int32} {d a b B : Int} (h : (x % y) = z) (hy : y.toInt = d) (hd : 0 < d) (hr : a ≤ x.toInt ∧ x.toInt ≤ b) (ha : 0 ≤ a) (hB : d = B + 1) : 0 ≤ z.toInt ∧ z.toInt ≤ B := by
  subst h
  have e := (c_irem x y d hy).1 (by omega)
  rw [e]
  have h1 := Int.emod_nonneg x.toInt (by omega : d ≠ 0)
  have h2 := Int.emod_lt_of_pos x.toInt hd
  omega
theorem own_i2c_id {x : Int32} {a b : Int} (hr : a ≤ x.toInt ∧ x.toInt ≤ b) (ha : 0 ≤ a) (hb : b ≤ 65535) : (x.toUInt32.toUInt16.toUInt32.toInt32) = x := by apply Int32.toInt_inj.mp; have := c_i2c x; omega
theorem own_i2b_id {x : Int32} {a b : Int} (hr : a ≤ x.toInt ∧ x.toInt ≤ b) (ha : -128 ≤ a) (hb : b ≤ 127) : (x.toInt8.toInt32) = x := by apply Int32.toInt_inj.mp; have := c_i2b x; omega
theorem own_and_id {x m : Int32} {a b : Int} {k : Nat} (hr : a ≤ x.toInt ∧ x.toInt ≤ b) (hk : k ≤ 31) (hm : m.toBitVec.toNat = 2 ^ k - 1) (ha : 0 ≤ a) (hb : b < ((2 ^ k : Nat) : Int)) : (x &&& m) = x := by
  apply Int32.toInt_inj.mp
  rw [c_mask x m k hk hm]
  exact Int.emod_eq_of_lt (by omega) (by omega)
theorem own_nar_boolean {x : Int32} {a b : Int} (hr : a ≤ x.toInt ∧ x.toInt ≤ b) (ha : 0 ≤ a) (hb : b ≤ 1) : nar .boolean x = x := own_and_id (m := 1) (k := 1) hr (by decide) (by decide) ha (by have : ((2 ^ 1 : Nat) : Int) = 2 := rfl; omega)
theorem own_nar_byte {x : Int32} {a b : Int} (hr : a ≤ x.toInt ∧ x.toInt ≤ b) (ha : -128 ≤ a) (hb : b ≤ 127) : nar .byte x = x := own_i2b_id hr ha hb
theorem own_nar_char {x : Int32} {a b : Int} (hr : a ≤ x.toInt ∧ x.toInt ≤ b) (ha : 0 ≤ a) (hb : b ≤ 65535) : nar .char x = x := own_i2c_id hr ha hb
theorem own_narv_boolean {x y : Int32} (h : nar .boolean x = y) : narrow .boolean (.int x) = .int y := by subst h; rfl
theorem own_fits_boolean {x y : Int32} (h : nar .boolean x = y) : fits .boolean (.int y) = true := by subst h; exact fits_nar_bool x
theorem own_nlt_r {x y : Int32} {a b c d : Int} (hx : a ≤ x.toInt ∧ x.toInt ≤ b) (hy : c ≤ y.toInt ∧ y.toInt ≤ d) (h : d ≤ a) : ¬ x < y := by rw [Int32.lt_iff_toInt_lt]; omega
theorem own_lat_eq {c d b e : Int32} (hb : c.toInt8.toInt32 = b) (he : d.toInt8.toInt32 = e) (h : c = d) : b = e := by subst hb he h; rfl
theorem own_lat_ne {c d b e : Int32} {l1 h1 l2 h2 : Int} (hb : c.toInt8.toInt32 = b) (he : d.toInt8.toInt32 = e) (rc : l1 ≤ c.toInt ∧ c.toInt ≤ h1) (rd : l2 ≤ d.toInt ∧ d.toInt ≤ h2) (hh : 0 ≤ l1 ∧ h1 ≤ 255 ∧ 0 ≤ l2 ∧ h2 ≤ 255) (h : ¬ c = d) : ¬ b = e := fun q => h (by
  subst hb he
  apply Int32.toInt_inj.mp
  have q' := congrArg Int32.toInt q
  have e1 := c_i2b c; have e2 := c_i2b d
  omega)
end OwnAuto

def EL0 : List (String × Nat) := [("java/lang/String", 7)]
theorem own_EW {Z : State} {a0 : Array Value} (hw : ∀ d ∈ tables_1, d.before a0 Z = true) : EW Z a0 EL0 := (EW.cons (tw_50 hw) (by decide) EW.nil)
theorem own_SA {Z : State} {a0 : Array Value} (hw : ∀ d ∈ tables_1, d.before a0 Z = true) : ∀ a ∈ Bundle.stringAtoms, a.before a0 Z = true := fun a ha => hw a ((by decide +kernel : ∀ w ∈ Bundle.stringAtoms, w ∈ tables_1) a ha)
def Glob (Z : State) (gz1 : Int32) (gv5 : Value) : Prop := Sta Z Z.heap "java/lang/String" "COMPACT_STRINGS" "Z" (.int gz1) ∧ Sta Z Z.heap "jdk/internal/util/Preconditions" "SIOOBE_FORMATTER" "Ljava/util/function/BiFunction;" gv5 ∧ ¬ gz1 = (0 : Int32) ∧ gv5.isRef = true
theorem own_cs_0_2 {z : Int32} (h : 0 ≤ z.toInt ∧ z.toInt ≤ 2) : z = (0 : Int32) ∨ z = (1 : Int32) ∨ z = (2 : Int32) := by
  have q : z.toInt = 0 ∨ z.toInt = 1 ∨ z.toInt = 2 := by omega
  rcases q with h | h | h <;> simp [← Int32.toInt_inj, h]
theorem d1_0 : decode method_2_code 0 = .ok (.iload_n 0, 1) := by decide +kernel
theorem d1_1 : decode method_2_code 1 = .ok (.ifCond .ne 14, 3) := by decide +kernel
theorem d1_4 : decode method_2_code 4 = .ok (.new 7, 3) := by decide +kernel
theorem d1_7 : decode method_2_code 7 = .ok (.dup, 1) := by decide +kernel
theorem d1_8 : decode method_2_code 8 = .ok (.iconst 0, 1) := by decide +kernel
theorem d1_9 : decode method_2_code 9 = .ok (.newarray .char, 2) := by decide +kernel
theorem d2_0 : decode jdk_42_method_3_code 0 = .ok (.aload_n 0, 1) := by decide +kernel
theorem d2_1 : decode jdk_42_method_3_code 1 = .ok (.aload_n 1, 1) := by decide +kernel
theorem d2_2 : decode jdk_42_method_3_code 2 = .ok (.iconst 0, 1) := by decide +kernel
theorem d2_3 : decode jdk_42_method_3_code 3 = .ok (.aload_n 1, 1) := by decide +kernel
theorem d2_4 : decode jdk_42_method_3_code 4 = .ok (.arraylength, 1) := by decide +kernel
theorem d2_5 : decode jdk_42_method_3_code 5 = .ok (.aconst_null, 1) := by decide +kernel
theorem d3_0 : decode jdk_42_method_149_code 0 = .ok (.aload_n 0, 1) := by decide +kernel
theorem d3_1 : decode jdk_42_method_149_code 1 = .ok (.invokespecial 1, 3) := by decide +kernel
theorem d3_4 : decode jdk_42_method_149_code 4 = .ok (.iload_n 3, 1) := by decide +kernel
theorem d3_5 : decode jdk_42_method_149_code 5 = .ok (.ifCond .ne 22, 3) := by decide +kernel
theorem d3_8 : decode jdk_42_method_149_code 8 = .ok (.aload_n 0, 1) := by decide +kernel
theorem d3_9 : decode jdk_42_method_149_code 9 = .ok (.ldc 7, 2) := by decide +kernel
theorem d3_11 : decode jdk_42_method_149_code 11 = .ok (.getfield 9, 3) := by decide +kernel
theorem d3_14 : decode jdk_42_method_149_code 14 = .ok (.putfield 9, 3) := by decide +kernel
theorem d3_17 : decode jdk_42_method_149_code 17 = .ok (.aload_n 0, 1) := by decide +kernel
theorem d3_18 : decode jdk_42_method_149_code 18 = .ok (.ldc 7, 2) := by decide +kernel
theorem d3_20 : decode jdk_42_method_149_code 20 = .ok (.getfield 15, 3) := by decide +kernel
theorem d3_23 : decode jdk_42_method_149_code 23 = .ok (.putfield 15, 3) := by decide +kernel
theorem d3_26 : decode jdk_42_method_149_code 26 = .ok (.return_, 1) := by decide +kernel
theorem ef_3_RRIIN (m : MethodId) (x0 : Addr) (x1 : Addr) (x2 : Int32) (x3 : Int32)  : entryFrame m #[(.ref x0), (.ref x1), (.int x2), (.int x3), .null] 6 = mkF m 0 #[.val (.ref x0), .val (.ref x1), .val (.int x2), .val (.int x3), .val .null, .unset] [] := by first | (simp [entryFrame, mkF, argsToLocals, Value.category]; done) | rfl
theorem pn_c0 : plainName "java/lang/String" = true := by first | (simp [plainName, overriddenIn]; done) | decide +kernel
-- java/lang/String.init
set_option maxRecDepth 65536 in
set_option maxHeartbeats 4000000 in
theorem au_4 (l : Launch) (Z : State) (a0 : Array Value) (hw : ∀ d ∈ tables_1, d.before a0 Z = true) (x0 : Addr) (x1 : Addr) (gz1 : Int32) (gv5 : Value) (h0 : Heap) (n0 : Nat) (Z0 : n0 ≤ h0.size) (G : Glob Z gz1 gv5) (P0 : Exa Z h0 x0 "java/lang/String") (P1 : Fld Z h0 x0 "java/lang/String" "coder" "B" (.int 0)) (P2 : Fld Z h0 x0 "java/lang/String" "value" "[B" .null) (g_x0 : n0 ≤ x0) :
    CtrW l Z EL0 (⟨"java/lang/String", "<init>", "([CIILjava/lang/Void;)V"⟩ : MethodName) jdk_42_method_149_code 6 none ({ frames := 1, cells := 4, slots := 8, locals := 12 } : Room) #[(.ref x0), (.ref x1), (.int 0), (.int 0), .null] h0 [x0] (fun v vm h L => ∃ (b2 : Addr) (k2 : ClassId), v = none ∧ Fr n0 L ∧ Keep h0 h [x0] ∧ Exa Z h x0 "java/lang/String" ∧ Fld Z h x0 "java/lang/String" "coder" "B" (.int 0) ∧ Fld Z h x0 "java/lang/String" "value" "[B" (.ref b2) ∧ Arv Z h b2 k2 .byte (0 : Int32) [] (.int (0 : Int32))) := by
  refine CtrW.of (plainFor_of_name pn_c0) ?_
  intro p e s m below meth c T0 hx hZ hby hml hown hnm hret hlk e0 es hS0 C0 hsf X0
  have G' := G
  obtain ⟨-, -, G2, -⟩ := G'
  refine Go.cast (ef_3_RRIIN m x0 x1 (0 : Int32) (0 : Int32)) ?_
  generalize hFF : EndW Z EL0 s _ _ _ = FF
  refine Go.aloadN X0 hx (pc' := 1) rfl (hb hby d3_0) rfl rfl ?_
  refine Go.initO X0 hx hZ hown (tw_15 hw) (tw_16 hw) (tw_17 hw) e0 (by decide) (W := 0) (by rw [hml]; rfl) (Nat.le_of_eq rfl) (by decide) (pc' := 4) rfl (hb hby d3_1) ?_
  intro T1 e1 X1
  refine Go.iloadN X1 hx (pc' := 5) rfl (hb hby d3_4) rfl ?_
  refine Go.ifNo X1 hx (pc' := 8) rfl (hb hby d3_5) (by decide) ?_
  refine Go.aloadN X1 hx (pc' := 9) rfl (hb hby d3_8) rfl rfl ?_
  refine Go.ldcCH X1 hx hZ hown (tw_50 hw) (own_SA hw) e1 hS0 (Nat.le_refl _) (own_EW hw) (List.mem_of_getElem? (i := 0) rfl) C0.1 (vs := []) (z := (0 : Int32)) (by decide) (by decide) rfl (n := 0) (by decide) (by decide) (by decide) (by decide) (pc' := 11) rfl (hb hby d3_9) ?_
  intro a2 T2 h2 j2 b2 k2 e2 E2 S2 i2 Z2 O2 A2 F2 G2 V2 C2 D2 X2
  refine Go.getF X2 hx Z2 O2 (host := "") (Or.inl (tw_32 hw)) Via.refl e2 G2 (pc' := 14) rfl (hb hby d3_11) ?_
  intro T3 e3 X3
  have fk4 : Fld Z h2 x0 "java/lang/String" "value" "[B" .null := (P2.ext E2)
  have fk5 : Exa Z h2 x0 "java/lang/String" := (P0.ext E2)
  refine Go.putF X3 hx Z2 O2 (host := "") (Or.inl (tw_32 hw)) Via.refl e3 fk4 fk5 (Or.inr ⟨(tw_33 hw), rfl, hnm⟩) (tw_5 hw) (ty := (.array .byte)) (by decide) rfl rfl (pc' := 17) rfl (hb hby d3_14) ?_
  intro T6 h6 e6 W6 F6 X6
  have N6 := Fr.snoc X6 (Fr.nil n0) g_x0
  refine Go.aloadN X6 hx (pc' := 18) rfl (hb hby d3_17) rfl rfl ?_
  have C7 : CHr Z EL0 s.vm s.heap T2.vm h2 := (C0.trans C2)
  have fk8 : Safe Z EL0 T2.vm h2 x0 := (C2.safe P0.lt (hsf _ (List.mem_of_getElem? (i := 0) rfl)))
  have C9 : CHr Z EL0 s.vm s.heap T2.vm h6 := (C7.trans (CHr.wr W6 fk8 C7.1))
  have hk10 := (Nat.le_trans i2 (Keep.of_wr W6).1)
  refine Go.ldcCH X6 hx Z2 O2 (tw_50 hw) (own_SA hw) e6 S2 hk10 (own_EW hw) (List.mem_of_getElem? (i := 0) rfl) C9.1 (vs := []) (z := (0 : Int32)) (by decide) (by decide) rfl (n := 0) (by decide) (by decide) (by decide) (by decide) (pc' := 20) rfl (hb hby d3_18) ?_
  intro a11 T11 h11 j11 b11 k11 e11 E11 S11 i11 Z11 O11 A11 F11 G11 V11 C11 D11 X11
  refine Go.getF X11 hx Z11 O11 (host := "") (Or.inl (tw_30 hw)) Via.refl e11 F11 (pc' := 23) rfl (hb hby d3_20) ?_
  intro T12 e12 X12
  have fk13 : Fld Z h11 x0 "java/lang/String" "coder" "B" (.int 0) := (((P1.ext E2).other W6 (Or.inr (slot_ne (Or.inr (tw_31 hw)) (Or.inr (tw_33 hw)) (by decide) (t := .byte) (t' := (.array .byte)) (by decide) (by decide)))).ext E11)
  have fk14 : Exa Z h11 x0 "java/lang/String" := ((fk5.wr W6).ext E11)
  refine Go.putFN X12 hx Z11 O11 (tw_30 hw) Via.refl e12 fk13 fk14 (Or.inr ⟨(tw_31 hw), rfl, hnm⟩) (tw_5 hw) (ty := .byte) (v' := (.int 0)) (by decide) (by decide) (by decide) (pc' := 26) rfl (hb hby d3_23) ?_
  intro T15 h15 e15 W15 F15 X15
  have N15 := Fr.snoc X15 N6 g_x0
  subst hFF
  have C16 : CHr Z EL0 s.vm s.heap T11.vm h11 := (C9.trans C11)
  have fk17 : Safe Z EL0 T2.vm h6 x0 := (Safe.wr W6 fk8 C7.1 fk8)
  have fk18 : Exa Z h6 x0 "java/lang/String" := (fk5.wr W6)
  have fk19 : Safe Z EL0 T11.vm h11 x0 := (C11.safe fk18.lt fk17)
  have C20 : CHr Z EL0 s.vm s.heap T11.vm h15 := (C16.trans (CHr.wr W15 fk19 C16.1))
  have hk21 := (Nat.le_trans i11 (Keep.of_wr W15).1)
  refine Go.ret0W X15 hx hlk Z11 (own_EW hw) e15 S11 hk21 C20 hret (hb hby d3_26) (by decide) (by decide) (fun hat => ?_)
  have fk22 : Exa Z h15 x0 "java/lang/String" := (fk14.wr W15)
  have fk23 : Fld Z h15 x0 "java/lang/String" "value" "[B" (.ref b2) := ((F6.ext E11).other W15 (Or.inr (slot_ne (Or.inr (tw_33 hw)) (Or.inr (tw_31 hw)) (by decide) (t := (.array .byte)) (t' := .byte) (by decide) (by decide))))
  have fk24 := (((V2.other W6 (Ne.symm (D2 x0 fk8).2)).ext E11).other W15 (Ne.symm (D2 x0 fk8).2))
  have Kp25 : Keep h0 h2 [x0] := ((Keep.refl h0 [x0]).ext E2)
  have Kp26 : Keep h0 h6 [x0] := (Kp25.wr W6 (Or.inl (List.mem_of_getElem? (i := 0) rfl)))
  have Kp27 : Keep h0 h11 [x0] := (Kp26.ext E11)
  have Kp28 : Keep h0 h15 [x0] := (Kp27.wr W15 (Or.inl (List.mem_of_getElem? (i := 0) rfl)))
  exact ⟨b2, k2, rfl, N15, Kp28, fk22, F15, fk23, fk24⟩
theorem pd_0 : parseMethodDescriptor "([CIILjava/lang/Void;)V" = some ⟨[(.array .char), .int, .int, (.object "java/lang/Void")], none⟩ := by decide +kernel
theorem d2_6 : decode jdk_42_method_3_code 6 = .ok (.invokespecial 27, 3) := by decide +kernel
theorem d2_9 : decode jdk_42_method_3_code 9 = .ok (.return_, 1) := by decide +kernel
theorem ef_2_RR (m : MethodId) (x0 : Addr) (x1 : Addr) : entryFrame m #[(.ref x0), (.ref x1)] 2 = mkF m 0 #[.val (.ref x0), .val (.ref x1)] [] := by first | (simp [entryFrame, mkF, argsToLocals, Value.category]; done) | rfl
-- java/lang/String.init
set_option maxRecDepth 65536 in
set_option maxHeartbeats 4000000 in
theorem au_5 (l : Launch) (Z : State) (a0 : Array Value) (hw : ∀ d ∈ tables_1, d.before a0 Z = true) (x0 : Addr) (x1 : Addr) (kk0 : ClassId) (gz1 : Int32) (gv5 : Value) (h0 : Heap) (n0 : Nat) (Z0 : n0 ≤ h0.size) (G : Glob Z gz1 gv5) (P0 : Exa Z h0 x0 "java/lang/String") (P1 : Fld Z h0 x0 "java/lang/String" "coder" "B" (.int 0)) (P2 : Fld Z h0 x0 "java/lang/String" "value" "[B" .null) (P3 : Arv Z h0 x1 kk0 .char (0 : Int32) [] (.int 0)) (g_x0 : n0 ≤ x0) :
    CtrW l Z EL0 (⟨"java/lang/String", "<init>", "([C)V"⟩ : MethodName) jdk_42_method_3_code 2 none ({ frames := 2, cells := 4, slots := 8, locals := 29 } : Room) #[(.ref x0), (.ref x1)] h0 [x0] (fun v vm h L => ∃ (b1_0 : Addr) (k1_0 : ClassId), v = none ∧ Fr n0 L ∧ Keep h0 h [x0] ∧ Exa Z h x0 "java/lang/String" ∧ Fld Z h x0 "java/lang/String" "coder" "B" (.int 0) ∧ Fld Z h x0 "java/lang/String" "value" "[B" (.ref b1_0) ∧ Arv Z h b1_0 k1_0 .byte (0 : Int32) [] (.int (0 : Int32))) := by
  refine CtrW.of (plainFor_of_name pn_c0) ?_
  intro p e s m below meth c T0 hx hZ hby hml hown hnm hret hlk e0 es hS0 C0 hsf X0
  refine Go.cast (ef_2_RR m x0 x1) ?_
  generalize hFF : EndW Z EL0 s _ _ _ = FF
  refine Go.aloadN X0 hx (pc' := 1) rfl (hb hby d2_0) rfl rfl ?_
  refine Go.aloadN X0 hx (pc' := 2) rfl (hb hby d2_1) rfl rfl ?_
  refine Go.iconst X0 hx (pc' := 3) rfl (hb hby d2_2) (v := (0 : Int32)) rfl ?_
  refine Go.aloadN X0 hx (pc' := 4) rfl (hb hby d2_3) rfl rfl ?_
  refine Go.arraylength X0 hx hZ e0 P3 (pc' := 5) rfl (hb hby d2_4) ?_
  refine Go.anull X0 hx (pc' := 6) rfl (hb hby d2_5) ?_
  refine Go.callNW X0 hx hZ hown rfl (tw_11 hw) (tw_12 hw) (tw_14 hw) (by decide) (tw_14 hw) (tw_6 hw) (au_4 l Z a0 hw x0 x1 gz1 gv5 h0 n0 Z0 G P0 P1 P2 g_x0) (own_EW hw) C0.1 (allS ⟨P0.lt, (hsf _ (List.mem_of_getElem? (i := 0) rfl))⟩ all0) hS0 (Nat.le_refl _) e0 (a := x0) (argsL := [(.ref x1), (.int 0), (.int 0), .null]) (rest := []) (pc' := 9) rfl (by rw [hml]; rfl) (lenOf pd_0 rfl) rfl rfl (W := 0) (Nat.le_of_eq rfl) (by decide) (by decide) (by decide) (by decide) (hb hby d2_6) ?_
  intro v1 T1 L1 h1 e1 q1 C1 S1 Z1 O1 X1
  obtain ⟨b1_0, k1_0, rfl, N1, K1, F1_0, F1_1, F1_2, F1_3⟩ := q1
  show Go _ _ _ _ (T1.setTop (mkF m 9 #[.val (.ref x0), .val (.ref x1)] []))
  subst hFF
  have C2 : CHr Z EL0 s.vm s.heap T1.vm h1 := (C0.trans C1)
  refine Go.ret0W X1 hx hlk Z1 (own_EW hw) e1 S1 (Nat.le_refl _) C2 hret (hb hby d2_9) (by decide) (by decide) (fun hat => ?_)
  have Kp3 : Keep h0 h1 [x0] := ((Keep.refl h0 [x0]).trans K1 (allS (Or.inl (List.mem_of_getElem? (i := 0) rfl)) all0))
  exact ⟨b1_0, k1_0, rfl, (Fr.app (Fr.nil n0) N1), Kp3, F1_0, F1_1, F1_2, F1_3⟩
theorem pd_1 : parseMethodDescriptor "([C)V" = some ⟨[(.array .char)], none⟩ := by decide +kernel
theorem d1_11 : decode method_2_code 11 = .ok (.invokespecial 9, 3) := by decide +kernel
theorem d1_14 : decode method_2_code 14 = .ok (.areturn, 1) := by decide +kernel
theorem ef_1_III (m : MethodId) (x0 : Int32) (x1 : Int32) (x2 : Int32) : entryFrame m #[(.int x0), (.int x1), (.int x2)] 3 = mkF m 0 #[.val (.int x0), .val (.int x1), .val (.int x2)] [] := by first | (simp [entryFrame, mkF, argsToLocals, Value.category]; done) | rfl
theorem pn_c1 : plainName "com/example/tough_filter/toughfilter/KeywordEqualsPinLaw" = true := by first | (simp [plainName, overriddenIn]; done) | decide +kernel
-- com/example/tough_filter/toughfilter/KeywordEqualsPinLaw.word
set_option maxRecDepth 65536 in
set_option maxHeartbeats 4000000 in
theorem au_6 (l : Launch) (Z : State) (a0 : Array Value) (hw : ∀ d ∈ tables_1, d.before a0 Z = true) (p0 : Int32) (p1 : Int32) (gz1 : Int32) (gv5 : Value) (h0 : Heap) (n0 : Nat) (Z0 : n0 ≤ h0.size) (G : Glob Z gz1 gv5) :
    CtrW l Z EL0 (⟨"com/example/tough_filter/toughfilter/KeywordEqualsPinLaw", "word", "(ICC)Ljava/lang/String;"⟩ : MethodName) method_2_code 3 (some (.object "java/lang/String")) ({ frames := 3, cells := 6, slots := 12, locals := 43 } : Room) #[(.int 0), (.int p0), (.int p1)] h0 [] (fun v vm h L => ∃ (b1 : Addr) (b16_0 : Addr) (k16_0 : ClassId), v = some (.ref b1) ∧ Fr n0 L ∧ Keep h0 h [] ∧ h0.size ≤ b1 ∧ Safe Z EL0 vm h b1 ∧ Exa Z h b1 "java/lang/String" ∧ Fld Z h b1 "java/lang/String" "coder" "B" (.int 0) ∧ Fld Z h b1 "java/lang/String" "value" "[B" (.ref b16_0) ∧ Arv Z h b16_0 k16_0 .byte (0 : Int32) [] (.int (0 : Int32))) := by
  refine CtrW.of (plainFor_of_name pn_c1) ?_
  intro p e s m below meth c T0 hx hZ hby hml hown hnm hret hlk e0 es hS0 C0 hsf X0
  refine Go.cast (ef_1_III m (0 : Int32) p0 p1) ?_
  generalize hFF : EndW Z EL0 s _ _ _ = FF
  refine Go.iloadN X0 hx (pc' := 1) rfl (hb hby d1_0) rfl ?_
  refine Go.ifNo X0 hx (pc' := 4) rfl (hb hby d1_1) (by decide) ?_
  refine Go.new X0 hx hZ hown (tw_4 hw) (tw_5 hw) (tw_6 hw) e0 (by decide) (by decide) (pc' := 7) rfl (hb hby d1_4) ?_
  intro T1 h1 b1 e1 E1 g1 A1 D1 X1
  have b1_coder : Fld Z h1 b1 "java/lang/String" "coder" "B" (.int 0) := D1 (Or.inr (tw_31 hw)) (ty := .byte) (by decide)
  have b1_value : Fld Z h1 b1 "java/lang/String" "value" "[B" .null := D1 (Or.inr (tw_33 hw)) (ty := (.array .byte)) (by decide)
  refine Go.dup X1 hx (pc' := 8) rfl (hb hby d1_7) rfl ?_
  refine Go.iconst X1 hx (pc' := 9) rfl (hb hby d1_8) (v := (0 : Int32)) rfl ?_
  refine Go.newarray X1 hx hZ (ty := .char) rfl (tw_7 hw) e1 (by decide) (cap := 0) (by decide) (by decide) (by decide) (by decide) (ad := "[C") (by decide) 0 (pc' := 11) rfl (hb hby d1_9) ?_
  intro T2 h2 b2 k2 e2 E2 g2 V2 A2 X2
  have V2' : Arv Z h2 b2 k2 .char (0 : Int32) [] (.int 0) := V2
  have Kp4 : Keep h0 h1 [] := ((Keep.refl h0 []).ext E1)
  have Kp5 : Keep h0 h2 [] := (Kp4.ext E2)
  have Zn3 : n0 ≤ h2.size := Nat.le_trans Z0 Kp5.1
  have fk6 : Exa Z h2 b1 "java/lang/String" := (A1.ext E2)
  have fk7 : Fld Z h2 b1 "java/lang/String" "coder" "B" (.int 0) := (b1_coder.ext E2)
  have fk8 : Fld Z h2 b1 "java/lang/String" "value" "[B" .null := (b1_value.ext E2)
  have sz10 : h0.size ≤ b1 := Nat.le_trans (Keep.refl h0 []).1 (Nat.le_of_eq g1.symm)
  have ge9 : n0 ≤ b1 := Nat.le_trans Z0 sz10
  have C11 : CHr Z EL0 s.vm s.heap s.vm h1 := (C0.trans (CHr.ext E1 C0.1))
  have C12 : CHr Z EL0 s.vm s.heap s.vm h2 := (C11.trans (CHr.ext E2 C11.1))
  have fk13 : Safe Z EL0 s.vm h1 b1 := (Safe.ext E1 C0.1 (Safe.new (Nat.le_of_eq g1.symm) : Safe Z EL0 s.vm h0 b1))
  have fk14 : Safe Z EL0 s.vm h2 b1 := (Safe.ext E2 C11.1 fk13)
  have hk15 := (Nat.le_trans (Nat.le_trans (Nat.le_refl _) E1.1) E2.1)
  refine Go.callNW X2 hx hZ hown rfl (tw_8 hw) (tw_9 hw) (tw_10 hw) (by decide) (tw_10 hw) (tw_6 hw) (au_5 l Z a0 hw b1 b2 k2 gz1 gv5 h2 n0 Zn3 G fk6 fk7 fk8 V2' ge9) (own_EW hw) C12.1 (allS ⟨fk6.lt, fk14⟩ all0) hS0 hk15 e2 (a := b1) (argsL := [(.ref b2)]) (rest := [(.ref b1)]) (pc' := 14) rfl (by rw [hml]; rfl) (lenOf pd_1 rfl) rfl rfl (W := 1) (Nat.le_of_eq rfl) (by decide) (by decide) (by decide) (by decide) (hb hby d1_11) ?_
  intro v16 T16 L16 h16 e16 q16 C16 S16 Z16 O16 X16
  obtain ⟨b16_0, k16_0, rfl, N16, K16, F16_0, F16_1, F16_2, F16_3⟩ := q16
  show Go _ _ _ _ (T16.setTop (mkF m 14 #[.val (.int 0), .val (.int p0), .val (.int p1)] [(.ref b1)]))
  subst hFF
  have C17 : CHr Z EL0 s.vm s.heap T16.vm h16 := (C12.trans C16)
  refine Go.retRW X16 hx hlk Z16 (own_EW hw) e16 S16 (Nat.le_refl _) C17 (t := (.object "java/lang/String")) hret rfl rfl (hb hby d1_14) (by decide) (by decide) (fun hat => ?_)
  have Kp18 : Keep h0 h16 [] := (Kp5.trans K16 (allS (Or.inr sz10) all0))
  have fk19 : Safe Z EL0 T16.vm h16 b1 := (C16.safe fk6.lt fk14)
  exact ⟨b1, b16_0, k16_0, rfl, (Fr.app (Fr.nil n0) N16), Kp18, sz10, (hat.safe F16_0.lt fk19), F16_0, F16_1, F16_2, F16_3⟩
theorem pd_2 : parseMethodDescriptor "(ICC)Ljava/lang/String;" = some ⟨[.int, .char, .char], some (.object "java/lang/String")⟩ := by decide +kernel
theorem d8_0 : decode prog_7_method_1_code 0 = .ok (.aload_n 0, 1) := by decide +kernel
theorem d9_0 : decode jdk_30_method_1_code 0 = .ok (.aload_n 0, 1) := by decide +kernel
theorem d9_1 : decode jdk_30_method_1_code 1 = .ok (.invokespecial 1, 3) := by decide +kernel
theorem d9_4 : decode jdk_30_method_1_code 4 = .ok (.return_, 1) := by decide +kernel
theorem ef_9_R (m : MethodId) (x0 : Addr) : entryFrame m #[(.ref x0)] 1 = mkF m 0 #[.val (.ref x0)] [] := by first | (simp [entryFrame, mkF, argsToLocals, Value.category]; done) | rfl
theorem pn_c2 : plainName "java/lang/Record" = true := by first | (simp [plainName, overriddenIn]; done) | decide +kernel
-- java/lang/Record.init
set_option maxRecDepth 65536 in
set_option maxHeartbeats 4000000 in
theorem au_8 (l : Launch) (Z : State) (a0 : Array Value) (hw : ∀ d ∈ tables_1, d.before a0 Z = true) (x0 : Addr) (h0 : Heap) (n0 : Nat) (Z0 : n0 ≤ h0.size) :
    Ctr l Z (⟨"java/lang/Record", "<init>", "()V"⟩ : MethodName) jdk_30_method_1_code 1 none ({ frames := 1, cells := 0, slots := 0, locals := 12 } : Room) #[(.ref x0)] h0 (fun v h L => v = none ∧ Fr n0 L ∧ h = h0) := by
  refine Ctr.of (plainFor_of_name pn_c2) ?_
  intro p e s m below meth c T0 hx hZ hby hml hown hnm hret hlk e0 es X0
  refine Go.cast (ef_9_R m x0) ?_
  generalize hFF : EndN s _ _ _ = FF
  refine Go.aloadN X0 hx (pc' := 1) rfl (hb hby d9_0) rfl rfl ?_
  refine Go.initO X0 hx hZ hown (tw_45 hw) (tw_16 hw) (tw_17 hw) e0 (by decide) (W := 0) (by rw [hml]; rfl) (Nat.le_of_eq rfl) (by decide) (pc' := 4) rfl (hb hby d9_1) ?_
  intro T1 e1 X1
  subst hFF
  refine Go.ret0 X1 hx hlk hret (hb hby d9_4) (by decide) (by decide) ?_
  rw [e1]
  exact ⟨rfl, (Fr.nil n0), rfl⟩
theorem pd_3 : parseMethodDescriptor "()V" = some ⟨[], none⟩ := by decide +kernel
theorem d8_1 : decode prog_7_method_1_code 1 = .ok (.invokespecial 1, 3) := by decide +kernel
theorem d8_4 : decode prog_7_method_1_code 4 = .ok (.aload_n 0, 1) := by decide +kernel
theorem d8_5 : decode prog_7_method_1_code 5 = .ok (.aload_n 1, 1) := by decide +kernel
theorem d8_6 : decode prog_7_method_1_code 6 = .ok (.putfield 7, 3) := by decide +kernel
theorem d8_9 : decode prog_7_method_1_code 9 = .ok (.aload_n 0, 1) := by decide +kernel
theorem d8_10 : decode prog_7_method_1_code 10 = .ok (.iload_n 2, 1) := by decide +kernel
theorem d8_11 : decode prog_7_method_1_code 11 = .ok (.putfield 13, 3) := by decide +kernel
theorem d8_14 : decode prog_7_method_1_code 14 = .ok (.return_, 1) := by decide +kernel
theorem ef_8_RRI (m : MethodId) (x0 : Addr) (x1 : Addr) (x2 : Int32) : entryFrame m #[(.ref x0), (.ref x1), (.int x2)] 3 = mkF m 0 #[.val (.ref x0), .val (.ref x1), .val (.int x2)] [] := by first | (simp [entryFrame, mkF, argsToLocals, Value.category]; done) | rfl
theorem pn_c3 : plainName "com/example/tough_filter/toughfilter/Expression$Keyword" = true := by first | (simp [plainName, overriddenIn]; done) | decide +kernel
-- com/example/tough_filter/toughfilter/Expression$Keyword.init
set_option maxRecDepth 65536 in
set_option maxHeartbeats 4000000 in
theorem au_7 (l : Launch) (Z : State) (a0 : Array Value) (hw : ∀ d ∈ tables_1, d.before a0 Z = true) (x0 : Addr) (x1 : Addr) (p0 : Int32) (h0 : Heap) (n0 : Nat) (Z0 : n0 ≤ h0.size) (P0 : Exa Z h0 x0 "com/example/tough_filter/toughfilter/Expression$Keyword") (P1 : Fld Z h0 x0 "com/example/tough_filter/toughfilter/Expression$Keyword" "pinyin" "Z" (.int 0)) (P2 : Fld Z h0 x0 "com/example/tough_filter/toughfilter/Expression$Keyword" "word" "Ljava/lang/String;" .null) (R_p0 : 0 ≤ p0.toInt ∧ p0.toInt ≤ 1) (g_x0 : n0 ≤ x0) :
    Ctr l Z (⟨"com/example/tough_filter/toughfilter/Expression$Keyword", "<init>", "(Ljava/lang/String;Z)V"⟩ : MethodName) prog_7_method_1_code 3 none ({ frames := 2, cells := 0, slots := 0, locals := 24 } : Room) #[(.ref x0), (.ref x1), (.int p0)] h0 (fun v h L => v = none ∧ Fr n0 L ∧ Keep h0 h [x0] ∧ Exa Z h x0 "com/example/tough_filter/toughfilter/Expression$Keyword" ∧ Fld Z h x0 "com/example/tough_filter/toughfilter/Expression$Keyword" "pinyin" "Z" (.int p0) ∧ Fld Z h x0 "com/example/tough_filter/toughfilter/Expression$Keyword" "word" "Ljava/lang/String;" (.ref x1)) := by
  refine Ctr.of (plainFor_of_name pn_c3) ?_
  intro p e s m below meth c T0 hx hZ hby hml hown hnm hret hlk e0 es X0
  refine Go.cast (ef_8_RRI m x0 x1 p0) ?_
  generalize hFF : EndN s _ _ _ = FF
  refine Go.aloadN X0 hx (pc' := 1) rfl (hb hby d8_0) rfl rfl ?_
  refine Go.callN X0 hx hZ hown rfl (tw_40 hw) (tw_41 hw) (tw_44 hw) (by decide) (tw_44 hw) (tw_43 hw) (au_8 l Z a0 hw x0 h0 n0 Z0) e0 (a := x0) (argsL := []) (rest := []) (pc' := 4) rfl (by rw [hml]; rfl) (lenOf pd_3 rfl) rfl rfl (W := 0) (Nat.le_of_eq rfl) (by decide) (by decide) (by decide) (by decide) (hb hby d8_1) ?_
  intro v1 T1 L1 q1 X1
  obtain ⟨rfl, N1, e1⟩ := q1
  show Go _ _ _ _ (T1.setTop (mkF m 4 #[.val (.ref x0), .val (.ref x1), .val (.int p0)] []))
  refine Go.aloadN X1 hx (pc' := 5) rfl (hb hby d8_4) rfl rfl ?_
  refine Go.aloadN X1 hx (pc' := 6) rfl (hb hby d8_5) rfl rfl ?_
  refine Go.putF X1 hx hZ hown (host := "") (Or.inl (tw_46 hw)) Via.refl e1 P2 P0 (Or.inr ⟨(tw_47 hw), rfl, hnm⟩) (tw_35 hw) (ty := (.object "java/lang/String")) (by decide) rfl rfl (pc' := 9) rfl (hb hby d8_6) ?_
  intro T2 h2 e2 W2 F2 X2
  have N2 := Fr.snoc X2 (Fr.app (Fr.nil n0) N1) g_x0
  refine Go.aloadN X2 hx (pc' := 10) rfl (hb hby d8_9) rfl rfl ?_
  refine Go.iloadN X2 hx (pc' := 11) rfl (hb hby d8_10) rfl ?_
  have fk3 : Fld Z h2 x0 "com/example/tough_filter/toughfilter/Expression$Keyword" "pinyin" "Z" (.int 0) := (P1.other W2 (Or.inr (slot_ne (Or.inr (tw_49 hw)) (Or.inr (tw_47 hw)) (by decide) (t := .boolean) (t' := (.object "java/lang/String")) (by decide) (by decide))))
  have fk4 : Exa Z h2 x0 "com/example/tough_filter/toughfilter/Expression$Keyword" := (P0.wr W2)
  refine Go.putFN X2 hx hZ hown (tw_48 hw) Via.refl e2 fk3 fk4 (Or.inr ⟨(tw_49 hw), rfl, hnm⟩) (tw_35 hw) (ty := .boolean) (v' := (.int p0)) (by decide) (own_narv_boolean (own_nar_boolean R_p0 (by decide) (by decide))) (own_fits_boolean (own_nar_boolean R_p0 (by decide) (by decide))) (pc' := 14) rfl (hb hby d8_11) ?_
  intro T5 h5 e5 W5 F5 X5
  have N5 := Fr.snoc X5 N2 g_x0
  subst hFF
  refine Go.ret0 X5 hx hlk hret (hb hby d8_14) (by decide) (by decide) ?_
  rw [e5]
  have fk6 : Exa Z h5 x0 "com/example/tough_filter/toughfilter/Expression$Keyword" := (fk4.wr W5)
  have fk7 : Fld Z h5 x0 "com/example/tough_filter/toughfilter/Expression$Keyword" "word" "Ljava/lang/String;" (.ref x1) := (F2.other W5 (Or.inr (slot_ne (Or.inr (tw_47 hw)) (Or.inr (tw_49 hw)) (by decide) (t := (.object "java/lang/String")) (t' := .boolean) (by decide) (by decide))))
  have Kp8 : Keep h0 h2 [x0] := ((Keep.refl h0 [x0]).wr W2 (Or.inl (List.mem_of_getElem? (i := 0) rfl)))
  have Kp9 : Keep h0 h5 [x0] := (Kp8.wr W5 (Or.inl (List.mem_of_getElem? (i := 0) rfl)))
  exact ⟨rfl, N5, Kp9, fk6, F5, fk7⟩
theorem pd_4 : parseMethodDescriptor "(Ljava/lang/String;Z)V" = some ⟨[(.object "java/lang/String"), .boolean], none⟩ := by decide +kernel
theorem d10_0 : decode prog_7_method_2_code 0 = .ok (.aload_n 1, 1) := by decide +kernel
theorem d10_1 : decode prog_7_method_2_code 1 = .ok (.instanceof 8, 3) := by decide +kernel
theorem d10_4 : decode prog_7_method_2_code 4 = .ok (.ifCond .eq 37, 3) := by decide +kernel
theorem d10_41 : decode prog_7_method_2_code 41 = .ok (.iconst 0, 1) := by decide +kernel
theorem d10_42 : decode prog_7_method_2_code 42 = .ok (.ireturn, 1) := by decide +kernel
theorem ef_10_RN (m : MethodId) (x0 : Addr)  : entryFrame m #[(.ref x0), .null] 3 = mkF m 0 #[.val (.ref x0), .val .null, .unset] [] := by first | (simp [entryFrame, mkF, argsToLocals, Value.category]; done) | rfl
-- com/example/tough_filter/toughfilter/Expression$Keyword.equals
set_option maxRecDepth 65536 in
set_option maxHeartbeats 4000000 in
theorem au_9 (l : Launch) (Z : State) (a0 : Array Value) (hw : ∀ d ∈ tables_1, d.before a0 Z = true) (x0 : Addr) (h0 : Heap) (n0 : Nat) (Z0 : n0 ≤ h0.size) :
    Ctr l Z (⟨"com/example/tough_filter/toughfilter/Expression$Keyword", "equals", "(Ljava/lang/Object;)Z"⟩ : MethodName) prog_7_method_2_code 3 (some .boolean) ({ frames := 0, cells := 0, slots := 0, locals := 0 } : Room) #[(.ref x0), .null] h0 (fun v h L => v = some (.int 0) ∧ Fr n0 L ∧ h = h0) := by
  refine Ctr.of (plainFor_of_name pn_c3) ?_
  intro p e s m below meth c T0 hx hZ hby hml hown hnm hret hlk e0 es X0
  refine Go.cast (ef_10_RN m x0) ?_
  generalize hFF : EndN s _ _ _ = FF
  refine Go.aloadN X0 hx (pc' := 1) rfl (hb hby d10_0) rfl rfl ?_
  refine Go.step (fun t kt => X0.instanceofNull hx (g := (mkF m 1 #[.val (.ref x0), .val .null, .unset] [.null])) rfl rfl (hb hby d10_1) t kt) ?_
  show Go _ _ _ _ (T0.setTop (mkF m 4 #[.val (.ref x0), .val .null, .unset] [(.int 0)]))
  refine Go.ifYes X0 hx (pc' := 41) (hb hby d10_4) (by decide) (by decide) (by decide) ?_
  refine Go.iconst X0 hx (pc' := 42) rfl (hb hby d10_41) (v := (0 : Int32)) rfl ?_
  subst hFF
  refine Go.retN X0 hx hlk (t := .boolean) hret (by simp) (hb hby d10_42) (by decide) (by decide) ?_
  rw [e0]
  exact ⟨(congrArg (fun z => some (Value.int z)) (by decide : nar .boolean (0 : Int32) = (0 : Int32))), (Fr.nil n0), rfl⟩
theorem pd_5 : parseMethodDescriptor "(Ljava/lang/Object;)Z" = some ⟨[(.object "java/lang/Object")], some .boolean⟩ := by decide +kernel
theorem ef_10_RR (m : MethodId) (x0 : Addr) (x1 : Addr) : entryFrame m #[(.ref x0), (.ref x1)] 3 = mkF m 0 #[.val (.ref x0), .val (.ref x1), .unset] [] := by first | (simp [entryFrame, mkF, argsToLocals, Value.category]; done) | rfl
-- com/example/tough_filter/toughfilter/Expression$Keyword.equals
set_option maxRecDepth 65536 in
set_option maxHeartbeats 4000000 in
theorem au_10 (l : Launch) (Z : State) (a0 : Array Value) (hw : ∀ d ∈ tables_1, d.before a0 Z = true) (x0 : Addr) (x1 : Addr) (h0 : Heap) (n0 : Nat) (Z0 : n0 ≤ h0.size) (P3 : Exa Z h0 x1 "java/lang/String") :
    Ctr l Z (⟨"com/example/tough_filter/toughfilter/Expression$Keyword", "equals", "(Ljava/lang/Object;)Z"⟩ : MethodName) prog_7_method_2_code 3 (some .boolean) ({ frames := 0, cells := 0, slots := 0, locals := 0 } : Room) #[(.ref x0), (.ref x1)] h0 (fun v h L => v = some (.int 0) ∧ Fr n0 L ∧ h = h0) := by
  refine Ctr.of (plainFor_of_name pn_c3) ?_
  intro p e s m below meth c T0 hx hZ hby hml hown hnm hret hlk e0 es X0
  refine Go.cast (ef_10_RR m x0 x1) ?_
  generalize hFF : EndN s _ _ _ = FF
  refine Go.aloadN X0 hx (pc' := 1) rfl (hb hby d10_0) rfl rfl ?_
  refine Go.instN X0 hx hZ hown (tw_58 hw) e0 P3 (own_NSno (tw_70 hw) (tw_35 hw) (NS.step (tw_70 hw) (own_NSroot (tw_71 hw) (tw_35 hw) (by decide)) (by decide)) (by decide)) (pc' := 4) rfl (hb hby d10_1) ?_
  intro T1 e1 X1
  refine Go.ifYes X1 hx (pc' := 41) (hb hby d10_4) (by decide) (by decide) (by decide) ?_
  refine Go.iconst X1 hx (pc' := 42) rfl (hb hby d10_41) (v := (0 : Int32)) rfl ?_
  subst hFF
  refine Go.retN X1 hx hlk (t := .boolean) hret (by simp) (hb hby d10_42) (by decide) (by decide) ?_
  rw [e1]
  exact ⟨(congrArg (fun z => some (Value.int z)) (by decide : nar .boolean (0 : Int32) = (0 : Int32))), (Fr.nil n0), rfl⟩
theorem d10_7 : decode prog_7_method_2_code 7 = .ok (.aload_n 1, 1) := by decide +kernel
theorem d10_8 : decode prog_7_method_2_code 8 = .ok (.checkcast 8, 3) := by decide +kernel
theorem d10_11 : decode prog_7_method_2_code 11 = .ok (.astore_n 2, 1) := by decide +kernel
theorem d10_12 : decode prog_7_method_2_code 12 = .ok (.aload_n 0, 1) := by decide +kernel
theorem d10_13 : decode prog_7_method_2_code 13 = .ok (.getfield 13, 3) := by decide +kernel
theorem d10_16 : decode prog_7_method_2_code 16 = .ok (.aload_n 2, 1) := by decide +kernel
theorem d10_17 : decode prog_7_method_2_code 17 = .ok (.getfield 13, 3) := by decide +kernel
theorem d10_20 : decode prog_7_method_2_code 20 = .ok (.if_icmp .ne 21, 3) := by decide +kernel
theorem d10_23 : decode prog_7_method_2_code 23 = .ok (.aload_n 0, 1) := by decide +kernel
theorem d10_24 : decode prog_7_method_2_code 24 = .ok (.getfield 7, 3) := by decide +kernel
theorem d10_27 : decode prog_7_method_2_code 27 = .ok (.aload_n 2, 1) := by decide +kernel
theorem d10_28 : decode prog_7_method_2_code 28 = .ok (.getfield 7, 3) := by decide +kernel
theorem d11_0 : decode jdk_42_method_66_code 0 = .ok (.aload_n 0, 1) := by decide +kernel
theorem d11_1 : decode jdk_42_method_66_code 1 = .ok (.aload_n 1, 1) := by decide +kernel
theorem d11_2 : decode jdk_42_method_66_code 2 = .ok (.if_acmp .ne 5, 3) := by decide +kernel
theorem d11_5 : decode jdk_42_method_66_code 5 = .ok (.iconst 1, 1) := by decide +kernel
theorem d11_6 : decode jdk_42_method_66_code 6 = .ok (.ireturn, 1) := by decide +kernel
theorem ef_11_RR (m : MethodId) (x0 : Addr) (x1 : Addr) : entryFrame m #[(.ref x0), (.ref x1)] 3 = mkF m 0 #[.val (.ref x0), .val (.ref x1), .unset] [] := by first | (simp [entryFrame, mkF, argsToLocals, Value.category]; done) | rfl
-- java/lang/String.equals
set_option maxRecDepth 65536 in
set_option maxHeartbeats 4000000 in
theorem au_12 (l : Launch) (Z : State) (a0 : Array Value) (hw : ∀ d ∈ tables_1, d.before a0 Z = true) (x0 : Addr) (h0 : Heap) (n0 : Nat) (Z0 : n0 ≤ h0.size) :
    Ctr l Z (⟨"java/lang/String", "equals", "(Ljava/lang/Object;)Z"⟩ : MethodName) jdk_42_method_66_code 3 (some .boolean) ({ frames := 0, cells := 0, slots := 0, locals := 0 } : Room) #[(.ref x0), (.ref x0)] h0 (fun v h L => v = some (.int 1) ∧ Fr n0 L ∧ h = h0) := by
  refine Ctr.of (plainFor_of_name pn_c0) ?_
  intro p e s m below meth c T0 hx hZ hby hml hown hnm hret hlk e0 es X0
  refine Go.cast (ef_11_RR m x0 x0) ?_
  generalize hFF : EndN s _ _ _ = FF
  refine Go.aloadN X0 hx (pc' := 1) rfl (hb hby d11_0) rfl rfl ?_
  refine Go.aloadN X0 hx (pc' := 2) rfl (hb hby d11_1) rfl rfl ?_
  refine Go.acmp X0 hx (pc' := 5) (same := true) (hb hby d11_2) rfl rfl (decide_eq_true rfl) (by decide) (by decide) ?_
  refine Go.iconst X0 hx (pc' := 6) rfl (hb hby d11_5) (v := (1 : Int32)) rfl ?_
  subst hFF
  refine Go.retN X0 hx hlk (t := .boolean) hret (by simp) (hb hby d11_6) (by decide) (by decide) ?_
  rw [e0]
  exact ⟨(congrArg (fun z => some (Value.int z)) (by decide : nar .boolean (1 : Int32) = (1 : Int32))), (Fr.nil n0), rfl⟩
theorem d10_31 : decode prog_7_method_2_code 31 = .ok (.invokevirtual 17, 3) := by decide +kernel
theorem d10_34 : decode prog_7_method_2_code 34 = .ok (.ifCond .eq 7, 3) := by decide +kernel
theorem d10_37 : decode prog_7_method_2_code 37 = .ok (.iconst 1, 1) := by decide +kernel
theorem d10_38 : decode prog_7_method_2_code 38 = .ok (.goto 4, 3) := by decide +kernel
-- com/example/tough_filter/toughfilter/Expression$Keyword.equals
set_option maxRecDepth 65536 in
set_option maxHeartbeats 4000000 in
theorem au_11 (l : Launch) (Z : State) (a0 : Array Value) (hw : ∀ d ∈ tables_1, d.before a0 Z = true) (x0 : Addr) (p0 : Int32) (x1 : Addr) (h0 : Heap) (n0 : Nat) (Z0 : n0 ≤ h0.size) (P0 : Exa Z h0 x0 "com/example/tough_filter/toughfilter/Expression$Keyword") (P1 : Fld Z h0 x0 "com/example/tough_filter/toughfilter/Expression$Keyword" "pinyin" "Z" (.int p0)) (P2 : Fld Z h0 x0 "com/example/tough_filter/toughfilter/Expression$Keyword" "word" "Ljava/lang/String;" (.ref x1)) (P3 : Exa Z h0 x1 "java/lang/String") :
    Ctr l Z (⟨"com/example/tough_filter/toughfilter/Expression$Keyword", "equals", "(Ljava/lang/Object;)Z"⟩ : MethodName) prog_7_method_2_code 3 (some .boolean) ({ frames := 1, cells := 0, slots := 0, locals := 14 } : Room) #[(.ref x0), (.ref x0)] h0 (fun v h L => v = some (.int 1) ∧ Fr n0 L ∧ h = h0) := by
  refine Ctr.of (plainFor_of_name pn_c3) ?_
  intro p e s m below meth c T0 hx hZ hby hml hown hnm hret hlk e0 es X0
  refine Go.cast (ef_10_RR m x0 x0) ?_
  generalize hFF : EndN s _ _ _ = FF
  refine Go.aloadN X0 hx (pc' := 1) rfl (hb hby d10_0) rfl rfl ?_
  refine Go.instY X0 hx hZ hown (tw_58 hw) e0 (Ins.self P0) (pc' := 4) rfl (hb hby d10_1) ?_
  intro T1 e1 X1
  refine Go.ifNo X1 hx (pc' := 7) rfl (hb hby d10_4) (by decide) ?_
  refine Go.aloadN X1 hx (pc' := 8) rfl (hb hby d10_7) rfl rfl ?_
  refine Go.castY X1 hx hZ hown (tw_58 hw) e1 (Ins.self P0) (pc' := 11) rfl (hb hby d10_8) ?_
  intro T2 e2 X2
  refine Go.astoreN X2 hx (pc' := 12) rfl (hb hby d10_11) (Ls' := #[.val (.ref x0), .val (.ref x0), .val (.ref x0)]) rfl rfl ?_
  refine Go.aloadN X2 hx (pc' := 13) rfl (hb hby d10_12) rfl rfl ?_
  refine Go.getF X2 hx hZ hown (host := "") (Or.inl (tw_48 hw)) Via.refl e2 P1 (pc' := 16) rfl (hb hby d10_13) ?_
  intro T3 e3 X3
  refine Go.aloadN X3 hx (pc' := 17) rfl (hb hby d10_16) rfl rfl ?_
  refine Go.getF X3 hx hZ hown (host := "") (Or.inl (tw_48 hw)) Via.refl e3 P1 (pc' := 20) rfl (hb hby d10_17) ?_
  intro T4 e4 X4
  refine Go.icmpNo X4 hx (pc' := 23) rfl (hb hby d10_20) (teq rfl).2 ?_
  refine Go.aloadN X4 hx (pc' := 24) rfl (hb hby d10_23) rfl rfl ?_
  refine Go.getF X4 hx hZ hown (host := "") (Or.inl (tw_46 hw)) Via.refl e4 P2 (pc' := 27) rfl (hb hby d10_24) ?_
  intro T5 e5 X5
  refine Go.aloadN X5 hx (pc' := 28) rfl (hb hby d10_27) rfl rfl ?_
  refine Go.getF X5 hx hZ hown (host := "") (Or.inl (tw_46 hw)) Via.refl e5 P2 (pc' := 31) rfl (hb hby d10_28) ?_
  intro T6 e6 X6
  refine Go.callV X6 hx hZ hown (tw_60 hw) (tw_61 hw) (notFace_of_selects (args := #[]) (mvT hZ (tw_63 hw))) (tw_63 hw) (tw_62 hw) (by decide) (tw_64 hw) (tw_6 hw) (au_12 l Z a0 hw x1 h0 n0 Z0) e6 P3 (argsL := [(.ref x1)]) (rest := []) (pc' := 34) rfl (by rw [hml]; rfl) (lenOf pd_5 rfl) rfl rfl (W := 0) (Nat.le_of_eq rfl) (by decide) (by decide) (by decide) (by decide) (hb hby d10_31) ?_
  intro v7 T7 L7 q7 X7
  obtain ⟨rfl, N7, e7⟩ := q7
  show Go _ _ _ _ (T7.setTop (mkF m 34 #[.val (.ref x0), .val (.ref x0), .val (.ref x0)] [(.int 1)]))
  refine Go.ifNo X7 hx (pc' := 37) rfl (hb hby d10_34) (by decide) ?_
  refine Go.iconst X7 hx (pc' := 38) rfl (hb hby d10_37) (v := (1 : Int32)) rfl ?_
  refine Go.goto X7 hx (pc' := 42) (hb hby d10_38) (by decide) (by decide) ?_
  subst hFF
  refine Go.retN X7 hx hlk (t := .boolean) hret (by simp) (hb hby d10_42) (by decide) (by decide) ?_
  rw [e7]
  exact ⟨(congrArg (fun z => some (Value.int z)) (by decide : nar .boolean (1 : Int32) = (1 : Int32))), (Fr.app (Fr.nil n0) N7), rfl⟩
theorem d11_7 : decode jdk_42_method_66_code 7 = .ok (.aload_n 1, 1) := by decide +kernel
theorem d11_8 : decode jdk_42_method_66_code 8 = .ok (.instanceof 10, 3) := by decide +kernel
theorem d11_11 : decode jdk_42_method_66_code 11 = .ok (.ifCond .eq 43, 3) := by decide +kernel
theorem d11_14 : decode jdk_42_method_66_code 14 = .ok (.aload_n 1, 1) := by decide +kernel
theorem d11_15 : decode jdk_42_method_66_code 15 = .ok (.checkcast 10, 3) := by decide +kernel
theorem d11_18 : decode jdk_42_method_66_code 18 = .ok (.astore_n 2, 1) := by decide +kernel
theorem d11_19 : decode jdk_42_method_66_code 19 = .ok (.getstatic 38, 3) := by decide +kernel
theorem d11_22 : decode jdk_42_method_66_code 22 = .ok (.ifCond .eq 14, 3) := by decide +kernel
theorem d11_25 : decode jdk_42_method_66_code 25 = .ok (.aload_n 0, 1) := by decide +kernel
theorem d11_26 : decode jdk_42_method_66_code 26 = .ok (.getfield 15, 3) := by decide +kernel
theorem d11_29 : decode jdk_42_method_66_code 29 = .ok (.aload_n 2, 1) := by decide +kernel
theorem d11_30 : decode jdk_42_method_66_code 30 = .ok (.getfield 15, 3) := by decide +kernel
theorem d11_33 : decode jdk_42_method_66_code 33 = .ok (.if_icmp .ne 21, 3) := by decide +kernel
theorem d11_36 : decode jdk_42_method_66_code 36 = .ok (.aload_n 0, 1) := by decide +kernel
theorem d11_37 : decode jdk_42_method_66_code 37 = .ok (.getfield 9, 3) := by decide +kernel
theorem d11_40 : decode jdk_42_method_66_code 40 = .ok (.aload_n 2, 1) := by decide +kernel
theorem d11_41 : decode jdk_42_method_66_code 41 = .ok (.getfield 9, 3) := by decide +kernel
theorem d12_0 : decode jdk_43_method_13_code 0 = .ok (.aload_n 0, 1) := by decide +kernel
theorem d12_1 : decode jdk_43_method_13_code 1 = .ok (.arraylength, 1) := by decide +kernel
theorem d12_2 : decode jdk_43_method_13_code 2 = .ok (.aload_n 1, 1) := by decide +kernel
theorem d12_3 : decode jdk_43_method_13_code 3 = .ok (.arraylength, 1) := by decide +kernel
theorem d12_4 : decode jdk_43_method_13_code 4 = .ok (.if_icmp .ne 30, 3) := by decide +kernel
theorem d12_7 : decode jdk_43_method_13_code 7 = .ok (.iconst 0, 1) := by decide +kernel
theorem d12_8 : decode jdk_43_method_13_code 8 = .ok (.istore_n 2, 1) := by decide +kernel
theorem d12_9 : decode jdk_43_method_13_code 9 = .ok (.iload_n 2, 1) := by decide +kernel
theorem d12_10 : decode jdk_43_method_13_code 10 = .ok (.aload_n 0, 1) := by decide +kernel
theorem d12_11 : decode jdk_43_method_13_code 11 = .ok (.arraylength, 1) := by decide +kernel
theorem d12_12 : decode jdk_43_method_13_code 12 = .ok (.if_icmp .ge 20, 3) := by decide +kernel
theorem d12_32 : decode jdk_43_method_13_code 32 = .ok (.iconst 1, 1) := by decide +kernel
theorem d12_33 : decode jdk_43_method_13_code 33 = .ok (.ireturn, 1) := by decide +kernel
theorem ef_12_RR (m : MethodId) (x0 : Addr) (x1 : Addr) : entryFrame m #[(.ref x0), (.ref x1)] 3 = mkF m 0 #[.val (.ref x0), .val (.ref x1), .unset] [] := by first | (simp [entryFrame, mkF, argsToLocals, Value.category]; done) | rfl
theorem pn_c4 : plainName "java/lang/StringLatin1" = true := by first | (simp [plainName, overriddenIn]; done) | decide +kernel
-- java/lang/StringLatin1.equals
set_option maxRecDepth 65536 in
set_option maxHeartbeats 4000000 in
theorem au_15 (l : Launch) (Z : State) (a0 : Array Value) (hw : ∀ d ∈ tables_1, d.before a0 Z = true) (x0 : Addr) (x1 : Addr) (kk0 : ClassId) (kk1 : ClassId) (h0 : Heap) (n0 : Nat) (Z0 : n0 ≤ h0.size) (P0 : Arv Z h0 x0 kk0 .byte (0 : Int32) [] (.int (0 : Int32))) (P1 : Arv Z h0 x1 kk1 .byte (0 : Int32) [] (.int (0 : Int32))) :
    Ctr l Z (⟨"java/lang/StringLatin1", "equals", "([B[B)Z"⟩ : MethodName) jdk_43_method_13_code 3 (some .boolean) ({ frames := 0, cells := 0, slots := 0, locals := 0 } : Room) #[(.ref x0), (.ref x1)] h0 (fun v h L => v = some (.int 1) ∧ Fr n0 L ∧ h = h0) := by
  refine Ctr.of (plainFor_of_name pn_c4) ?_
  intro p e s m below meth c T0 hx hZ hby hml hown hnm hret hlk e0 es X0
  refine Go.cast (ef_12_RR m x0 x1) ?_
  generalize hFF : EndN s _ _ _ = FF
  refine Go.aloadN X0 hx (pc' := 1) rfl (hb hby d12_0) rfl rfl ?_
  refine Go.arraylength X0 hx hZ e0 P0 (pc' := 2) rfl (hb hby d12_1) ?_
  refine Go.aloadN X0 hx (pc' := 3) rfl (hb hby d12_2) rfl rfl ?_
  refine Go.arraylength X0 hx hZ e0 P1 (pc' := 4) rfl (hb hby d12_3) ?_
  refine Go.icmpNo X0 hx (pc' := 7) rfl (hb hby d12_4) (by decide) ?_
  refine Go.iconst X0 hx (pc' := 8) rfl (hb hby d12_7) (v := (0 : Int32)) rfl ?_
  refine Go.istoreN X0 hx (pc' := 9) rfl (hb hby d12_8) (Ls' := #[.val (.ref x0), .val (.ref x1), .val (.int 0)]) rfl ?_
  refine Go.iloadN X0 hx (pc' := 10) rfl (hb hby d12_9) rfl ?_
  refine Go.aloadN X0 hx (pc' := 11) rfl (hb hby d12_10) rfl rfl ?_
  refine Go.arraylength X0 hx hZ e0 P0 (pc' := 12) rfl (hb hby d12_11) ?_
  refine Go.icmpYes X0 hx (pc' := 32) (hb hby d12_12) (by decide) (by decide) (by decide) ?_
  refine Go.iconst X0 hx (pc' := 33) rfl (hb hby d12_32) (v := (1 : Int32)) rfl ?_
  subst hFF
  refine Go.retN X0 hx hlk (t := .boolean) hret (by simp) (hb hby d12_33) (by decide) (by decide) ?_
  rw [e0]
  exact ⟨(congrArg (fun z => some (Value.int z)) (by decide : nar .boolean (1 : Int32) = (1 : Int32))), (Fr.nil n0), rfl⟩
theorem pd_6 : parseMethodDescriptor "([B[B)Z" = some ⟨[(.array .byte), (.array .byte)], some .boolean⟩ := by decide +kernel
theorem d11_44 : decode jdk_42_method_66_code 44 = .ok (.invokestatic 541, 3) := by decide +kernel
theorem d11_47 : decode jdk_42_method_66_code 47 = .ok (.ifCond .eq 7, 3) := by decide +kernel
theorem d11_50 : decode jdk_42_method_66_code 50 = .ok (.iconst 1, 1) := by decide +kernel
theorem d11_51 : decode jdk_42_method_66_code 51 = .ok (.goto 4, 3) := by decide +kernel
theorem d11_55 : decode jdk_42_method_66_code 55 = .ok (.ireturn, 1) := by decide +kernel
-- java/lang/String.equals
set_option maxRecDepth 65536 in
set_option maxHeartbeats 4000000 in
theorem au_14 (l : Launch) (Z : State) (a0 : Array Value) (hw : ∀ d ∈ tables_1, d.before a0 Z = true) (x0 : Addr) (x1 : Addr) (x2 : Addr) (x3 : Addr) (kk0 : ClassId) (kk1 : ClassId) (gz1 : Int32) (gv5 : Value) (h0 : Heap) (n0 : Nat) (Z0 : n0 ≤ h0.size) (O0 : Old Z n0 h0) (G : Glob Z gz1 gv5) (P1 : Fld Z h0 x0 "java/lang/String" "coder" "B" (.int 0)) (P2 : Fld Z h0 x0 "java/lang/String" "value" "[B" (.ref x2)) (P3 : Exa Z h0 x1 "java/lang/String") (P4 : Fld Z h0 x1 "java/lang/String" "coder" "B" (.int 0)) (P5 : Fld Z h0 x1 "java/lang/String" "value" "[B" (.ref x3)) (P6 : Arv Z h0 x2 kk0 .byte (0 : Int32) [] (.int (0 : Int32))) (P7 : Arv Z h0 x3 kk1 .byte (0 : Int32) [] (.int (0 : Int32))) (ne_x0_x1 : x0 ≠ x1) :
    Ctr l Z (⟨"java/lang/String", "equals", "(Ljava/lang/Object;)Z"⟩ : MethodName) jdk_42_method_66_code 3 (some .boolean) ({ frames := 1, cells := 0, slots := 0, locals := 14 } : Room) #[(.ref x0), (.ref x1)] h0 (fun v h L => v = some (.int 1) ∧ Fr n0 L ∧ h = h0) := by
  refine Ctr.of (plainFor_of_name pn_c0) ?_
  intro p e s m below meth c T0 hx hZ hby hml hown hnm hret hlk e0 es X0
  have G' := G
  obtain ⟨G0, -, G2, -⟩ := G'
  refine Go.cast (ef_11_RR m x0 x1) ?_
  generalize hFF : EndN s _ _ _ = FF
  refine Go.aloadN X0 hx (pc' := 1) rfl (hb hby d11_0) rfl rfl ?_
  refine Go.aloadN X0 hx (pc' := 2) rfl (hb hby d11_1) rfl rfl ?_
  refine Go.acmp X0 hx (pc' := 7) (same := false) (hb hby d11_2) rfl rfl (decide_eq_false (fun q => ne_x0_x1 (Value.ref.inj q))) (by decide) (by decide) ?_
  refine Go.aloadN X0 hx (pc' := 8) rfl (hb hby d11_7) rfl rfl ?_
  refine Go.instY X0 hx hZ hown (tw_65 hw) e0 (Ins.self P3) (pc' := 11) rfl (hb hby d11_8) ?_
  intro T1 e1 X1
  refine Go.ifNo X1 hx (pc' := 14) rfl (hb hby d11_11) (by decide) ?_
  refine Go.aloadN X1 hx (pc' := 15) rfl (hb hby d11_14) rfl rfl ?_
  refine Go.castY X1 hx hZ hown (tw_65 hw) e1 (Ins.self P3) (pc' := 18) rfl (hb hby d11_15) ?_
  intro T2 e2 X2
  refine Go.astoreN X2 hx (pc' := 19) rfl (hb hby d11_18) (Ls' := #[.val (.ref x0), .val (.ref x1), .val (.ref x1)]) rfl rfl ?_
  have fk3 : Sta Z h0 "java/lang/String" "COMPACT_STRINGS" "Z" (.int gz1) := G0.ext O0.2
  refine Go.getS X2 hx hZ hown (host := "") (Or.inl (tw_18 hw)) Via.refl e2 fk3 (pc' := 22) rfl (hb hby d11_19) ?_
  intro T4 e4 X4
  refine Go.ifNo X4 hx (pc' := 25) rfl (hb hby d11_22) (feq G2).1 ?_
  refine Go.aloadN X4 hx (pc' := 26) rfl (hb hby d11_25) rfl rfl ?_
  refine Go.getF X4 hx hZ hown (host := "") (Or.inl (tw_30 hw)) Via.refl e4 P1 (pc' := 29) rfl (hb hby d11_26) ?_
  intro T5 e5 X5
  refine Go.aloadN X5 hx (pc' := 30) rfl (hb hby d11_29) rfl rfl ?_
  refine Go.getF X5 hx hZ hown (host := "") (Or.inl (tw_30 hw)) Via.refl e5 P4 (pc' := 33) rfl (hb hby d11_30) ?_
  intro T6 e6 X6
  refine Go.icmpNo X6 hx (pc' := 36) rfl (hb hby d11_33) (by decide) ?_
  refine Go.aloadN X6 hx (pc' := 37) rfl (hb hby d11_36) rfl rfl ?_
  refine Go.getF X6 hx hZ hown (host := "") (Or.inl (tw_32 hw)) Via.refl e6 P2 (pc' := 40) rfl (hb hby d11_37) ?_
  intro T7 e7 X7
  refine Go.aloadN X7 hx (pc' := 41) rfl (hb hby d11_40) rfl rfl ?_
  refine Go.getF X7 hx hZ hown (host := "") (Or.inl (tw_32 hw)) Via.refl e7 P5 (pc' := 44) rfl (hb hby d11_41) ?_
  intro T8 e8 X8
  refine Go.callS X8 hx hZ hown (tw_66 hw) (tw_67 hw) (tw_68 hw) (tw_69 hw) (by decide) (tw_69 hw) (tw_68 hw) (au_15 l Z a0 hw x2 x3 kk0 kk1 h0 n0 Z0 P6 P7) e8 (argsL := [(.ref x2), (.ref x3)]) (rest := []) (pc' := 47) rfl (by rw [hml]; rfl) (lenOf pd_6 rfl) rfl rfl (W := 0) (Nat.le_of_eq rfl) (by decide) (by decide) (by decide) (by decide) (hb hby d11_44) ?_
  intro v9 T9 L9 q9 X9
  obtain ⟨rfl, N9, e9⟩ := q9
  show Go _ _ _ _ (T9.setTop (mkF m 47 #[.val (.ref x0), .val (.ref x1), .val (.ref x1)] [(.int 1)]))
  refine Go.ifNo X9 hx (pc' := 50) rfl (hb hby d11_47) (by decide) ?_
  refine Go.iconst X9 hx (pc' := 51) rfl (hb hby d11_50) (v := (1 : Int32)) rfl ?_
  refine Go.goto X9 hx (pc' := 55) (hb hby d11_51) (by decide) (by decide) ?_
  subst hFF
  refine Go.retN X9 hx hlk (t := .boolean) hret (by simp) (hb hby d11_55) (by decide) (by decide) ?_
  rw [e9]
  exact ⟨(congrArg (fun z => some (Value.int z)) (by decide : nar .boolean (1 : Int32) = (1 : Int32))), (Fr.app (Fr.nil n0) N9), rfl⟩
-- com/example/tough_filter/toughfilter/Expression$Keyword.equals
set_option maxRecDepth 65536 in
set_option maxHeartbeats 4000000 in
theorem au_13 (l : Launch) (Z : State) (a0 : Array Value) (hw : ∀ d ∈ tables_1, d.before a0 Z = true) (x0 : Addr) (x1 : Addr) (p0 : Int32) (x2 : Addr) (p1 : Int32) (x3 : Addr) (x4 : Addr) (x5 : Addr) (kk0 : ClassId) (kk1 : ClassId) (gz1 : Int32) (gv5 : Value) (h0 : Heap) (n0 : Nat) (Z0 : n0 ≤ h0.size) (O0 : Old Z n0 h0) (G : Glob Z gz1 gv5) (P1 : Fld Z h0 x0 "com/example/tough_filter/toughfilter/Expression$Keyword" "pinyin" "Z" (.int p0)) (P2 : Fld Z h0 x0 "com/example/tough_filter/toughfilter/Expression$Keyword" "word" "Ljava/lang/String;" (.ref x2)) (P3 : Exa Z h0 x1 "com/example/tough_filter/toughfilter/Expression$Keyword") (P4 : Fld Z h0 x1 "com/example/tough_filter/toughfilter/Expression$Keyword" "pinyin" "Z" (.int p1)) (P5 : Fld Z h0 x1 "com/example/tough_filter/toughfilter/Expression$Keyword" "word" "Ljava/lang/String;" (.ref x3)) (P6 : Exa Z h0 x2 "java/lang/String") (P7 : Fld Z h0 x2 "java/lang/String" "coder" "B" (.int 0)) (P8 : Fld Z h0 x2 "java/lang/String" "value" "[B" (.ref x4)) (P9 : Exa Z h0 x3 "java/lang/String") (P10 : Fld Z h0 x3 "java/lang/String" "coder" "B" (.int 0)) (P11 : Fld Z h0 x3 "java/lang/String" "value" "[B" (.ref x5)) (P12 : Arv Z h0 x4 kk0 .byte (0 : Int32) [] (.int (0 : Int32))) (P13 : Arv Z h0 x5 kk1 .byte (0 : Int32) [] (.int (0 : Int32))) (ne_x2_x3 : x2 ≠ x3) :
    Ctr l Z (⟨"com/example/tough_filter/toughfilter/Expression$Keyword", "equals", "(Ljava/lang/Object;)Z"⟩ : MethodName) prog_7_method_2_code 3 (some .boolean) ({ frames := 2, cells := 0, slots := 0, locals := 28 } : Room) #[(.ref x0), (.ref x1)] h0 (fun v h L => (p0 = p1 ∧ v = some (.int 1) ∧ Fr n0 L ∧ h = h0) ∨ (¬ (p0 = p1) ∧ v = some (.int 0) ∧ Fr n0 L ∧ h = h0)) := by
  refine Ctr.of (plainFor_of_name pn_c3) ?_
  intro p e s m below meth c T0 hx hZ hby hml hown hnm hret hlk e0 es X0
  refine Go.cast (ef_10_RR m x0 x1) ?_
  generalize hFF : EndN s _ _ _ = FF
  refine Go.aloadN X0 hx (pc' := 1) rfl (hb hby d10_0) rfl rfl ?_
  refine Go.instY X0 hx hZ hown (tw_58 hw) e0 (Ins.self P3) (pc' := 4) rfl (hb hby d10_1) ?_
  intro T1 e1 X1
  refine Go.ifNo X1 hx (pc' := 7) rfl (hb hby d10_4) (by decide) ?_
  refine Go.aloadN X1 hx (pc' := 8) rfl (hb hby d10_7) rfl rfl ?_
  refine Go.castY X1 hx hZ hown (tw_58 hw) e1 (Ins.self P3) (pc' := 11) rfl (hb hby d10_8) ?_
  intro T2 e2 X2
  refine Go.astoreN X2 hx (pc' := 12) rfl (hb hby d10_11) (Ls' := #[.val (.ref x0), .val (.ref x1), .val (.ref x1)]) rfl rfl ?_
  refine Go.aloadN X2 hx (pc' := 13) rfl (hb hby d10_12) rfl rfl ?_
  refine Go.getF X2 hx hZ hown (host := "") (Or.inl (tw_48 hw)) Via.refl e2 P1 (pc' := 16) rfl (hb hby d10_13) ?_
  intro T3 e3 X3
  refine Go.aloadN X3 hx (pc' := 17) rfl (hb hby d10_16) rfl rfl ?_
  refine Go.getF X3 hx hZ hown (host := "") (Or.inl (tw_48 hw)) Via.refl e3 P4 (pc' := 20) rfl (hb hby d10_17) ?_
  intro T4 e4 X4
  by_cases hc5 : p0 = p1
  · refine Go.icmpNo X4 hx (pc' := 23) rfl (hb hby d10_20) (teq hc5).2 ?_
    refine Go.aloadN X4 hx (pc' := 24) rfl (hb hby d10_23) rfl rfl ?_
    refine Go.getF X4 hx hZ hown (host := "") (Or.inl (tw_46 hw)) Via.refl e4 P2 (pc' := 27) rfl (hb hby d10_24) ?_
    intro T6 e6 X6
    refine Go.aloadN X6 hx (pc' := 28) rfl (hb hby d10_27) rfl rfl ?_
    refine Go.getF X6 hx hZ hown (host := "") (Or.inl (tw_46 hw)) Via.refl e6 P5 (pc' := 31) rfl (hb hby d10_28) ?_
    intro T7 e7 X7
    refine Go.callV X7 hx hZ hown (tw_60 hw) (tw_61 hw) (notFace_of_selects (args := #[]) (mvT hZ (tw_63 hw))) (tw_63 hw) (tw_62 hw) (by decide) (tw_64 hw) (tw_6 hw) (au_14 l Z a0 hw x2 x3 x4 x5 kk0 kk1 gz1 gv5 h0 n0 Z0 O0 G P7 P8 P9 P10 P11 P12 P13 ne_x2_x3) e7 P6 (argsL := [(.ref x3)]) (rest := []) (pc' := 34) rfl (by rw [hml]; rfl) (lenOf pd_5 rfl) rfl rfl (W := 0) (Nat.le_of_eq rfl) (by decide) (by decide) (by decide) (by decide) (hb hby d10_31) ?_
    intro v8 T8 L8 q8 X8
    obtain ⟨rfl, N8, e8⟩ := q8
    show Go _ _ _ _ (T8.setTop (mkF m 34 #[.val (.ref x0), .val (.ref x1), .val (.ref x1)] [(.int 1)]))
    refine Go.ifNo X8 hx (pc' := 37) rfl (hb hby d10_34) (by decide) ?_
    refine Go.iconst X8 hx (pc' := 38) rfl (hb hby d10_37) (v := (1 : Int32)) rfl ?_
    refine Go.goto X8 hx (pc' := 42) (hb hby d10_38) (by decide) (by decide) ?_
    subst hFF
    refine Go.retN X8 hx hlk (t := .boolean) hret (by simp) (hb hby d10_42) (by decide) (by decide) ?_
    rw [e8]
    exact Or.inl ⟨hc5, (congrArg (fun z => some (Value.int z)) (by decide : nar .boolean (1 : Int32) = (1 : Int32))), (Fr.app (Fr.nil n0) N8), rfl⟩
  · refine Go.icmpYes X4 hx (pc' := 41) (hb hby d10_20) (feq hc5).2 (by decide) (by decide) ?_
    refine Go.iconst X4 hx (pc' := 42) rfl (hb hby d10_41) (v := (0 : Int32)) rfl ?_
    subst hFF
    refine Go.retN X4 hx hlk (t := .boolean) hret (by simp) (hb hby d10_42) (by decide) (by decide) ?_
    rw [e4]
    exact Or.inr (⟨hc5, (congrArg (fun z => some (Value.int z)) (by decide : nar .boolean (0 : Int32) = (0 : Int32))), (Fr.nil n0), rfl⟩)
theorem d1_15 : decode method_2_code 15 = .ok (.iload_n 0, 1) := by decide +kernel
theorem d1_16 : decode method_2_code 16 = .ok (.iconst 1, 1) := by decide +kernel
theorem d1_17 : decode method_2_code 17 = .ok (.if_icmp .ne 18, 3) := by decide +kernel
theorem d1_20 : decode method_2_code 20 = .ok (.new 7, 3) := by decide +kernel
theorem d1_23 : decode method_2_code 23 = .ok (.dup, 1) := by decide +kernel
theorem d1_24 : decode method_2_code 24 = .ok (.iconst 1, 1) := by decide +kernel
theorem d1_25 : decode method_2_code 25 = .ok (.newarray .char, 2) := by decide +kernel
theorem d1_27 : decode method_2_code 27 = .ok (.dup, 1) := by decide +kernel
theorem d1_28 : decode method_2_code 28 = .ok (.iconst 0, 1) := by decide +kernel
theorem d1_29 : decode method_2_code 29 = .ok (.iload_n 1, 1) := by decide +kernel
theorem d1_30 : decode method_2_code 30 = .ok (.castore, 1) := by decide +kernel
theorem d3_27 : decode jdk_42_method_149_code 27 = .ok (.getstatic 38, 3) := by decide +kernel
theorem d3_30 : decode jdk_42_method_149_code 30 = .ok (.ifCond .eq 28, 3) := by decide +kernel
theorem d3_33 : decode jdk_42_method_149_code 33 = .ok (.aload_n 1, 1) := by decide +kernel
theorem d3_34 : decode jdk_42_method_149_code 34 = .ok (.iload_n 2, 1) := by decide +kernel
theorem d3_35 : decode jdk_42_method_149_code 35 = .ok (.iload_n 3, 1) := by decide +kernel
theorem d5_0 : decode jdk_52_method_16_code 0 = .ok (.iload_n 2, 1) := by decide +kernel
theorem d5_1 : decode jdk_52_method_16_code 1 = .ok (.newarray .byte, 2) := by decide +kernel
theorem d5_3 : decode jdk_52_method_16_code 3 = .ok (.astore_n 3, 1) := by decide +kernel
theorem d5_4 : decode jdk_52_method_16_code 4 = .ok (.aload_n 0, 1) := by decide +kernel
theorem d5_5 : decode jdk_52_method_16_code 5 = .ok (.iload_n 1, 1) := by decide +kernel
theorem d5_6 : decode jdk_52_method_16_code 6 = .ok (.aload_n 3, 1) := by decide +kernel
theorem d5_7 : decode jdk_52_method_16_code 7 = .ok (.iconst 0, 1) := by decide +kernel
theorem d5_8 : decode jdk_52_method_16_code 8 = .ok (.iload_n 2, 1) := by decide +kernel
theorem d6_0 : decode jdk_52_method_21_code 0 = .ok (.iconst 0, 1) := by decide +kernel
theorem d6_1 : decode jdk_52_method_21_code 1 = .ok (.istore 5, 2) := by decide +kernel
theorem d6_3 : decode jdk_52_method_21_code 3 = .ok (.iload 5, 2) := by decide +kernel
theorem d6_5 : decode jdk_52_method_21_code 5 = .ok (.iload 4, 2) := by decide +kernel
theorem d6_7 : decode jdk_52_method_21_code 7 = .ok (.if_icmp .ge 37, 3) := by decide +kernel
theorem d6_10 : decode jdk_52_method_21_code 10 = .ok (.aload_n 0, 1) := by decide +kernel
theorem d6_11 : decode jdk_52_method_21_code 11 = .ok (.iload_n 1, 1) := by decide +kernel
theorem d6_12 : decode jdk_52_method_21_code 12 = .ok (.caload, 1) := by decide +kernel
theorem d6_13 : decode jdk_52_method_21_code 13 = .ok (.istore 6, 2) := by decide +kernel
theorem d6_15 : decode jdk_52_method_21_code 15 = .ok (.iload 6, 2) := by decide +kernel
theorem d6_17 : decode jdk_52_method_21_code 17 = .ok (.sipush 255, 3) := by decide +kernel
theorem d6_20 : decode jdk_52_method_21_code 20 = .ok (.if_icmp .le 6, 3) := by decide +kernel
theorem d6_26 : decode jdk_52_method_21_code 26 = .ok (.aload_n 2, 1) := by decide +kernel
theorem d6_27 : decode jdk_52_method_21_code 27 = .ok (.iload_n 3, 1) := by decide +kernel
theorem d6_28 : decode jdk_52_method_21_code 28 = .ok (.iload 6, 2) := by decide +kernel
theorem d6_30 : decode jdk_52_method_21_code 30 = .ok (.i2b, 1) := by decide +kernel
theorem d6_31 : decode jdk_52_method_21_code 31 = .ok (.bastore, 1) := by decide +kernel
theorem d6_32 : decode jdk_52_method_21_code 32 = .ok (.iinc 1 1, 3) := by decide +kernel
theorem d6_35 : decode jdk_52_method_21_code 35 = .ok (.iinc 3 1, 3) := by decide +kernel
theorem d6_38 : decode jdk_52_method_21_code 38 = .ok (.iinc 5 1, 3) := by decide +kernel
theorem d6_41 : decode jdk_52_method_21_code 41 = .ok (.goto (-38), 3) := by decide +kernel
theorem d6_44 : decode jdk_52_method_21_code 44 = .ok (.iload 4, 2) := by decide +kernel
theorem d6_46 : decode jdk_52_method_21_code 46 = .ok (.ireturn, 1) := by decide +kernel
theorem ef_6_RIRII (m : MethodId) (x0 : Addr) (x1 : Int32) (x2 : Addr) (x3 : Int32) (x4 : Int32) : entryFrame m #[(.ref x0), (.int x1), (.ref x2), (.int x3), (.int x4)] 7 = mkF m 0 #[.val (.ref x0), .val (.int x1), .val (.ref x2), .val (.int x3), .val (.int x4), .unset, .unset] [] := by first | (simp [entryFrame, mkF, argsToLocals, Value.category]; done) | rfl
theorem pn_c5 : plainName "java/lang/StringUTF16" = true := by first | (simp [plainName, overriddenIn]; done) | decide +kernel
-- java/lang/StringUTF16.compress
set_option maxRecDepth 65536 in
set_option maxHeartbeats 4000000 in
theorem au_20 (l : Launch) (Z : State) (a0 : Array Value) (hw : ∀ d ∈ tables_1, d.before a0 Z = true) (x0 : Addr) (x1 : Addr) (kk0 : ClassId) (p0 : Int32) (kk1 : ClassId) (h0 : Heap) (n0 : Nat) (Z0 : n0 ≤ h0.size) (P0 : Arv Z h0 x0 kk0 .char (1 : Int32) [(.int p0)] (.int 0)) (P2 : Arv Z h0 x1 kk1 .byte (1 : Int32) [(.int 0)] (.int 0)) (P3 : Exa Z h0 x1 "[B") (R_p0 : 0 ≤ p0.toInt ∧ p0.toInt ≤ 255) (g_x1 : n0 ≤ x1) :
    Ctr l Z (⟨"java/lang/StringUTF16", "compress", "([CI[BII)I"⟩ : MethodName) jdk_52_method_21_code 7 (some .int) ({ frames := 0, cells := 0, slots := 0, locals := 0 } : Room) #[(.ref x0), (.int 0), (.ref x1), (.int 0), (.int 1)] h0 (fun v h L => ∃ (z1 : Int32), (p0.toInt8.toInt32) = z1 ∧ v = some (.int 1) ∧ Fr n0 L ∧ Keep h0 h [x1] ∧ Arv Z h x1 kk1 .byte (1 : Int32) [(.int z1)] (.int 0) ∧ Exa Z h x1 "[B") := by
  refine Ctr.of (plainFor_of_name pn_c5) ?_
  intro p e s m below meth c T0 hx hZ hby hml hown hnm hret hlk e0 es X0
  refine Go.cast (ef_6_RIRII m x0 (0 : Int32) x1 (0 : Int32) (1 : Int32)) ?_
  generalize hFF : EndN s _ _ _ = FF
  refine Go.iconst X0 hx (pc' := 1) rfl (hb hby d6_0) (v := (0 : Int32)) rfl ?_
  refine Go.istore X0 hx (pc' := 3) rfl (hb hby d6_1) (Ls' := #[.val (.ref x0), .val (.int 0), .val (.ref x1), .val (.int 0), .val (.int 1), .val (.int 0), .unset]) rfl ?_
  refine Go.iload X0 hx (pc' := 5) rfl (hb hby d6_3) rfl ?_
  refine Go.iload X0 hx (pc' := 7) rfl (hb hby d6_5) rfl ?_
  refine Go.icmpNo X0 hx (pc' := 10) rfl (hb hby d6_7) (by decide) ?_
  refine Go.aloadN X0 hx (pc' := 11) rfl (hb hby d6_10) rfl rfl ?_
  refine Go.iloadN X0 hx (pc' := 12) rfl (hb hby d6_11) rfl ?_
  refine Go.caload X0 hx hZ e0 P0 (v := (.int p0)) ⟨by decide, by decide⟩ rfl (pc' := 13) rfl (hb hby d6_12) ?_
  refine Go.istore X0 hx (pc' := 15) rfl (hb hby d6_13) (Ls' := #[.val (.ref x0), .val (.int 0), .val (.ref x1), .val (.int 0), .val (.int 1), .val (.int 0), .val (.int p0)]) rfl ?_
  refine Go.iload X0 hx (pc' := 17) rfl (hb hby d6_15) rfl ?_
  refine Go.sipush X0 hx (pc' := 20) rfl (hb hby d6_17) (v := (255 : Int32)) (by decide) ?_
  refine Go.icmpYes X0 hx (pc' := 26) (hb hby d6_20) (flt (own_nlt_r (own_rlit (n := 255) (by decide)) R_p0 (by decide))).2.2.2 (by decide) (by decide) ?_
  refine Go.aloadN X0 hx (pc' := 27) rfl (hb hby d6_26) rfl rfl ?_
  refine Go.iloadN X0 hx (pc' := 28) rfl (hb hby d6_27) rfl ?_
  refine Go.iload X0 hx (pc' := 30) rfl (hb hby d6_28) rfl ?_
  refine Go.i2b X0 hx (pc' := 31) rfl (hb hby d6_30) ?_
  generalize hz1 : (p0.toInt8.toInt32) = z1
  have r2 : -128 ≤ z1.toInt ∧ z1.toInt ≤ 127 := own_ri2b hz1
  refine Go.bastore X0 hx hZ e0 P2 z1 (own_nar_byte r2 (by decide) (by decide)) ⟨by decide, by decide⟩ 0 rfl (Nat.le_of_ble_eq_true rfl) (pc' := 32) rfl (hb hby d6_31) ?_
  intro T3 h3 e3 W3 V3 X3
  have N3 := Fr.snoc X3 (Fr.nil n0) g_x1
  refine Go.iinc X3 hx (pc' := 35) rfl (hb hby d6_32) rfl (y := (1 : Int32)) (by decide) (Ls' := #[.val (.ref x0), .val (.int 1), .val (.ref x1), .val (.int 0), .val (.int 1), .val (.int 0), .val (.int p0)]) rfl ?_
  refine Go.iinc X3 hx (pc' := 38) rfl (hb hby d6_35) rfl (y := (1 : Int32)) (by decide) (Ls' := #[.val (.ref x0), .val (.int 1), .val (.ref x1), .val (.int 1), .val (.int 1), .val (.int 0), .val (.int p0)]) rfl ?_
  refine Go.iinc X3 hx (pc' := 41) rfl (hb hby d6_38) rfl (y := (1 : Int32)) (by decide) (Ls' := #[.val (.ref x0), .val (.int 1), .val (.ref x1), .val (.int 1), .val (.int 1), .val (.int 1), .val (.int p0)]) rfl ?_
  refine Go.goto X3 hx (pc' := 3) (hb hby d6_41) (by decide) (by decide) ?_
  refine Go.iload X3 hx (pc' := 5) rfl (hb hby d6_3) rfl ?_
  refine Go.iload X3 hx (pc' := 7) rfl (hb hby d6_5) rfl ?_
  refine Go.icmpYes X3 hx (pc' := 44) (hb hby d6_7) (by decide) (by decide) (by decide) ?_
  refine Go.iload X3 hx (pc' := 46) rfl (hb hby d6_44) rfl ?_
  subst hFF
  refine Go.retI X3 hx hlk hret (hb hby d6_46) (by decide) (by decide) ?_
  rw [e3]
  have V4 : Arv Z h3 x1 kk1 .byte (1 : Int32) [(.int z1)] (.int 0) := V3
  have fk5 : Exa Z h3 x1 "[B" := (P3.wr W3)
  have Kp6 : Keep h0 h3 [x1] := ((Keep.refl h0 [x1]).wr W3 (Or.inl (List.mem_of_getElem? (i := 0) rfl)))
  exact ⟨z1, hz1, rfl, N3, Kp6, V4, fk5⟩
theorem pd_7 : parseMethodDescriptor "([CI[BII)I" = some ⟨[(.array .char), .int, (.array .byte), .int, .int], some .int⟩ := by decide +kernel
theorem d5_9 : decode jdk_52_method_16_code 9 = .ok (.invokestatic 115, 3) := by decide +kernel
theorem d5_12 : decode jdk_52_method_16_code 12 = .ok (.istore 4, 2) := by decide +kernel
theorem d5_14 : decode jdk_52_method_16_code 14 = .ok (.iload 4, 2) := by decide +kernel
theorem d5_16 : decode jdk_52_method_16_code 16 = .ok (.iload_n 2, 1) := by decide +kernel
theorem d5_17 : decode jdk_52_method_16_code 17 = .ok (.if_icmp .eq 40, 3) := by decide +kernel
theorem d5_57 : decode jdk_52_method_16_code 57 = .ok (.aload_n 3, 1) := by decide +kernel
theorem d5_58 : decode jdk_52_method_16_code 58 = .ok (.areturn, 1) := by decide +kernel
theorem ef_5_RII (m : MethodId) (x0 : Addr) (x1 : Int32) (x2 : Int32) : entryFrame m #[(.ref x0), (.int x1), (.int x2)] 6 = mkF m 0 #[.val (.ref x0), .val (.int x1), .val (.int x2), .unset, .unset, .unset] [] := by first | (simp [entryFrame, mkF, argsToLocals, Value.category]; done) | rfl
-- java/lang/StringUTF16.compress
set_option maxRecDepth 65536 in
set_option maxHeartbeats 4000000 in
theorem au_19 (l : Launch) (Z : State) (a0 : Array Value) (hw : ∀ d ∈ tables_1, d.before a0 Z = true) (x0 : Addr) (kk0 : ClassId) (p0 : Int32) (h0 : Heap) (n0 : Nat) (Z0 : n0 ≤ h0.size) (P0 : Arv Z h0 x0 kk0 .char (1 : Int32) [(.int p0)] (.int 0)) (R_p0 : 0 ≤ p0.toInt ∧ p0.toInt ≤ 255) :
    Ctr l Z (⟨"java/lang/StringUTF16", "compress", "([CII)[B"⟩ : MethodName) jdk_52_method_16_code 6 (some (.array .byte)) ({ frames := 1, cells := 1, slots := 1, locals := 18 } : Room) #[(.ref x0), (.int 0), (.int 1)] h0 (fun v h L => ∃ (z7_0 : Int32) (b1 : Addr) (k1 : ClassId), (p0.toInt8.toInt32) = z7_0 ∧ v = some (.ref b1) ∧ Fr n0 L ∧ Keep h0 h [] ∧ h0.size ≤ b1 ∧ Arv Z h b1 k1 .byte (1 : Int32) [(.int z7_0)] (.int 0) ∧ Exa Z h b1 "[B") := by
  refine Ctr.of (plainFor_of_name pn_c5) ?_
  intro p e s m below meth c T0 hx hZ hby hml hown hnm hret hlk e0 es X0
  refine Go.cast (ef_5_RII m x0 (0 : Int32) (1 : Int32)) ?_
  generalize hFF : EndN s _ _ _ = FF
  refine Go.iloadN X0 hx (pc' := 1) rfl (hb hby d5_0) rfl ?_
  refine Go.newarray X0 hx hZ (ty := .byte) rfl (tw_23 hw) e0 (by decide) (cap := 1) (by decide) (by decide) (by decide) (by decide) (ad := "[B") (by decide) 1 (pc' := 3) rfl (hb hby d5_1) ?_
  intro T1 h1 b1 k1 e1 E1 g1 V1 A1 X1
  have V1' : Arv Z h1 b1 k1 .byte (1 : Int32) [(.int 0)] (.int 0) := V1
  refine Go.astoreN X1 hx (pc' := 4) rfl (hb hby d5_3) (Ls' := #[.val (.ref x0), .val (.int 0), .val (.int 1), .val (.ref b1), .unset, .unset]) rfl rfl ?_
  refine Go.aloadN X1 hx (pc' := 5) rfl (hb hby d5_4) rfl rfl ?_
  refine Go.iloadN X1 hx (pc' := 6) rfl (hb hby d5_5) rfl ?_
  refine Go.aloadN X1 hx (pc' := 7) rfl (hb hby d5_6) rfl rfl ?_
  refine Go.iconst X1 hx (pc' := 8) rfl (hb hby d5_7) (v := (0 : Int32)) rfl ?_
  refine Go.iloadN X1 hx (pc' := 9) rfl (hb hby d5_8) rfl ?_
  have Kp3 : Keep h0 h1 [] := ((Keep.refl h0 []).ext E1)
  have Zn2 : n0 ≤ h1.size := Nat.le_trans Z0 Kp3.1
  have fk4 := (P0.ext E1)
  have sz6 : h0.size ≤ b1 := Nat.le_trans (Keep.refl h0 []).1 (Nat.le_of_eq g1.symm)
  have ge5 : n0 ≤ b1 := Nat.le_trans Z0 sz6
  refine Go.callS X1 hx hZ hown (tw_24 hw) (tw_25 hw) (tw_21 hw) (tw_26 hw) (by decide) (tw_26 hw) (tw_21 hw) (au_20 l Z a0 hw x0 b1 kk0 p0 k1 h1 n0 Zn2 fk4 V1' A1 R_p0 ge5) e1 (argsL := [(.ref x0), (.int 0), (.ref b1), (.int 0), (.int 1)]) (rest := []) (pc' := 12) rfl (by rw [hml]; rfl) (lenOf pd_7 rfl) rfl rfl (W := 0) (Nat.le_of_eq rfl) (by decide) (by decide) (by decide) (by decide) (hb hby d5_9) ?_
  intro v7 T7 L7 q7 X7
  obtain ⟨h7, e7⟩ : ∃ z, T7.heap = z := ⟨_, rfl⟩
  rw [e7] at q7
  obtain ⟨z7_0, d7_0, rfl, N7, K7, F7_0, F7_1⟩ := q7
  show Go _ _ _ _ (T7.setTop (mkF m 12 #[.val (.ref x0), .val (.int 0), .val (.int 1), .val (.ref b1), .unset, .unset] [(.int 1)]))
  refine Go.istore X7 hx (pc' := 14) rfl (hb hby d5_12) (Ls' := #[.val (.ref x0), .val (.int 0), .val (.int 1), .val (.ref b1), .val (.int 1), .unset]) rfl ?_
  refine Go.iload X7 hx (pc' := 16) rfl (hb hby d5_14) rfl ?_
  refine Go.iloadN X7 hx (pc' := 17) rfl (hb hby d5_16) rfl ?_
  refine Go.icmpYes X7 hx (pc' := 57) (hb hby d5_17) (by decide) (by decide) (by decide) ?_
  refine Go.aloadN X7 hx (pc' := 58) rfl (hb hby d5_57) rfl rfl ?_
  subst hFF
  refine Go.retR X7 hx hlk (t := (.array .byte)) hret rfl rfl (hb hby d5_58) (by decide) (by decide) ?_
  rw [e7]
  have Kp8 : Keep h0 h7 [] := (Kp3.trans K7 (allS (Or.inr sz6) all0))
  exact ⟨z7_0, b1, k1, d7_0, rfl, (Fr.app (Fr.nil n0) N7), Kp8, sz6, F7_0, F7_1⟩
theorem pd_8 : parseMethodDescriptor "([CII)[B" = some ⟨[(.array .char), .int, .int], some (.array .byte)⟩ := by decide +kernel
theorem d3_36 : decode jdk_42_method_149_code 36 = .ok (.invokestatic 177, 3) := by decide +kernel
theorem d3_39 : decode jdk_42_method_149_code 39 = .ok (.astore 5, 2) := by decide +kernel
theorem d3_41 : decode jdk_42_method_149_code 41 = .ok (.aload_n 0, 1) := by decide +kernel
theorem d3_42 : decode jdk_42_method_149_code 42 = .ok (.aload 5, 2) := by decide +kernel
theorem d3_44 : decode jdk_42_method_149_code 44 = .ok (.iload_n 3, 1) := by decide +kernel
theorem d7_0 : decode jdk_52_method_15_code 0 = .ok (.iload_n 1, 1) := by decide +kernel
theorem d7_1 : decode jdk_52_method_15_code 1 = .ok (.aload_n 0, 1) := by decide +kernel
theorem d7_2 : decode jdk_52_method_15_code 2 = .ok (.arraylength, 1) := by decide +kernel
theorem d7_3 : decode jdk_52_method_15_code 3 = .ok (.isub, 1) := by decide +kernel
theorem d7_4 : decode jdk_52_method_15_code 4 = .ok (.bipush 31, 2) := by decide +kernel
theorem d7_6 : decode jdk_52_method_15_code 6 = .ok (.iushr, 1) := by decide +kernel
theorem d7_7 : decode jdk_52_method_15_code 7 = .ok (.i2b, 1) := by decide +kernel
theorem d7_8 : decode jdk_52_method_15_code 8 = .ok (.ireturn, 1) := by decide +kernel
theorem ef_7_RI (m : MethodId) (x0 : Addr) (x1 : Int32) : entryFrame m #[(.ref x0), (.int x1)] 2 = mkF m 0 #[.val (.ref x0), .val (.int x1)] [] := by first | (simp [entryFrame, mkF, argsToLocals, Value.category]; done) | rfl
-- java/lang/StringUTF16.coderFromArrayLen
set_option maxRecDepth 65536 in
set_option maxHeartbeats 4000000 in
theorem au_21 (l : Launch) (Z : State) (a0 : Array Value) (hw : ∀ d ∈ tables_1, d.before a0 Z = true) (x0 : Addr) (kk0 : ClassId) (p0 : Int32) (h0 : Heap) (n0 : Nat) (Z0 : n0 ≤ h0.size) (P0 : Arv Z h0 x0 kk0 .byte (1 : Int32) [(.int p0)] (.int 0)) :
    Ctr l Z (⟨"java/lang/StringUTF16", "coderFromArrayLen", "([BI)B"⟩ : MethodName) jdk_52_method_15_code 2 (some .byte) ({ frames := 0, cells := 0, slots := 0, locals := 0 } : Room) #[(.ref x0), (.int 1)] h0 (fun v h L => v = some (.int 0) ∧ Fr n0 L ∧ h = h0) := by
  refine Ctr.of (plainFor_of_name pn_c5) ?_
  intro p e s m below meth c T0 hx hZ hby hml hown hnm hret hlk e0 es X0
  refine Go.cast (ef_7_RI m x0 (1 : Int32)) ?_
  generalize hFF : EndN s _ _ _ = FF
  refine Go.iloadN X0 hx (pc' := 1) rfl (hb hby d7_0) rfl ?_
  refine Go.aloadN X0 hx (pc' := 2) rfl (hb hby d7_1) rfl rfl ?_
  refine Go.arraylength X0 hx hZ e0 P0 (pc' := 3) rfl (hb hby d7_2) ?_
  refine Go.isub X0 hx (pc' := 4) rfl (hb hby d7_3) ?_
  rw [show ((1 : Int32) - (1 : Int32)) = (0 : Int32) from by decide]
  refine Go.bipush X0 hx (pc' := 6) rfl (hb hby d7_4) (v := (31 : Int32)) (by decide) ?_
  refine Go.iushr X0 hx (pc' := 7) rfl (hb hby d7_6) ?_
  rw [show (((0 : Int32).toUInt32 >>> ((31 : Int32) &&& 31).toUInt32).toInt32) = (0 : Int32) from by decide]
  refine Go.i2b X0 hx (pc' := 8) rfl (hb hby d7_7) ?_
  rw [show ((0 : Int32).toInt8.toInt32) = (0 : Int32) from by decide]
  subst hFF
  refine Go.retN X0 hx hlk (t := .byte) hret (by simp) (hb hby d7_8) (by decide) (by decide) ?_
  rw [e0]
  exact ⟨(congrArg (fun z => some (Value.int z)) (by decide : nar .byte (0 : Int32) = (0 : Int32))), (Fr.nil n0), rfl⟩
theorem pd_9 : parseMethodDescriptor "([BI)B" = some ⟨[(.array .byte), .int], some .byte⟩ := by decide +kernel
theorem d3_45 : decode jdk_42_method_149_code 45 = .ok (.invokestatic 47, 3) := by decide +kernel
theorem d3_48 : decode jdk_42_method_149_code 48 = .ok (.putfield 15, 3) := by decide +kernel
theorem d3_51 : decode jdk_42_method_149_code 51 = .ok (.aload_n 0, 1) := by decide +kernel
theorem d3_52 : decode jdk_42_method_149_code 52 = .ok (.aload 5, 2) := by decide +kernel
theorem d3_54 : decode jdk_42_method_149_code 54 = .ok (.putfield 9, 3) := by decide +kernel
theorem d3_57 : decode jdk_42_method_149_code 57 = .ok (.return_, 1) := by decide +kernel
-- java/lang/String.init
set_option maxRecDepth 65536 in
set_option maxHeartbeats 4000000 in
theorem au_18 (l : Launch) (Z : State) (a0 : Array Value) (hw : ∀ d ∈ tables_1, d.before a0 Z = true) (x0 : Addr) (x1 : Addr) (kk0 : ClassId) (p0 : Int32) (gz1 : Int32) (gv5 : Value) (h0 : Heap) (n0 : Nat) (Z0 : n0 ≤ h0.size) (O0 : Old Z n0 h0) (G : Glob Z gz1 gv5) (P0 : Exa Z h0 x0 "java/lang/String") (P1 : Fld Z h0 x0 "java/lang/String" "coder" "B" (.int 0)) (P2 : Fld Z h0 x0 "java/lang/String" "value" "[B" .null) (P3 : Arv Z h0 x1 kk0 .char (1 : Int32) [(.int p0)] (.int 0)) (R_p0 : 0 ≤ p0.toInt ∧ p0.toInt ≤ 255) (g_x0 : n0 ≤ x0) :
    Ctr l Z (⟨"java/lang/String", "<init>", "([CIILjava/lang/Void;)V"⟩ : MethodName) jdk_42_method_149_code 6 none ({ frames := 2, cells := 1, slots := 1, locals := 35 } : Room) #[(.ref x0), (.ref x1), (.int 0), (.int 1), .null] h0 (fun v h L => ∃ (z4_0 : Int32) (b4_0 : Addr) (k4_0 : ClassId), (p0.toInt8.toInt32) = z4_0 ∧ v = none ∧ Fr n0 L ∧ Keep h0 h [x0] ∧ h0.size ≤ b4_0 ∧ Exa Z h x0 "java/lang/String" ∧ Fld Z h x0 "java/lang/String" "coder" "B" (.int 0) ∧ Fld Z h x0 "java/lang/String" "value" "[B" (.ref b4_0) ∧ Arv Z h b4_0 k4_0 .byte (1 : Int32) [(.int z4_0)] (.int 0) ∧ Exa Z h b4_0 "[B") := by
  refine Ctr.of (plainFor_of_name pn_c0) ?_
  intro p e s m below meth c T0 hx hZ hby hml hown hnm hret hlk e0 es X0
  have G' := G
  obtain ⟨G0, -, G2, -⟩ := G'
  refine Go.cast (ef_3_RRIIN m x0 x1 (0 : Int32) (1 : Int32)) ?_
  generalize hFF : EndN s _ _ _ = FF
  refine Go.aloadN X0 hx (pc' := 1) rfl (hb hby d3_0) rfl rfl ?_
  refine Go.initO X0 hx hZ hown (tw_15 hw) (tw_16 hw) (tw_17 hw) e0 (by decide) (W := 0) (by rw [hml]; rfl) (Nat.le_of_eq rfl) (by decide) (pc' := 4) rfl (hb hby d3_1) ?_
  intro T1 e1 X1
  refine Go.iloadN X1 hx (pc' := 5) rfl (hb hby d3_4) rfl ?_
  refine Go.ifYes X1 hx (pc' := 27) (hb hby d3_5) (by decide) (by decide) (by decide) ?_
  have fk2 : Sta Z h0 "java/lang/String" "COMPACT_STRINGS" "Z" (.int gz1) := G0.ext O0.2
  refine Go.getS X1 hx hZ hown (host := "") (Or.inl (tw_18 hw)) Via.refl e1 fk2 (pc' := 30) rfl (hb hby d3_27) ?_
  intro T3 e3 X3
  refine Go.ifNo X3 hx (pc' := 33) rfl (hb hby d3_30) (feq G2).1 ?_
  refine Go.aloadN X3 hx (pc' := 34) rfl (hb hby d3_33) rfl rfl ?_
  refine Go.iloadN X3 hx (pc' := 35) rfl (hb hby d3_34) rfl ?_
  refine Go.iloadN X3 hx (pc' := 36) rfl (hb hby d3_35) rfl ?_
  refine Go.callS X3 hx hZ hown (tw_19 hw) (tw_20 hw) (tw_21 hw) (tw_22 hw) (by decide) (tw_22 hw) (tw_21 hw) (au_19 l Z a0 hw x1 kk0 p0 h0 n0 Z0 P3 R_p0) e3 (argsL := [(.ref x1), (.int 0), (.int 1)]) (rest := []) (pc' := 39) rfl (by rw [hml]; rfl) (lenOf pd_8 rfl) rfl rfl (W := 0) (Nat.le_of_eq rfl) (by decide) (by decide) (by decide) (by decide) (hb hby d3_36) ?_
  intro v4 T4 L4 q4 X4
  obtain ⟨h4, e4⟩ : ∃ z, T4.heap = z := ⟨_, rfl⟩
  rw [e4] at q4
  obtain ⟨z4_0, b4_0, k4_0, d4_0, rfl, N4, K4, s4_0, F4_0, F4_1⟩ := q4
  show Go _ _ _ _ (T4.setTop (mkF m 39 #[.val (.ref x0), .val (.ref x1), .val (.int 0), .val (.int 1), .val .null, .unset] [(.ref b4_0)]))
  refine Go.astore X4 hx (pc' := 41) rfl (hb hby d3_39) (Ls' := #[.val (.ref x0), .val (.ref x1), .val (.int 0), .val (.int 1), .val .null, .val (.ref b4_0)]) rfl rfl ?_
  refine Go.aloadN X4 hx (pc' := 42) rfl (hb hby d3_41) rfl rfl ?_
  refine Go.aload X4 hx (pc' := 44) rfl (hb hby d3_42) rfl rfl ?_
  refine Go.iloadN X4 hx (pc' := 45) rfl (hb hby d3_44) rfl ?_
  have r5 : -128 ≤ z4_0.toInt ∧ z4_0.toInt ≤ 127 := own_ri2b d4_0
  have Kp7 : Keep h0 h4 [x0] := ((Keep.refl h0 [x0]).trans K4 all0)
  have Zn6 : n0 ≤ h4.size := Nat.le_trans Z0 Kp7.1
  refine Go.callS X4 hx hZ hown (tw_27 hw) (tw_28 hw) (tw_21 hw) (tw_29 hw) (by decide) (tw_29 hw) (tw_21 hw) (au_21 l Z a0 hw b4_0 k4_0 z4_0 h4 n0 Zn6 F4_0) e4 (argsL := [(.ref b4_0), (.int 1)]) (rest := [(.ref x0)]) (pc' := 48) rfl (by rw [hml]; rfl) (lenOf pd_9 rfl) rfl rfl (W := 1) (Nat.le_of_eq rfl) (by decide) (by decide) (by decide) (by decide) (hb hby d3_45) ?_
  intro v8 T8 L8 q8 X8
  obtain ⟨rfl, N8, e8⟩ := q8
  show Go _ _ _ _ (T8.setTop (mkF m 48 #[.val (.ref x0), .val (.ref x1), .val (.int 0), .val (.int 1), .val .null, .val (.ref b4_0)] [(.int 0), (.ref x0)]))
  have fk9 : Fld Z h4 x0 "java/lang/String" "coder" "B" (.int 0) := (P1.keep K4 nin0)
  have fk10 : Exa Z h4 x0 "java/lang/String" := (P0.keep K4)
  refine Go.putFN X8 hx hZ hown (tw_30 hw) Via.refl e8 fk9 fk10 (Or.inr ⟨(tw_31 hw), rfl, hnm⟩) (tw_5 hw) (ty := .byte) (v' := (.int 0)) (by decide) (by decide) (by decide) (pc' := 51) rfl (hb hby d3_48) ?_
  intro T11 h11 e11 W11 F11 X11
  have N11 := Fr.snoc X11 (Fr.app (Fr.app (Fr.nil n0) N4) N8) g_x0
  refine Go.aloadN X11 hx (pc' := 52) rfl (hb hby d3_51) rfl rfl ?_
  refine Go.aload X11 hx (pc' := 54) rfl (hb hby d3_52) rfl rfl ?_
  have fk12 : Fld Z h11 x0 "java/lang/String" "value" "[B" .null := ((P2.keep K4 nin0).other W11 (Or.inr (slot_ne (Or.inr (tw_33 hw)) (Or.inr (tw_31 hw)) (by decide) (t := (.array .byte)) (t' := .byte) (by decide) (by decide))))
  have fk13 : Exa Z h11 x0 "java/lang/String" := (fk10.wr W11)
  refine Go.putF X11 hx hZ hown (host := "") (Or.inl (tw_32 hw)) Via.refl e11 fk12 fk13 (Or.inr ⟨(tw_33 hw), rfl, hnm⟩) (tw_5 hw) (ty := (.array .byte)) (by decide) rfl rfl (pc' := 57) rfl (hb hby d3_54) ?_
  intro T14 h14 e14 W14 F14 X14
  have N14 := Fr.snoc X14 N11 g_x0
  subst hFF
  refine Go.ret0 X14 hx hlk hret (hb hby d3_57) (by decide) (by decide) ?_
  rw [e14]
  have fk15 : Exa Z h14 x0 "java/lang/String" := (fk13.wr W14)
  have fk16 : Fld Z h14 x0 "java/lang/String" "coder" "B" (.int 0) := (F11.other W14 (Or.inr (slot_ne (Or.inr (tw_31 hw)) (Or.inr (tw_33 hw)) (by decide) (t := .byte) (t' := (.array .byte)) (by decide) (by decide))))
  have ne17 : x0 ≠ b4_0 := Nat.ne_of_lt (Nat.lt_of_lt_of_le P0.lt s4_0)
  have fk18 := ((F4_0.other W11 (Ne.symm ne17)).other W14 (Ne.symm ne17))
  have fk19 : Exa Z h14 b4_0 "[B" := ((F4_1.wr W11).wr W14)
  have Kp20 : Keep h0 h11 [x0] := (Kp7.wr W11 (Or.inl (List.mem_of_getElem? (i := 0) rfl)))
  have Kp21 : Keep h0 h14 [x0] := (Kp20.wr W14 (Or.inl (List.mem_of_getElem? (i := 0) rfl)))
  have sz22 : h0.size ≤ b4_0 := Nat.le_trans (Keep.refl h0 [x0]).1 s4_0
  exact ⟨z4_0, b4_0, k4_0, d4_0, rfl, N14, Kp21, sz22, fk15, fk16, F14, fk18, fk19⟩
-- java/lang/String.init
set_option maxRecDepth 65536 in
set_option maxHeartbeats 4000000 in
theorem au_17 (l : Launch) (Z : State) (a0 : Array Value) (hw : ∀ d ∈ tables_1, d.before a0 Z = true) (x0 : Addr) (x1 : Addr) (kk0 : ClassId) (p0 : Int32) (gz1 : Int32) (gv5 : Value) (h0 : Heap) (n0 : Nat) (Z0 : n0 ≤ h0.size) (O0 : Old Z n0 h0) (G : Glob Z gz1 gv5) (P0 : Exa Z h0 x0 "java/lang/String") (P1 : Fld Z h0 x0 "java/lang/String" "coder" "B" (.int 0)) (P2 : Fld Z h0 x0 "java/lang/String" "value" "[B" .null) (P3 : Arv Z h0 x1 kk0 .char (1 : Int32) [(.int p0)] (.int 0)) (R_p0 : 0 ≤ p0.toInt ∧ p0.toInt ≤ 255) (g_x0 : n0 ≤ x0) :
    Ctr l Z (⟨"java/lang/String", "<init>", "([C)V"⟩ : MethodName) jdk_42_method_3_code 2 none ({ frames := 3, cells := 1, slots := 1, locals := 52 } : Room) #[(.ref x0), (.ref x1)] h0 (fun v h L => ∃ (z1_0 : Int32) (b1_0 : Addr) (k1_0 : ClassId), (p0.toInt8.toInt32) = z1_0 ∧ v = none ∧ Fr n0 L ∧ Keep h0 h [x0] ∧ h0.size ≤ b1_0 ∧ Exa Z h x0 "java/lang/String" ∧ Fld Z h x0 "java/lang/String" "coder" "B" (.int 0) ∧ Fld Z h x0 "java/lang/String" "value" "[B" (.ref b1_0) ∧ Arv Z h b1_0 k1_0 .byte (1 : Int32) [(.int z1_0)] (.int 0) ∧ Exa Z h b1_0 "[B") := by
  refine Ctr.of (plainFor_of_name pn_c0) ?_
  intro p e s m below meth c T0 hx hZ hby hml hown hnm hret hlk e0 es X0
  refine Go.cast (ef_2_RR m x0 x1) ?_
  generalize hFF : EndN s _ _ _ = FF
  refine Go.aloadN X0 hx (pc' := 1) rfl (hb hby d2_0) rfl rfl ?_
  refine Go.aloadN X0 hx (pc' := 2) rfl (hb hby d2_1) rfl rfl ?_
  refine Go.iconst X0 hx (pc' := 3) rfl (hb hby d2_2) (v := (0 : Int32)) rfl ?_
  refine Go.aloadN X0 hx (pc' := 4) rfl (hb hby d2_3) rfl rfl ?_
  refine Go.arraylength X0 hx hZ e0 P3 (pc' := 5) rfl (hb hby d2_4) ?_
  refine Go.anull X0 hx (pc' := 6) rfl (hb hby d2_5) ?_
  refine Go.callN X0 hx hZ hown rfl (tw_11 hw) (tw_12 hw) (tw_14 hw) (by decide) (tw_14 hw) (tw_6 hw) (au_18 l Z a0 hw x0 x1 kk0 p0 gz1 gv5 h0 n0 Z0 O0 G P0 P1 P2 P3 R_p0 g_x0) e0 (a := x0) (argsL := [(.ref x1), (.int 0), (.int 1), .null]) (rest := []) (pc' := 9) rfl (by rw [hml]; rfl) (lenOf pd_0 rfl) rfl rfl (W := 0) (Nat.le_of_eq rfl) (by decide) (by decide) (by decide) (by decide) (hb hby d2_6) ?_
  intro v1 T1 L1 q1 X1
  obtain ⟨h1, e1⟩ : ∃ z, T1.heap = z := ⟨_, rfl⟩
  rw [e1] at q1
  obtain ⟨z1_0, b1_0, k1_0, d1_0, rfl, N1, K1, s1_0, F1_0, F1_1, F1_2, F1_3, F1_4⟩ := q1
  show Go _ _ _ _ (T1.setTop (mkF m 9 #[.val (.ref x0), .val (.ref x1)] []))
  subst hFF
  refine Go.ret0 X1 hx hlk hret (hb hby d2_9) (by decide) (by decide) ?_
  rw [e1]
  have Kp2 : Keep h0 h1 [x0] := ((Keep.refl h0 [x0]).trans K1 (allS (Or.inl (List.mem_of_getElem? (i := 0) rfl)) all0))
  have sz3 : h0.size ≤ b1_0 := Nat.le_trans (Keep.refl h0 [x0]).1 s1_0
  exact ⟨z1_0, b1_0, k1_0, d1_0, rfl, (Fr.app (Fr.nil n0) N1), Kp2, sz3, F1_0, F1_1, F1_2, F1_3, F1_4⟩
theorem d1_31 : decode method_2_code 31 = .ok (.invokespecial 9, 3) := by decide +kernel
theorem d1_34 : decode method_2_code 34 = .ok (.areturn, 1) := by decide +kernel
-- com/example/tough_filter/toughfilter/KeywordEqualsPinLaw.word
set_option maxRecDepth 65536 in
set_option maxHeartbeats 4000000 in
theorem au_16 (l : Launch) (Z : State) (a0 : Array Value) (hw : ∀ d ∈ tables_1, d.before a0 Z = true) (p0 : Int32) (p1 : Int32) (gz1 : Int32) (gv5 : Value) (h0 : Heap) (n0 : Nat) (Z0 : n0 ≤ h0.size) (O0 : Old Z n0 h0) (G : Glob Z gz1 gv5) (R_p0 : 0 ≤ p0.toInt ∧ p0.toInt ≤ 255) :
    Ctr l Z (⟨"com/example/tough_filter/toughfilter/KeywordEqualsPinLaw", "word", "(ICC)Ljava/lang/String;"⟩ : MethodName) method_2_code 3 (some (.object "java/lang/String")) ({ frames := 4, cells := 3, slots := 6, locals := 66 } : Room) #[(.int 1), (.int p0), (.int p1)] h0 (fun v h L => ∃ (z20_0 : Int32) (b1 : Addr) (b20_0 : Addr) (k20_0 : ClassId), (p0.toInt8.toInt32) = z20_0 ∧ v = some (.ref b1) ∧ Fr n0 L ∧ Keep h0 h [] ∧ h0.size ≤ b1 ∧ h0.size ≤ b20_0 ∧ b20_0 ≠ b1 ∧ Exa Z h b1 "java/lang/String" ∧ Fld Z h b1 "java/lang/String" "coder" "B" (.int 0) ∧ Fld Z h b1 "java/lang/String" "value" "[B" (.ref b20_0) ∧ Arv Z h b20_0 k20_0 .byte (1 : Int32) [(.int z20_0)] (.int 0) ∧ Exa Z h b20_0 "[B") := by
  refine Ctr.of (plainFor_of_name pn_c1) ?_
  intro p e s m below meth c T0 hx hZ hby hml hown hnm hret hlk e0 es X0
  refine Go.cast (ef_1_III m (1 : Int32) p0 p1) ?_
  generalize hFF : EndN s _ _ _ = FF
  refine Go.iloadN X0 hx (pc' := 1) rfl (hb hby d1_0) rfl ?_
  refine Go.ifYes X0 hx (pc' := 15) (hb hby d1_1) (by decide) (by decide) (by decide) ?_
  refine Go.iloadN X0 hx (pc' := 16) rfl (hb hby d1_15) rfl ?_
  refine Go.iconst X0 hx (pc' := 17) rfl (hb hby d1_16) (v := (1 : Int32)) rfl ?_
  refine Go.icmpNo X0 hx (pc' := 20) rfl (hb hby d1_17) (by decide) ?_
  refine Go.new X0 hx hZ hown (tw_4 hw) (tw_5 hw) (tw_6 hw) e0 (by decide) (by decide) (pc' := 23) rfl (hb hby d1_20) ?_
  intro T1 h1 b1 e1 E1 g1 A1 D1 X1
  have b1_coder : Fld Z h1 b1 "java/lang/String" "coder" "B" (.int 0) := D1 (Or.inr (tw_31 hw)) (ty := .byte) (by decide)
  have b1_value : Fld Z h1 b1 "java/lang/String" "value" "[B" .null := D1 (Or.inr (tw_33 hw)) (ty := (.array .byte)) (by decide)
  refine Go.dup X1 hx (pc' := 24) rfl (hb hby d1_23) rfl ?_
  refine Go.iconst X1 hx (pc' := 25) rfl (hb hby d1_24) (v := (1 : Int32)) rfl ?_
  refine Go.newarray X1 hx hZ (ty := .char) rfl (tw_7 hw) e1 (by decide) (cap := 1) (by decide) (by decide) (by decide) (by decide) (ad := "[C") (by decide) 1 (pc' := 27) rfl (hb hby d1_25) ?_
  intro T2 h2 b2 k2 e2 E2 g2 V2 A2 X2
  have V2' : Arv Z h2 b2 k2 .char (1 : Int32) [(.int 0)] (.int 0) := V2
  refine Go.dup X2 hx (pc' := 28) rfl (hb hby d1_27) rfl ?_
  refine Go.iconst X2 hx (pc' := 29) rfl (hb hby d1_28) (v := (0 : Int32)) rfl ?_
  refine Go.iloadN X2 hx (pc' := 30) rfl (hb hby d1_29) rfl ?_
  have Kp5 : Keep h0 h1 [] := ((Keep.refl h0 []).ext E1)
  have sz4 : h0.size ≤ b2 := Nat.le_trans Kp5.1 (Nat.le_of_eq g2.symm)
  have ge3 : n0 ≤ b2 := Nat.le_trans Z0 sz4
  refine Go.castore X2 hx hZ e2 V2' p0 (own_nar_char R_p0 (by decide) (by decide)) ⟨by decide, by decide⟩ 0 rfl (Nat.le_of_ble_eq_true rfl) (pc' := 31) rfl (hb hby d1_30) ?_
  intro T6 h6 e6 W6 V6 X6
  have N6 := Fr.snoc X6 (Fr.nil n0) ge3
  have Kp8 : Keep h0 h2 [] := (Kp5.ext E2)
  have Kp9 : Keep h0 h6 [] := (Kp8.wr W6 (Or.inr sz4))
  have Zn7 : n0 ≤ h6.size := Nat.le_trans Z0 Kp9.1
  have O10 := (O0.ext E1)
  have O11 := (O10.ext E2)
  have O12 := (O11.wr W6 ge3)
  have fk13 : Exa Z h6 b1 "java/lang/String" := ((A1.ext E2).wr W6)
  have ne14 : b1 ≠ b2 := Nat.ne_of_lt (Nat.lt_of_lt_of_le A1.lt (Nat.le_of_eq g2.symm))
  have fk15 : Fld Z h6 b1 "java/lang/String" "coder" "B" (.int 0) := ((b1_coder.ext E2).other W6 (Or.inl ne14))
  have fk16 : Fld Z h6 b1 "java/lang/String" "value" "[B" .null := ((b1_value.ext E2).other W6 (Or.inl ne14))
  have V17 : Arv Z h6 b2 k2 .char (1 : Int32) [(.int p0)] (.int 0) := V6
  have sz19 : h0.size ≤ b1 := Nat.le_trans (Keep.refl h0 []).1 (Nat.le_of_eq g1.symm)
  have ge18 : n0 ≤ b1 := Nat.le_trans Z0 sz19
  refine Go.callN X6 hx hZ hown rfl (tw_8 hw) (tw_9 hw) (tw_10 hw) (by decide) (tw_10 hw) (tw_6 hw) (au_17 l Z a0 hw b1 b2 k2 p0 gz1 gv5 h6 n0 Zn7 O12 G fk13 fk15 fk16 V17 R_p0 ge18) e6 (a := b1) (argsL := [(.ref b2)]) (rest := [(.ref b1)]) (pc' := 34) rfl (by rw [hml]; rfl) (lenOf pd_1 rfl) rfl rfl (W := 1) (Nat.le_of_eq rfl) (by decide) (by decide) (by decide) (by decide) (hb hby d1_31) ?_
  intro v20 T20 L20 q20 X20
  obtain ⟨h20, e20⟩ : ∃ z, T20.heap = z := ⟨_, rfl⟩
  rw [e20] at q20
  obtain ⟨z20_0, b20_0, k20_0, d20_0, rfl, N20, K20, s20_0, F20_0, F20_1, F20_2, F20_3, F20_4⟩ := q20
  show Go _ _ _ _ (T20.setTop (mkF m 34 #[.val (.int 1), .val (.int p0), .val (.int p1)] [(.ref b1)]))
  subst hFF
  refine Go.retR X20 hx hlk (t := (.object "java/lang/String")) hret rfl rfl (hb hby d1_34) (by decide) (by decide) ?_
  rw [e20]
  have Kp21 : Keep h0 h20 [] := (Kp9.trans K20 (allS (Or.inr sz19) all0))
  have sz22 : h0.size ≤ b20_0 := Nat.le_trans Kp9.1 s20_0
  have ne23 : b1 ≠ b20_0 := Nat.ne_of_lt (Nat.lt_of_lt_of_le fk13.lt s20_0)
  exact ⟨z20_0, b1, b20_0, k20_0, d20_0, rfl, (Fr.app N6 N20), Kp21, sz19, sz22, (Ne.symm ne23), F20_0, F20_1, F20_2, F20_3, F20_4⟩
-- com/example/tough_filter/toughfilter/Expression$Keyword.init
set_option maxRecDepth 65536 in
set_option maxHeartbeats 4000000 in
theorem au_22 (l : Launch) (Z : State) (a0 : Array Value) (hw : ∀ d ∈ tables_1, d.before a0 Z = true) (x0 : Addr) (x1 : Addr) (p0 : Int32) (h0 : Heap) (n0 : Nat) (Z0 : n0 ≤ h0.size) (P0 : Exa Z h0 x0 "com/example/tough_filter/toughfilter/Expression$Keyword") (P1 : Fld Z h0 x0 "com/example/tough_filter/toughfilter/Expression$Keyword" "pinyin" "Z" (.int 0)) (P2 : Fld Z h0 x0 "com/example/tough_filter/toughfilter/Expression$Keyword" "word" "Ljava/lang/String;" .null) (R_p0 : 0 ≤ p0.toInt ∧ p0.toInt ≤ 1) (g_x0 : n0 ≤ x0) :
    Ctr l Z (⟨"com/example/tough_filter/toughfilter/Expression$Keyword", "<init>", "(Ljava/lang/String;Z)V"⟩ : MethodName) prog_7_method_1_code 3 none ({ frames := 2, cells := 0, slots := 0, locals := 24 } : Room) #[(.ref x0), (.ref x1), (.int p0)] h0 (fun v h L => v = none ∧ Fr n0 L ∧ Keep h0 h [x0] ∧ Exa Z h x0 "com/example/tough_filter/toughfilter/Expression$Keyword" ∧ Fld Z h x0 "com/example/tough_filter/toughfilter/Expression$Keyword" "pinyin" "Z" (.int p0) ∧ Fld Z h x0 "com/example/tough_filter/toughfilter/Expression$Keyword" "word" "Ljava/lang/String;" (.ref x1)) := by
  refine Ctr.of (plainFor_of_name pn_c3) ?_
  intro p e s m below meth c T0 hx hZ hby hml hown hnm hret hlk e0 es X0
  refine Go.cast (ef_8_RRI m x0 x1 p0) ?_
  generalize hFF : EndN s _ _ _ = FF
  refine Go.aloadN X0 hx (pc' := 1) rfl (hb hby d8_0) rfl rfl ?_
  refine Go.callN X0 hx hZ hown rfl (tw_40 hw) (tw_41 hw) (tw_44 hw) (by decide) (tw_44 hw) (tw_43 hw) (au_8 l Z a0 hw x0 h0 n0 Z0) e0 (a := x0) (argsL := []) (rest := []) (pc' := 4) rfl (by rw [hml]; rfl) (lenOf pd_3 rfl) rfl rfl (W := 0) (Nat.le_of_eq rfl) (by decide) (by decide) (by decide) (by decide) (hb hby d8_1) ?_
  intro v1 T1 L1 q1 X1
  obtain ⟨rfl, N1, e1⟩ := q1
  show Go _ _ _ _ (T1.setTop (mkF m 4 #[.val (.ref x0), .val (.ref x1), .val (.int p0)] []))
  refine Go.aloadN X1 hx (pc' := 5) rfl (hb hby d8_4) rfl rfl ?_
  refine Go.aloadN X1 hx (pc' := 6) rfl (hb hby d8_5) rfl rfl ?_
  refine Go.putF X1 hx hZ hown (host := "") (Or.inl (tw_46 hw)) Via.refl e1 P2 P0 (Or.inr ⟨(tw_47 hw), rfl, hnm⟩) (tw_35 hw) (ty := (.object "java/lang/String")) (by decide) rfl rfl (pc' := 9) rfl (hb hby d8_6) ?_
  intro T2 h2 e2 W2 F2 X2
  have N2 := Fr.snoc X2 (Fr.app (Fr.nil n0) N1) g_x0
  refine Go.aloadN X2 hx (pc' := 10) rfl (hb hby d8_9) rfl rfl ?_
  refine Go.iloadN X2 hx (pc' := 11) rfl (hb hby d8_10) rfl ?_
  have fk3 : Fld Z h2 x0 "com/example/tough_filter/toughfilter/Expression$Keyword" "pinyin" "Z" (.int 0) := (P1.other W2 (Or.inr (slot_ne (Or.inr (tw_49 hw)) (Or.inr (tw_47 hw)) (by decide) (t := .boolean) (t' := (.object "java/lang/String")) (by decide) (by decide))))
  have fk4 : Exa Z h2 x0 "com/example/tough_filter/toughfilter/Expression$Keyword" := (P0.wr W2)
  refine Go.putFN X2 hx hZ hown (tw_48 hw) Via.refl e2 fk3 fk4 (Or.inr ⟨(tw_49 hw), rfl, hnm⟩) (tw_35 hw) (ty := .boolean) (v' := (.int p0)) (by decide) (own_narv_boolean (own_nar_boolean R_p0 (by decide) (by decide))) (own_fits_boolean (own_nar_boolean R_p0 (by decide) (by decide))) (pc' := 14) rfl (hb hby d8_11) ?_
  intro T5 h5 e5 W5 F5 X5
  have N5 := Fr.snoc X5 N2 g_x0
  subst hFF
  refine Go.ret0 X5 hx hlk hret (hb hby d8_14) (by decide) (by decide) ?_
  rw [e5]
  have fk6 : Exa Z h5 x0 "com/example/tough_filter/toughfilter/Expression$Keyword" := (fk4.wr W5)
  have fk7 : Fld Z h5 x0 "com/example/tough_filter/toughfilter/Expression$Keyword" "word" "Ljava/lang/String;" (.ref x1) := (F2.other W5 (Or.inr (slot_ne (Or.inr (tw_47 hw)) (Or.inr (tw_49 hw)) (by decide) (t := (.object "java/lang/String")) (t' := .boolean) (by decide) (by decide))))
  have Kp8 : Keep h0 h2 [x0] := ((Keep.refl h0 [x0]).wr W2 (Or.inl (List.mem_of_getElem? (i := 0) rfl)))
  have Kp9 : Keep h0 h5 [x0] := (Kp8.wr W5 (Or.inl (List.mem_of_getElem? (i := 0) rfl)))
  exact ⟨rfl, N5, Kp9, fk6, F5, fk7⟩
theorem d12_34 : decode jdk_43_method_13_code 34 = .ok (.iconst 0, 1) := by decide +kernel
theorem d12_35 : decode jdk_43_method_13_code 35 = .ok (.ireturn, 1) := by decide +kernel
-- java/lang/StringLatin1.equals
set_option maxRecDepth 65536 in
set_option maxHeartbeats 4000000 in
theorem au_25 (l : Launch) (Z : State) (a0 : Array Value) (hw : ∀ d ∈ tables_1, d.before a0 Z = true) (x0 : Addr) (x1 : Addr) (kk0 : ClassId) (kk1 : ClassId) (p0 : Int32) (h0 : Heap) (n0 : Nat) (Z0 : n0 ≤ h0.size) (P0 : Arv Z h0 x0 kk0 .byte (0 : Int32) [] (.int (0 : Int32))) (P1 : Arv Z h0 x1 kk1 .byte (1 : Int32) [(.int p0)] (.int 0)) :
    Ctr l Z (⟨"java/lang/StringLatin1", "equals", "([B[B)Z"⟩ : MethodName) jdk_43_method_13_code 3 (some .boolean) ({ frames := 0, cells := 0, slots := 0, locals := 0 } : Room) #[(.ref x0), (.ref x1)] h0 (fun v h L => v = some (.int 0) ∧ Fr n0 L ∧ h = h0) := by
  refine Ctr.of (plainFor_of_name pn_c4) ?_
  intro p e s m below meth c T0 hx hZ hby hml hown hnm hret hlk e0 es X0
  refine Go.cast (ef_12_RR m x0 x1) ?_
  generalize hFF : EndN s _ _ _ = FF
  refine Go.aloadN X0 hx (pc' := 1) rfl (hb hby d12_0) rfl rfl ?_
  refine Go.arraylength X0 hx hZ e0 P0 (pc' := 2) rfl (hb hby d12_1) ?_
  refine Go.aloadN X0 hx (pc' := 3) rfl (hb hby d12_2) rfl rfl ?_
  refine Go.arraylength X0 hx hZ e0 P1 (pc' := 4) rfl (hb hby d12_3) ?_
  refine Go.icmpYes X0 hx (pc' := 34) (hb hby d12_4) (by decide) (by decide) (by decide) ?_
  refine Go.iconst X0 hx (pc' := 35) rfl (hb hby d12_34) (v := (0 : Int32)) rfl ?_
  subst hFF
  refine Go.retN X0 hx hlk (t := .boolean) hret (by simp) (hb hby d12_35) (by decide) (by decide) ?_
  rw [e0]
  exact ⟨(congrArg (fun z => some (Value.int z)) (by decide : nar .boolean (0 : Int32) = (0 : Int32))), (Fr.nil n0), rfl⟩
theorem d11_54 : decode jdk_42_method_66_code 54 = .ok (.iconst 0, 1) := by decide +kernel
-- java/lang/String.equals
set_option maxRecDepth 65536 in
set_option maxHeartbeats 4000000 in
theorem au_24 (l : Launch) (Z : State) (a0 : Array Value) (hw : ∀ d ∈ tables_1, d.before a0 Z = true) (x0 : Addr) (x1 : Addr) (x2 : Addr) (x3 : Addr) (kk0 : ClassId) (kk1 : ClassId) (p0 : Int32) (gz1 : Int32) (gv5 : Value) (h0 : Heap) (n0 : Nat) (Z0 : n0 ≤ h0.size) (O0 : Old Z n0 h0) (G : Glob Z gz1 gv5) (P1 : Fld Z h0 x0 "java/lang/String" "coder" "B" (.int 0)) (P2 : Fld Z h0 x0 "java/lang/String" "value" "[B" (.ref x2)) (P3 : Exa Z h0 x1 "java/lang/String") (P4 : Fld Z h0 x1 "java/lang/String" "coder" "B" (.int 0)) (P5 : Fld Z h0 x1 "java/lang/String" "value" "[B" (.ref x3)) (P6 : Arv Z h0 x2 kk0 .byte (0 : Int32) [] (.int (0 : Int32))) (P7 : Arv Z h0 x3 kk1 .byte (1 : Int32) [(.int p0)] (.int 0)) (ne_x0_x1 : x0 ≠ x1) :
    Ctr l Z (⟨"java/lang/String", "equals", "(Ljava/lang/Object;)Z"⟩ : MethodName) jdk_42_method_66_code 3 (some .boolean) ({ frames := 1, cells := 0, slots := 0, locals := 14 } : Room) #[(.ref x0), (.ref x1)] h0 (fun v h L => v = some (.int 0) ∧ Fr n0 L ∧ h = h0) := by
  refine Ctr.of (plainFor_of_name pn_c0) ?_
  intro p e s m below meth c T0 hx hZ hby hml hown hnm hret hlk e0 es X0
  have G' := G
  obtain ⟨G0, -, G2, -⟩ := G'
  refine Go.cast (ef_11_RR m x0 x1) ?_
  generalize hFF : EndN s _ _ _ = FF
  refine Go.aloadN X0 hx (pc' := 1) rfl (hb hby d11_0) rfl rfl ?_
  refine Go.aloadN X0 hx (pc' := 2) rfl (hb hby d11_1) rfl rfl ?_
  refine Go.acmp X0 hx (pc' := 7) (same := false) (hb hby d11_2) rfl rfl (decide_eq_false (fun q => ne_x0_x1 (Value.ref.inj q))) (by decide) (by decide) ?_
  refine Go.aloadN X0 hx (pc' := 8) rfl (hb hby d11_7) rfl rfl ?_
  refine Go.instY X0 hx hZ hown (tw_65 hw) e0 (Ins.self P3) (pc' := 11) rfl (hb hby d11_8) ?_
  intro T1 e1 X1
  refine Go.ifNo X1 hx (pc' := 14) rfl (hb hby d11_11) (by decide) ?_
  refine Go.aloadN X1 hx (pc' := 15) rfl (hb hby d11_14) rfl rfl ?_
  refine Go.castY X1 hx hZ hown (tw_65 hw) e1 (Ins.self P3) (pc' := 18) rfl (hb hby d11_15) ?_
  intro T2 e2 X2
  refine Go.astoreN X2 hx (pc' := 19) rfl (hb hby d11_18) (Ls' := #[.val (.ref x0), .val (.ref x1), .val (.ref x1)]) rfl rfl ?_
  have fk3 : Sta Z h0 "java/lang/String" "COMPACT_STRINGS" "Z" (.int gz1) := G0.ext O0.2
  refine Go.getS X2 hx hZ hown (host := "") (Or.inl (tw_18 hw)) Via.refl e2 fk3 (pc' := 22) rfl (hb hby d11_19) ?_
  intro T4 e4 X4
  refine Go.ifNo X4 hx (pc' := 25) rfl (hb hby d11_22) (feq G2).1 ?_
  refine Go.aloadN X4 hx (pc' := 26) rfl (hb hby d11_25) rfl rfl ?_
  refine Go.getF X4 hx hZ hown (host := "") (Or.inl (tw_30 hw)) Via.refl e4 P1 (pc' := 29) rfl (hb hby d11_26) ?_
  intro T5 e5 X5
  refine Go.aloadN X5 hx (pc' := 30) rfl (hb hby d11_29) rfl rfl ?_
  refine Go.getF X5 hx hZ hown (host := "") (Or.inl (tw_30 hw)) Via.refl e5 P4 (pc' := 33) rfl (hb hby d11_30) ?_
  intro T6 e6 X6
  refine Go.icmpNo X6 hx (pc' := 36) rfl (hb hby d11_33) (by decide) ?_
  refine Go.aloadN X6 hx (pc' := 37) rfl (hb hby d11_36) rfl rfl ?_
  refine Go.getF X6 hx hZ hown (host := "") (Or.inl (tw_32 hw)) Via.refl e6 P2 (pc' := 40) rfl (hb hby d11_37) ?_
  intro T7 e7 X7
  refine Go.aloadN X7 hx (pc' := 41) rfl (hb hby d11_40) rfl rfl ?_
  refine Go.getF X7 hx hZ hown (host := "") (Or.inl (tw_32 hw)) Via.refl e7 P5 (pc' := 44) rfl (hb hby d11_41) ?_
  intro T8 e8 X8
  refine Go.callS X8 hx hZ hown (tw_66 hw) (tw_67 hw) (tw_68 hw) (tw_69 hw) (by decide) (tw_69 hw) (tw_68 hw) (au_25 l Z a0 hw x2 x3 kk0 kk1 p0 h0 n0 Z0 P6 P7) e8 (argsL := [(.ref x2), (.ref x3)]) (rest := []) (pc' := 47) rfl (by rw [hml]; rfl) (lenOf pd_6 rfl) rfl rfl (W := 0) (Nat.le_of_eq rfl) (by decide) (by decide) (by decide) (by decide) (hb hby d11_44) ?_
  intro v9 T9 L9 q9 X9
  obtain ⟨rfl, N9, e9⟩ := q9
  show Go _ _ _ _ (T9.setTop (mkF m 47 #[.val (.ref x0), .val (.ref x1), .val (.ref x1)] [(.int 0)]))
  refine Go.ifYes X9 hx (pc' := 54) (hb hby d11_47) (by decide) (by decide) (by decide) ?_
  refine Go.iconst X9 hx (pc' := 55) rfl (hb hby d11_54) (v := (0 : Int32)) rfl ?_
  subst hFF
  refine Go.retN X9 hx hlk (t := .boolean) hret (by simp) (hb hby d11_55) (by decide) (by decide) ?_
  rw [e9]
  exact ⟨(congrArg (fun z => some (Value.int z)) (by decide : nar .boolean (0 : Int32) = (0 : Int32))), (Fr.app (Fr.nil n0) N9), rfl⟩
-- com/example/tough_filter/toughfilter/Expression$Keyword.equals
set_option maxRecDepth 65536 in
set_option maxHeartbeats 4000000 in
theorem au_23 (l : Launch) (Z : State) (a0 : Array Value) (hw : ∀ d ∈ tables_1, d.before a0 Z = true) (x0 : Addr) (x1 : Addr) (p0 : Int32) (x2 : Addr) (p1 : Int32) (x3 : Addr) (x4 : Addr) (x5 : Addr) (kk0 : ClassId) (kk1 : ClassId) (p2 : Int32) (gz1 : Int32) (gv5 : Value) (h0 : Heap) (n0 : Nat) (Z0 : n0 ≤ h0.size) (O0 : Old Z n0 h0) (G : Glob Z gz1 gv5) (P1 : Fld Z h0 x0 "com/example/tough_filter/toughfilter/Expression$Keyword" "pinyin" "Z" (.int p0)) (P2 : Fld Z h0 x0 "com/example/tough_filter/toughfilter/Expression$Keyword" "word" "Ljava/lang/String;" (.ref x2)) (P3 : Exa Z h0 x1 "com/example/tough_filter/toughfilter/Expression$Keyword") (P4 : Fld Z h0 x1 "com/example/tough_filter/toughfilter/Expression$Keyword" "pinyin" "Z" (.int p1)) (P5 : Fld Z h0 x1 "com/example/tough_filter/toughfilter/Expression$Keyword" "word" "Ljava/lang/String;" (.ref x3)) (P6 : Exa Z h0 x2 "java/lang/String") (P7 : Fld Z h0 x2 "java/lang/String" "coder" "B" (.int 0)) (P8 : Fld Z h0 x2 "java/lang/String" "value" "[B" (.ref x4)) (P9 : Exa Z h0 x3 "java/lang/String") (P10 : Fld Z h0 x3 "java/lang/String" "coder" "B" (.int 0)) (P11 : Fld Z h0 x3 "java/lang/String" "value" "[B" (.ref x5)) (P12 : Arv Z h0 x4 kk0 .byte (0 : Int32) [] (.int (0 : Int32))) (P13 : Arv Z h0 x5 kk1 .byte (1 : Int32) [(.int p2)] (.int 0)) (ne_x2_x3 : x2 ≠ x3) :
    Ctr l Z (⟨"com/example/tough_filter/toughfilter/Expression$Keyword", "equals", "(Ljava/lang/Object;)Z"⟩ : MethodName) prog_7_method_2_code 3 (some .boolean) ({ frames := 2, cells := 0, slots := 0, locals := 28 } : Room) #[(.ref x0), (.ref x1)] h0 (fun v h L => v = some (.int 0) ∧ Fr n0 L ∧ h = h0) := by
  refine Ctr.of (plainFor_of_name pn_c3) ?_
  intro p e s m below meth c T0 hx hZ hby hml hown hnm hret hlk e0 es X0
  refine Go.cast (ef_10_RR m x0 x1) ?_
  generalize hFF : EndN s _ _ _ = FF
  refine Go.aloadN X0 hx (pc' := 1) rfl (hb hby d10_0) rfl rfl ?_
  refine Go.instY X0 hx hZ hown (tw_58 hw) e0 (Ins.self P3) (pc' := 4) rfl (hb hby d10_1) ?_
  intro T1 e1 X1
  refine Go.ifNo X1 hx (pc' := 7) rfl (hb hby d10_4) (by decide) ?_
  refine Go.aloadN X1 hx (pc' := 8) rfl (hb hby d10_7) rfl rfl ?_
  refine Go.castY X1 hx hZ hown (tw_58 hw) e1 (Ins.self P3) (pc' := 11) rfl (hb hby d10_8) ?_
  intro T2 e2 X2
  refine Go.astoreN X2 hx (pc' := 12) rfl (hb hby d10_11) (Ls' := #[.val (.ref x0), .val (.ref x1), .val (.ref x1)]) rfl rfl ?_
  refine Go.aloadN X2 hx (pc' := 13) rfl (hb hby d10_12) rfl rfl ?_
  refine Go.getF X2 hx hZ hown (host := "") (Or.inl (tw_48 hw)) Via.refl e2 P1 (pc' := 16) rfl (hb hby d10_13) ?_
  intro T3 e3 X3
  refine Go.aloadN X3 hx (pc' := 17) rfl (hb hby d10_16) rfl rfl ?_
  refine Go.getF X3 hx hZ hown (host := "") (Or.inl (tw_48 hw)) Via.refl e3 P4 (pc' := 20) rfl (hb hby d10_17) ?_
  intro T4 e4 X4
  by_cases hc5 : p0 = p1
  · refine Go.icmpNo X4 hx (pc' := 23) rfl (hb hby d10_20) (teq hc5).2 ?_
    refine Go.aloadN X4 hx (pc' := 24) rfl (hb hby d10_23) rfl rfl ?_
    refine Go.getF X4 hx hZ hown (host := "") (Or.inl (tw_46 hw)) Via.refl e4 P2 (pc' := 27) rfl (hb hby d10_24) ?_
    intro T6 e6 X6
    refine Go.aloadN X6 hx (pc' := 28) rfl (hb hby d10_27) rfl rfl ?_
    refine Go.getF X6 hx hZ hown (host := "") (Or.inl (tw_46 hw)) Via.refl e6 P5 (pc' := 31) rfl (hb hby d10_28) ?_
    intro T7 e7 X7
    refine Go.callV X7 hx hZ hown (tw_60 hw) (tw_61 hw) (notFace_of_selects (args := #[]) (mvT hZ (tw_63 hw))) (tw_63 hw) (tw_62 hw) (by decide) (tw_64 hw) (tw_6 hw) (au_24 l Z a0 hw x2 x3 x4 x5 kk0 kk1 p2 gz1 gv5 h0 n0 Z0 O0 G P7 P8 P9 P10 P11 P12 P13 ne_x2_x3) e7 P6 (argsL := [(.ref x3)]) (rest := []) (pc' := 34) rfl (by rw [hml]; rfl) (lenOf pd_5 rfl) rfl rfl (W := 0) (Nat.le_of_eq rfl) (by decide) (by decide) (by decide) (by decide) (hb hby d10_31) ?_
    intro v8 T8 L8 q8 X8
    obtain ⟨rfl, N8, e8⟩ := q8
    show Go _ _ _ _ (T8.setTop (mkF m 34 #[.val (.ref x0), .val (.ref x1), .val (.ref x1)] [(.int 0)]))
    refine Go.ifYes X8 hx (pc' := 41) (hb hby d10_34) (by decide) (by decide) (by decide) ?_
    refine Go.iconst X8 hx (pc' := 42) rfl (hb hby d10_41) (v := (0 : Int32)) rfl ?_
    subst hFF
    refine Go.retN X8 hx hlk (t := .boolean) hret (by simp) (hb hby d10_42) (by decide) (by decide) ?_
    rw [e8]
    exact ⟨(congrArg (fun z => some (Value.int z)) (by decide : nar .boolean (0 : Int32) = (0 : Int32))), (Fr.app (Fr.nil n0) N8), rfl⟩
  · refine Go.icmpYes X4 hx (pc' := 41) (hb hby d10_20) (feq hc5).2 (by decide) (by decide) ?_
    refine Go.iconst X4 hx (pc' := 42) rfl (hb hby d10_41) (v := (0 : Int32)) rfl ?_
    subst hFF
    refine Go.retN X4 hx hlk (t := .boolean) hret (by simp) (hb hby d10_42) (by decide) (by decide) ?_
    rw [e4]
    exact ⟨(congrArg (fun z => some (Value.int z)) (by decide : nar .boolean (0 : Int32) = (0 : Int32))), (Fr.nil n0), rfl⟩
-- java/lang/StringLatin1.equals
set_option maxRecDepth 65536 in
set_option maxHeartbeats 4000000 in
theorem au_28 (l : Launch) (Z : State) (a0 : Array Value) (hw : ∀ d ∈ tables_1, d.before a0 Z = true) (x0 : Addr) (x1 : Addr) (kk0 : ClassId) (p0 : Int32) (kk1 : ClassId) (h0 : Heap) (n0 : Nat) (Z0 : n0 ≤ h0.size) (P0 : Arv Z h0 x0 kk0 .byte (1 : Int32) [(.int p0)] (.int 0)) (P2 : Arv Z h0 x1 kk1 .byte (0 : Int32) [] (.int (0 : Int32))) :
    Ctr l Z (⟨"java/lang/StringLatin1", "equals", "([B[B)Z"⟩ : MethodName) jdk_43_method_13_code 3 (some .boolean) ({ frames := 0, cells := 0, slots := 0, locals := 0 } : Room) #[(.ref x0), (.ref x1)] h0 (fun v h L => v = some (.int 0) ∧ Fr n0 L ∧ h = h0) := by
  refine Ctr.of (plainFor_of_name pn_c4) ?_
  intro p e s m below meth c T0 hx hZ hby hml hown hnm hret hlk e0 es X0
  refine Go.cast (ef_12_RR m x0 x1) ?_
  generalize hFF : EndN s _ _ _ = FF
  refine Go.aloadN X0 hx (pc' := 1) rfl (hb hby d12_0) rfl rfl ?_
  refine Go.arraylength X0 hx hZ e0 P0 (pc' := 2) rfl (hb hby d12_1) ?_
  refine Go.aloadN X0 hx (pc' := 3) rfl (hb hby d12_2) rfl rfl ?_
  refine Go.arraylength X0 hx hZ e0 P2 (pc' := 4) rfl (hb hby d12_3) ?_
  refine Go.icmpYes X0 hx (pc' := 34) (hb hby d12_4) (by decide) (by decide) (by decide) ?_
  refine Go.iconst X0 hx (pc' := 35) rfl (hb hby d12_34) (v := (0 : Int32)) rfl ?_
  subst hFF
  refine Go.retN X0 hx hlk (t := .boolean) hret (by simp) (hb hby d12_35) (by decide) (by decide) ?_
  rw [e0]
  exact ⟨(congrArg (fun z => some (Value.int z)) (by decide : nar .boolean (0 : Int32) = (0 : Int32))), (Fr.nil n0), rfl⟩
-- java/lang/String.equals
set_option maxRecDepth 65536 in
set_option maxHeartbeats 4000000 in
theorem au_27 (l : Launch) (Z : State) (a0 : Array Value) (hw : ∀ d ∈ tables_1, d.before a0 Z = true) (x0 : Addr) (x1 : Addr) (x2 : Addr) (x3 : Addr) (kk0 : ClassId) (p0 : Int32) (kk1 : ClassId) (gz1 : Int32) (gv5 : Value) (h0 : Heap) (n0 : Nat) (Z0 : n0 ≤ h0.size) (O0 : Old Z n0 h0) (G : Glob Z gz1 gv5) (P1 : Fld Z h0 x0 "java/lang/String" "coder" "B" (.int 0)) (P2 : Fld Z h0 x0 "java/lang/String" "value" "[B" (.ref x2)) (P3 : Exa Z h0 x1 "java/lang/String") (P4 : Fld Z h0 x1 "java/lang/String" "coder" "B" (.int 0)) (P5 : Fld Z h0 x1 "java/lang/String" "value" "[B" (.ref x3)) (P6 : Arv Z h0 x2 kk0 .byte (1 : Int32) [(.int p0)] (.int 0)) (P8 : Arv Z h0 x3 kk1 .byte (0 : Int32) [] (.int (0 : Int32))) (ne_x0_x1 : x0 ≠ x1) :
    Ctr l Z (⟨"java/lang/String", "equals", "(Ljava/lang/Object;)Z"⟩ : MethodName) jdk_42_method_66_code 3 (some .boolean) ({ frames := 1, cells := 0, slots := 0, locals := 14 } : Room) #[(.ref x0), (.ref x1)] h0 (fun v h L => v = some (.int 0) ∧ Fr n0 L ∧ h = h0) := by
  refine Ctr.of (plainFor_of_name pn_c0) ?_
  intro p e s m below meth c T0 hx hZ hby hml hown hnm hret hlk e0 es X0
  have G' := G
  obtain ⟨G0, -, G2, -⟩ := G'
  refine Go.cast (ef_11_RR m x0 x1) ?_
  generalize hFF : EndN s _ _ _ = FF
  refine Go.aloadN X0 hx (pc' := 1) rfl (hb hby d11_0) rfl rfl ?_
  refine Go.aloadN X0 hx (pc' := 2) rfl (hb hby d11_1) rfl rfl ?_
  refine Go.acmp X0 hx (pc' := 7) (same := false) (hb hby d11_2) rfl rfl (decide_eq_false (fun q => ne_x0_x1 (Value.ref.inj q))) (by decide) (by decide) ?_
  refine Go.aloadN X0 hx (pc' := 8) rfl (hb hby d11_7) rfl rfl ?_
  refine Go.instY X0 hx hZ hown (tw_65 hw) e0 (Ins.self P3) (pc' := 11) rfl (hb hby d11_8) ?_
  intro T1 e1 X1
  refine Go.ifNo X1 hx (pc' := 14) rfl (hb hby d11_11) (by decide) ?_
  refine Go.aloadN X1 hx (pc' := 15) rfl (hb hby d11_14) rfl rfl ?_
  refine Go.castY X1 hx hZ hown (tw_65 hw) e1 (Ins.self P3) (pc' := 18) rfl (hb hby d11_15) ?_
  intro T2 e2 X2
  refine Go.astoreN X2 hx (pc' := 19) rfl (hb hby d11_18) (Ls' := #[.val (.ref x0), .val (.ref x1), .val (.ref x1)]) rfl rfl ?_
  have fk3 : Sta Z h0 "java/lang/String" "COMPACT_STRINGS" "Z" (.int gz1) := G0.ext O0.2
  refine Go.getS X2 hx hZ hown (host := "") (Or.inl (tw_18 hw)) Via.refl e2 fk3 (pc' := 22) rfl (hb hby d11_19) ?_
  intro T4 e4 X4
  refine Go.ifNo X4 hx (pc' := 25) rfl (hb hby d11_22) (feq G2).1 ?_
  refine Go.aloadN X4 hx (pc' := 26) rfl (hb hby d11_25) rfl rfl ?_
  refine Go.getF X4 hx hZ hown (host := "") (Or.inl (tw_30 hw)) Via.refl e4 P1 (pc' := 29) rfl (hb hby d11_26) ?_
  intro T5 e5 X5
  refine Go.aloadN X5 hx (pc' := 30) rfl (hb hby d11_29) rfl rfl ?_
  refine Go.getF X5 hx hZ hown (host := "") (Or.inl (tw_30 hw)) Via.refl e5 P4 (pc' := 33) rfl (hb hby d11_30) ?_
  intro T6 e6 X6
  refine Go.icmpNo X6 hx (pc' := 36) rfl (hb hby d11_33) (by decide) ?_
  refine Go.aloadN X6 hx (pc' := 37) rfl (hb hby d11_36) rfl rfl ?_
  refine Go.getF X6 hx hZ hown (host := "") (Or.inl (tw_32 hw)) Via.refl e6 P2 (pc' := 40) rfl (hb hby d11_37) ?_
  intro T7 e7 X7
  refine Go.aloadN X7 hx (pc' := 41) rfl (hb hby d11_40) rfl rfl ?_
  refine Go.getF X7 hx hZ hown (host := "") (Or.inl (tw_32 hw)) Via.refl e7 P5 (pc' := 44) rfl (hb hby d11_41) ?_
  intro T8 e8 X8
  refine Go.callS X8 hx hZ hown (tw_66 hw) (tw_67 hw) (tw_68 hw) (tw_69 hw) (by decide) (tw_69 hw) (tw_68 hw) (au_28 l Z a0 hw x2 x3 kk0 p0 kk1 h0 n0 Z0 P6 P8) e8 (argsL := [(.ref x2), (.ref x3)]) (rest := []) (pc' := 47) rfl (by rw [hml]; rfl) (lenOf pd_6 rfl) rfl rfl (W := 0) (Nat.le_of_eq rfl) (by decide) (by decide) (by decide) (by decide) (hb hby d11_44) ?_
  intro v9 T9 L9 q9 X9
  obtain ⟨rfl, N9, e9⟩ := q9
  show Go _ _ _ _ (T9.setTop (mkF m 47 #[.val (.ref x0), .val (.ref x1), .val (.ref x1)] [(.int 0)]))
  refine Go.ifYes X9 hx (pc' := 54) (hb hby d11_47) (by decide) (by decide) (by decide) ?_
  refine Go.iconst X9 hx (pc' := 55) rfl (hb hby d11_54) (v := (0 : Int32)) rfl ?_
  subst hFF
  refine Go.retN X9 hx hlk (t := .boolean) hret (by simp) (hb hby d11_55) (by decide) (by decide) ?_
  rw [e9]
  exact ⟨(congrArg (fun z => some (Value.int z)) (by decide : nar .boolean (0 : Int32) = (0 : Int32))), (Fr.app (Fr.nil n0) N9), rfl⟩
-- com/example/tough_filter/toughfilter/Expression$Keyword.equals
set_option maxRecDepth 65536 in
set_option maxHeartbeats 4000000 in
theorem au_26 (l : Launch) (Z : State) (a0 : Array Value) (hw : ∀ d ∈ tables_1, d.before a0 Z = true) (x0 : Addr) (x1 : Addr) (p0 : Int32) (x2 : Addr) (p1 : Int32) (x3 : Addr) (x4 : Addr) (x5 : Addr) (kk0 : ClassId) (p2 : Int32) (kk1 : ClassId) (gz1 : Int32) (gv5 : Value) (h0 : Heap) (n0 : Nat) (Z0 : n0 ≤ h0.size) (O0 : Old Z n0 h0) (G : Glob Z gz1 gv5) (P1 : Fld Z h0 x0 "com/example/tough_filter/toughfilter/Expression$Keyword" "pinyin" "Z" (.int p0)) (P2 : Fld Z h0 x0 "com/example/tough_filter/toughfilter/Expression$Keyword" "word" "Ljava/lang/String;" (.ref x2)) (P3 : Exa Z h0 x1 "com/example/tough_filter/toughfilter/Expression$Keyword") (P4 : Fld Z h0 x1 "com/example/tough_filter/toughfilter/Expression$Keyword" "pinyin" "Z" (.int p1)) (P5 : Fld Z h0 x1 "com/example/tough_filter/toughfilter/Expression$Keyword" "word" "Ljava/lang/String;" (.ref x3)) (P6 : Exa Z h0 x2 "java/lang/String") (P7 : Fld Z h0 x2 "java/lang/String" "coder" "B" (.int 0)) (P8 : Fld Z h0 x2 "java/lang/String" "value" "[B" (.ref x4)) (P9 : Exa Z h0 x3 "java/lang/String") (P10 : Fld Z h0 x3 "java/lang/String" "coder" "B" (.int 0)) (P11 : Fld Z h0 x3 "java/lang/String" "value" "[B" (.ref x5)) (P12 : Arv Z h0 x4 kk0 .byte (1 : Int32) [(.int p2)] (.int 0)) (P14 : Arv Z h0 x5 kk1 .byte (0 : Int32) [] (.int (0 : Int32))) (ne_x2_x3 : x2 ≠ x3) :
    Ctr l Z (⟨"com/example/tough_filter/toughfilter/Expression$Keyword", "equals", "(Ljava/lang/Object;)Z"⟩ : MethodName) prog_7_method_2_code 3 (some .boolean) ({ frames := 2, cells := 0, slots := 0, locals := 28 } : Room) #[(.ref x0), (.ref x1)] h0 (fun v h L => v = some (.int 0) ∧ Fr n0 L ∧ h = h0) := by
  refine Ctr.of (plainFor_of_name pn_c3) ?_
  intro p e s m below meth c T0 hx hZ hby hml hown hnm hret hlk e0 es X0
  refine Go.cast (ef_10_RR m x0 x1) ?_
  generalize hFF : EndN s _ _ _ = FF
  refine Go.aloadN X0 hx (pc' := 1) rfl (hb hby d10_0) rfl rfl ?_
  refine Go.instY X0 hx hZ hown (tw_58 hw) e0 (Ins.self P3) (pc' := 4) rfl (hb hby d10_1) ?_
  intro T1 e1 X1
  refine Go.ifNo X1 hx (pc' := 7) rfl (hb hby d10_4) (by decide) ?_
  refine Go.aloadN X1 hx (pc' := 8) rfl (hb hby d10_7) rfl rfl ?_
  refine Go.castY X1 hx hZ hown (tw_58 hw) e1 (Ins.self P3) (pc' := 11) rfl (hb hby d10_8) ?_
  intro T2 e2 X2
  refine Go.astoreN X2 hx (pc' := 12) rfl (hb hby d10_11) (Ls' := #[.val (.ref x0), .val (.ref x1), .val (.ref x1)]) rfl rfl ?_
  refine Go.aloadN X2 hx (pc' := 13) rfl (hb hby d10_12) rfl rfl ?_
  refine Go.getF X2 hx hZ hown (host := "") (Or.inl (tw_48 hw)) Via.refl e2 P1 (pc' := 16) rfl (hb hby d10_13) ?_
  intro T3 e3 X3
  refine Go.aloadN X3 hx (pc' := 17) rfl (hb hby d10_16) rfl rfl ?_
  refine Go.getF X3 hx hZ hown (host := "") (Or.inl (tw_48 hw)) Via.refl e3 P4 (pc' := 20) rfl (hb hby d10_17) ?_
  intro T4 e4 X4
  by_cases hc5 : p0 = p1
  · refine Go.icmpNo X4 hx (pc' := 23) rfl (hb hby d10_20) (teq hc5).2 ?_
    refine Go.aloadN X4 hx (pc' := 24) rfl (hb hby d10_23) rfl rfl ?_
    refine Go.getF X4 hx hZ hown (host := "") (Or.inl (tw_46 hw)) Via.refl e4 P2 (pc' := 27) rfl (hb hby d10_24) ?_
    intro T6 e6 X6
    refine Go.aloadN X6 hx (pc' := 28) rfl (hb hby d10_27) rfl rfl ?_
    refine Go.getF X6 hx hZ hown (host := "") (Or.inl (tw_46 hw)) Via.refl e6 P5 (pc' := 31) rfl (hb hby d10_28) ?_
    intro T7 e7 X7
    refine Go.callV X7 hx hZ hown (tw_60 hw) (tw_61 hw) (notFace_of_selects (args := #[]) (mvT hZ (tw_63 hw))) (tw_63 hw) (tw_62 hw) (by decide) (tw_64 hw) (tw_6 hw) (au_27 l Z a0 hw x2 x3 x4 x5 kk0 p2 kk1 gz1 gv5 h0 n0 Z0 O0 G P7 P8 P9 P10 P11 P12 P14 ne_x2_x3) e7 P6 (argsL := [(.ref x3)]) (rest := []) (pc' := 34) rfl (by rw [hml]; rfl) (lenOf pd_5 rfl) rfl rfl (W := 0) (Nat.le_of_eq rfl) (by decide) (by decide) (by decide) (by decide) (hb hby d10_31) ?_
    intro v8 T8 L8 q8 X8
    obtain ⟨rfl, N8, e8⟩ := q8
    show Go _ _ _ _ (T8.setTop (mkF m 34 #[.val (.ref x0), .val (.ref x1), .val (.ref x1)] [(.int 0)]))
    refine Go.ifYes X8 hx (pc' := 41) (hb hby d10_34) (by decide) (by decide) (by decide) ?_
    refine Go.iconst X8 hx (pc' := 42) rfl (hb hby d10_41) (v := (0 : Int32)) rfl ?_
    subst hFF
    refine Go.retN X8 hx hlk (t := .boolean) hret (by simp) (hb hby d10_42) (by decide) (by decide) ?_
    rw [e8]
    exact ⟨(congrArg (fun z => some (Value.int z)) (by decide : nar .boolean (0 : Int32) = (0 : Int32))), (Fr.app (Fr.nil n0) N8), rfl⟩
  · refine Go.icmpYes X4 hx (pc' := 41) (hb hby d10_20) (feq hc5).2 (by decide) (by decide) ?_
    refine Go.iconst X4 hx (pc' := 42) rfl (hb hby d10_41) (v := (0 : Int32)) rfl ?_
    subst hFF
    refine Go.retN X4 hx hlk (t := .boolean) hret (by simp) (hb hby d10_42) (by decide) (by decide) ?_
    rw [e4]
    exact ⟨(congrArg (fun z => some (Value.int z)) (by decide : nar .boolean (0 : Int32) = (0 : Int32))), (Fr.nil n0), rfl⟩
theorem d1_35 : decode method_2_code 35 = .ok (.new 7, 3) := by decide +kernel
theorem d1_38 : decode method_2_code 38 = .ok (.dup, 1) := by decide +kernel
theorem d1_39 : decode method_2_code 39 = .ok (.iconst 2, 1) := by decide +kernel
theorem d1_40 : decode method_2_code 40 = .ok (.newarray .char, 2) := by decide +kernel
theorem d1_42 : decode method_2_code 42 = .ok (.dup, 1) := by decide +kernel
theorem d1_43 : decode method_2_code 43 = .ok (.iconst 0, 1) := by decide +kernel
theorem d1_44 : decode method_2_code 44 = .ok (.iload_n 1, 1) := by decide +kernel
theorem d1_45 : decode method_2_code 45 = .ok (.castore, 1) := by decide +kernel
theorem d1_46 : decode method_2_code 46 = .ok (.dup, 1) := by decide +kernel
theorem d1_47 : decode method_2_code 47 = .ok (.iconst 1, 1) := by decide +kernel
theorem d1_48 : decode method_2_code 48 = .ok (.iload_n 2, 1) := by decide +kernel
theorem d1_49 : decode method_2_code 49 = .ok (.castore, 1) := by decide +kernel
-- java/lang/StringUTF16.compress
set_option maxRecDepth 65536 in
set_option maxHeartbeats 4000000 in
theorem au_33 (l : Launch) (Z : State) (a0 : Array Value) (hw : ∀ d ∈ tables_1, d.before a0 Z = true) (x0 : Addr) (x1 : Addr) (kk0 : ClassId) (p0 : Int32) (p1 : Int32) (kk1 : ClassId) (h0 : Heap) (n0 : Nat) (Z0 : n0 ≤ h0.size) (P0 : Arv Z h0 x0 kk0 .char (2 : Int32) [(.int p0), (.int p1)] (.int 0)) (P2 : Arv Z h0 x1 kk1 .byte (2 : Int32) [(.int 0), (.int 0)] (.int 0)) (P3 : Exa Z h0 x1 "[B") (R_p0 : 0 ≤ p0.toInt ∧ p0.toInt ≤ 255) (R_p1 : 0 ≤ p1.toInt ∧ p1.toInt ≤ 255) (g_x1 : n0 ≤ x1) (ne_x0_x1 : x0 ≠ x1) :
    Ctr l Z (⟨"java/lang/StringUTF16", "compress", "([CI[BII)I"⟩ : MethodName) jdk_52_method_21_code 7 (some .int) ({ frames := 0, cells := 0, slots := 0, locals := 0 } : Room) #[(.ref x0), (.int 0), (.ref x1), (.int 0), (.int 2)] h0 (fun v h L => ∃ (z1 : Int32) (z5 : Int32), (p0.toInt8.toInt32) = z1 ∧ (p1.toInt8.toInt32) = z5 ∧ v = some (.int 2) ∧ Fr n0 L ∧ Keep h0 h [x1] ∧ Arv Z h x1 kk1 .byte (2 : Int32) [(.int z1), (.int z5)] (.int 0) ∧ Exa Z h x1 "[B") := by
  refine Ctr.of (plainFor_of_name pn_c5) ?_
  intro p e s m below meth c T0 hx hZ hby hml hown hnm hret hlk e0 es X0
  refine Go.cast (ef_6_RIRII m x0 (0 : Int32) x1 (0 : Int32) (2 : Int32)) ?_
  generalize hFF : EndN s _ _ _ = FF
  refine Go.iconst X0 hx (pc' := 1) rfl (hb hby d6_0) (v := (0 : Int32)) rfl ?_
  refine Go.istore X0 hx (pc' := 3) rfl (hb hby d6_1) (Ls' := #[.val (.ref x0), .val (.int 0), .val (.ref x1), .val (.int 0), .val (.int 2), .val (.int 0), .unset]) rfl ?_
  refine Go.iload X0 hx (pc' := 5) rfl (hb hby d6_3) rfl ?_
  refine Go.iload X0 hx (pc' := 7) rfl (hb hby d6_5) rfl ?_
  refine Go.icmpNo X0 hx (pc' := 10) rfl (hb hby d6_7) (by decide) ?_
  refine Go.aloadN X0 hx (pc' := 11) rfl (hb hby d6_10) rfl rfl ?_
  refine Go.iloadN X0 hx (pc' := 12) rfl (hb hby d6_11) rfl ?_
  refine Go.caload X0 hx hZ e0 P0 (v := (.int p0)) ⟨by decide, by decide⟩ rfl (pc' := 13) rfl (hb hby d6_12) ?_
  refine Go.istore X0 hx (pc' := 15) rfl (hb hby d6_13) (Ls' := #[.val (.ref x0), .val (.int 0), .val (.ref x1), .val (.int 0), .val (.int 2), .val (.int 0), .val (.int p0)]) rfl ?_
  refine Go.iload X0 hx (pc' := 17) rfl (hb hby d6_15) rfl ?_
  refine Go.sipush X0 hx (pc' := 20) rfl (hb hby d6_17) (v := (255 : Int32)) (by decide) ?_
  refine Go.icmpYes X0 hx (pc' := 26) (hb hby d6_20) (flt (own_nlt_r (own_rlit (n := 255) (by decide)) R_p0 (by decide))).2.2.2 (by decide) (by decide) ?_
  refine Go.aloadN X0 hx (pc' := 27) rfl (hb hby d6_26) rfl rfl ?_
  refine Go.iloadN X0 hx (pc' := 28) rfl (hb hby d6_27) rfl ?_
  refine Go.iload X0 hx (pc' := 30) rfl (hb hby d6_28) rfl ?_
  refine Go.i2b X0 hx (pc' := 31) rfl (hb hby d6_30) ?_
  generalize hz1 : (p0.toInt8.toInt32) = z1
  have r2 : -128 ≤ z1.toInt ∧ z1.toInt ≤ 127 := own_ri2b hz1
  refine Go.bastore X0 hx hZ e0 P2 z1 (own_nar_byte r2 (by decide) (by decide)) ⟨by decide, by decide⟩ 0 rfl (Nat.le_of_ble_eq_true rfl) (pc' := 32) rfl (hb hby d6_31) ?_
  intro T3 h3 e3 W3 V3 X3
  have N3 := Fr.snoc X3 (Fr.nil n0) g_x1
  refine Go.iinc X3 hx (pc' := 35) rfl (hb hby d6_32) rfl (y := (1 : Int32)) (by decide) (Ls' := #[.val (.ref x0), .val (.int 1), .val (.ref x1), .val (.int 0), .val (.int 2), .val (.int 0), .val (.int p0)]) rfl ?_
  refine Go.iinc X3 hx (pc' := 38) rfl (hb hby d6_35) rfl (y := (1 : Int32)) (by decide) (Ls' := #[.val (.ref x0), .val (.int 1), .val (.ref x1), .val (.int 1), .val (.int 2), .val (.int 0), .val (.int p0)]) rfl ?_
  refine Go.iinc X3 hx (pc' := 41) rfl (hb hby d6_38) rfl (y := (1 : Int32)) (by decide) (Ls' := #[.val (.ref x0), .val (.int 1), .val (.ref x1), .val (.int 1), .val (.int 2), .val (.int 1), .val (.int p0)]) rfl ?_
  refine Go.goto X3 hx (pc' := 3) (hb hby d6_41) (by decide) (by decide) ?_
  refine Go.iload X3 hx (pc' := 5) rfl (hb hby d6_3) rfl ?_
  refine Go.iload X3 hx (pc' := 7) rfl (hb hby d6_5) rfl ?_
  refine Go.icmpNo X3 hx (pc' := 10) rfl (hb hby d6_7) (by decide) ?_
  refine Go.aloadN X3 hx (pc' := 11) rfl (hb hby d6_10) rfl rfl ?_
  refine Go.iloadN X3 hx (pc' := 12) rfl (hb hby d6_11) rfl ?_
  have fk4 := (P0.other W3 ne_x0_x1)
  refine Go.caload X3 hx hZ e3 fk4 (v := (.int p1)) ⟨by decide, by decide⟩ rfl (pc' := 13) rfl (hb hby d6_12) ?_
  refine Go.istore X3 hx (pc' := 15) rfl (hb hby d6_13) (Ls' := #[.val (.ref x0), .val (.int 1), .val (.ref x1), .val (.int 1), .val (.int 2), .val (.int 1), .val (.int p1)]) rfl ?_
  refine Go.iload X3 hx (pc' := 17) rfl (hb hby d6_15) rfl ?_
  refine Go.sipush X3 hx (pc' := 20) rfl (hb hby d6_17) (v := (255 : Int32)) (by decide) ?_
  refine Go.icmpYes X3 hx (pc' := 26) (hb hby d6_20) (flt (own_nlt_r (own_rlit (n := 255) (by decide)) R_p1 (by decide))).2.2.2 (by decide) (by decide) ?_
  refine Go.aloadN X3 hx (pc' := 27) rfl (hb hby d6_26) rfl rfl ?_
  refine Go.iloadN X3 hx (pc' := 28) rfl (hb hby d6_27) rfl ?_
  refine Go.iload X3 hx (pc' := 30) rfl (hb hby d6_28) rfl ?_
  refine Go.i2b X3 hx (pc' := 31) rfl (hb hby d6_30) ?_
  generalize hz5 : (p1.toInt8.toInt32) = z5
  have r6 : -128 ≤ z5.toInt ∧ z5.toInt ≤ 127 := own_ri2b hz5
  refine Go.bastore X3 hx hZ e3 V3 z5 (own_nar_byte r6 (by decide) (by decide)) ⟨by decide, by decide⟩ 1 rfl (Nat.le_of_ble_eq_true rfl) (pc' := 32) rfl (hb hby d6_31) ?_
  intro T7 h7 e7 W7 V7 X7
  have N7 := Fr.snoc X7 N3 g_x1
  refine Go.iinc X7 hx (pc' := 35) rfl (hb hby d6_32) rfl (y := (2 : Int32)) (by decide) (Ls' := #[.val (.ref x0), .val (.int 2), .val (.ref x1), .val (.int 1), .val (.int 2), .val (.int 1), .val (.int p1)]) rfl ?_
  refine Go.iinc X7 hx (pc' := 38) rfl (hb hby d6_35) rfl (y := (2 : Int32)) (by decide) (Ls' := #[.val (.ref x0), .val (.int 2), .val (.ref x1), .val (.int 2), .val (.int 2), .val (.int 1), .val (.int p1)]) rfl ?_
  refine Go.iinc X7 hx (pc' := 41) rfl (hb hby d6_38) rfl (y := (2 : Int32)) (by decide) (Ls' := #[.val (.ref x0), .val (.int 2), .val (.ref x1), .val (.int 2), .val (.int 2), .val (.int 2), .val (.int p1)]) rfl ?_
  refine Go.goto X7 hx (pc' := 3) (hb hby d6_41) (by decide) (by decide) ?_
  refine Go.iload X7 hx (pc' := 5) rfl (hb hby d6_3) rfl ?_
  refine Go.iload X7 hx (pc' := 7) rfl (hb hby d6_5) rfl ?_
  refine Go.icmpYes X7 hx (pc' := 44) (hb hby d6_7) (by decide) (by decide) (by decide) ?_
  refine Go.iload X7 hx (pc' := 46) rfl (hb hby d6_44) rfl ?_
  subst hFF
  refine Go.retI X7 hx hlk hret (hb hby d6_46) (by decide) (by decide) ?_
  rw [e7]
  have V8 : Arv Z h7 x1 kk1 .byte (2 : Int32) [(.int z1), (.int z5)] (.int 0) := V7
  have fk9 : Exa Z h7 x1 "[B" := ((P3.wr W3).wr W7)
  have Kp10 : Keep h0 h3 [x1] := ((Keep.refl h0 [x1]).wr W3 (Or.inl (List.mem_of_getElem? (i := 0) rfl)))
  have Kp11 : Keep h0 h7 [x1] := (Kp10.wr W7 (Or.inl (List.mem_of_getElem? (i := 0) rfl)))
  exact ⟨z1, z5, hz1, hz5, rfl, N7, Kp11, V8, fk9⟩
-- java/lang/StringUTF16.compress
set_option maxRecDepth 65536 in
set_option maxHeartbeats 4000000 in
theorem au_32 (l : Launch) (Z : State) (a0 : Array Value) (hw : ∀ d ∈ tables_1, d.before a0 Z = true) (x0 : Addr) (kk0 : ClassId) (p0 : Int32) (p1 : Int32) (h0 : Heap) (n0 : Nat) (Z0 : n0 ≤ h0.size) (P0 : Arv Z h0 x0 kk0 .char (2 : Int32) [(.int p0), (.int p1)] (.int 0)) (R_p0 : 0 ≤ p0.toInt ∧ p0.toInt ≤ 255) (R_p1 : 0 ≤ p1.toInt ∧ p1.toInt ≤ 255) :
    Ctr l Z (⟨"java/lang/StringUTF16", "compress", "([CII)[B"⟩ : MethodName) jdk_52_method_16_code 6 (some (.array .byte)) ({ frames := 1, cells := 1, slots := 2, locals := 18 } : Room) #[(.ref x0), (.int 0), (.int 2)] h0 (fun v h L => ∃ (z8_0 : Int32) (z8_1 : Int32) (b1 : Addr) (k1 : ClassId), (p0.toInt8.toInt32) = z8_0 ∧ (p1.toInt8.toInt32) = z8_1 ∧ v = some (.ref b1) ∧ Fr n0 L ∧ Keep h0 h [] ∧ h0.size ≤ b1 ∧ Arv Z h b1 k1 .byte (2 : Int32) [(.int z8_0), (.int z8_1)] (.int 0) ∧ Exa Z h b1 "[B") := by
  refine Ctr.of (plainFor_of_name pn_c5) ?_
  intro p e s m below meth c T0 hx hZ hby hml hown hnm hret hlk e0 es X0
  refine Go.cast (ef_5_RII m x0 (0 : Int32) (2 : Int32)) ?_
  generalize hFF : EndN s _ _ _ = FF
  refine Go.iloadN X0 hx (pc' := 1) rfl (hb hby d5_0) rfl ?_
  refine Go.newarray X0 hx hZ (ty := .byte) rfl (tw_23 hw) e0 (by decide) (cap := 2) (by decide) (by decide) (by decide) (by decide) (ad := "[B") (by decide) 2 (pc' := 3) rfl (hb hby d5_1) ?_
  intro T1 h1 b1 k1 e1 E1 g1 V1 A1 X1
  have V1' : Arv Z h1 b1 k1 .byte (2 : Int32) [(.int 0), (.int 0)] (.int 0) := V1
  refine Go.astoreN X1 hx (pc' := 4) rfl (hb hby d5_3) (Ls' := #[.val (.ref x0), .val (.int 0), .val (.int 2), .val (.ref b1), .unset, .unset]) rfl rfl ?_
  refine Go.aloadN X1 hx (pc' := 5) rfl (hb hby d5_4) rfl rfl ?_
  refine Go.iloadN X1 hx (pc' := 6) rfl (hb hby d5_5) rfl ?_
  refine Go.aloadN X1 hx (pc' := 7) rfl (hb hby d5_6) rfl rfl ?_
  refine Go.iconst X1 hx (pc' := 8) rfl (hb hby d5_7) (v := (0 : Int32)) rfl ?_
  refine Go.iloadN X1 hx (pc' := 9) rfl (hb hby d5_8) rfl ?_
  have Kp3 : Keep h0 h1 [] := ((Keep.refl h0 []).ext E1)
  have Zn2 : n0 ≤ h1.size := Nat.le_trans Z0 Kp3.1
  have fk4 := (P0.ext E1)
  have sz6 : h0.size ≤ b1 := Nat.le_trans (Keep.refl h0 []).1 (Nat.le_of_eq g1.symm)
  have ge5 : n0 ≤ b1 := Nat.le_trans Z0 sz6
  have ne7 : x0 ≠ b1 := Nat.ne_of_lt (Nat.lt_of_lt_of_le P0.lt (Nat.le_of_eq g1.symm))
  refine Go.callS X1 hx hZ hown (tw_24 hw) (tw_25 hw) (tw_21 hw) (tw_26 hw) (by decide) (tw_26 hw) (tw_21 hw) (au_33 l Z a0 hw x0 b1 kk0 p0 p1 k1 h1 n0 Zn2 fk4 V1' A1 R_p0 R_p1 ge5 ne7) e1 (argsL := [(.ref x0), (.int 0), (.ref b1), (.int 0), (.int 2)]) (rest := []) (pc' := 12) rfl (by rw [hml]; rfl) (lenOf pd_7 rfl) rfl rfl (W := 0) (Nat.le_of_eq rfl) (by decide) (by decide) (by decide) (by decide) (hb hby d5_9) ?_
  intro v8 T8 L8 q8 X8
  obtain ⟨h8, e8⟩ : ∃ z, T8.heap = z := ⟨_, rfl⟩
  rw [e8] at q8
  obtain ⟨z8_0, z8_1, d8_0, d8_1, rfl, N8, K8, F8_0, F8_1⟩ := q8
  show Go _ _ _ _ (T8.setTop (mkF m 12 #[.val (.ref x0), .val (.int 0), .val (.int 2), .val (.ref b1), .unset, .unset] [(.int 2)]))
  refine Go.istore X8 hx (pc' := 14) rfl (hb hby d5_12) (Ls' := #[.val (.ref x0), .val (.int 0), .val (.int 2), .val (.ref b1), .val (.int 2), .unset]) rfl ?_
  refine Go.iload X8 hx (pc' := 16) rfl (hb hby d5_14) rfl ?_
  refine Go.iloadN X8 hx (pc' := 17) rfl (hb hby d5_16) rfl ?_
  refine Go.icmpYes X8 hx (pc' := 57) (hb hby d5_17) (by decide) (by decide) (by decide) ?_
  refine Go.aloadN X8 hx (pc' := 58) rfl (hb hby d5_57) rfl rfl ?_
  subst hFF
  refine Go.retR X8 hx hlk (t := (.array .byte)) hret rfl rfl (hb hby d5_58) (by decide) (by decide) ?_
  rw [e8]
  have Kp9 : Keep h0 h8 [] := (Kp3.trans K8 (allS (Or.inr sz6) all0))
  exact ⟨z8_0, z8_1, b1, k1, d8_0, d8_1, rfl, (Fr.app (Fr.nil n0) N8), Kp9, sz6, F8_0, F8_1⟩
-- java/lang/StringUTF16.coderFromArrayLen
set_option maxRecDepth 65536 in
set_option maxHeartbeats 4000000 in
theorem au_34 (l : Launch) (Z : State) (a0 : Array Value) (hw : ∀ d ∈ tables_1, d.before a0 Z = true) (x0 : Addr) (kk0 : ClassId) (p0 : Int32) (p1 : Int32) (h0 : Heap) (n0 : Nat) (Z0 : n0 ≤ h0.size) (P0 : Arv Z h0 x0 kk0 .byte (2 : Int32) [(.int p0), (.int p1)] (.int 0)) :
    Ctr l Z (⟨"java/lang/StringUTF16", "coderFromArrayLen", "([BI)B"⟩ : MethodName) jdk_52_method_15_code 2 (some .byte) ({ frames := 0, cells := 0, slots := 0, locals := 0 } : Room) #[(.ref x0), (.int 2)] h0 (fun v h L => v = some (.int 0) ∧ Fr n0 L ∧ h = h0) := by
  refine Ctr.of (plainFor_of_name pn_c5) ?_
  intro p e s m below meth c T0 hx hZ hby hml hown hnm hret hlk e0 es X0
  refine Go.cast (ef_7_RI m x0 (2 : Int32)) ?_
  generalize hFF : EndN s _ _ _ = FF
  refine Go.iloadN X0 hx (pc' := 1) rfl (hb hby d7_0) rfl ?_
  refine Go.aloadN X0 hx (pc' := 2) rfl (hb hby d7_1) rfl rfl ?_
  refine Go.arraylength X0 hx hZ e0 P0 (pc' := 3) rfl (hb hby d7_2) ?_
  refine Go.isub X0 hx (pc' := 4) rfl (hb hby d7_3) ?_
  rw [show ((2 : Int32) - (2 : Int32)) = (0 : Int32) from by decide]
  refine Go.bipush X0 hx (pc' := 6) rfl (hb hby d7_4) (v := (31 : Int32)) (by decide) ?_
  refine Go.iushr X0 hx (pc' := 7) rfl (hb hby d7_6) ?_
  rw [show (((0 : Int32).toUInt32 >>> ((31 : Int32) &&& 31).toUInt32).toInt32) = (0 : Int32) from by decide]
  refine Go.i2b X0 hx (pc' := 8) rfl (hb hby d7_7) ?_
  rw [show ((0 : Int32).toInt8.toInt32) = (0 : Int32) from by decide]
  subst hFF
  refine Go.retN X0 hx hlk (t := .byte) hret (by simp) (hb hby d7_8) (by decide) (by decide) ?_
  rw [e0]
  exact ⟨(congrArg (fun z => some (Value.int z)) (by decide : nar .byte (0 : Int32) = (0 : Int32))), (Fr.nil n0), rfl⟩
-- java/lang/String.init
set_option maxRecDepth 65536 in
set_option maxHeartbeats 4000000 in
theorem au_31 (l : Launch) (Z : State) (a0 : Array Value) (hw : ∀ d ∈ tables_1, d.before a0 Z = true) (x0 : Addr) (x1 : Addr) (kk0 : ClassId) (p0 : Int32) (p1 : Int32) (gz1 : Int32) (gv5 : Value) (h0 : Heap) (n0 : Nat) (Z0 : n0 ≤ h0.size) (O0 : Old Z n0 h0) (G : Glob Z gz1 gv5) (P0 : Exa Z h0 x0 "java/lang/String") (P1 : Fld Z h0 x0 "java/lang/String" "coder" "B" (.int 0)) (P2 : Fld Z h0 x0 "java/lang/String" "value" "[B" .null) (P3 : Arv Z h0 x1 kk0 .char (2 : Int32) [(.int p0), (.int p1)] (.int 0)) (R_p0 : 0 ≤ p0.toInt ∧ p0.toInt ≤ 255) (R_p1 : 0 ≤ p1.toInt ∧ p1.toInt ≤ 255) (g_x0 : n0 ≤ x0) :
    Ctr l Z (⟨"java/lang/String", "<init>", "([CIILjava/lang/Void;)V"⟩ : MethodName) jdk_42_method_149_code 6 none ({ frames := 2, cells := 1, slots := 2, locals := 35 } : Room) #[(.ref x0), (.ref x1), (.int 0), (.int 2), .null] h0 (fun v h L => ∃ (z4_0 : Int32) (z4_1 : Int32) (b4_0 : Addr) (k4_0 : ClassId), (p0.toInt8.toInt32) = z4_0 ∧ (p1.toInt8.toInt32) = z4_1 ∧ v = none ∧ Fr n0 L ∧ Keep h0 h [x0] ∧ h0.size ≤ b4_0 ∧ Exa Z h x0 "java/lang/String" ∧ Fld Z h x0 "java/lang/String" "coder" "B" (.int 0) ∧ Fld Z h x0 "java/lang/String" "value" "[B" (.ref b4_0) ∧ Arv Z h b4_0 k4_0 .byte (2 : Int32) [(.int z4_0), (.int z4_1)] (.int 0) ∧ Exa Z h b4_0 "[B") := by
  refine Ctr.of (plainFor_of_name pn_c0) ?_
  intro p e s m below meth c T0 hx hZ hby hml hown hnm hret hlk e0 es X0
  have G' := G
  obtain ⟨G0, -, G2, -⟩ := G'
  refine Go.cast (ef_3_RRIIN m x0 x1 (0 : Int32) (2 : Int32)) ?_
  generalize hFF : EndN s _ _ _ = FF
  refine Go.aloadN X0 hx (pc' := 1) rfl (hb hby d3_0) rfl rfl ?_
  refine Go.initO X0 hx hZ hown (tw_15 hw) (tw_16 hw) (tw_17 hw) e0 (by decide) (W := 0) (by rw [hml]; rfl) (Nat.le_of_eq rfl) (by decide) (pc' := 4) rfl (hb hby d3_1) ?_
  intro T1 e1 X1
  refine Go.iloadN X1 hx (pc' := 5) rfl (hb hby d3_4) rfl ?_
  refine Go.ifYes X1 hx (pc' := 27) (hb hby d3_5) (by decide) (by decide) (by decide) ?_
  have fk2 : Sta Z h0 "java/lang/String" "COMPACT_STRINGS" "Z" (.int gz1) := G0.ext O0.2
  refine Go.getS X1 hx hZ hown (host := "") (Or.inl (tw_18 hw)) Via.refl e1 fk2 (pc' := 30) rfl (hb hby d3_27) ?_
  intro T3 e3 X3
  refine Go.ifNo X3 hx (pc' := 33) rfl (hb hby d3_30) (feq G2).1 ?_
  refine Go.aloadN X3 hx (pc' := 34) rfl (hb hby d3_33) rfl rfl ?_
  refine Go.iloadN X3 hx (pc' := 35) rfl (hb hby d3_34) rfl ?_
  refine Go.iloadN X3 hx (pc' := 36) rfl (hb hby d3_35) rfl ?_
  refine Go.callS X3 hx hZ hown (tw_19 hw) (tw_20 hw) (tw_21 hw) (tw_22 hw) (by decide) (tw_22 hw) (tw_21 hw) (au_32 l Z a0 hw x1 kk0 p0 p1 h0 n0 Z0 P3 R_p0 R_p1) e3 (argsL := [(.ref x1), (.int 0), (.int 2)]) (rest := []) (pc' := 39) rfl (by rw [hml]; rfl) (lenOf pd_8 rfl) rfl rfl (W := 0) (Nat.le_of_eq rfl) (by decide) (by decide) (by decide) (by decide) (hb hby d3_36) ?_
  intro v4 T4 L4 q4 X4
  obtain ⟨h4, e4⟩ : ∃ z, T4.heap = z := ⟨_, rfl⟩
  rw [e4] at q4
  obtain ⟨z4_0, z4_1, b4_0, k4_0, d4_0, d4_1, rfl, N4, K4, s4_0, F4_0, F4_1⟩ := q4
  show Go _ _ _ _ (T4.setTop (mkF m 39 #[.val (.ref x0), .val (.ref x1), .val (.int 0), .val (.int 2), .val .null, .unset] [(.ref b4_0)]))
  refine Go.astore X4 hx (pc' := 41) rfl (hb hby d3_39) (Ls' := #[.val (.ref x0), .val (.ref x1), .val (.int 0), .val (.int 2), .val .null, .val (.ref b4_0)]) rfl rfl ?_
  refine Go.aloadN X4 hx (pc' := 42) rfl (hb hby d3_41) rfl rfl ?_
  refine Go.aload X4 hx (pc' := 44) rfl (hb hby d3_42) rfl rfl ?_
  refine Go.iloadN X4 hx (pc' := 45) rfl (hb hby d3_44) rfl ?_
  have r5 : -128 ≤ z4_0.toInt ∧ z4_0.toInt ≤ 127 := own_ri2b d4_0
  have r6 : -128 ≤ z4_1.toInt ∧ z4_1.toInt ≤ 127 := own_ri2b d4_1
  have Kp8 : Keep h0 h4 [x0] := ((Keep.refl h0 [x0]).trans K4 all0)
  have Zn7 : n0 ≤ h4.size := Nat.le_trans Z0 Kp8.1
  refine Go.callS X4 hx hZ hown (tw_27 hw) (tw_28 hw) (tw_21 hw) (tw_29 hw) (by decide) (tw_29 hw) (tw_21 hw) (au_34 l Z a0 hw b4_0 k4_0 z4_0 z4_1 h4 n0 Zn7 F4_0) e4 (argsL := [(.ref b4_0), (.int 2)]) (rest := [(.ref x0)]) (pc' := 48) rfl (by rw [hml]; rfl) (lenOf pd_9 rfl) rfl rfl (W := 1) (Nat.le_of_eq rfl) (by decide) (by decide) (by decide) (by decide) (hb hby d3_45) ?_
  intro v9 T9 L9 q9 X9
  obtain ⟨rfl, N9, e9⟩ := q9
  show Go _ _ _ _ (T9.setTop (mkF m 48 #[.val (.ref x0), .val (.ref x1), .val (.int 0), .val (.int 2), .val .null, .val (.ref b4_0)] [(.int 0), (.ref x0)]))
  have fk10 : Fld Z h4 x0 "java/lang/String" "coder" "B" (.int 0) := (P1.keep K4 nin0)
  have fk11 : Exa Z h4 x0 "java/lang/String" := (P0.keep K4)
  refine Go.putFN X9 hx hZ hown (tw_30 hw) Via.refl e9 fk10 fk11 (Or.inr ⟨(tw_31 hw), rfl, hnm⟩) (tw_5 hw) (ty := .byte) (v' := (.int 0)) (by decide) (by decide) (by decide) (pc' := 51) rfl (hb hby d3_48) ?_
  intro T12 h12 e12 W12 F12 X12
  have N12 := Fr.snoc X12 (Fr.app (Fr.app (Fr.nil n0) N4) N9) g_x0
  refine Go.aloadN X12 hx (pc' := 52) rfl (hb hby d3_51) rfl rfl ?_
  refine Go.aload X12 hx (pc' := 54) rfl (hb hby d3_52) rfl rfl ?_
  have fk13 : Fld Z h12 x0 "java/lang/String" "value" "[B" .null := ((P2.keep K4 nin0).other W12 (Or.inr (slot_ne (Or.inr (tw_33 hw)) (Or.inr (tw_31 hw)) (by decide) (t := (.array .byte)) (t' := .byte) (by decide) (by decide))))
  have fk14 : Exa Z h12 x0 "java/lang/String" := (fk11.wr W12)
  refine Go.putF X12 hx hZ hown (host := "") (Or.inl (tw_32 hw)) Via.refl e12 fk13 fk14 (Or.inr ⟨(tw_33 hw), rfl, hnm⟩) (tw_5 hw) (ty := (.array .byte)) (by decide) rfl rfl (pc' := 57) rfl (hb hby d3_54) ?_
  intro T15 h15 e15 W15 F15 X15
  have N15 := Fr.snoc X15 N12 g_x0
  subst hFF
  refine Go.ret0 X15 hx hlk hret (hb hby d3_57) (by decide) (by decide) ?_
  rw [e15]
  have fk16 : Exa Z h15 x0 "java/lang/String" := (fk14.wr W15)
  have fk17 : Fld Z h15 x0 "java/lang/String" "coder" "B" (.int 0) := (F12.other W15 (Or.inr (slot_ne (Or.inr (tw_31 hw)) (Or.inr (tw_33 hw)) (by decide) (t := .byte) (t' := (.array .byte)) (by decide) (by decide))))
  have ne18 : x0 ≠ b4_0 := Nat.ne_of_lt (Nat.lt_of_lt_of_le P0.lt s4_0)
  have fk19 := ((F4_0.other W12 (Ne.symm ne18)).other W15 (Ne.symm ne18))
  have fk20 : Exa Z h15 b4_0 "[B" := ((F4_1.wr W12).wr W15)
  have Kp21 : Keep h0 h12 [x0] := (Kp8.wr W12 (Or.inl (List.mem_of_getElem? (i := 0) rfl)))
  have Kp22 : Keep h0 h15 [x0] := (Kp21.wr W15 (Or.inl (List.mem_of_getElem? (i := 0) rfl)))
  have sz23 : h0.size ≤ b4_0 := Nat.le_trans (Keep.refl h0 [x0]).1 s4_0
  exact ⟨z4_0, z4_1, b4_0, k4_0, d4_0, d4_1, rfl, N15, Kp22, sz23, fk16, fk17, F15, fk19, fk20⟩
-- java/lang/String.init
set_option maxRecDepth 65536 in
set_option maxHeartbeats 4000000 in
theorem au_30 (l : Launch) (Z : State) (a0 : Array Value) (hw : ∀ d ∈ tables_1, d.before a0 Z = true) (x0 : Addr) (x1 : Addr) (kk0 : ClassId) (p0 : Int32) (p1 : Int32) (gz1 : Int32) (gv5 : Value) (h0 : Heap) (n0 : Nat) (Z0 : n0 ≤ h0.size) (O0 : Old Z n0 h0) (G : Glob Z gz1 gv5) (P0 : Exa Z h0 x0 "java/lang/String") (P1 : Fld Z h0 x0 "java/lang/String" "coder" "B" (.int 0)) (P2 : Fld Z h0 x0 "java/lang/String" "value" "[B" .null) (P3 : Arv Z h0 x1 kk0 .char (2 : Int32) [(.int p0), (.int p1)] (.int 0)) (R_p0 : 0 ≤ p0.toInt ∧ p0.toInt ≤ 255) (R_p1 : 0 ≤ p1.toInt ∧ p1.toInt ≤ 255) (g_x0 : n0 ≤ x0) :
    Ctr l Z (⟨"java/lang/String", "<init>", "([C)V"⟩ : MethodName) jdk_42_method_3_code 2 none ({ frames := 3, cells := 1, slots := 2, locals := 52 } : Room) #[(.ref x0), (.ref x1)] h0 (fun v h L => ∃ (z1_0 : Int32) (z1_1 : Int32) (b1_0 : Addr) (k1_0 : ClassId), (p0.toInt8.toInt32) = z1_0 ∧ (p1.toInt8.toInt32) = z1_1 ∧ v = none ∧ Fr n0 L ∧ Keep h0 h [x0] ∧ h0.size ≤ b1_0 ∧ Exa Z h x0 "java/lang/String" ∧ Fld Z h x0 "java/lang/String" "coder" "B" (.int 0) ∧ Fld Z h x0 "java/lang/String" "value" "[B" (.ref b1_0) ∧ Arv Z h b1_0 k1_0 .byte (2 : Int32) [(.int z1_0), (.int z1_1)] (.int 0) ∧ Exa Z h b1_0 "[B") := by
  refine Ctr.of (plainFor_of_name pn_c0) ?_
  intro p e s m below meth c T0 hx hZ hby hml hown hnm hret hlk e0 es X0
  refine Go.cast (ef_2_RR m x0 x1) ?_
  generalize hFF : EndN s _ _ _ = FF
  refine Go.aloadN X0 hx (pc' := 1) rfl (hb hby d2_0) rfl rfl ?_
  refine Go.aloadN X0 hx (pc' := 2) rfl (hb hby d2_1) rfl rfl ?_
  refine Go.iconst X0 hx (pc' := 3) rfl (hb hby d2_2) (v := (0 : Int32)) rfl ?_
  refine Go.aloadN X0 hx (pc' := 4) rfl (hb hby d2_3) rfl rfl ?_
  refine Go.arraylength X0 hx hZ e0 P3 (pc' := 5) rfl (hb hby d2_4) ?_
  refine Go.anull X0 hx (pc' := 6) rfl (hb hby d2_5) ?_
  refine Go.callN X0 hx hZ hown rfl (tw_11 hw) (tw_12 hw) (tw_14 hw) (by decide) (tw_14 hw) (tw_6 hw) (au_31 l Z a0 hw x0 x1 kk0 p0 p1 gz1 gv5 h0 n0 Z0 O0 G P0 P1 P2 P3 R_p0 R_p1 g_x0) e0 (a := x0) (argsL := [(.ref x1), (.int 0), (.int 2), .null]) (rest := []) (pc' := 9) rfl (by rw [hml]; rfl) (lenOf pd_0 rfl) rfl rfl (W := 0) (Nat.le_of_eq rfl) (by decide) (by decide) (by decide) (by decide) (hb hby d2_6) ?_
  intro v1 T1 L1 q1 X1
  obtain ⟨h1, e1⟩ : ∃ z, T1.heap = z := ⟨_, rfl⟩
  rw [e1] at q1
  obtain ⟨z1_0, z1_1, b1_0, k1_0, d1_0, d1_1, rfl, N1, K1, s1_0, F1_0, F1_1, F1_2, F1_3, F1_4⟩ := q1
  show Go _ _ _ _ (T1.setTop (mkF m 9 #[.val (.ref x0), .val (.ref x1)] []))
  subst hFF
  refine Go.ret0 X1 hx hlk hret (hb hby d2_9) (by decide) (by decide) ?_
  rw [e1]
  have Kp2 : Keep h0 h1 [x0] := ((Keep.refl h0 [x0]).trans K1 (allS (Or.inl (List.mem_of_getElem? (i := 0) rfl)) all0))
  have sz3 : h0.size ≤ b1_0 := Nat.le_trans (Keep.refl h0 [x0]).1 s1_0
  exact ⟨z1_0, z1_1, b1_0, k1_0, d1_0, d1_1, rfl, (Fr.app (Fr.nil n0) N1), Kp2, sz3, F1_0, F1_1, F1_2, F1_3, F1_4⟩
theorem d1_50 : decode method_2_code 50 = .ok (.invokespecial 9, 3) := by decide +kernel
theorem d1_53 : decode method_2_code 53 = .ok (.areturn, 1) := by decide +kernel
-- com/example/tough_filter/toughfilter/KeywordEqualsPinLaw.word
set_option maxRecDepth 65536 in
set_option maxHeartbeats 4000000 in
theorem au_29 (l : Launch) (Z : State) (a0 : Array Value) (hw : ∀ d ∈ tables_1, d.before a0 Z = true) (p0 : Int32) (p1 : Int32) (gz1 : Int32) (gv5 : Value) (h0 : Heap) (n0 : Nat) (Z0 : n0 ≤ h0.size) (O0 : Old Z n0 h0) (G : Glob Z gz1 gv5) (R_p0 : 0 ≤ p0.toInt ∧ p0.toInt ≤ 255) (R_p1 : 0 ≤ p1.toInt ∧ p1.toInt ≤ 255) :
    Ctr l Z (⟨"com/example/tough_filter/toughfilter/KeywordEqualsPinLaw", "word", "(ICC)Ljava/lang/String;"⟩ : MethodName) method_2_code 3 (some (.object "java/lang/String")) ({ frames := 4, cells := 3, slots := 8, locals := 66 } : Room) #[(.int 2), (.int p0), (.int p1)] h0 (fun v h L => ∃ (z23_0 : Int32) (z23_1 : Int32) (b1 : Addr) (b23_0 : Addr) (k23_0 : ClassId), (p0.toInt8.toInt32) = z23_0 ∧ (p1.toInt8.toInt32) = z23_1 ∧ v = some (.ref b1) ∧ Fr n0 L ∧ Keep h0 h [] ∧ h0.size ≤ b1 ∧ h0.size ≤ b23_0 ∧ b23_0 ≠ b1 ∧ Exa Z h b1 "java/lang/String" ∧ Fld Z h b1 "java/lang/String" "coder" "B" (.int 0) ∧ Fld Z h b1 "java/lang/String" "value" "[B" (.ref b23_0) ∧ Arv Z h b23_0 k23_0 .byte (2 : Int32) [(.int z23_0), (.int z23_1)] (.int 0) ∧ Exa Z h b23_0 "[B") := by
  refine Ctr.of (plainFor_of_name pn_c1) ?_
  intro p e s m below meth c T0 hx hZ hby hml hown hnm hret hlk e0 es X0
  refine Go.cast (ef_1_III m (2 : Int32) p0 p1) ?_
  generalize hFF : EndN s _ _ _ = FF
  refine Go.iloadN X0 hx (pc' := 1) rfl (hb hby d1_0) rfl ?_
  refine Go.ifYes X0 hx (pc' := 15) (hb hby d1_1) (by decide) (by decide) (by decide) ?_
  refine Go.iloadN X0 hx (pc' := 16) rfl (hb hby d1_15) rfl ?_
  refine Go.iconst X0 hx (pc' := 17) rfl (hb hby d1_16) (v := (1 : Int32)) rfl ?_
  refine Go.icmpYes X0 hx (pc' := 35) (hb hby d1_17) (by decide) (by decide) (by decide) ?_
  refine Go.new X0 hx hZ hown (tw_4 hw) (tw_5 hw) (tw_6 hw) e0 (by decide) (by decide) (pc' := 38) rfl (hb hby d1_35) ?_
  intro T1 h1 b1 e1 E1 g1 A1 D1 X1
  have b1_coder : Fld Z h1 b1 "java/lang/String" "coder" "B" (.int 0) := D1 (Or.inr (tw_31 hw)) (ty := .byte) (by decide)
  have b1_value : Fld Z h1 b1 "java/lang/String" "value" "[B" .null := D1 (Or.inr (tw_33 hw)) (ty := (.array .byte)) (by decide)
  refine Go.dup X1 hx (pc' := 39) rfl (hb hby d1_38) rfl ?_
  refine Go.iconst X1 hx (pc' := 40) rfl (hb hby d1_39) (v := (2 : Int32)) rfl ?_
  refine Go.newarray X1 hx hZ (ty := .char) rfl (tw_7 hw) e1 (by decide) (cap := 2) (by decide) (by decide) (by decide) (by decide) (ad := "[C") (by decide) 2 (pc' := 42) rfl (hb hby d1_40) ?_
  intro T2 h2 b2 k2 e2 E2 g2 V2 A2 X2
  have V2' : Arv Z h2 b2 k2 .char (2 : Int32) [(.int 0), (.int 0)] (.int 0) := V2
  refine Go.dup X2 hx (pc' := 43) rfl (hb hby d1_42) rfl ?_
  refine Go.iconst X2 hx (pc' := 44) rfl (hb hby d1_43) (v := (0 : Int32)) rfl ?_
  refine Go.iloadN X2 hx (pc' := 45) rfl (hb hby d1_44) rfl ?_
  have Kp5 : Keep h0 h1 [] := ((Keep.refl h0 []).ext E1)
  have sz4 : h0.size ≤ b2 := Nat.le_trans Kp5.1 (Nat.le_of_eq g2.symm)
  have ge3 : n0 ≤ b2 := Nat.le_trans Z0 sz4
  refine Go.castore X2 hx hZ e2 V2' p0 (own_nar_char R_p0 (by decide) (by decide)) ⟨by decide, by decide⟩ 0 rfl (Nat.le_of_ble_eq_true rfl) (pc' := 46) rfl (hb hby d1_45) ?_
  intro T6 h6 e6 W6 V6 X6
  have N6 := Fr.snoc X6 (Fr.nil n0) ge3
  refine Go.dup X6 hx (pc' := 47) rfl (hb hby d1_46) rfl ?_
  refine Go.iconst X6 hx (pc' := 48) rfl (hb hby d1_47) (v := (1 : Int32)) rfl ?_
  refine Go.iloadN X6 hx (pc' := 49) rfl (hb hby d1_48) rfl ?_
  refine Go.castore X6 hx hZ e6 V6 p1 (own_nar_char R_p1 (by decide) (by decide)) ⟨by decide, by decide⟩ 1 rfl (Nat.le_of_ble_eq_true rfl) (pc' := 50) rfl (hb hby d1_49) ?_
  intro T7 h7 e7 W7 V7 X7
  have N7 := Fr.snoc X7 N6 ge3
  have Kp9 : Keep h0 h2 [] := (Kp5.ext E2)
  have Kp10 : Keep h0 h6 [] := (Kp9.wr W6 (Or.inr sz4))
  have Kp11 : Keep h0 h7 [] := (Kp10.wr W7 (Or.inr sz4))
  have Zn8 : n0 ≤ h7.size := Nat.le_trans Z0 Kp11.1
  have O12 := (O0.ext E1)
  have O13 := (O12.ext E2)
  have O14 := (O13.wr W6 ge3)
  have O15 := (O14.wr W7 ge3)
  have fk16 : Exa Z h7 b1 "java/lang/String" := (((A1.ext E2).wr W6).wr W7)
  have ne17 : b1 ≠ b2 := Nat.ne_of_lt (Nat.lt_of_lt_of_le A1.lt (Nat.le_of_eq g2.symm))
  have fk18 : Fld Z h7 b1 "java/lang/String" "coder" "B" (.int 0) := (((b1_coder.ext E2).other W6 (Or.inl ne17)).other W7 (Or.inl ne17))
  have fk19 : Fld Z h7 b1 "java/lang/String" "value" "[B" .null := (((b1_value.ext E2).other W6 (Or.inl ne17)).other W7 (Or.inl ne17))
  have V20 : Arv Z h7 b2 k2 .char (2 : Int32) [(.int p0), (.int p1)] (.int 0) := V7
  have sz22 : h0.size ≤ b1 := Nat.le_trans (Keep.refl h0 []).1 (Nat.le_of_eq g1.symm)
  have ge21 : n0 ≤ b1 := Nat.le_trans Z0 sz22
  refine Go.callN X7 hx hZ hown rfl (tw_8 hw) (tw_9 hw) (tw_10 hw) (by decide) (tw_10 hw) (tw_6 hw) (au_30 l Z a0 hw b1 b2 k2 p0 p1 gz1 gv5 h7 n0 Zn8 O15 G fk16 fk18 fk19 V20 R_p0 R_p1 ge21) e7 (a := b1) (argsL := [(.ref b2)]) (rest := [(.ref b1)]) (pc' := 53) rfl (by rw [hml]; rfl) (lenOf pd_1 rfl) rfl rfl (W := 1) (Nat.le_of_eq rfl) (by decide) (by decide) (by decide) (by decide) (hb hby d1_50) ?_
  intro v23 T23 L23 q23 X23
  obtain ⟨h23, e23⟩ : ∃ z, T23.heap = z := ⟨_, rfl⟩
  rw [e23] at q23
  obtain ⟨z23_0, z23_1, b23_0, k23_0, d23_0, d23_1, rfl, N23, K23, s23_0, F23_0, F23_1, F23_2, F23_3, F23_4⟩ := q23
  show Go _ _ _ _ (T23.setTop (mkF m 53 #[.val (.int 2), .val (.int p0), .val (.int p1)] [(.ref b1)]))
  subst hFF
  refine Go.retR X23 hx hlk (t := (.object "java/lang/String")) hret rfl rfl (hb hby d1_53) (by decide) (by decide) ?_
  rw [e23]
  have Kp24 : Keep h0 h23 [] := (Kp11.trans K23 (allS (Or.inr sz22) all0))
  have sz25 : h0.size ≤ b23_0 := Nat.le_trans Kp11.1 s23_0
  have ne26 : b1 ≠ b23_0 := Nat.ne_of_lt (Nat.lt_of_lt_of_le fk16.lt s23_0)
  exact ⟨z23_0, z23_1, b1, b23_0, k23_0, d23_0, d23_1, rfl, (Fr.app N7 N23), Kp24, sz22, sz25, (Ne.symm ne26), F23_0, F23_1, F23_2, F23_3, F23_4⟩
-- com/example/tough_filter/toughfilter/Expression$Keyword.init
set_option maxRecDepth 65536 in
set_option maxHeartbeats 4000000 in
theorem au_35 (l : Launch) (Z : State) (a0 : Array Value) (hw : ∀ d ∈ tables_1, d.before a0 Z = true) (x0 : Addr) (x1 : Addr) (p0 : Int32) (h0 : Heap) (n0 : Nat) (Z0 : n0 ≤ h0.size) (P0 : Exa Z h0 x0 "com/example/tough_filter/toughfilter/Expression$Keyword") (P1 : Fld Z h0 x0 "com/example/tough_filter/toughfilter/Expression$Keyword" "pinyin" "Z" (.int 0)) (P2 : Fld Z h0 x0 "com/example/tough_filter/toughfilter/Expression$Keyword" "word" "Ljava/lang/String;" .null) (R_p0 : 0 ≤ p0.toInt ∧ p0.toInt ≤ 1) (g_x0 : n0 ≤ x0) :
    Ctr l Z (⟨"com/example/tough_filter/toughfilter/Expression$Keyword", "<init>", "(Ljava/lang/String;Z)V"⟩ : MethodName) prog_7_method_1_code 3 none ({ frames := 2, cells := 0, slots := 0, locals := 24 } : Room) #[(.ref x0), (.ref x1), (.int p0)] h0 (fun v h L => v = none ∧ Fr n0 L ∧ Keep h0 h [x0] ∧ Exa Z h x0 "com/example/tough_filter/toughfilter/Expression$Keyword" ∧ Fld Z h x0 "com/example/tough_filter/toughfilter/Expression$Keyword" "pinyin" "Z" (.int p0) ∧ Fld Z h x0 "com/example/tough_filter/toughfilter/Expression$Keyword" "word" "Ljava/lang/String;" (.ref x1)) := by
  refine Ctr.of (plainFor_of_name pn_c3) ?_
  intro p e s m below meth c T0 hx hZ hby hml hown hnm hret hlk e0 es X0
  refine Go.cast (ef_8_RRI m x0 x1 p0) ?_
  generalize hFF : EndN s _ _ _ = FF
  refine Go.aloadN X0 hx (pc' := 1) rfl (hb hby d8_0) rfl rfl ?_
  refine Go.callN X0 hx hZ hown rfl (tw_40 hw) (tw_41 hw) (tw_44 hw) (by decide) (tw_44 hw) (tw_43 hw) (au_8 l Z a0 hw x0 h0 n0 Z0) e0 (a := x0) (argsL := []) (rest := []) (pc' := 4) rfl (by rw [hml]; rfl) (lenOf pd_3 rfl) rfl rfl (W := 0) (Nat.le_of_eq rfl) (by decide) (by decide) (by decide) (by decide) (hb hby d8_1) ?_
  intro v1 T1 L1 q1 X1
  obtain ⟨rfl, N1, e1⟩ := q1
  show Go _ _ _ _ (T1.setTop (mkF m 4 #[.val (.ref x0), .val (.ref x1), .val (.int p0)] []))
  refine Go.aloadN X1 hx (pc' := 5) rfl (hb hby d8_4) rfl rfl ?_
  refine Go.aloadN X1 hx (pc' := 6) rfl (hb hby d8_5) rfl rfl ?_
  refine Go.putF X1 hx hZ hown (host := "") (Or.inl (tw_46 hw)) Via.refl e1 P2 P0 (Or.inr ⟨(tw_47 hw), rfl, hnm⟩) (tw_35 hw) (ty := (.object "java/lang/String")) (by decide) rfl rfl (pc' := 9) rfl (hb hby d8_6) ?_
  intro T2 h2 e2 W2 F2 X2
  have N2 := Fr.snoc X2 (Fr.app (Fr.nil n0) N1) g_x0
  refine Go.aloadN X2 hx (pc' := 10) rfl (hb hby d8_9) rfl rfl ?_
  refine Go.iloadN X2 hx (pc' := 11) rfl (hb hby d8_10) rfl ?_
  have fk3 : Fld Z h2 x0 "com/example/tough_filter/toughfilter/Expression$Keyword" "pinyin" "Z" (.int 0) := (P1.other W2 (Or.inr (slot_ne (Or.inr (tw_49 hw)) (Or.inr (tw_47 hw)) (by decide) (t := .boolean) (t' := (.object "java/lang/String")) (by decide) (by decide))))
  have fk4 : Exa Z h2 x0 "com/example/tough_filter/toughfilter/Expression$Keyword" := (P0.wr W2)
  refine Go.putFN X2 hx hZ hown (tw_48 hw) Via.refl e2 fk3 fk4 (Or.inr ⟨(tw_49 hw), rfl, hnm⟩) (tw_35 hw) (ty := .boolean) (v' := (.int p0)) (by decide) (own_narv_boolean (own_nar_boolean R_p0 (by decide) (by decide))) (own_fits_boolean (own_nar_boolean R_p0 (by decide) (by decide))) (pc' := 14) rfl (hb hby d8_11) ?_
  intro T5 h5 e5 W5 F5 X5
  have N5 := Fr.snoc X5 N2 g_x0
  subst hFF
  refine Go.ret0 X5 hx hlk hret (hb hby d8_14) (by decide) (by decide) ?_
  rw [e5]
  have fk6 : Exa Z h5 x0 "com/example/tough_filter/toughfilter/Expression$Keyword" := (fk4.wr W5)
  have fk7 : Fld Z h5 x0 "com/example/tough_filter/toughfilter/Expression$Keyword" "word" "Ljava/lang/String;" (.ref x1) := (F2.other W5 (Or.inr (slot_ne (Or.inr (tw_47 hw)) (Or.inr (tw_49 hw)) (by decide) (t := (.object "java/lang/String")) (t' := .boolean) (by decide) (by decide))))
  have Kp8 : Keep h0 h2 [x0] := ((Keep.refl h0 [x0]).wr W2 (Or.inl (List.mem_of_getElem? (i := 0) rfl)))
  have Kp9 : Keep h0 h5 [x0] := (Kp8.wr W5 (Or.inl (List.mem_of_getElem? (i := 0) rfl)))
  exact ⟨rfl, N5, Kp9, fk6, F5, fk7⟩
-- java/lang/StringLatin1.equals
set_option maxRecDepth 65536 in
set_option maxHeartbeats 4000000 in
theorem au_38 (l : Launch) (Z : State) (a0 : Array Value) (hw : ∀ d ∈ tables_1, d.before a0 Z = true) (x0 : Addr) (x1 : Addr) (kk0 : ClassId) (kk1 : ClassId) (p0 : Int32) (p1 : Int32) (h0 : Heap) (n0 : Nat) (Z0 : n0 ≤ h0.size) (P0 : Arv Z h0 x0 kk0 .byte (0 : Int32) [] (.int (0 : Int32))) (P1 : Arv Z h0 x1 kk1 .byte (2 : Int32) [(.int p0), (.int p1)] (.int 0)) :
    Ctr l Z (⟨"java/lang/StringLatin1", "equals", "([B[B)Z"⟩ : MethodName) jdk_43_method_13_code 3 (some .boolean) ({ frames := 0, cells := 0, slots := 0, locals := 0 } : Room) #[(.ref x0), (.ref x1)] h0 (fun v h L => v = some (.int 0) ∧ Fr n0 L ∧ h = h0) := by
  refine Ctr.of (plainFor_of_name pn_c4) ?_
  intro p e s m below meth c T0 hx hZ hby hml hown hnm hret hlk e0 es X0
  refine Go.cast (ef_12_RR m x0 x1) ?_
  generalize hFF : EndN s _ _ _ = FF
  refine Go.aloadN X0 hx (pc' := 1) rfl (hb hby d12_0) rfl rfl ?_
  refine Go.arraylength X0 hx hZ e0 P0 (pc' := 2) rfl (hb hby d12_1) ?_
  refine Go.aloadN X0 hx (pc' := 3) rfl (hb hby d12_2) rfl rfl ?_
  refine Go.arraylength X0 hx hZ e0 P1 (pc' := 4) rfl (hb hby d12_3) ?_
  refine Go.icmpYes X0 hx (pc' := 34) (hb hby d12_4) (by decide) (by decide) (by decide) ?_
  refine Go.iconst X0 hx (pc' := 35) rfl (hb hby d12_34) (v := (0 : Int32)) rfl ?_
  subst hFF
  refine Go.retN X0 hx hlk (t := .boolean) hret (by simp) (hb hby d12_35) (by decide) (by decide) ?_
  rw [e0]
  exact ⟨(congrArg (fun z => some (Value.int z)) (by decide : nar .boolean (0 : Int32) = (0 : Int32))), (Fr.nil n0), rfl⟩
-- java/lang/String.equals
set_option maxRecDepth 65536 in
set_option maxHeartbeats 4000000 in
theorem au_37 (l : Launch) (Z : State) (a0 : Array Value) (hw : ∀ d ∈ tables_1, d.before a0 Z = true) (x0 : Addr) (x1 : Addr) (x2 : Addr) (x3 : Addr) (kk0 : ClassId) (kk1 : ClassId) (p0 : Int32) (p1 : Int32) (gz1 : Int32) (gv5 : Value) (h0 : Heap) (n0 : Nat) (Z0 : n0 ≤ h0.size) (O0 : Old Z n0 h0) (G : Glob Z gz1 gv5) (P1 : Fld Z h0 x0 "java/lang/String" "coder" "B" (.int 0)) (P2 : Fld Z h0 x0 "java/lang/String" "value" "[B" (.ref x2)) (P3 : Exa Z h0 x1 "java/lang/String") (P4 : Fld Z h0 x1 "java/lang/String" "coder" "B" (.int 0)) (P5 : Fld Z h0 x1 "java/lang/String" "value" "[B" (.ref x3)) (P6 : Arv Z h0 x2 kk0 .byte (0 : Int32) [] (.int (0 : Int32))) (P7 : Arv Z h0 x3 kk1 .byte (2 : Int32) [(.int p0), (.int p1)] (.int 0)) (ne_x0_x1 : x0 ≠ x1) :
    Ctr l Z (⟨"java/lang/String", "equals", "(Ljava/lang/Object;)Z"⟩ : MethodName) jdk_42_method_66_code 3 (some .boolean) ({ frames := 1, cells := 0, slots := 0, locals := 14 } : Room) #[(.ref x0), (.ref x1)] h0 (fun v h L => v = some (.int 0) ∧ Fr n0 L ∧ h = h0) := by
  refine Ctr.of (plainFor_of_name pn_c0) ?_
  intro p e s m below meth c T0 hx hZ hby hml hown hnm hret hlk e0 es X0
  have G' := G
  obtain ⟨G0, -, G2, -⟩ := G'
  refine Go.cast (ef_11_RR m x0 x1) ?_
  generalize hFF : EndN s _ _ _ = FF
  refine Go.aloadN X0 hx (pc' := 1) rfl (hb hby d11_0) rfl rfl ?_
  refine Go.aloadN X0 hx (pc' := 2) rfl (hb hby d11_1) rfl rfl ?_
  refine Go.acmp X0 hx (pc' := 7) (same := false) (hb hby d11_2) rfl rfl (decide_eq_false (fun q => ne_x0_x1 (Value.ref.inj q))) (by decide) (by decide) ?_
  refine Go.aloadN X0 hx (pc' := 8) rfl (hb hby d11_7) rfl rfl ?_
  refine Go.instY X0 hx hZ hown (tw_65 hw) e0 (Ins.self P3) (pc' := 11) rfl (hb hby d11_8) ?_
  intro T1 e1 X1
  refine Go.ifNo X1 hx (pc' := 14) rfl (hb hby d11_11) (by decide) ?_
  refine Go.aloadN X1 hx (pc' := 15) rfl (hb hby d11_14) rfl rfl ?_
  refine Go.castY X1 hx hZ hown (tw_65 hw) e1 (Ins.self P3) (pc' := 18) rfl (hb hby d11_15) ?_
  intro T2 e2 X2
  refine Go.astoreN X2 hx (pc' := 19) rfl (hb hby d11_18) (Ls' := #[.val (.ref x0), .val (.ref x1), .val (.ref x1)]) rfl rfl ?_
  have fk3 : Sta Z h0 "java/lang/String" "COMPACT_STRINGS" "Z" (.int gz1) := G0.ext O0.2
  refine Go.getS X2 hx hZ hown (host := "") (Or.inl (tw_18 hw)) Via.refl e2 fk3 (pc' := 22) rfl (hb hby d11_19) ?_
  intro T4 e4 X4
  refine Go.ifNo X4 hx (pc' := 25) rfl (hb hby d11_22) (feq G2).1 ?_
  refine Go.aloadN X4 hx (pc' := 26) rfl (hb hby d11_25) rfl rfl ?_
  refine Go.getF X4 hx hZ hown (host := "") (Or.inl (tw_30 hw)) Via.refl e4 P1 (pc' := 29) rfl (hb hby d11_26) ?_
  intro T5 e5 X5
  refine Go.aloadN X5 hx (pc' := 30) rfl (hb hby d11_29) rfl rfl ?_
  refine Go.getF X5 hx hZ hown (host := "") (Or.inl (tw_30 hw)) Via.refl e5 P4 (pc' := 33) rfl (hb hby d11_30) ?_
  intro T6 e6 X6
  refine Go.icmpNo X6 hx (pc' := 36) rfl (hb hby d11_33) (by decide) ?_
  refine Go.aloadN X6 hx (pc' := 37) rfl (hb hby d11_36) rfl rfl ?_
  refine Go.getF X6 hx hZ hown (host := "") (Or.inl (tw_32 hw)) Via.refl e6 P2 (pc' := 40) rfl (hb hby d11_37) ?_
  intro T7 e7 X7
  refine Go.aloadN X7 hx (pc' := 41) rfl (hb hby d11_40) rfl rfl ?_
  refine Go.getF X7 hx hZ hown (host := "") (Or.inl (tw_32 hw)) Via.refl e7 P5 (pc' := 44) rfl (hb hby d11_41) ?_
  intro T8 e8 X8
  refine Go.callS X8 hx hZ hown (tw_66 hw) (tw_67 hw) (tw_68 hw) (tw_69 hw) (by decide) (tw_69 hw) (tw_68 hw) (au_38 l Z a0 hw x2 x3 kk0 kk1 p0 p1 h0 n0 Z0 P6 P7) e8 (argsL := [(.ref x2), (.ref x3)]) (rest := []) (pc' := 47) rfl (by rw [hml]; rfl) (lenOf pd_6 rfl) rfl rfl (W := 0) (Nat.le_of_eq rfl) (by decide) (by decide) (by decide) (by decide) (hb hby d11_44) ?_
  intro v9 T9 L9 q9 X9
  obtain ⟨rfl, N9, e9⟩ := q9
  show Go _ _ _ _ (T9.setTop (mkF m 47 #[.val (.ref x0), .val (.ref x1), .val (.ref x1)] [(.int 0)]))
  refine Go.ifYes X9 hx (pc' := 54) (hb hby d11_47) (by decide) (by decide) (by decide) ?_
  refine Go.iconst X9 hx (pc' := 55) rfl (hb hby d11_54) (v := (0 : Int32)) rfl ?_
  subst hFF
  refine Go.retN X9 hx hlk (t := .boolean) hret (by simp) (hb hby d11_55) (by decide) (by decide) ?_
  rw [e9]
  exact ⟨(congrArg (fun z => some (Value.int z)) (by decide : nar .boolean (0 : Int32) = (0 : Int32))), (Fr.app (Fr.nil n0) N9), rfl⟩
-- com/example/tough_filter/toughfilter/Expression$Keyword.equals
set_option maxRecDepth 65536 in
set_option maxHeartbeats 4000000 in
theorem au_36 (l : Launch) (Z : State) (a0 : Array Value) (hw : ∀ d ∈ tables_1, d.before a0 Z = true) (x0 : Addr) (x1 : Addr) (p0 : Int32) (x2 : Addr) (p1 : Int32) (x3 : Addr) (x4 : Addr) (x5 : Addr) (kk0 : ClassId) (kk1 : ClassId) (p2 : Int32) (p3 : Int32) (gz1 : Int32) (gv5 : Value) (h0 : Heap) (n0 : Nat) (Z0 : n0 ≤ h0.size) (O0 : Old Z n0 h0) (G : Glob Z gz1 gv5) (P1 : Fld Z h0 x0 "com/example/tough_filter/toughfilter/Expression$Keyword" "pinyin" "Z" (.int p0)) (P2 : Fld Z h0 x0 "com/example/tough_filter/toughfilter/Expression$Keyword" "word" "Ljava/lang/String;" (.ref x2)) (P3 : Exa Z h0 x1 "com/example/tough_filter/toughfilter/Expression$Keyword") (P4 : Fld Z h0 x1 "com/example/tough_filter/toughfilter/Expression$Keyword" "pinyin" "Z" (.int p1)) (P5 : Fld Z h0 x1 "com/example/tough_filter/toughfilter/Expression$Keyword" "word" "Ljava/lang/String;" (.ref x3)) (P6 : Exa Z h0 x2 "java/lang/String") (P7 : Fld Z h0 x2 "java/lang/String" "coder" "B" (.int 0)) (P8 : Fld Z h0 x2 "java/lang/String" "value" "[B" (.ref x4)) (P9 : Exa Z h0 x3 "java/lang/String") (P10 : Fld Z h0 x3 "java/lang/String" "coder" "B" (.int 0)) (P11 : Fld Z h0 x3 "java/lang/String" "value" "[B" (.ref x5)) (P12 : Arv Z h0 x4 kk0 .byte (0 : Int32) [] (.int (0 : Int32))) (P13 : Arv Z h0 x5 kk1 .byte (2 : Int32) [(.int p2), (.int p3)] (.int 0)) (ne_x2_x3 : x2 ≠ x3) :
    Ctr l Z (⟨"com/example/tough_filter/toughfilter/Expression$Keyword", "equals", "(Ljava/lang/Object;)Z"⟩ : MethodName) prog_7_method_2_code 3 (some .boolean) ({ frames := 2, cells := 0, slots := 0, locals := 28 } : Room) #[(.ref x0), (.ref x1)] h0 (fun v h L => v = some (.int 0) ∧ Fr n0 L ∧ h = h0) := by
  refine Ctr.of (plainFor_of_name pn_c3) ?_
  intro p e s m below meth c T0 hx hZ hby hml hown hnm hret hlk e0 es X0
  refine Go.cast (ef_10_RR m x0 x1) ?_
  generalize hFF : EndN s _ _ _ = FF
  refine Go.aloadN X0 hx (pc' := 1) rfl (hb hby d10_0) rfl rfl ?_
  refine Go.instY X0 hx hZ hown (tw_58 hw) e0 (Ins.self P3) (pc' := 4) rfl (hb hby d10_1) ?_
  intro T1 e1 X1
  refine Go.ifNo X1 hx (pc' := 7) rfl (hb hby d10_4) (by decide) ?_
  refine Go.aloadN X1 hx (pc' := 8) rfl (hb hby d10_7) rfl rfl ?_
  refine Go.castY X1 hx hZ hown (tw_58 hw) e1 (Ins.self P3) (pc' := 11) rfl (hb hby d10_8) ?_
  intro T2 e2 X2
  refine Go.astoreN X2 hx (pc' := 12) rfl (hb hby d10_11) (Ls' := #[.val (.ref x0), .val (.ref x1), .val (.ref x1)]) rfl rfl ?_
  refine Go.aloadN X2 hx (pc' := 13) rfl (hb hby d10_12) rfl rfl ?_
  refine Go.getF X2 hx hZ hown (host := "") (Or.inl (tw_48 hw)) Via.refl e2 P1 (pc' := 16) rfl (hb hby d10_13) ?_
  intro T3 e3 X3
  refine Go.aloadN X3 hx (pc' := 17) rfl (hb hby d10_16) rfl rfl ?_
  refine Go.getF X3 hx hZ hown (host := "") (Or.inl (tw_48 hw)) Via.refl e3 P4 (pc' := 20) rfl (hb hby d10_17) ?_
  intro T4 e4 X4
  by_cases hc5 : p0 = p1
  · refine Go.icmpNo X4 hx (pc' := 23) rfl (hb hby d10_20) (teq hc5).2 ?_
    refine Go.aloadN X4 hx (pc' := 24) rfl (hb hby d10_23) rfl rfl ?_
    refine Go.getF X4 hx hZ hown (host := "") (Or.inl (tw_46 hw)) Via.refl e4 P2 (pc' := 27) rfl (hb hby d10_24) ?_
    intro T6 e6 X6
    refine Go.aloadN X6 hx (pc' := 28) rfl (hb hby d10_27) rfl rfl ?_
    refine Go.getF X6 hx hZ hown (host := "") (Or.inl (tw_46 hw)) Via.refl e6 P5 (pc' := 31) rfl (hb hby d10_28) ?_
    intro T7 e7 X7
    refine Go.callV X7 hx hZ hown (tw_60 hw) (tw_61 hw) (notFace_of_selects (args := #[]) (mvT hZ (tw_63 hw))) (tw_63 hw) (tw_62 hw) (by decide) (tw_64 hw) (tw_6 hw) (au_37 l Z a0 hw x2 x3 x4 x5 kk0 kk1 p2 p3 gz1 gv5 h0 n0 Z0 O0 G P7 P8 P9 P10 P11 P12 P13 ne_x2_x3) e7 P6 (argsL := [(.ref x3)]) (rest := []) (pc' := 34) rfl (by rw [hml]; rfl) (lenOf pd_5 rfl) rfl rfl (W := 0) (Nat.le_of_eq rfl) (by decide) (by decide) (by decide) (by decide) (hb hby d10_31) ?_
    intro v8 T8 L8 q8 X8
    obtain ⟨rfl, N8, e8⟩ := q8
    show Go _ _ _ _ (T8.setTop (mkF m 34 #[.val (.ref x0), .val (.ref x1), .val (.ref x1)] [(.int 0)]))
    refine Go.ifYes X8 hx (pc' := 41) (hb hby d10_34) (by decide) (by decide) (by decide) ?_
    refine Go.iconst X8 hx (pc' := 42) rfl (hb hby d10_41) (v := (0 : Int32)) rfl ?_
    subst hFF
    refine Go.retN X8 hx hlk (t := .boolean) hret (by simp) (hb hby d10_42) (by decide) (by decide) ?_
    rw [e8]
    exact ⟨(congrArg (fun z => some (Value.int z)) (by decide : nar .boolean (0 : Int32) = (0 : Int32))), (Fr.app (Fr.nil n0) N8), rfl⟩
  · refine Go.icmpYes X4 hx (pc' := 41) (hb hby d10_20) (feq hc5).2 (by decide) (by decide) ?_
    refine Go.iconst X4 hx (pc' := 42) rfl (hb hby d10_41) (v := (0 : Int32)) rfl ?_
    subst hFF
    refine Go.retN X4 hx hlk (t := .boolean) hret (by simp) (hb hby d10_42) (by decide) (by decide) ?_
    rw [e4]
    exact ⟨(congrArg (fun z => some (Value.int z)) (by decide : nar .boolean (0 : Int32) = (0 : Int32))), (Fr.nil n0), rfl⟩
-- java/lang/StringLatin1.equals
set_option maxRecDepth 65536 in
set_option maxHeartbeats 4000000 in
theorem au_41 (l : Launch) (Z : State) (a0 : Array Value) (hw : ∀ d ∈ tables_1, d.before a0 Z = true) (x0 : Addr) (x1 : Addr) (kk0 : ClassId) (p0 : Int32) (p1 : Int32) (kk1 : ClassId) (h0 : Heap) (n0 : Nat) (Z0 : n0 ≤ h0.size) (P0 : Arv Z h0 x0 kk0 .byte (2 : Int32) [(.int p0), (.int p1)] (.int 0)) (P2 : Arv Z h0 x1 kk1 .byte (0 : Int32) [] (.int (0 : Int32))) :
    Ctr l Z (⟨"java/lang/StringLatin1", "equals", "([B[B)Z"⟩ : MethodName) jdk_43_method_13_code 3 (some .boolean) ({ frames := 0, cells := 0, slots := 0, locals := 0 } : Room) #[(.ref x0), (.ref x1)] h0 (fun v h L => v = some (.int 0) ∧ Fr n0 L ∧ h = h0) := by
  refine Ctr.of (plainFor_of_name pn_c4) ?_
  intro p e s m below meth c T0 hx hZ hby hml hown hnm hret hlk e0 es X0
  refine Go.cast (ef_12_RR m x0 x1) ?_
  generalize hFF : EndN s _ _ _ = FF
  refine Go.aloadN X0 hx (pc' := 1) rfl (hb hby d12_0) rfl rfl ?_
  refine Go.arraylength X0 hx hZ e0 P0 (pc' := 2) rfl (hb hby d12_1) ?_
  refine Go.aloadN X0 hx (pc' := 3) rfl (hb hby d12_2) rfl rfl ?_
  refine Go.arraylength X0 hx hZ e0 P2 (pc' := 4) rfl (hb hby d12_3) ?_
  refine Go.icmpYes X0 hx (pc' := 34) (hb hby d12_4) (by decide) (by decide) (by decide) ?_
  refine Go.iconst X0 hx (pc' := 35) rfl (hb hby d12_34) (v := (0 : Int32)) rfl ?_
  subst hFF
  refine Go.retN X0 hx hlk (t := .boolean) hret (by simp) (hb hby d12_35) (by decide) (by decide) ?_
  rw [e0]
  exact ⟨(congrArg (fun z => some (Value.int z)) (by decide : nar .boolean (0 : Int32) = (0 : Int32))), (Fr.nil n0), rfl⟩
-- java/lang/String.equals
set_option maxRecDepth 65536 in
set_option maxHeartbeats 4000000 in
theorem au_40 (l : Launch) (Z : State) (a0 : Array Value) (hw : ∀ d ∈ tables_1, d.before a0 Z = true) (x0 : Addr) (x1 : Addr) (x2 : Addr) (x3 : Addr) (kk0 : ClassId) (p0 : Int32) (p1 : Int32) (kk1 : ClassId) (gz1 : Int32) (gv5 : Value) (h0 : Heap) (n0 : Nat) (Z0 : n0 ≤ h0.size) (O0 : Old Z n0 h0) (G : Glob Z gz1 gv5) (P1 : Fld Z h0 x0 "java/lang/String" "coder" "B" (.int 0)) (P2 : Fld Z h0 x0 "java/lang/String" "value" "[B" (.ref x2)) (P3 : Exa Z h0 x1 "java/lang/String") (P4 : Fld Z h0 x1 "java/lang/String" "coder" "B" (.int 0)) (P5 : Fld Z h0 x1 "java/lang/String" "value" "[B" (.ref x3)) (P6 : Arv Z h0 x2 kk0 .byte (2 : Int32) [(.int p0), (.int p1)] (.int 0)) (P8 : Arv Z h0 x3 kk1 .byte (0 : Int32) [] (.int (0 : Int32))) (ne_x0_x1 : x0 ≠ x1) :
    Ctr l Z (⟨"java/lang/String", "equals", "(Ljava/lang/Object;)Z"⟩ : MethodName) jdk_42_method_66_code 3 (some .boolean) ({ frames := 1, cells := 0, slots := 0, locals := 14 } : Room) #[(.ref x0), (.ref x1)] h0 (fun v h L => v = some (.int 0) ∧ Fr n0 L ∧ h = h0) := by
  refine Ctr.of (plainFor_of_name pn_c0) ?_
  intro p e s m below meth c T0 hx hZ hby hml hown hnm hret hlk e0 es X0
  have G' := G
  obtain ⟨G0, -, G2, -⟩ := G'
  refine Go.cast (ef_11_RR m x0 x1) ?_
  generalize hFF : EndN s _ _ _ = FF
  refine Go.aloadN X0 hx (pc' := 1) rfl (hb hby d11_0) rfl rfl ?_
  refine Go.aloadN X0 hx (pc' := 2) rfl (hb hby d11_1) rfl rfl ?_
  refine Go.acmp X0 hx (pc' := 7) (same := false) (hb hby d11_2) rfl rfl (decide_eq_false (fun q => ne_x0_x1 (Value.ref.inj q))) (by decide) (by decide) ?_
  refine Go.aloadN X0 hx (pc' := 8) rfl (hb hby d11_7) rfl rfl ?_
  refine Go.instY X0 hx hZ hown (tw_65 hw) e0 (Ins.self P3) (pc' := 11) rfl (hb hby d11_8) ?_
  intro T1 e1 X1
  refine Go.ifNo X1 hx (pc' := 14) rfl (hb hby d11_11) (by decide) ?_
  refine Go.aloadN X1 hx (pc' := 15) rfl (hb hby d11_14) rfl rfl ?_
  refine Go.castY X1 hx hZ hown (tw_65 hw) e1 (Ins.self P3) (pc' := 18) rfl (hb hby d11_15) ?_
  intro T2 e2 X2
  refine Go.astoreN X2 hx (pc' := 19) rfl (hb hby d11_18) (Ls' := #[.val (.ref x0), .val (.ref x1), .val (.ref x1)]) rfl rfl ?_
  have fk3 : Sta Z h0 "java/lang/String" "COMPACT_STRINGS" "Z" (.int gz1) := G0.ext O0.2
  refine Go.getS X2 hx hZ hown (host := "") (Or.inl (tw_18 hw)) Via.refl e2 fk3 (pc' := 22) rfl (hb hby d11_19) ?_
  intro T4 e4 X4
  refine Go.ifNo X4 hx (pc' := 25) rfl (hb hby d11_22) (feq G2).1 ?_
  refine Go.aloadN X4 hx (pc' := 26) rfl (hb hby d11_25) rfl rfl ?_
  refine Go.getF X4 hx hZ hown (host := "") (Or.inl (tw_30 hw)) Via.refl e4 P1 (pc' := 29) rfl (hb hby d11_26) ?_
  intro T5 e5 X5
  refine Go.aloadN X5 hx (pc' := 30) rfl (hb hby d11_29) rfl rfl ?_
  refine Go.getF X5 hx hZ hown (host := "") (Or.inl (tw_30 hw)) Via.refl e5 P4 (pc' := 33) rfl (hb hby d11_30) ?_
  intro T6 e6 X6
  refine Go.icmpNo X6 hx (pc' := 36) rfl (hb hby d11_33) (by decide) ?_
  refine Go.aloadN X6 hx (pc' := 37) rfl (hb hby d11_36) rfl rfl ?_
  refine Go.getF X6 hx hZ hown (host := "") (Or.inl (tw_32 hw)) Via.refl e6 P2 (pc' := 40) rfl (hb hby d11_37) ?_
  intro T7 e7 X7
  refine Go.aloadN X7 hx (pc' := 41) rfl (hb hby d11_40) rfl rfl ?_
  refine Go.getF X7 hx hZ hown (host := "") (Or.inl (tw_32 hw)) Via.refl e7 P5 (pc' := 44) rfl (hb hby d11_41) ?_
  intro T8 e8 X8
  refine Go.callS X8 hx hZ hown (tw_66 hw) (tw_67 hw) (tw_68 hw) (tw_69 hw) (by decide) (tw_69 hw) (tw_68 hw) (au_41 l Z a0 hw x2 x3 kk0 p0 p1 kk1 h0 n0 Z0 P6 P8) e8 (argsL := [(.ref x2), (.ref x3)]) (rest := []) (pc' := 47) rfl (by rw [hml]; rfl) (lenOf pd_6 rfl) rfl rfl (W := 0) (Nat.le_of_eq rfl) (by decide) (by decide) (by decide) (by decide) (hb hby d11_44) ?_
  intro v9 T9 L9 q9 X9
  obtain ⟨rfl, N9, e9⟩ := q9
  show Go _ _ _ _ (T9.setTop (mkF m 47 #[.val (.ref x0), .val (.ref x1), .val (.ref x1)] [(.int 0)]))
  refine Go.ifYes X9 hx (pc' := 54) (hb hby d11_47) (by decide) (by decide) (by decide) ?_
  refine Go.iconst X9 hx (pc' := 55) rfl (hb hby d11_54) (v := (0 : Int32)) rfl ?_
  subst hFF
  refine Go.retN X9 hx hlk (t := .boolean) hret (by simp) (hb hby d11_55) (by decide) (by decide) ?_
  rw [e9]
  exact ⟨(congrArg (fun z => some (Value.int z)) (by decide : nar .boolean (0 : Int32) = (0 : Int32))), (Fr.app (Fr.nil n0) N9), rfl⟩
-- com/example/tough_filter/toughfilter/Expression$Keyword.equals
set_option maxRecDepth 65536 in
set_option maxHeartbeats 4000000 in
theorem au_39 (l : Launch) (Z : State) (a0 : Array Value) (hw : ∀ d ∈ tables_1, d.before a0 Z = true) (x0 : Addr) (x1 : Addr) (p0 : Int32) (x2 : Addr) (p1 : Int32) (x3 : Addr) (x4 : Addr) (x5 : Addr) (kk0 : ClassId) (p2 : Int32) (p3 : Int32) (kk1 : ClassId) (gz1 : Int32) (gv5 : Value) (h0 : Heap) (n0 : Nat) (Z0 : n0 ≤ h0.size) (O0 : Old Z n0 h0) (G : Glob Z gz1 gv5) (P1 : Fld Z h0 x0 "com/example/tough_filter/toughfilter/Expression$Keyword" "pinyin" "Z" (.int p0)) (P2 : Fld Z h0 x0 "com/example/tough_filter/toughfilter/Expression$Keyword" "word" "Ljava/lang/String;" (.ref x2)) (P3 : Exa Z h0 x1 "com/example/tough_filter/toughfilter/Expression$Keyword") (P4 : Fld Z h0 x1 "com/example/tough_filter/toughfilter/Expression$Keyword" "pinyin" "Z" (.int p1)) (P5 : Fld Z h0 x1 "com/example/tough_filter/toughfilter/Expression$Keyword" "word" "Ljava/lang/String;" (.ref x3)) (P6 : Exa Z h0 x2 "java/lang/String") (P7 : Fld Z h0 x2 "java/lang/String" "coder" "B" (.int 0)) (P8 : Fld Z h0 x2 "java/lang/String" "value" "[B" (.ref x4)) (P9 : Exa Z h0 x3 "java/lang/String") (P10 : Fld Z h0 x3 "java/lang/String" "coder" "B" (.int 0)) (P11 : Fld Z h0 x3 "java/lang/String" "value" "[B" (.ref x5)) (P12 : Arv Z h0 x4 kk0 .byte (2 : Int32) [(.int p2), (.int p3)] (.int 0)) (P14 : Arv Z h0 x5 kk1 .byte (0 : Int32) [] (.int (0 : Int32))) (ne_x2_x3 : x2 ≠ x3) :
    Ctr l Z (⟨"com/example/tough_filter/toughfilter/Expression$Keyword", "equals", "(Ljava/lang/Object;)Z"⟩ : MethodName) prog_7_method_2_code 3 (some .boolean) ({ frames := 2, cells := 0, slots := 0, locals := 28 } : Room) #[(.ref x0), (.ref x1)] h0 (fun v h L => v = some (.int 0) ∧ Fr n0 L ∧ h = h0) := by
  refine Ctr.of (plainFor_of_name pn_c3) ?_
  intro p e s m below meth c T0 hx hZ hby hml hown hnm hret hlk e0 es X0
  refine Go.cast (ef_10_RR m x0 x1) ?_
  generalize hFF : EndN s _ _ _ = FF
  refine Go.aloadN X0 hx (pc' := 1) rfl (hb hby d10_0) rfl rfl ?_
  refine Go.instY X0 hx hZ hown (tw_58 hw) e0 (Ins.self P3) (pc' := 4) rfl (hb hby d10_1) ?_
  intro T1 e1 X1
  refine Go.ifNo X1 hx (pc' := 7) rfl (hb hby d10_4) (by decide) ?_
  refine Go.aloadN X1 hx (pc' := 8) rfl (hb hby d10_7) rfl rfl ?_
  refine Go.castY X1 hx hZ hown (tw_58 hw) e1 (Ins.self P3) (pc' := 11) rfl (hb hby d10_8) ?_
  intro T2 e2 X2
  refine Go.astoreN X2 hx (pc' := 12) rfl (hb hby d10_11) (Ls' := #[.val (.ref x0), .val (.ref x1), .val (.ref x1)]) rfl rfl ?_
  refine Go.aloadN X2 hx (pc' := 13) rfl (hb hby d10_12) rfl rfl ?_
  refine Go.getF X2 hx hZ hown (host := "") (Or.inl (tw_48 hw)) Via.refl e2 P1 (pc' := 16) rfl (hb hby d10_13) ?_
  intro T3 e3 X3
  refine Go.aloadN X3 hx (pc' := 17) rfl (hb hby d10_16) rfl rfl ?_
  refine Go.getF X3 hx hZ hown (host := "") (Or.inl (tw_48 hw)) Via.refl e3 P4 (pc' := 20) rfl (hb hby d10_17) ?_
  intro T4 e4 X4
  by_cases hc5 : p0 = p1
  · refine Go.icmpNo X4 hx (pc' := 23) rfl (hb hby d10_20) (teq hc5).2 ?_
    refine Go.aloadN X4 hx (pc' := 24) rfl (hb hby d10_23) rfl rfl ?_
    refine Go.getF X4 hx hZ hown (host := "") (Or.inl (tw_46 hw)) Via.refl e4 P2 (pc' := 27) rfl (hb hby d10_24) ?_
    intro T6 e6 X6
    refine Go.aloadN X6 hx (pc' := 28) rfl (hb hby d10_27) rfl rfl ?_
    refine Go.getF X6 hx hZ hown (host := "") (Or.inl (tw_46 hw)) Via.refl e6 P5 (pc' := 31) rfl (hb hby d10_28) ?_
    intro T7 e7 X7
    refine Go.callV X7 hx hZ hown (tw_60 hw) (tw_61 hw) (notFace_of_selects (args := #[]) (mvT hZ (tw_63 hw))) (tw_63 hw) (tw_62 hw) (by decide) (tw_64 hw) (tw_6 hw) (au_40 l Z a0 hw x2 x3 x4 x5 kk0 p2 p3 kk1 gz1 gv5 h0 n0 Z0 O0 G P7 P8 P9 P10 P11 P12 P14 ne_x2_x3) e7 P6 (argsL := [(.ref x3)]) (rest := []) (pc' := 34) rfl (by rw [hml]; rfl) (lenOf pd_5 rfl) rfl rfl (W := 0) (Nat.le_of_eq rfl) (by decide) (by decide) (by decide) (by decide) (hb hby d10_31) ?_
    intro v8 T8 L8 q8 X8
    obtain ⟨rfl, N8, e8⟩ := q8
    show Go _ _ _ _ (T8.setTop (mkF m 34 #[.val (.ref x0), .val (.ref x1), .val (.ref x1)] [(.int 0)]))
    refine Go.ifYes X8 hx (pc' := 41) (hb hby d10_34) (by decide) (by decide) (by decide) ?_
    refine Go.iconst X8 hx (pc' := 42) rfl (hb hby d10_41) (v := (0 : Int32)) rfl ?_
    subst hFF
    refine Go.retN X8 hx hlk (t := .boolean) hret (by simp) (hb hby d10_42) (by decide) (by decide) ?_
    rw [e8]
    exact ⟨(congrArg (fun z => some (Value.int z)) (by decide : nar .boolean (0 : Int32) = (0 : Int32))), (Fr.app (Fr.nil n0) N8), rfl⟩
  · refine Go.icmpYes X4 hx (pc' := 41) (hb hby d10_20) (feq hc5).2 (by decide) (by decide) ?_
    refine Go.iconst X4 hx (pc' := 42) rfl (hb hby d10_41) (v := (0 : Int32)) rfl ?_
    subst hFF
    refine Go.retN X4 hx hlk (t := .boolean) hret (by simp) (hb hby d10_42) (by decide) (by decide) ?_
    rw [e4]
    exact ⟨(congrArg (fun z => some (Value.int z)) (by decide : nar .boolean (0 : Int32) = (0 : Int32))), (Fr.nil n0), rfl⟩
-- com/example/tough_filter/toughfilter/Expression$Keyword.equals
set_option maxRecDepth 65536 in
set_option maxHeartbeats 4000000 in
theorem au_42 (l : Launch) (Z : State) (a0 : Array Value) (hw : ∀ d ∈ tables_1, d.before a0 Z = true) (x0 : Addr) (h0 : Heap) (n0 : Nat) (Z0 : n0 ≤ h0.size) :
    Ctr l Z (⟨"com/example/tough_filter/toughfilter/Expression$Keyword", "equals", "(Ljava/lang/Object;)Z"⟩ : MethodName) prog_7_method_2_code 3 (some .boolean) ({ frames := 0, cells := 0, slots := 0, locals := 0 } : Room) #[(.ref x0), .null] h0 (fun v h L => v = some (.int 0) ∧ Fr n0 L ∧ h = h0) := by
  refine Ctr.of (plainFor_of_name pn_c3) ?_
  intro p e s m below meth c T0 hx hZ hby hml hown hnm hret hlk e0 es X0
  refine Go.cast (ef_10_RN m x0) ?_
  generalize hFF : EndN s _ _ _ = FF
  refine Go.aloadN X0 hx (pc' := 1) rfl (hb hby d10_0) rfl rfl ?_
  refine Go.step (fun t kt => X0.instanceofNull hx (g := (mkF m 1 #[.val (.ref x0), .val .null, .unset] [.null])) rfl rfl (hb hby d10_1) t kt) ?_
  show Go _ _ _ _ (T0.setTop (mkF m 4 #[.val (.ref x0), .val .null, .unset] [(.int 0)]))
  refine Go.ifYes X0 hx (pc' := 41) (hb hby d10_4) (by decide) (by decide) (by decide) ?_
  refine Go.iconst X0 hx (pc' := 42) rfl (hb hby d10_41) (v := (0 : Int32)) rfl ?_
  subst hFF
  refine Go.retN X0 hx hlk (t := .boolean) hret (by simp) (hb hby d10_42) (by decide) (by decide) ?_
  rw [e0]
  exact ⟨(congrArg (fun z => some (Value.int z)) (by decide : nar .boolean (0 : Int32) = (0 : Int32))), (Fr.nil n0), rfl⟩
-- com/example/tough_filter/toughfilter/Expression$Keyword.equals
set_option maxRecDepth 65536 in
set_option maxHeartbeats 4000000 in
theorem au_43 (l : Launch) (Z : State) (a0 : Array Value) (hw : ∀ d ∈ tables_1, d.before a0 Z = true) (x0 : Addr) (x1 : Addr) (h0 : Heap) (n0 : Nat) (Z0 : n0 ≤ h0.size) (P3 : Exa Z h0 x1 "java/lang/String") :
    Ctr l Z (⟨"com/example/tough_filter/toughfilter/Expression$Keyword", "equals", "(Ljava/lang/Object;)Z"⟩ : MethodName) prog_7_method_2_code 3 (some .boolean) ({ frames := 0, cells := 0, slots := 0, locals := 0 } : Room) #[(.ref x0), (.ref x1)] h0 (fun v h L => v = some (.int 0) ∧ Fr n0 L ∧ h = h0) := by
  refine Ctr.of (plainFor_of_name pn_c3) ?_
  intro p e s m below meth c T0 hx hZ hby hml hown hnm hret hlk e0 es X0
  refine Go.cast (ef_10_RR m x0 x1) ?_
  generalize hFF : EndN s _ _ _ = FF
  refine Go.aloadN X0 hx (pc' := 1) rfl (hb hby d10_0) rfl rfl ?_
  refine Go.instN X0 hx hZ hown (tw_58 hw) e0 P3 (own_NSno (tw_70 hw) (tw_35 hw) (NS.step (tw_70 hw) (own_NSroot (tw_71 hw) (tw_35 hw) (by decide)) (by decide)) (by decide)) (pc' := 4) rfl (hb hby d10_1) ?_
  intro T1 e1 X1
  refine Go.ifYes X1 hx (pc' := 41) (hb hby d10_4) (by decide) (by decide) (by decide) ?_
  refine Go.iconst X1 hx (pc' := 42) rfl (hb hby d10_41) (v := (0 : Int32)) rfl ?_
  subst hFF
  refine Go.retN X1 hx hlk (t := .boolean) hret (by simp) (hb hby d10_42) (by decide) (by decide) ?_
  rw [e1]
  exact ⟨(congrArg (fun z => some (Value.int z)) (by decide : nar .boolean (0 : Int32) = (0 : Int32))), (Fr.nil n0), rfl⟩
-- java/lang/String.equals
set_option maxRecDepth 65536 in
set_option maxHeartbeats 4000000 in
theorem au_45 (l : Launch) (Z : State) (a0 : Array Value) (hw : ∀ d ∈ tables_1, d.before a0 Z = true) (x0 : Addr) (h0 : Heap) (n0 : Nat) (Z0 : n0 ≤ h0.size) :
    Ctr l Z (⟨"java/lang/String", "equals", "(Ljava/lang/Object;)Z"⟩ : MethodName) jdk_42_method_66_code 3 (some .boolean) ({ frames := 0, cells := 0, slots := 0, locals := 0 } : Room) #[(.ref x0), (.ref x0)] h0 (fun v h L => v = some (.int 1) ∧ Fr n0 L ∧ h = h0) := by
  refine Ctr.of (plainFor_of_name pn_c0) ?_
  intro p e s m below meth c T0 hx hZ hby hml hown hnm hret hlk e0 es X0
  refine Go.cast (ef_11_RR m x0 x0) ?_
  generalize hFF : EndN s _ _ _ = FF
  refine Go.aloadN X0 hx (pc' := 1) rfl (hb hby d11_0) rfl rfl ?_
  refine Go.aloadN X0 hx (pc' := 2) rfl (hb hby d11_1) rfl rfl ?_
  refine Go.acmp X0 hx (pc' := 5) (same := true) (hb hby d11_2) rfl rfl (decide_eq_true rfl) (by decide) (by decide) ?_
  refine Go.iconst X0 hx (pc' := 6) rfl (hb hby d11_5) (v := (1 : Int32)) rfl ?_
  subst hFF
  refine Go.retN X0 hx hlk (t := .boolean) hret (by simp) (hb hby d11_6) (by decide) (by decide) ?_
  rw [e0]
  exact ⟨(congrArg (fun z => some (Value.int z)) (by decide : nar .boolean (1 : Int32) = (1 : Int32))), (Fr.nil n0), rfl⟩
-- com/example/tough_filter/toughfilter/Expression$Keyword.equals
set_option maxRecDepth 65536 in
set_option maxHeartbeats 4000000 in
theorem au_44 (l : Launch) (Z : State) (a0 : Array Value) (hw : ∀ d ∈ tables_1, d.before a0 Z = true) (x0 : Addr) (p0 : Int32) (x1 : Addr) (h0 : Heap) (n0 : Nat) (Z0 : n0 ≤ h0.size) (P0 : Exa Z h0 x0 "com/example/tough_filter/toughfilter/Expression$Keyword") (P1 : Fld Z h0 x0 "com/example/tough_filter/toughfilter/Expression$Keyword" "pinyin" "Z" (.int p0)) (P2 : Fld Z h0 x0 "com/example/tough_filter/toughfilter/Expression$Keyword" "word" "Ljava/lang/String;" (.ref x1)) (P3 : Exa Z h0 x1 "java/lang/String") :
    Ctr l Z (⟨"com/example/tough_filter/toughfilter/Expression$Keyword", "equals", "(Ljava/lang/Object;)Z"⟩ : MethodName) prog_7_method_2_code 3 (some .boolean) ({ frames := 1, cells := 0, slots := 0, locals := 14 } : Room) #[(.ref x0), (.ref x0)] h0 (fun v h L => v = some (.int 1) ∧ Fr n0 L ∧ h = h0) := by
  refine Ctr.of (plainFor_of_name pn_c3) ?_
  intro p e s m below meth c T0 hx hZ hby hml hown hnm hret hlk e0 es X0
  refine Go.cast (ef_10_RR m x0 x0) ?_
  generalize hFF : EndN s _ _ _ = FF
  refine Go.aloadN X0 hx (pc' := 1) rfl (hb hby d10_0) rfl rfl ?_
  refine Go.instY X0 hx hZ hown (tw_58 hw) e0 (Ins.self P0) (pc' := 4) rfl (hb hby d10_1) ?_
  intro T1 e1 X1
  refine Go.ifNo X1 hx (pc' := 7) rfl (hb hby d10_4) (by decide) ?_
  refine Go.aloadN X1 hx (pc' := 8) rfl (hb hby d10_7) rfl rfl ?_
  refine Go.castY X1 hx hZ hown (tw_58 hw) e1 (Ins.self P0) (pc' := 11) rfl (hb hby d10_8) ?_
  intro T2 e2 X2
  refine Go.astoreN X2 hx (pc' := 12) rfl (hb hby d10_11) (Ls' := #[.val (.ref x0), .val (.ref x0), .val (.ref x0)]) rfl rfl ?_
  refine Go.aloadN X2 hx (pc' := 13) rfl (hb hby d10_12) rfl rfl ?_
  refine Go.getF X2 hx hZ hown (host := "") (Or.inl (tw_48 hw)) Via.refl e2 P1 (pc' := 16) rfl (hb hby d10_13) ?_
  intro T3 e3 X3
  refine Go.aloadN X3 hx (pc' := 17) rfl (hb hby d10_16) rfl rfl ?_
  refine Go.getF X3 hx hZ hown (host := "") (Or.inl (tw_48 hw)) Via.refl e3 P1 (pc' := 20) rfl (hb hby d10_17) ?_
  intro T4 e4 X4
  refine Go.icmpNo X4 hx (pc' := 23) rfl (hb hby d10_20) (teq rfl).2 ?_
  refine Go.aloadN X4 hx (pc' := 24) rfl (hb hby d10_23) rfl rfl ?_
  refine Go.getF X4 hx hZ hown (host := "") (Or.inl (tw_46 hw)) Via.refl e4 P2 (pc' := 27) rfl (hb hby d10_24) ?_
  intro T5 e5 X5
  refine Go.aloadN X5 hx (pc' := 28) rfl (hb hby d10_27) rfl rfl ?_
  refine Go.getF X5 hx hZ hown (host := "") (Or.inl (tw_46 hw)) Via.refl e5 P2 (pc' := 31) rfl (hb hby d10_28) ?_
  intro T6 e6 X6
  refine Go.callV X6 hx hZ hown (tw_60 hw) (tw_61 hw) (notFace_of_selects (args := #[]) (mvT hZ (tw_63 hw))) (tw_63 hw) (tw_62 hw) (by decide) (tw_64 hw) (tw_6 hw) (au_45 l Z a0 hw x1 h0 n0 Z0) e6 P3 (argsL := [(.ref x1)]) (rest := []) (pc' := 34) rfl (by rw [hml]; rfl) (lenOf pd_5 rfl) rfl rfl (W := 0) (Nat.le_of_eq rfl) (by decide) (by decide) (by decide) (by decide) (hb hby d10_31) ?_
  intro v7 T7 L7 q7 X7
  obtain ⟨rfl, N7, e7⟩ := q7
  show Go _ _ _ _ (T7.setTop (mkF m 34 #[.val (.ref x0), .val (.ref x0), .val (.ref x0)] [(.int 1)]))
  refine Go.ifNo X7 hx (pc' := 37) rfl (hb hby d10_34) (by decide) ?_
  refine Go.iconst X7 hx (pc' := 38) rfl (hb hby d10_37) (v := (1 : Int32)) rfl ?_
  refine Go.goto X7 hx (pc' := 42) (hb hby d10_38) (by decide) (by decide) ?_
  subst hFF
  refine Go.retN X7 hx hlk (t := .boolean) hret (by simp) (hb hby d10_42) (by decide) (by decide) ?_
  rw [e7]
  exact ⟨(congrArg (fun z => some (Value.int z)) (by decide : nar .boolean (1 : Int32) = (1 : Int32))), (Fr.app (Fr.nil n0) N7), rfl⟩
theorem d12_15 : decode jdk_43_method_13_code 15 = .ok (.aload_n 0, 1) := by decide +kernel
theorem d12_16 : decode jdk_43_method_13_code 16 = .ok (.iload_n 2, 1) := by decide +kernel
theorem d12_17 : decode jdk_43_method_13_code 17 = .ok (.baload, 1) := by decide +kernel
theorem d12_18 : decode jdk_43_method_13_code 18 = .ok (.aload_n 1, 1) := by decide +kernel
theorem d12_19 : decode jdk_43_method_13_code 19 = .ok (.iload_n 2, 1) := by decide +kernel
theorem d12_20 : decode jdk_43_method_13_code 20 = .ok (.baload, 1) := by decide +kernel
theorem d12_21 : decode jdk_43_method_13_code 21 = .ok (.if_icmp .eq 5, 3) := by decide +kernel
theorem d12_26 : decode jdk_43_method_13_code 26 = .ok (.iinc 2 1, 3) := by decide +kernel
theorem d12_29 : decode jdk_43_method_13_code 29 = .ok (.goto (-20), 3) := by decide +kernel
theorem d12_24 : decode jdk_43_method_13_code 24 = .ok (.iconst 0, 1) := by decide +kernel
theorem d12_25 : decode jdk_43_method_13_code 25 = .ok (.ireturn, 1) := by decide +kernel
-- java/lang/StringLatin1.equals
set_option maxRecDepth 65536 in
set_option maxHeartbeats 4000000 in
theorem au_48 (l : Launch) (Z : State) (a0 : Array Value) (hw : ∀ d ∈ tables_1, d.before a0 Z = true) (x0 : Addr) (x1 : Addr) (kk0 : ClassId) (p0 : Int32) (kk1 : ClassId) (p1 : Int32) (p2 : Int32) (p3 : Int32) (h0 : Heap) (n0 : Nat) (Z0 : n0 ≤ h0.size) (P0 : Arv Z h0 x0 kk0 .byte (1 : Int32) [(.int p0)] (.int 0)) (P2 : Arv Z h0 x1 kk1 .byte (1 : Int32) [(.int p1)] (.int 0)) (R_p2 : 0 ≤ p2.toInt ∧ p2.toInt ≤ 255) (R_p3 : 0 ≤ p3.toInt ∧ p3.toInt ≤ 255) (B_p0 : (p2.toInt8.toInt32) = p0) (B_p1 : (p3.toInt8.toInt32) = p1) :
    Ctr l Z (⟨"java/lang/StringLatin1", "equals", "([B[B)Z"⟩ : MethodName) jdk_43_method_13_code 3 (some .boolean) ({ frames := 0, cells := 0, slots := 0, locals := 0 } : Room) #[(.ref x0), (.ref x1)] h0 (fun v h L => (p2 = p3 ∧ v = some (.int 1) ∧ Fr n0 L ∧ h = h0) ∨ (¬ (p2 = p3) ∧ v = some (.int 0) ∧ Fr n0 L ∧ h = h0)) := by
  refine Ctr.of (plainFor_of_name pn_c4) ?_
  intro p e s m below meth c T0 hx hZ hby hml hown hnm hret hlk e0 es X0
  refine Go.cast (ef_12_RR m x0 x1) ?_
  generalize hFF : EndN s _ _ _ = FF
  refine Go.aloadN X0 hx (pc' := 1) rfl (hb hby d12_0) rfl rfl ?_
  refine Go.arraylength X0 hx hZ e0 P0 (pc' := 2) rfl (hb hby d12_1) ?_
  refine Go.aloadN X0 hx (pc' := 3) rfl (hb hby d12_2) rfl rfl ?_
  refine Go.arraylength X0 hx hZ e0 P2 (pc' := 4) rfl (hb hby d12_3) ?_
  refine Go.icmpNo X0 hx (pc' := 7) rfl (hb hby d12_4) (by decide) ?_
  refine Go.iconst X0 hx (pc' := 8) rfl (hb hby d12_7) (v := (0 : Int32)) rfl ?_
  refine Go.istoreN X0 hx (pc' := 9) rfl (hb hby d12_8) (Ls' := #[.val (.ref x0), .val (.ref x1), .val (.int 0)]) rfl ?_
  refine Go.iloadN X0 hx (pc' := 10) rfl (hb hby d12_9) rfl ?_
  refine Go.aloadN X0 hx (pc' := 11) rfl (hb hby d12_10) rfl rfl ?_
  refine Go.arraylength X0 hx hZ e0 P0 (pc' := 12) rfl (hb hby d12_11) ?_
  refine Go.icmpNo X0 hx (pc' := 15) rfl (hb hby d12_12) (by decide) ?_
  refine Go.aloadN X0 hx (pc' := 16) rfl (hb hby d12_15) rfl rfl ?_
  refine Go.iloadN X0 hx (pc' := 17) rfl (hb hby d12_16) rfl ?_
  refine Go.baload X0 hx hZ e0 P0 (v := (.int p0)) ⟨by decide, by decide⟩ rfl (pc' := 18) rfl (hb hby d12_17) ?_
  refine Go.aloadN X0 hx (pc' := 19) rfl (hb hby d12_18) rfl rfl ?_
  refine Go.iloadN X0 hx (pc' := 20) rfl (hb hby d12_19) rfl ?_
  refine Go.baload X0 hx hZ e0 P2 (v := (.int p1)) ⟨by decide, by decide⟩ rfl (pc' := 21) rfl (hb hby d12_20) ?_
  by_cases hc1 : p2 = p3
  · refine Go.icmpYes X0 hx (pc' := 26) (hb hby d12_21) (teq (own_lat_eq B_p0 B_p1 hc1)).1 (by decide) (by decide) ?_
    refine Go.iinc X0 hx (pc' := 29) rfl (hb hby d12_26) rfl (y := (1 : Int32)) (by decide) (Ls' := #[.val (.ref x0), .val (.ref x1), .val (.int 1)]) rfl ?_
    refine Go.goto X0 hx (pc' := 9) (hb hby d12_29) (by decide) (by decide) ?_
    refine Go.iloadN X0 hx (pc' := 10) rfl (hb hby d12_9) rfl ?_
    refine Go.aloadN X0 hx (pc' := 11) rfl (hb hby d12_10) rfl rfl ?_
    refine Go.arraylength X0 hx hZ e0 P0 (pc' := 12) rfl (hb hby d12_11) ?_
    refine Go.icmpYes X0 hx (pc' := 32) (hb hby d12_12) (by decide) (by decide) (by decide) ?_
    refine Go.iconst X0 hx (pc' := 33) rfl (hb hby d12_32) (v := (1 : Int32)) rfl ?_
    subst hFF
    refine Go.retN X0 hx hlk (t := .boolean) hret (by simp) (hb hby d12_33) (by decide) (by decide) ?_
    rw [e0]
    exact Or.inl ⟨hc1, (congrArg (fun z => some (Value.int z)) (by decide : nar .boolean (1 : Int32) = (1 : Int32))), (Fr.nil n0), rfl⟩
  · refine Go.icmpNo X0 hx (pc' := 24) rfl (hb hby d12_21) (feq (own_lat_ne B_p0 B_p1 R_p2 R_p3 (by decide) hc1)).1 ?_
    refine Go.iconst X0 hx (pc' := 25) rfl (hb hby d12_24) (v := (0 : Int32)) rfl ?_
    subst hFF
    refine Go.retN X0 hx hlk (t := .boolean) hret (by simp) (hb hby d12_25) (by decide) (by decide) ?_
    rw [e0]
    exact Or.inr (⟨hc1, (congrArg (fun z => some (Value.int z)) (by decide : nar .boolean (0 : Int32) = (0 : Int32))), (Fr.nil n0), rfl⟩)
-- java/lang/String.equals
set_option maxRecDepth 65536 in
set_option maxHeartbeats 4000000 in
theorem au_47 (l : Launch) (Z : State) (a0 : Array Value) (hw : ∀ d ∈ tables_1, d.before a0 Z = true) (x0 : Addr) (x1 : Addr) (x2 : Addr) (x3 : Addr) (kk0 : ClassId) (p0 : Int32) (kk1 : ClassId) (p1 : Int32) (p2 : Int32) (p3 : Int32) (gz1 : Int32) (gv5 : Value) (h0 : Heap) (n0 : Nat) (Z0 : n0 ≤ h0.size) (O0 : Old Z n0 h0) (G : Glob Z gz1 gv5) (P1 : Fld Z h0 x0 "java/lang/String" "coder" "B" (.int 0)) (P2 : Fld Z h0 x0 "java/lang/String" "value" "[B" (.ref x2)) (P3 : Exa Z h0 x1 "java/lang/String") (P4 : Fld Z h0 x1 "java/lang/String" "coder" "B" (.int 0)) (P5 : Fld Z h0 x1 "java/lang/String" "value" "[B" (.ref x3)) (P6 : Arv Z h0 x2 kk0 .byte (1 : Int32) [(.int p0)] (.int 0)) (P8 : Arv Z h0 x3 kk1 .byte (1 : Int32) [(.int p1)] (.int 0)) (R_p2 : 0 ≤ p2.toInt ∧ p2.toInt ≤ 255) (R_p3 : 0 ≤ p3.toInt ∧ p3.toInt ≤ 255) (B_p0 : (p2.toInt8.toInt32) = p0) (B_p1 : (p3.toInt8.toInt32) = p1) (ne_x0_x1 : x0 ≠ x1) :
    Ctr l Z (⟨"java/lang/String", "equals", "(Ljava/lang/Object;)Z"⟩ : MethodName) jdk_42_method_66_code 3 (some .boolean) ({ frames := 1, cells := 0, slots := 0, locals := 14 } : Room) #[(.ref x0), (.ref x1)] h0 (fun v h L => (p2 = p3 ∧ v = some (.int 1) ∧ Fr n0 L ∧ h = h0) ∨ (¬ (p2 = p3) ∧ v = some (.int 0) ∧ Fr n0 L ∧ h = h0)) := by
  refine Ctr.of (plainFor_of_name pn_c0) ?_
  intro p e s m below meth c T0 hx hZ hby hml hown hnm hret hlk e0 es X0
  have G' := G
  obtain ⟨G0, -, G2, -⟩ := G'
  refine Go.cast (ef_11_RR m x0 x1) ?_
  generalize hFF : EndN s _ _ _ = FF
  refine Go.aloadN X0 hx (pc' := 1) rfl (hb hby d11_0) rfl rfl ?_
  refine Go.aloadN X0 hx (pc' := 2) rfl (hb hby d11_1) rfl rfl ?_
  refine Go.acmp X0 hx (pc' := 7) (same := false) (hb hby d11_2) rfl rfl (decide_eq_false (fun q => ne_x0_x1 (Value.ref.inj q))) (by decide) (by decide) ?_
  refine Go.aloadN X0 hx (pc' := 8) rfl (hb hby d11_7) rfl rfl ?_
  refine Go.instY X0 hx hZ hown (tw_65 hw) e0 (Ins.self P3) (pc' := 11) rfl (hb hby d11_8) ?_
  intro T1 e1 X1
  refine Go.ifNo X1 hx (pc' := 14) rfl (hb hby d11_11) (by decide) ?_
  refine Go.aloadN X1 hx (pc' := 15) rfl (hb hby d11_14) rfl rfl ?_
  refine Go.castY X1 hx hZ hown (tw_65 hw) e1 (Ins.self P3) (pc' := 18) rfl (hb hby d11_15) ?_
  intro T2 e2 X2
  refine Go.astoreN X2 hx (pc' := 19) rfl (hb hby d11_18) (Ls' := #[.val (.ref x0), .val (.ref x1), .val (.ref x1)]) rfl rfl ?_
  have fk3 : Sta Z h0 "java/lang/String" "COMPACT_STRINGS" "Z" (.int gz1) := G0.ext O0.2
  refine Go.getS X2 hx hZ hown (host := "") (Or.inl (tw_18 hw)) Via.refl e2 fk3 (pc' := 22) rfl (hb hby d11_19) ?_
  intro T4 e4 X4
  refine Go.ifNo X4 hx (pc' := 25) rfl (hb hby d11_22) (feq G2).1 ?_
  refine Go.aloadN X4 hx (pc' := 26) rfl (hb hby d11_25) rfl rfl ?_
  refine Go.getF X4 hx hZ hown (host := "") (Or.inl (tw_30 hw)) Via.refl e4 P1 (pc' := 29) rfl (hb hby d11_26) ?_
  intro T5 e5 X5
  refine Go.aloadN X5 hx (pc' := 30) rfl (hb hby d11_29) rfl rfl ?_
  refine Go.getF X5 hx hZ hown (host := "") (Or.inl (tw_30 hw)) Via.refl e5 P4 (pc' := 33) rfl (hb hby d11_30) ?_
  intro T6 e6 X6
  refine Go.icmpNo X6 hx (pc' := 36) rfl (hb hby d11_33) (by decide) ?_
  refine Go.aloadN X6 hx (pc' := 37) rfl (hb hby d11_36) rfl rfl ?_
  refine Go.getF X6 hx hZ hown (host := "") (Or.inl (tw_32 hw)) Via.refl e6 P2 (pc' := 40) rfl (hb hby d11_37) ?_
  intro T7 e7 X7
  refine Go.aloadN X7 hx (pc' := 41) rfl (hb hby d11_40) rfl rfl ?_
  refine Go.getF X7 hx hZ hown (host := "") (Or.inl (tw_32 hw)) Via.refl e7 P5 (pc' := 44) rfl (hb hby d11_41) ?_
  intro T8 e8 X8
  refine Go.callS X8 hx hZ hown (tw_66 hw) (tw_67 hw) (tw_68 hw) (tw_69 hw) (by decide) (tw_69 hw) (tw_68 hw) (au_48 l Z a0 hw x2 x3 kk0 p0 kk1 p1 p2 p3 h0 n0 Z0 P6 P8 R_p2 R_p3 B_p0 B_p1) e8 (argsL := [(.ref x2), (.ref x3)]) (rest := []) (pc' := 47) rfl (by rw [hml]; rfl) (lenOf pd_6 rfl) rfl rfl (W := 0) (Nat.le_of_eq rfl) (by decide) (by decide) (by decide) (by decide) (hb hby d11_44) ?_
  intro v9 T9 L9 q9 X9
  rcases q9 with ⟨c9_0_0, rfl, N9_0, e9_0⟩ | ⟨c9_1_0, rfl, N9_1, e9_1⟩
  · show Go _ _ _ _ (T9.setTop (mkF m 47 #[.val (.ref x0), .val (.ref x1), .val (.ref x1)] [(.int 1)]))
    refine Go.ifNo X9 hx (pc' := 50) rfl (hb hby d11_47) (by decide) ?_
    refine Go.iconst X9 hx (pc' := 51) rfl (hb hby d11_50) (v := (1 : Int32)) rfl ?_
    refine Go.goto X9 hx (pc' := 55) (hb hby d11_51) (by decide) (by decide) ?_
    subst hFF
    refine Go.retN X9 hx hlk (t := .boolean) hret (by simp) (hb hby d11_55) (by decide) (by decide) ?_
    rw [e9_0]
    exact Or.inl ⟨c9_0_0, (congrArg (fun z => some (Value.int z)) (by decide : nar .boolean (1 : Int32) = (1 : Int32))), (Fr.app (Fr.nil n0) N9_0), rfl⟩
  · show Go _ _ _ _ (T9.setTop (mkF m 47 #[.val (.ref x0), .val (.ref x1), .val (.ref x1)] [(.int 0)]))
    refine Go.ifYes X9 hx (pc' := 54) (hb hby d11_47) (by decide) (by decide) (by decide) ?_
    refine Go.iconst X9 hx (pc' := 55) rfl (hb hby d11_54) (v := (0 : Int32)) rfl ?_
    subst hFF
    refine Go.retN X9 hx hlk (t := .boolean) hret (by simp) (hb hby d11_55) (by decide) (by decide) ?_
    rw [e9_1]
    exact Or.inr (⟨c9_1_0, (congrArg (fun z => some (Value.int z)) (by decide : nar .boolean (0 : Int32) = (0 : Int32))), (Fr.app (Fr.nil n0) N9_1), rfl⟩)
-- com/example/tough_filter/toughfilter/Expression$Keyword.equals
set_option maxRecDepth 65536 in
set_option maxHeartbeats 4000000 in
theorem au_46 (l : Launch) (Z : State) (a0 : Array Value) (hw : ∀ d ∈ tables_1, d.before a0 Z = true) (x0 : Addr) (x1 : Addr) (p0 : Int32) (x2 : Addr) (p1 : Int32) (x3 : Addr) (x4 : Addr) (x5 : Addr) (kk0 : ClassId) (p2 : Int32) (kk1 : ClassId) (p3 : Int32) (p4 : Int32) (p5 : Int32) (gz1 : Int32) (gv5 : Value) (h0 : Heap) (n0 : Nat) (Z0 : n0 ≤ h0.size) (O0 : Old Z n0 h0) (G : Glob Z gz1 gv5) (P1 : Fld Z h0 x0 "com/example/tough_filter/toughfilter/Expression$Keyword" "pinyin" "Z" (.int p0)) (P2 : Fld Z h0 x0 "com/example/tough_filter/toughfilter/Expression$Keyword" "word" "Ljava/lang/String;" (.ref x2)) (P3 : Exa Z h0 x1 "com/example/tough_filter/toughfilter/Expression$Keyword") (P4 : Fld Z h0 x1 "com/example/tough_filter/toughfilter/Expression$Keyword" "pinyin" "Z" (.int p1)) (P5 : Fld Z h0 x1 "com/example/tough_filter/toughfilter/Expression$Keyword" "word" "Ljava/lang/String;" (.ref x3)) (P6 : Exa Z h0 x2 "java/lang/String") (P7 : Fld Z h0 x2 "java/lang/String" "coder" "B" (.int 0)) (P8 : Fld Z h0 x2 "java/lang/String" "value" "[B" (.ref x4)) (P9 : Exa Z h0 x3 "java/lang/String") (P10 : Fld Z h0 x3 "java/lang/String" "coder" "B" (.int 0)) (P11 : Fld Z h0 x3 "java/lang/String" "value" "[B" (.ref x5)) (P12 : Arv Z h0 x4 kk0 .byte (1 : Int32) [(.int p2)] (.int 0)) (P14 : Arv Z h0 x5 kk1 .byte (1 : Int32) [(.int p3)] (.int 0)) (R_p4 : 0 ≤ p4.toInt ∧ p4.toInt ≤ 255) (R_p5 : 0 ≤ p5.toInt ∧ p5.toInt ≤ 255) (B_p2 : (p4.toInt8.toInt32) = p2) (B_p3 : (p5.toInt8.toInt32) = p3) (ne_x2_x3 : x2 ≠ x3) :
    Ctr l Z (⟨"com/example/tough_filter/toughfilter/Expression$Keyword", "equals", "(Ljava/lang/Object;)Z"⟩ : MethodName) prog_7_method_2_code 3 (some .boolean) ({ frames := 2, cells := 0, slots := 0, locals := 28 } : Room) #[(.ref x0), (.ref x1)] h0 (fun v h L => (p0 = p1 ∧ p4 = p5 ∧ v = some (.int 1) ∧ Fr n0 L ∧ h = h0) ∨ (p0 = p1 ∧ ¬ (p4 = p5) ∧ v = some (.int 0) ∧ Fr n0 L ∧ h = h0) ∨ (¬ (p0 = p1) ∧ v = some (.int 0) ∧ Fr n0 L ∧ h = h0)) := by
  refine Ctr.of (plainFor_of_name pn_c3) ?_
  intro p e s m below meth c T0 hx hZ hby hml hown hnm hret hlk e0 es X0
  refine Go.cast (ef_10_RR m x0 x1) ?_
  generalize hFF : EndN s _ _ _ = FF
  refine Go.aloadN X0 hx (pc' := 1) rfl (hb hby d10_0) rfl rfl ?_
  refine Go.instY X0 hx hZ hown (tw_58 hw) e0 (Ins.self P3) (pc' := 4) rfl (hb hby d10_1) ?_
  intro T1 e1 X1
  refine Go.ifNo X1 hx (pc' := 7) rfl (hb hby d10_4) (by decide) ?_
  refine Go.aloadN X1 hx (pc' := 8) rfl (hb hby d10_7) rfl rfl ?_
  refine Go.castY X1 hx hZ hown (tw_58 hw) e1 (Ins.self P3) (pc' := 11) rfl (hb hby d10_8) ?_
  intro T2 e2 X2
  refine Go.astoreN X2 hx (pc' := 12) rfl (hb hby d10_11) (Ls' := #[.val (.ref x0), .val (.ref x1), .val (.ref x1)]) rfl rfl ?_
  refine Go.aloadN X2 hx (pc' := 13) rfl (hb hby d10_12) rfl rfl ?_
  refine Go.getF X2 hx hZ hown (host := "") (Or.inl (tw_48 hw)) Via.refl e2 P1 (pc' := 16) rfl (hb hby d10_13) ?_
  intro T3 e3 X3
  refine Go.aloadN X3 hx (pc' := 17) rfl (hb hby d10_16) rfl rfl ?_
  refine Go.getF X3 hx hZ hown (host := "") (Or.inl (tw_48 hw)) Via.refl e3 P4 (pc' := 20) rfl (hb hby d10_17) ?_
  intro T4 e4 X4
  by_cases hc5 : p0 = p1
  · refine Go.icmpNo X4 hx (pc' := 23) rfl (hb hby d10_20) (teq hc5).2 ?_
    refine Go.aloadN X4 hx (pc' := 24) rfl (hb hby d10_23) rfl rfl ?_
    refine Go.getF X4 hx hZ hown (host := "") (Or.inl (tw_46 hw)) Via.refl e4 P2 (pc' := 27) rfl (hb hby d10_24) ?_
    intro T6 e6 X6
    refine Go.aloadN X6 hx (pc' := 28) rfl (hb hby d10_27) rfl rfl ?_
    refine Go.getF X6 hx hZ hown (host := "") (Or.inl (tw_46 hw)) Via.refl e6 P5 (pc' := 31) rfl (hb hby d10_28) ?_
    intro T7 e7 X7
    refine Go.callV X7 hx hZ hown (tw_60 hw) (tw_61 hw) (notFace_of_selects (args := #[]) (mvT hZ (tw_63 hw))) (tw_63 hw) (tw_62 hw) (by decide) (tw_64 hw) (tw_6 hw) (au_47 l Z a0 hw x2 x3 x4 x5 kk0 p2 kk1 p3 p4 p5 gz1 gv5 h0 n0 Z0 O0 G P7 P8 P9 P10 P11 P12 P14 R_p4 R_p5 B_p2 B_p3 ne_x2_x3) e7 P6 (argsL := [(.ref x3)]) (rest := []) (pc' := 34) rfl (by rw [hml]; rfl) (lenOf pd_5 rfl) rfl rfl (W := 0) (Nat.le_of_eq rfl) (by decide) (by decide) (by decide) (by decide) (hb hby d10_31) ?_
    intro v8 T8 L8 q8 X8
    rcases q8 with ⟨c8_0_0, rfl, N8_0, e8_0⟩ | ⟨c8_1_0, rfl, N8_1, e8_1⟩
    · show Go _ _ _ _ (T8.setTop (mkF m 34 #[.val (.ref x0), .val (.ref x1), .val (.ref x1)] [(.int 1)]))
      refine Go.ifNo X8 hx (pc' := 37) rfl (hb hby d10_34) (by decide) ?_
      refine Go.iconst X8 hx (pc' := 38) rfl (hb hby d10_37) (v := (1 : Int32)) rfl ?_
      refine Go.goto X8 hx (pc' := 42) (hb hby d10_38) (by decide) (by decide) ?_
      subst hFF
      refine Go.retN X8 hx hlk (t := .boolean) hret (by simp) (hb hby d10_42) (by decide) (by decide) ?_
      rw [e8_0]
      exact Or.inl ⟨hc5, c8_0_0, (congrArg (fun z => some (Value.int z)) (by decide : nar .boolean (1 : Int32) = (1 : Int32))), (Fr.app (Fr.nil n0) N8_0), rfl⟩
    · show Go _ _ _ _ (T8.setTop (mkF m 34 #[.val (.ref x0), .val (.ref x1), .val (.ref x1)] [(.int 0)]))
      refine Go.ifYes X8 hx (pc' := 41) (hb hby d10_34) (by decide) (by decide) (by decide) ?_
      refine Go.iconst X8 hx (pc' := 42) rfl (hb hby d10_41) (v := (0 : Int32)) rfl ?_
      subst hFF
      refine Go.retN X8 hx hlk (t := .boolean) hret (by simp) (hb hby d10_42) (by decide) (by decide) ?_
      rw [e8_1]
      exact Or.inr (Or.inl ⟨hc5, c8_1_0, (congrArg (fun z => some (Value.int z)) (by decide : nar .boolean (0 : Int32) = (0 : Int32))), (Fr.app (Fr.nil n0) N8_1), rfl⟩)
  · refine Go.icmpYes X4 hx (pc' := 41) (hb hby d10_20) (feq hc5).2 (by decide) (by decide) ?_
    refine Go.iconst X4 hx (pc' := 42) rfl (hb hby d10_41) (v := (0 : Int32)) rfl ?_
    subst hFF
    refine Go.retN X4 hx hlk (t := .boolean) hret (by simp) (hb hby d10_42) (by decide) (by decide) ?_
    rw [e4]
    exact Or.inr (Or.inr (⟨hc5, (congrArg (fun z => some (Value.int z)) (by decide : nar .boolean (0 : Int32) = (0 : Int32))), (Fr.nil n0), rfl⟩))
-- java/lang/StringLatin1.equals
set_option maxRecDepth 65536 in
set_option maxHeartbeats 4000000 in
theorem au_51 (l : Launch) (Z : State) (a0 : Array Value) (hw : ∀ d ∈ tables_1, d.before a0 Z = true) (x0 : Addr) (x1 : Addr) (kk0 : ClassId) (p0 : Int32) (kk1 : ClassId) (p1 : Int32) (p2 : Int32) (h0 : Heap) (n0 : Nat) (Z0 : n0 ≤ h0.size) (P0 : Arv Z h0 x0 kk0 .byte (1 : Int32) [(.int p0)] (.int 0)) (P2 : Arv Z h0 x1 kk1 .byte (2 : Int32) [(.int p1), (.int p2)] (.int 0)) :
    Ctr l Z (⟨"java/lang/StringLatin1", "equals", "([B[B)Z"⟩ : MethodName) jdk_43_method_13_code 3 (some .boolean) ({ frames := 0, cells := 0, slots := 0, locals := 0 } : Room) #[(.ref x0), (.ref x1)] h0 (fun v h L => v = some (.int 0) ∧ Fr n0 L ∧ h = h0) := by
  refine Ctr.of (plainFor_of_name pn_c4) ?_
  intro p e s m below meth c T0 hx hZ hby hml hown hnm hret hlk e0 es X0
  refine Go.cast (ef_12_RR m x0 x1) ?_
  generalize hFF : EndN s _ _ _ = FF
  refine Go.aloadN X0 hx (pc' := 1) rfl (hb hby d12_0) rfl rfl ?_
  refine Go.arraylength X0 hx hZ e0 P0 (pc' := 2) rfl (hb hby d12_1) ?_
  refine Go.aloadN X0 hx (pc' := 3) rfl (hb hby d12_2) rfl rfl ?_
  refine Go.arraylength X0 hx hZ e0 P2 (pc' := 4) rfl (hb hby d12_3) ?_
  refine Go.icmpYes X0 hx (pc' := 34) (hb hby d12_4) (by decide) (by decide) (by decide) ?_
  refine Go.iconst X0 hx (pc' := 35) rfl (hb hby d12_34) (v := (0 : Int32)) rfl ?_
  subst hFF
  refine Go.retN X0 hx hlk (t := .boolean) hret (by simp) (hb hby d12_35) (by decide) (by decide) ?_
  rw [e0]
  exact ⟨(congrArg (fun z => some (Value.int z)) (by decide : nar .boolean (0 : Int32) = (0 : Int32))), (Fr.nil n0), rfl⟩
-- java/lang/String.equals
set_option maxRecDepth 65536 in
set_option maxHeartbeats 4000000 in
theorem au_50 (l : Launch) (Z : State) (a0 : Array Value) (hw : ∀ d ∈ tables_1, d.before a0 Z = true) (x0 : Addr) (x1 : Addr) (x2 : Addr) (x3 : Addr) (kk0 : ClassId) (p0 : Int32) (kk1 : ClassId) (p1 : Int32) (p2 : Int32) (gz1 : Int32) (gv5 : Value) (h0 : Heap) (n0 : Nat) (Z0 : n0 ≤ h0.size) (O0 : Old Z n0 h0) (G : Glob Z gz1 gv5) (P1 : Fld Z h0 x0 "java/lang/String" "coder" "B" (.int 0)) (P2 : Fld Z h0 x0 "java/lang/String" "value" "[B" (.ref x2)) (P3 : Exa Z h0 x1 "java/lang/String") (P4 : Fld Z h0 x1 "java/lang/String" "coder" "B" (.int 0)) (P5 : Fld Z h0 x1 "java/lang/String" "value" "[B" (.ref x3)) (P6 : Arv Z h0 x2 kk0 .byte (1 : Int32) [(.int p0)] (.int 0)) (P8 : Arv Z h0 x3 kk1 .byte (2 : Int32) [(.int p1), (.int p2)] (.int 0)) (ne_x0_x1 : x0 ≠ x1) :
    Ctr l Z (⟨"java/lang/String", "equals", "(Ljava/lang/Object;)Z"⟩ : MethodName) jdk_42_method_66_code 3 (some .boolean) ({ frames := 1, cells := 0, slots := 0, locals := 14 } : Room) #[(.ref x0), (.ref x1)] h0 (fun v h L => v = some (.int 0) ∧ Fr n0 L ∧ h = h0) := by
  refine Ctr.of (plainFor_of_name pn_c0) ?_
  intro p e s m below meth c T0 hx hZ hby hml hown hnm hret hlk e0 es X0
  have G' := G
  obtain ⟨G0, -, G2, -⟩ := G'
  refine Go.cast (ef_11_RR m x0 x1) ?_
  generalize hFF : EndN s _ _ _ = FF
  refine Go.aloadN X0 hx (pc' := 1) rfl (hb hby d11_0) rfl rfl ?_
  refine Go.aloadN X0 hx (pc' := 2) rfl (hb hby d11_1) rfl rfl ?_
  refine Go.acmp X0 hx (pc' := 7) (same := false) (hb hby d11_2) rfl rfl (decide_eq_false (fun q => ne_x0_x1 (Value.ref.inj q))) (by decide) (by decide) ?_
  refine Go.aloadN X0 hx (pc' := 8) rfl (hb hby d11_7) rfl rfl ?_
  refine Go.instY X0 hx hZ hown (tw_65 hw) e0 (Ins.self P3) (pc' := 11) rfl (hb hby d11_8) ?_
  intro T1 e1 X1
  refine Go.ifNo X1 hx (pc' := 14) rfl (hb hby d11_11) (by decide) ?_
  refine Go.aloadN X1 hx (pc' := 15) rfl (hb hby d11_14) rfl rfl ?_
  refine Go.castY X1 hx hZ hown (tw_65 hw) e1 (Ins.self P3) (pc' := 18) rfl (hb hby d11_15) ?_
  intro T2 e2 X2
  refine Go.astoreN X2 hx (pc' := 19) rfl (hb hby d11_18) (Ls' := #[.val (.ref x0), .val (.ref x1), .val (.ref x1)]) rfl rfl ?_
  have fk3 : Sta Z h0 "java/lang/String" "COMPACT_STRINGS" "Z" (.int gz1) := G0.ext O0.2
  refine Go.getS X2 hx hZ hown (host := "") (Or.inl (tw_18 hw)) Via.refl e2 fk3 (pc' := 22) rfl (hb hby d11_19) ?_
  intro T4 e4 X4
  refine Go.ifNo X4 hx (pc' := 25) rfl (hb hby d11_22) (feq G2).1 ?_
  refine Go.aloadN X4 hx (pc' := 26) rfl (hb hby d11_25) rfl rfl ?_
  refine Go.getF X4 hx hZ hown (host := "") (Or.inl (tw_30 hw)) Via.refl e4 P1 (pc' := 29) rfl (hb hby d11_26) ?_
  intro T5 e5 X5
  refine Go.aloadN X5 hx (pc' := 30) rfl (hb hby d11_29) rfl rfl ?_
  refine Go.getF X5 hx hZ hown (host := "") (Or.inl (tw_30 hw)) Via.refl e5 P4 (pc' := 33) rfl (hb hby d11_30) ?_
  intro T6 e6 X6
  refine Go.icmpNo X6 hx (pc' := 36) rfl (hb hby d11_33) (by decide) ?_
  refine Go.aloadN X6 hx (pc' := 37) rfl (hb hby d11_36) rfl rfl ?_
  refine Go.getF X6 hx hZ hown (host := "") (Or.inl (tw_32 hw)) Via.refl e6 P2 (pc' := 40) rfl (hb hby d11_37) ?_
  intro T7 e7 X7
  refine Go.aloadN X7 hx (pc' := 41) rfl (hb hby d11_40) rfl rfl ?_
  refine Go.getF X7 hx hZ hown (host := "") (Or.inl (tw_32 hw)) Via.refl e7 P5 (pc' := 44) rfl (hb hby d11_41) ?_
  intro T8 e8 X8
  refine Go.callS X8 hx hZ hown (tw_66 hw) (tw_67 hw) (tw_68 hw) (tw_69 hw) (by decide) (tw_69 hw) (tw_68 hw) (au_51 l Z a0 hw x2 x3 kk0 p0 kk1 p1 p2 h0 n0 Z0 P6 P8) e8 (argsL := [(.ref x2), (.ref x3)]) (rest := []) (pc' := 47) rfl (by rw [hml]; rfl) (lenOf pd_6 rfl) rfl rfl (W := 0) (Nat.le_of_eq rfl) (by decide) (by decide) (by decide) (by decide) (hb hby d11_44) ?_
  intro v9 T9 L9 q9 X9
  obtain ⟨rfl, N9, e9⟩ := q9
  show Go _ _ _ _ (T9.setTop (mkF m 47 #[.val (.ref x0), .val (.ref x1), .val (.ref x1)] [(.int 0)]))
  refine Go.ifYes X9 hx (pc' := 54) (hb hby d11_47) (by decide) (by decide) (by decide) ?_
  refine Go.iconst X9 hx (pc' := 55) rfl (hb hby d11_54) (v := (0 : Int32)) rfl ?_
  subst hFF
  refine Go.retN X9 hx hlk (t := .boolean) hret (by simp) (hb hby d11_55) (by decide) (by decide) ?_
  rw [e9]
  exact ⟨(congrArg (fun z => some (Value.int z)) (by decide : nar .boolean (0 : Int32) = (0 : Int32))), (Fr.app (Fr.nil n0) N9), rfl⟩
-- com/example/tough_filter/toughfilter/Expression$Keyword.equals
set_option maxRecDepth 65536 in
set_option maxHeartbeats 4000000 in
theorem au_49 (l : Launch) (Z : State) (a0 : Array Value) (hw : ∀ d ∈ tables_1, d.before a0 Z = true) (x0 : Addr) (x1 : Addr) (p0 : Int32) (x2 : Addr) (p1 : Int32) (x3 : Addr) (x4 : Addr) (x5 : Addr) (kk0 : ClassId) (p2 : Int32) (kk1 : ClassId) (p3 : Int32) (p4 : Int32) (gz1 : Int32) (gv5 : Value) (h0 : Heap) (n0 : Nat) (Z0 : n0 ≤ h0.size) (O0 : Old Z n0 h0) (G : Glob Z gz1 gv5) (P1 : Fld Z h0 x0 "com/example/tough_filter/toughfilter/Expression$Keyword" "pinyin" "Z" (.int p0)) (P2 : Fld Z h0 x0 "com/example/tough_filter/toughfilter/Expression$Keyword" "word" "Ljava/lang/String;" (.ref x2)) (P3 : Exa Z h0 x1 "com/example/tough_filter/toughfilter/Expression$Keyword") (P4 : Fld Z h0 x1 "com/example/tough_filter/toughfilter/Expression$Keyword" "pinyin" "Z" (.int p1)) (P5 : Fld Z h0 x1 "com/example/tough_filter/toughfilter/Expression$Keyword" "word" "Ljava/lang/String;" (.ref x3)) (P6 : Exa Z h0 x2 "java/lang/String") (P7 : Fld Z h0 x2 "java/lang/String" "coder" "B" (.int 0)) (P8 : Fld Z h0 x2 "java/lang/String" "value" "[B" (.ref x4)) (P9 : Exa Z h0 x3 "java/lang/String") (P10 : Fld Z h0 x3 "java/lang/String" "coder" "B" (.int 0)) (P11 : Fld Z h0 x3 "java/lang/String" "value" "[B" (.ref x5)) (P12 : Arv Z h0 x4 kk0 .byte (1 : Int32) [(.int p2)] (.int 0)) (P14 : Arv Z h0 x5 kk1 .byte (2 : Int32) [(.int p3), (.int p4)] (.int 0)) (ne_x2_x3 : x2 ≠ x3) :
    Ctr l Z (⟨"com/example/tough_filter/toughfilter/Expression$Keyword", "equals", "(Ljava/lang/Object;)Z"⟩ : MethodName) prog_7_method_2_code 3 (some .boolean) ({ frames := 2, cells := 0, slots := 0, locals := 28 } : Room) #[(.ref x0), (.ref x1)] h0 (fun v h L => v = some (.int 0) ∧ Fr n0 L ∧ h = h0) := by
  refine Ctr.of (plainFor_of_name pn_c3) ?_
  intro p e s m below meth c T0 hx hZ hby hml hown hnm hret hlk e0 es X0
  refine Go.cast (ef_10_RR m x0 x1) ?_
  generalize hFF : EndN s _ _ _ = FF
  refine Go.aloadN X0 hx (pc' := 1) rfl (hb hby d10_0) rfl rfl ?_
  refine Go.instY X0 hx hZ hown (tw_58 hw) e0 (Ins.self P3) (pc' := 4) rfl (hb hby d10_1) ?_
  intro T1 e1 X1
  refine Go.ifNo X1 hx (pc' := 7) rfl (hb hby d10_4) (by decide) ?_
  refine Go.aloadN X1 hx (pc' := 8) rfl (hb hby d10_7) rfl rfl ?_
  refine Go.castY X1 hx hZ hown (tw_58 hw) e1 (Ins.self P3) (pc' := 11) rfl (hb hby d10_8) ?_
  intro T2 e2 X2
  refine Go.astoreN X2 hx (pc' := 12) rfl (hb hby d10_11) (Ls' := #[.val (.ref x0), .val (.ref x1), .val (.ref x1)]) rfl rfl ?_
  refine Go.aloadN X2 hx (pc' := 13) rfl (hb hby d10_12) rfl rfl ?_
  refine Go.getF X2 hx hZ hown (host := "") (Or.inl (tw_48 hw)) Via.refl e2 P1 (pc' := 16) rfl (hb hby d10_13) ?_
  intro T3 e3 X3
  refine Go.aloadN X3 hx (pc' := 17) rfl (hb hby d10_16) rfl rfl ?_
  refine Go.getF X3 hx hZ hown (host := "") (Or.inl (tw_48 hw)) Via.refl e3 P4 (pc' := 20) rfl (hb hby d10_17) ?_
  intro T4 e4 X4
  by_cases hc5 : p0 = p1
  · refine Go.icmpNo X4 hx (pc' := 23) rfl (hb hby d10_20) (teq hc5).2 ?_
    refine Go.aloadN X4 hx (pc' := 24) rfl (hb hby d10_23) rfl rfl ?_
    refine Go.getF X4 hx hZ hown (host := "") (Or.inl (tw_46 hw)) Via.refl e4 P2 (pc' := 27) rfl (hb hby d10_24) ?_
    intro T6 e6 X6
    refine Go.aloadN X6 hx (pc' := 28) rfl (hb hby d10_27) rfl rfl ?_
    refine Go.getF X6 hx hZ hown (host := "") (Or.inl (tw_46 hw)) Via.refl e6 P5 (pc' := 31) rfl (hb hby d10_28) ?_
    intro T7 e7 X7
    refine Go.callV X7 hx hZ hown (tw_60 hw) (tw_61 hw) (notFace_of_selects (args := #[]) (mvT hZ (tw_63 hw))) (tw_63 hw) (tw_62 hw) (by decide) (tw_64 hw) (tw_6 hw) (au_50 l Z a0 hw x2 x3 x4 x5 kk0 p2 kk1 p3 p4 gz1 gv5 h0 n0 Z0 O0 G P7 P8 P9 P10 P11 P12 P14 ne_x2_x3) e7 P6 (argsL := [(.ref x3)]) (rest := []) (pc' := 34) rfl (by rw [hml]; rfl) (lenOf pd_5 rfl) rfl rfl (W := 0) (Nat.le_of_eq rfl) (by decide) (by decide) (by decide) (by decide) (hb hby d10_31) ?_
    intro v8 T8 L8 q8 X8
    obtain ⟨rfl, N8, e8⟩ := q8
    show Go _ _ _ _ (T8.setTop (mkF m 34 #[.val (.ref x0), .val (.ref x1), .val (.ref x1)] [(.int 0)]))
    refine Go.ifYes X8 hx (pc' := 41) (hb hby d10_34) (by decide) (by decide) (by decide) ?_
    refine Go.iconst X8 hx (pc' := 42) rfl (hb hby d10_41) (v := (0 : Int32)) rfl ?_
    subst hFF
    refine Go.retN X8 hx hlk (t := .boolean) hret (by simp) (hb hby d10_42) (by decide) (by decide) ?_
    rw [e8]
    exact ⟨(congrArg (fun z => some (Value.int z)) (by decide : nar .boolean (0 : Int32) = (0 : Int32))), (Fr.app (Fr.nil n0) N8), rfl⟩
  · refine Go.icmpYes X4 hx (pc' := 41) (hb hby d10_20) (feq hc5).2 (by decide) (by decide) ?_
    refine Go.iconst X4 hx (pc' := 42) rfl (hb hby d10_41) (v := (0 : Int32)) rfl ?_
    subst hFF
    refine Go.retN X4 hx hlk (t := .boolean) hret (by simp) (hb hby d10_42) (by decide) (by decide) ?_
    rw [e4]
    exact ⟨(congrArg (fun z => some (Value.int z)) (by decide : nar .boolean (0 : Int32) = (0 : Int32))), (Fr.nil n0), rfl⟩
-- java/lang/StringLatin1.equals
set_option maxRecDepth 65536 in
set_option maxHeartbeats 4000000 in
theorem au_54 (l : Launch) (Z : State) (a0 : Array Value) (hw : ∀ d ∈ tables_1, d.before a0 Z = true) (x0 : Addr) (x1 : Addr) (kk0 : ClassId) (p0 : Int32) (p1 : Int32) (kk1 : ClassId) (p2 : Int32) (h0 : Heap) (n0 : Nat) (Z0 : n0 ≤ h0.size) (P0 : Arv Z h0 x0 kk0 .byte (2 : Int32) [(.int p0), (.int p1)] (.int 0)) (P2 : Arv Z h0 x1 kk1 .byte (1 : Int32) [(.int p2)] (.int 0)) :
    Ctr l Z (⟨"java/lang/StringLatin1", "equals", "([B[B)Z"⟩ : MethodName) jdk_43_method_13_code 3 (some .boolean) ({ frames := 0, cells := 0, slots := 0, locals := 0 } : Room) #[(.ref x0), (.ref x1)] h0 (fun v h L => v = some (.int 0) ∧ Fr n0 L ∧ h = h0) := by
  refine Ctr.of (plainFor_of_name pn_c4) ?_
  intro p e s m below meth c T0 hx hZ hby hml hown hnm hret hlk e0 es X0
  refine Go.cast (ef_12_RR m x0 x1) ?_
  generalize hFF : EndN s _ _ _ = FF
  refine Go.aloadN X0 hx (pc' := 1) rfl (hb hby d12_0) rfl rfl ?_
  refine Go.arraylength X0 hx hZ e0 P0 (pc' := 2) rfl (hb hby d12_1) ?_
  refine Go.aloadN X0 hx (pc' := 3) rfl (hb hby d12_2) rfl rfl ?_
  refine Go.arraylength X0 hx hZ e0 P2 (pc' := 4) rfl (hb hby d12_3) ?_
  refine Go.icmpYes X0 hx (pc' := 34) (hb hby d12_4) (by decide) (by decide) (by decide) ?_
  refine Go.iconst X0 hx (pc' := 35) rfl (hb hby d12_34) (v := (0 : Int32)) rfl ?_
  subst hFF
  refine Go.retN X0 hx hlk (t := .boolean) hret (by simp) (hb hby d12_35) (by decide) (by decide) ?_
  rw [e0]
  exact ⟨(congrArg (fun z => some (Value.int z)) (by decide : nar .boolean (0 : Int32) = (0 : Int32))), (Fr.nil n0), rfl⟩
-- java/lang/String.equals
set_option maxRecDepth 65536 in
set_option maxHeartbeats 4000000 in
theorem au_53 (l : Launch) (Z : State) (a0 : Array Value) (hw : ∀ d ∈ tables_1, d.before a0 Z = true) (x0 : Addr) (x1 : Addr) (x2 : Addr) (x3 : Addr) (kk0 : ClassId) (p0 : Int32) (p1 : Int32) (kk1 : ClassId) (p2 : Int32) (gz1 : Int32) (gv5 : Value) (h0 : Heap) (n0 : Nat) (Z0 : n0 ≤ h0.size) (O0 : Old Z n0 h0) (G : Glob Z gz1 gv5) (P1 : Fld Z h0 x0 "java/lang/String" "coder" "B" (.int 0)) (P2 : Fld Z h0 x0 "java/lang/String" "value" "[B" (.ref x2)) (P3 : Exa Z h0 x1 "java/lang/String") (P4 : Fld Z h0 x1 "java/lang/String" "coder" "B" (.int 0)) (P5 : Fld Z h0 x1 "java/lang/String" "value" "[B" (.ref x3)) (P6 : Arv Z h0 x2 kk0 .byte (2 : Int32) [(.int p0), (.int p1)] (.int 0)) (P8 : Arv Z h0 x3 kk1 .byte (1 : Int32) [(.int p2)] (.int 0)) (ne_x0_x1 : x0 ≠ x1) :
    Ctr l Z (⟨"java/lang/String", "equals", "(Ljava/lang/Object;)Z"⟩ : MethodName) jdk_42_method_66_code 3 (some .boolean) ({ frames := 1, cells := 0, slots := 0, locals := 14 } : Room) #[(.ref x0), (.ref x1)] h0 (fun v h L => v = some (.int 0) ∧ Fr n0 L ∧ h = h0) := by
  refine Ctr.of (plainFor_of_name pn_c0) ?_
  intro p e s m below meth c T0 hx hZ hby hml hown hnm hret hlk e0 es X0
  have G' := G
  obtain ⟨G0, -, G2, -⟩ := G'
  refine Go.cast (ef_11_RR m x0 x1) ?_
  generalize hFF : EndN s _ _ _ = FF
  refine Go.aloadN X0 hx (pc' := 1) rfl (hb hby d11_0) rfl rfl ?_
  refine Go.aloadN X0 hx (pc' := 2) rfl (hb hby d11_1) rfl rfl ?_
  refine Go.acmp X0 hx (pc' := 7) (same := false) (hb hby d11_2) rfl rfl (decide_eq_false (fun q => ne_x0_x1 (Value.ref.inj q))) (by decide) (by decide) ?_
  refine Go.aloadN X0 hx (pc' := 8) rfl (hb hby d11_7) rfl rfl ?_
  refine Go.instY X0 hx hZ hown (tw_65 hw) e0 (Ins.self P3) (pc' := 11) rfl (hb hby d11_8) ?_
  intro T1 e1 X1
  refine Go.ifNo X1 hx (pc' := 14) rfl (hb hby d11_11) (by decide) ?_
  refine Go.aloadN X1 hx (pc' := 15) rfl (hb hby d11_14) rfl rfl ?_
  refine Go.castY X1 hx hZ hown (tw_65 hw) e1 (Ins.self P3) (pc' := 18) rfl (hb hby d11_15) ?_
  intro T2 e2 X2
  refine Go.astoreN X2 hx (pc' := 19) rfl (hb hby d11_18) (Ls' := #[.val (.ref x0), .val (.ref x1), .val (.ref x1)]) rfl rfl ?_
  have fk3 : Sta Z h0 "java/lang/String" "COMPACT_STRINGS" "Z" (.int gz1) := G0.ext O0.2
  refine Go.getS X2 hx hZ hown (host := "") (Or.inl (tw_18 hw)) Via.refl e2 fk3 (pc' := 22) rfl (hb hby d11_19) ?_
  intro T4 e4 X4
  refine Go.ifNo X4 hx (pc' := 25) rfl (hb hby d11_22) (feq G2).1 ?_
  refine Go.aloadN X4 hx (pc' := 26) rfl (hb hby d11_25) rfl rfl ?_
  refine Go.getF X4 hx hZ hown (host := "") (Or.inl (tw_30 hw)) Via.refl e4 P1 (pc' := 29) rfl (hb hby d11_26) ?_
  intro T5 e5 X5
  refine Go.aloadN X5 hx (pc' := 30) rfl (hb hby d11_29) rfl rfl ?_
  refine Go.getF X5 hx hZ hown (host := "") (Or.inl (tw_30 hw)) Via.refl e5 P4 (pc' := 33) rfl (hb hby d11_30) ?_
  intro T6 e6 X6
  refine Go.icmpNo X6 hx (pc' := 36) rfl (hb hby d11_33) (by decide) ?_
  refine Go.aloadN X6 hx (pc' := 37) rfl (hb hby d11_36) rfl rfl ?_
  refine Go.getF X6 hx hZ hown (host := "") (Or.inl (tw_32 hw)) Via.refl e6 P2 (pc' := 40) rfl (hb hby d11_37) ?_
  intro T7 e7 X7
  refine Go.aloadN X7 hx (pc' := 41) rfl (hb hby d11_40) rfl rfl ?_
  refine Go.getF X7 hx hZ hown (host := "") (Or.inl (tw_32 hw)) Via.refl e7 P5 (pc' := 44) rfl (hb hby d11_41) ?_
  intro T8 e8 X8
  refine Go.callS X8 hx hZ hown (tw_66 hw) (tw_67 hw) (tw_68 hw) (tw_69 hw) (by decide) (tw_69 hw) (tw_68 hw) (au_54 l Z a0 hw x2 x3 kk0 p0 p1 kk1 p2 h0 n0 Z0 P6 P8) e8 (argsL := [(.ref x2), (.ref x3)]) (rest := []) (pc' := 47) rfl (by rw [hml]; rfl) (lenOf pd_6 rfl) rfl rfl (W := 0) (Nat.le_of_eq rfl) (by decide) (by decide) (by decide) (by decide) (hb hby d11_44) ?_
  intro v9 T9 L9 q9 X9
  obtain ⟨rfl, N9, e9⟩ := q9
  show Go _ _ _ _ (T9.setTop (mkF m 47 #[.val (.ref x0), .val (.ref x1), .val (.ref x1)] [(.int 0)]))
  refine Go.ifYes X9 hx (pc' := 54) (hb hby d11_47) (by decide) (by decide) (by decide) ?_
  refine Go.iconst X9 hx (pc' := 55) rfl (hb hby d11_54) (v := (0 : Int32)) rfl ?_
  subst hFF
  refine Go.retN X9 hx hlk (t := .boolean) hret (by simp) (hb hby d11_55) (by decide) (by decide) ?_
  rw [e9]
  exact ⟨(congrArg (fun z => some (Value.int z)) (by decide : nar .boolean (0 : Int32) = (0 : Int32))), (Fr.app (Fr.nil n0) N9), rfl⟩
-- com/example/tough_filter/toughfilter/Expression$Keyword.equals
set_option maxRecDepth 65536 in
set_option maxHeartbeats 4000000 in
theorem au_52 (l : Launch) (Z : State) (a0 : Array Value) (hw : ∀ d ∈ tables_1, d.before a0 Z = true) (x0 : Addr) (x1 : Addr) (p0 : Int32) (x2 : Addr) (p1 : Int32) (x3 : Addr) (x4 : Addr) (x5 : Addr) (kk0 : ClassId) (p2 : Int32) (p3 : Int32) (kk1 : ClassId) (p4 : Int32) (gz1 : Int32) (gv5 : Value) (h0 : Heap) (n0 : Nat) (Z0 : n0 ≤ h0.size) (O0 : Old Z n0 h0) (G : Glob Z gz1 gv5) (P1 : Fld Z h0 x0 "com/example/tough_filter/toughfilter/Expression$Keyword" "pinyin" "Z" (.int p0)) (P2 : Fld Z h0 x0 "com/example/tough_filter/toughfilter/Expression$Keyword" "word" "Ljava/lang/String;" (.ref x2)) (P3 : Exa Z h0 x1 "com/example/tough_filter/toughfilter/Expression$Keyword") (P4 : Fld Z h0 x1 "com/example/tough_filter/toughfilter/Expression$Keyword" "pinyin" "Z" (.int p1)) (P5 : Fld Z h0 x1 "com/example/tough_filter/toughfilter/Expression$Keyword" "word" "Ljava/lang/String;" (.ref x3)) (P6 : Exa Z h0 x2 "java/lang/String") (P7 : Fld Z h0 x2 "java/lang/String" "coder" "B" (.int 0)) (P8 : Fld Z h0 x2 "java/lang/String" "value" "[B" (.ref x4)) (P9 : Exa Z h0 x3 "java/lang/String") (P10 : Fld Z h0 x3 "java/lang/String" "coder" "B" (.int 0)) (P11 : Fld Z h0 x3 "java/lang/String" "value" "[B" (.ref x5)) (P12 : Arv Z h0 x4 kk0 .byte (2 : Int32) [(.int p2), (.int p3)] (.int 0)) (P14 : Arv Z h0 x5 kk1 .byte (1 : Int32) [(.int p4)] (.int 0)) (ne_x2_x3 : x2 ≠ x3) :
    Ctr l Z (⟨"com/example/tough_filter/toughfilter/Expression$Keyword", "equals", "(Ljava/lang/Object;)Z"⟩ : MethodName) prog_7_method_2_code 3 (some .boolean) ({ frames := 2, cells := 0, slots := 0, locals := 28 } : Room) #[(.ref x0), (.ref x1)] h0 (fun v h L => v = some (.int 0) ∧ Fr n0 L ∧ h = h0) := by
  refine Ctr.of (plainFor_of_name pn_c3) ?_
  intro p e s m below meth c T0 hx hZ hby hml hown hnm hret hlk e0 es X0
  refine Go.cast (ef_10_RR m x0 x1) ?_
  generalize hFF : EndN s _ _ _ = FF
  refine Go.aloadN X0 hx (pc' := 1) rfl (hb hby d10_0) rfl rfl ?_
  refine Go.instY X0 hx hZ hown (tw_58 hw) e0 (Ins.self P3) (pc' := 4) rfl (hb hby d10_1) ?_
  intro T1 e1 X1
  refine Go.ifNo X1 hx (pc' := 7) rfl (hb hby d10_4) (by decide) ?_
  refine Go.aloadN X1 hx (pc' := 8) rfl (hb hby d10_7) rfl rfl ?_
  refine Go.castY X1 hx hZ hown (tw_58 hw) e1 (Ins.self P3) (pc' := 11) rfl (hb hby d10_8) ?_
  intro T2 e2 X2
  refine Go.astoreN X2 hx (pc' := 12) rfl (hb hby d10_11) (Ls' := #[.val (.ref x0), .val (.ref x1), .val (.ref x1)]) rfl rfl ?_
  refine Go.aloadN X2 hx (pc' := 13) rfl (hb hby d10_12) rfl rfl ?_
  refine Go.getF X2 hx hZ hown (host := "") (Or.inl (tw_48 hw)) Via.refl e2 P1 (pc' := 16) rfl (hb hby d10_13) ?_
  intro T3 e3 X3
  refine Go.aloadN X3 hx (pc' := 17) rfl (hb hby d10_16) rfl rfl ?_
  refine Go.getF X3 hx hZ hown (host := "") (Or.inl (tw_48 hw)) Via.refl e3 P4 (pc' := 20) rfl (hb hby d10_17) ?_
  intro T4 e4 X4
  by_cases hc5 : p0 = p1
  · refine Go.icmpNo X4 hx (pc' := 23) rfl (hb hby d10_20) (teq hc5).2 ?_
    refine Go.aloadN X4 hx (pc' := 24) rfl (hb hby d10_23) rfl rfl ?_
    refine Go.getF X4 hx hZ hown (host := "") (Or.inl (tw_46 hw)) Via.refl e4 P2 (pc' := 27) rfl (hb hby d10_24) ?_
    intro T6 e6 X6
    refine Go.aloadN X6 hx (pc' := 28) rfl (hb hby d10_27) rfl rfl ?_
    refine Go.getF X6 hx hZ hown (host := "") (Or.inl (tw_46 hw)) Via.refl e6 P5 (pc' := 31) rfl (hb hby d10_28) ?_
    intro T7 e7 X7
    refine Go.callV X7 hx hZ hown (tw_60 hw) (tw_61 hw) (notFace_of_selects (args := #[]) (mvT hZ (tw_63 hw))) (tw_63 hw) (tw_62 hw) (by decide) (tw_64 hw) (tw_6 hw) (au_53 l Z a0 hw x2 x3 x4 x5 kk0 p2 p3 kk1 p4 gz1 gv5 h0 n0 Z0 O0 G P7 P8 P9 P10 P11 P12 P14 ne_x2_x3) e7 P6 (argsL := [(.ref x3)]) (rest := []) (pc' := 34) rfl (by rw [hml]; rfl) (lenOf pd_5 rfl) rfl rfl (W := 0) (Nat.le_of_eq rfl) (by decide) (by decide) (by decide) (by decide) (hb hby d10_31) ?_
    intro v8 T8 L8 q8 X8
    obtain ⟨rfl, N8, e8⟩ := q8
    show Go _ _ _ _ (T8.setTop (mkF m 34 #[.val (.ref x0), .val (.ref x1), .val (.ref x1)] [(.int 0)]))
    refine Go.ifYes X8 hx (pc' := 41) (hb hby d10_34) (by decide) (by decide) (by decide) ?_
    refine Go.iconst X8 hx (pc' := 42) rfl (hb hby d10_41) (v := (0 : Int32)) rfl ?_
    subst hFF
    refine Go.retN X8 hx hlk (t := .boolean) hret (by simp) (hb hby d10_42) (by decide) (by decide) ?_
    rw [e8]
    exact ⟨(congrArg (fun z => some (Value.int z)) (by decide : nar .boolean (0 : Int32) = (0 : Int32))), (Fr.app (Fr.nil n0) N8), rfl⟩
  · refine Go.icmpYes X4 hx (pc' := 41) (hb hby d10_20) (feq hc5).2 (by decide) (by decide) ?_
    refine Go.iconst X4 hx (pc' := 42) rfl (hb hby d10_41) (v := (0 : Int32)) rfl ?_
    subst hFF
    refine Go.retN X4 hx hlk (t := .boolean) hret (by simp) (hb hby d10_42) (by decide) (by decide) ?_
    rw [e4]
    exact ⟨(congrArg (fun z => some (Value.int z)) (by decide : nar .boolean (0 : Int32) = (0 : Int32))), (Fr.nil n0), rfl⟩
-- com/example/tough_filter/toughfilter/Expression$Keyword.equals
set_option maxRecDepth 65536 in
set_option maxHeartbeats 4000000 in
theorem au_55 (l : Launch) (Z : State) (a0 : Array Value) (hw : ∀ d ∈ tables_1, d.before a0 Z = true) (x0 : Addr) (h0 : Heap) (n0 : Nat) (Z0 : n0 ≤ h0.size) :
    Ctr l Z (⟨"com/example/tough_filter/toughfilter/Expression$Keyword", "equals", "(Ljava/lang/Object;)Z"⟩ : MethodName) prog_7_method_2_code 3 (some .boolean) ({ frames := 0, cells := 0, slots := 0, locals := 0 } : Room) #[(.ref x0), .null] h0 (fun v h L => v = some (.int 0) ∧ Fr n0 L ∧ h = h0) := by
  refine Ctr.of (plainFor_of_name pn_c3) ?_
  intro p e s m below meth c T0 hx hZ hby hml hown hnm hret hlk e0 es X0
  refine Go.cast (ef_10_RN m x0) ?_
  generalize hFF : EndN s _ _ _ = FF
  refine Go.aloadN X0 hx (pc' := 1) rfl (hb hby d10_0) rfl rfl ?_
  refine Go.step (fun t kt => X0.instanceofNull hx (g := (mkF m 1 #[.val (.ref x0), .val .null, .unset] [.null])) rfl rfl (hb hby d10_1) t kt) ?_
  show Go _ _ _ _ (T0.setTop (mkF m 4 #[.val (.ref x0), .val .null, .unset] [(.int 0)]))
  refine Go.ifYes X0 hx (pc' := 41) (hb hby d10_4) (by decide) (by decide) (by decide) ?_
  refine Go.iconst X0 hx (pc' := 42) rfl (hb hby d10_41) (v := (0 : Int32)) rfl ?_
  subst hFF
  refine Go.retN X0 hx hlk (t := .boolean) hret (by simp) (hb hby d10_42) (by decide) (by decide) ?_
  rw [e0]
  exact ⟨(congrArg (fun z => some (Value.int z)) (by decide : nar .boolean (0 : Int32) = (0 : Int32))), (Fr.nil n0), rfl⟩
-- com/example/tough_filter/toughfilter/Expression$Keyword.equals
set_option maxRecDepth 65536 in
set_option maxHeartbeats 4000000 in
theorem au_56 (l : Launch) (Z : State) (a0 : Array Value) (hw : ∀ d ∈ tables_1, d.before a0 Z = true) (x0 : Addr) (x1 : Addr) (h0 : Heap) (n0 : Nat) (Z0 : n0 ≤ h0.size) (P3 : Exa Z h0 x1 "java/lang/String") :
    Ctr l Z (⟨"com/example/tough_filter/toughfilter/Expression$Keyword", "equals", "(Ljava/lang/Object;)Z"⟩ : MethodName) prog_7_method_2_code 3 (some .boolean) ({ frames := 0, cells := 0, slots := 0, locals := 0 } : Room) #[(.ref x0), (.ref x1)] h0 (fun v h L => v = some (.int 0) ∧ Fr n0 L ∧ h = h0) := by
  refine Ctr.of (plainFor_of_name pn_c3) ?_
  intro p e s m below meth c T0 hx hZ hby hml hown hnm hret hlk e0 es X0
  refine Go.cast (ef_10_RR m x0 x1) ?_
  generalize hFF : EndN s _ _ _ = FF
  refine Go.aloadN X0 hx (pc' := 1) rfl (hb hby d10_0) rfl rfl ?_
  refine Go.instN X0 hx hZ hown (tw_58 hw) e0 P3 (own_NSno (tw_70 hw) (tw_35 hw) (NS.step (tw_70 hw) (own_NSroot (tw_71 hw) (tw_35 hw) (by decide)) (by decide)) (by decide)) (pc' := 4) rfl (hb hby d10_1) ?_
  intro T1 e1 X1
  refine Go.ifYes X1 hx (pc' := 41) (hb hby d10_4) (by decide) (by decide) (by decide) ?_
  refine Go.iconst X1 hx (pc' := 42) rfl (hb hby d10_41) (v := (0 : Int32)) rfl ?_
  subst hFF
  refine Go.retN X1 hx hlk (t := .boolean) hret (by simp) (hb hby d10_42) (by decide) (by decide) ?_
  rw [e1]
  exact ⟨(congrArg (fun z => some (Value.int z)) (by decide : nar .boolean (0 : Int32) = (0 : Int32))), (Fr.nil n0), rfl⟩
-- java/lang/String.equals
set_option maxRecDepth 65536 in
set_option maxHeartbeats 4000000 in
theorem au_58 (l : Launch) (Z : State) (a0 : Array Value) (hw : ∀ d ∈ tables_1, d.before a0 Z = true) (x0 : Addr) (h0 : Heap) (n0 : Nat) (Z0 : n0 ≤ h0.size) :
    Ctr l Z (⟨"java/lang/String", "equals", "(Ljava/lang/Object;)Z"⟩ : MethodName) jdk_42_method_66_code 3 (some .boolean) ({ frames := 0, cells := 0, slots := 0, locals := 0 } : Room) #[(.ref x0), (.ref x0)] h0 (fun v h L => v = some (.int 1) ∧ Fr n0 L ∧ h = h0) := by
  refine Ctr.of (plainFor_of_name pn_c0) ?_
  intro p e s m below meth c T0 hx hZ hby hml hown hnm hret hlk e0 es X0
  refine Go.cast (ef_11_RR m x0 x0) ?_
  generalize hFF : EndN s _ _ _ = FF
  refine Go.aloadN X0 hx (pc' := 1) rfl (hb hby d11_0) rfl rfl ?_
  refine Go.aloadN X0 hx (pc' := 2) rfl (hb hby d11_1) rfl rfl ?_
  refine Go.acmp X0 hx (pc' := 5) (same := true) (hb hby d11_2) rfl rfl (decide_eq_true rfl) (by decide) (by decide) ?_
  refine Go.iconst X0 hx (pc' := 6) rfl (hb hby d11_5) (v := (1 : Int32)) rfl ?_
  subst hFF
  refine Go.retN X0 hx hlk (t := .boolean) hret (by simp) (hb hby d11_6) (by decide) (by decide) ?_
  rw [e0]
  exact ⟨(congrArg (fun z => some (Value.int z)) (by decide : nar .boolean (1 : Int32) = (1 : Int32))), (Fr.nil n0), rfl⟩
-- com/example/tough_filter/toughfilter/Expression$Keyword.equals
set_option maxRecDepth 65536 in
set_option maxHeartbeats 4000000 in
theorem au_57 (l : Launch) (Z : State) (a0 : Array Value) (hw : ∀ d ∈ tables_1, d.before a0 Z = true) (x0 : Addr) (p0 : Int32) (x1 : Addr) (h0 : Heap) (n0 : Nat) (Z0 : n0 ≤ h0.size) (P0 : Exa Z h0 x0 "com/example/tough_filter/toughfilter/Expression$Keyword") (P1 : Fld Z h0 x0 "com/example/tough_filter/toughfilter/Expression$Keyword" "pinyin" "Z" (.int p0)) (P2 : Fld Z h0 x0 "com/example/tough_filter/toughfilter/Expression$Keyword" "word" "Ljava/lang/String;" (.ref x1)) (P3 : Exa Z h0 x1 "java/lang/String") :
    Ctr l Z (⟨"com/example/tough_filter/toughfilter/Expression$Keyword", "equals", "(Ljava/lang/Object;)Z"⟩ : MethodName) prog_7_method_2_code 3 (some .boolean) ({ frames := 1, cells := 0, slots := 0, locals := 14 } : Room) #[(.ref x0), (.ref x0)] h0 (fun v h L => v = some (.int 1) ∧ Fr n0 L ∧ h = h0) := by
  refine Ctr.of (plainFor_of_name pn_c3) ?_
  intro p e s m below meth c T0 hx hZ hby hml hown hnm hret hlk e0 es X0
  refine Go.cast (ef_10_RR m x0 x0) ?_
  generalize hFF : EndN s _ _ _ = FF
  refine Go.aloadN X0 hx (pc' := 1) rfl (hb hby d10_0) rfl rfl ?_
  refine Go.instY X0 hx hZ hown (tw_58 hw) e0 (Ins.self P0) (pc' := 4) rfl (hb hby d10_1) ?_
  intro T1 e1 X1
  refine Go.ifNo X1 hx (pc' := 7) rfl (hb hby d10_4) (by decide) ?_
  refine Go.aloadN X1 hx (pc' := 8) rfl (hb hby d10_7) rfl rfl ?_
  refine Go.castY X1 hx hZ hown (tw_58 hw) e1 (Ins.self P0) (pc' := 11) rfl (hb hby d10_8) ?_
  intro T2 e2 X2
  refine Go.astoreN X2 hx (pc' := 12) rfl (hb hby d10_11) (Ls' := #[.val (.ref x0), .val (.ref x0), .val (.ref x0)]) rfl rfl ?_
  refine Go.aloadN X2 hx (pc' := 13) rfl (hb hby d10_12) rfl rfl ?_
  refine Go.getF X2 hx hZ hown (host := "") (Or.inl (tw_48 hw)) Via.refl e2 P1 (pc' := 16) rfl (hb hby d10_13) ?_
  intro T3 e3 X3
  refine Go.aloadN X3 hx (pc' := 17) rfl (hb hby d10_16) rfl rfl ?_
  refine Go.getF X3 hx hZ hown (host := "") (Or.inl (tw_48 hw)) Via.refl e3 P1 (pc' := 20) rfl (hb hby d10_17) ?_
  intro T4 e4 X4
  refine Go.icmpNo X4 hx (pc' := 23) rfl (hb hby d10_20) (teq rfl).2 ?_
  refine Go.aloadN X4 hx (pc' := 24) rfl (hb hby d10_23) rfl rfl ?_
  refine Go.getF X4 hx hZ hown (host := "") (Or.inl (tw_46 hw)) Via.refl e4 P2 (pc' := 27) rfl (hb hby d10_24) ?_
  intro T5 e5 X5
  refine Go.aloadN X5 hx (pc' := 28) rfl (hb hby d10_27) rfl rfl ?_
  refine Go.getF X5 hx hZ hown (host := "") (Or.inl (tw_46 hw)) Via.refl e5 P2 (pc' := 31) rfl (hb hby d10_28) ?_
  intro T6 e6 X6
  refine Go.callV X6 hx hZ hown (tw_60 hw) (tw_61 hw) (notFace_of_selects (args := #[]) (mvT hZ (tw_63 hw))) (tw_63 hw) (tw_62 hw) (by decide) (tw_64 hw) (tw_6 hw) (au_58 l Z a0 hw x1 h0 n0 Z0) e6 P3 (argsL := [(.ref x1)]) (rest := []) (pc' := 34) rfl (by rw [hml]; rfl) (lenOf pd_5 rfl) rfl rfl (W := 0) (Nat.le_of_eq rfl) (by decide) (by decide) (by decide) (by decide) (hb hby d10_31) ?_
  intro v7 T7 L7 q7 X7
  obtain ⟨rfl, N7, e7⟩ := q7
  show Go _ _ _ _ (T7.setTop (mkF m 34 #[.val (.ref x0), .val (.ref x0), .val (.ref x0)] [(.int 1)]))
  refine Go.ifNo X7 hx (pc' := 37) rfl (hb hby d10_34) (by decide) ?_
  refine Go.iconst X7 hx (pc' := 38) rfl (hb hby d10_37) (v := (1 : Int32)) rfl ?_
  refine Go.goto X7 hx (pc' := 42) (hb hby d10_38) (by decide) (by decide) ?_
  subst hFF
  refine Go.retN X7 hx hlk (t := .boolean) hret (by simp) (hb hby d10_42) (by decide) (by decide) ?_
  rw [e7]
  exact ⟨(congrArg (fun z => some (Value.int z)) (by decide : nar .boolean (1 : Int32) = (1 : Int32))), (Fr.app (Fr.nil n0) N7), rfl⟩
-- java/lang/StringLatin1.equals
set_option maxRecDepth 65536 in
set_option maxHeartbeats 4000000 in
theorem au_61 (l : Launch) (Z : State) (a0 : Array Value) (hw : ∀ d ∈ tables_1, d.before a0 Z = true) (x0 : Addr) (x1 : Addr) (kk0 : ClassId) (p0 : Int32) (p1 : Int32) (kk1 : ClassId) (p2 : Int32) (p3 : Int32) (p4 : Int32) (p5 : Int32) (p6 : Int32) (p7 : Int32) (h0 : Heap) (n0 : Nat) (Z0 : n0 ≤ h0.size) (P0 : Arv Z h0 x0 kk0 .byte (2 : Int32) [(.int p0), (.int p1)] (.int 0)) (P2 : Arv Z h0 x1 kk1 .byte (2 : Int32) [(.int p2), (.int p3)] (.int 0)) (R_p4 : 0 ≤ p4.toInt ∧ p4.toInt ≤ 255) (R_p5 : 0 ≤ p5.toInt ∧ p5.toInt ≤ 255) (R_p6 : 0 ≤ p6.toInt ∧ p6.toInt ≤ 255) (R_p7 : 0 ≤ p7.toInt ∧ p7.toInt ≤ 255) (B_p0 : (p4.toInt8.toInt32) = p0) (B_p1 : (p5.toInt8.toInt32) = p1) (B_p2 : (p6.toInt8.toInt32) = p2) (B_p3 : (p7.toInt8.toInt32) = p3) :
    Ctr l Z (⟨"java/lang/StringLatin1", "equals", "([B[B)Z"⟩ : MethodName) jdk_43_method_13_code 3 (some .boolean) ({ frames := 0, cells := 0, slots := 0, locals := 0 } : Room) #[(.ref x0), (.ref x1)] h0 (fun v h L => (p4 = p6 ∧ p5 = p7 ∧ v = some (.int 1) ∧ Fr n0 L ∧ h = h0) ∨ (p4 = p6 ∧ ¬ (p5 = p7) ∧ v = some (.int 0) ∧ Fr n0 L ∧ h = h0) ∨ (¬ (p4 = p6) ∧ v = some (.int 0) ∧ Fr n0 L ∧ h = h0)) := by
  refine Ctr.of (plainFor_of_name pn_c4) ?_
  intro p e s m below meth c T0 hx hZ hby hml hown hnm hret hlk e0 es X0
  refine Go.cast (ef_12_RR m x0 x1) ?_
  generalize hFF : EndN s _ _ _ = FF
  refine Go.aloadN X0 hx (pc' := 1) rfl (hb hby d12_0) rfl rfl ?_
  refine Go.arraylength X0 hx hZ e0 P0 (pc' := 2) rfl (hb hby d12_1) ?_
  refine Go.aloadN X0 hx (pc' := 3) rfl (hb hby d12_2) rfl rfl ?_
  refine Go.arraylength X0 hx hZ e0 P2 (pc' := 4) rfl (hb hby d12_3) ?_
  refine Go.icmpNo X0 hx (pc' := 7) rfl (hb hby d12_4) (by decide) ?_
  refine Go.iconst X0 hx (pc' := 8) rfl (hb hby d12_7) (v := (0 : Int32)) rfl ?_
  refine Go.istoreN X0 hx (pc' := 9) rfl (hb hby d12_8) (Ls' := #[.val (.ref x0), .val (.ref x1), .val (.int 0)]) rfl ?_
  refine Go.iloadN X0 hx (pc' := 10) rfl (hb hby d12_9) rfl ?_
  refine Go.aloadN X0 hx (pc' := 11) rfl (hb hby d12_10) rfl rfl ?_
  refine Go.arraylength X0 hx hZ e0 P0 (pc' := 12) rfl (hb hby d12_11) ?_
  refine Go.icmpNo X0 hx (pc' := 15) rfl (hb hby d12_12) (by decide) ?_
  refine Go.aloadN X0 hx (pc' := 16) rfl (hb hby d12_15) rfl rfl ?_
  refine Go.iloadN X0 hx (pc' := 17) rfl (hb hby d12_16) rfl ?_
  refine Go.baload X0 hx hZ e0 P0 (v := (.int p0)) ⟨by decide, by decide⟩ rfl (pc' := 18) rfl (hb hby d12_17) ?_
  refine Go.aloadN X0 hx (pc' := 19) rfl (hb hby d12_18) rfl rfl ?_
  refine Go.iloadN X0 hx (pc' := 20) rfl (hb hby d12_19) rfl ?_
  refine Go.baload X0 hx hZ e0 P2 (v := (.int p2)) ⟨by decide, by decide⟩ rfl (pc' := 21) rfl (hb hby d12_20) ?_
  by_cases hc1 : p4 = p6
  · refine Go.icmpYes X0 hx (pc' := 26) (hb hby d12_21) (teq (own_lat_eq B_p0 B_p2 hc1)).1 (by decide) (by decide) ?_
    refine Go.iinc X0 hx (pc' := 29) rfl (hb hby d12_26) rfl (y := (1 : Int32)) (by decide) (Ls' := #[.val (.ref x0), .val (.ref x1), .val (.int 1)]) rfl ?_
    refine Go.goto X0 hx (pc' := 9) (hb hby d12_29) (by decide) (by decide) ?_
    refine Go.iloadN X0 hx (pc' := 10) rfl (hb hby d12_9) rfl ?_
    refine Go.aloadN X0 hx (pc' := 11) rfl (hb hby d12_10) rfl rfl ?_
    refine Go.arraylength X0 hx hZ e0 P0 (pc' := 12) rfl (hb hby d12_11) ?_
    refine Go.icmpNo X0 hx (pc' := 15) rfl (hb hby d12_12) (by decide) ?_
    refine Go.aloadN X0 hx (pc' := 16) rfl (hb hby d12_15) rfl rfl ?_
    refine Go.iloadN X0 hx (pc' := 17) rfl (hb hby d12_16) rfl ?_
    refine Go.baload X0 hx hZ e0 P0 (v := (.int p1)) ⟨by decide, by decide⟩ rfl (pc' := 18) rfl (hb hby d12_17) ?_
    refine Go.aloadN X0 hx (pc' := 19) rfl (hb hby d12_18) rfl rfl ?_
    refine Go.iloadN X0 hx (pc' := 20) rfl (hb hby d12_19) rfl ?_
    refine Go.baload X0 hx hZ e0 P2 (v := (.int p3)) ⟨by decide, by decide⟩ rfl (pc' := 21) rfl (hb hby d12_20) ?_
    by_cases hc2 : p5 = p7
    · refine Go.icmpYes X0 hx (pc' := 26) (hb hby d12_21) (teq (own_lat_eq B_p1 B_p3 hc2)).1 (by decide) (by decide) ?_
      refine Go.iinc X0 hx (pc' := 29) rfl (hb hby d12_26) rfl (y := (2 : Int32)) (by decide) (Ls' := #[.val (.ref x0), .val (.ref x1), .val (.int 2)]) rfl ?_
      refine Go.goto X0 hx (pc' := 9) (hb hby d12_29) (by decide) (by decide) ?_
      refine Go.iloadN X0 hx (pc' := 10) rfl (hb hby d12_9) rfl ?_
      refine Go.aloadN X0 hx (pc' := 11) rfl (hb hby d12_10) rfl rfl ?_
      refine Go.arraylength X0 hx hZ e0 P0 (pc' := 12) rfl (hb hby d12_11) ?_
      refine Go.icmpYes X0 hx (pc' := 32) (hb hby d12_12) (by decide) (by decide) (by decide) ?_
      refine Go.iconst X0 hx (pc' := 33) rfl (hb hby d12_32) (v := (1 : Int32)) rfl ?_
      subst hFF
      refine Go.retN X0 hx hlk (t := .boolean) hret (by simp) (hb hby d12_33) (by decide) (by decide) ?_
      rw [e0]
      exact Or.inl ⟨hc1, hc2, (congrArg (fun z => some (Value.int z)) (by decide : nar .boolean (1 : Int32) = (1 : Int32))), (Fr.nil n0), rfl⟩
    · refine Go.icmpNo X0 hx (pc' := 24) rfl (hb hby d12_21) (feq (own_lat_ne B_p1 B_p3 R_p5 R_p7 (by decide) hc2)).1 ?_
      refine Go.iconst X0 hx (pc' := 25) rfl (hb hby d12_24) (v := (0 : Int32)) rfl ?_
      subst hFF
      refine Go.retN X0 hx hlk (t := .boolean) hret (by simp) (hb hby d12_25) (by decide) (by decide) ?_
      rw [e0]
      exact Or.inr (Or.inl ⟨hc1, hc2, (congrArg (fun z => some (Value.int z)) (by decide : nar .boolean (0 : Int32) = (0 : Int32))), (Fr.nil n0), rfl⟩)
  · refine Go.icmpNo X0 hx (pc' := 24) rfl (hb hby d12_21) (feq (own_lat_ne B_p0 B_p2 R_p4 R_p6 (by decide) hc1)).1 ?_
    refine Go.iconst X0 hx (pc' := 25) rfl (hb hby d12_24) (v := (0 : Int32)) rfl ?_
    subst hFF
    refine Go.retN X0 hx hlk (t := .boolean) hret (by simp) (hb hby d12_25) (by decide) (by decide) ?_
    rw [e0]
    exact Or.inr (Or.inr (⟨hc1, (congrArg (fun z => some (Value.int z)) (by decide : nar .boolean (0 : Int32) = (0 : Int32))), (Fr.nil n0), rfl⟩))
-- java/lang/String.equals
set_option maxRecDepth 65536 in
set_option maxHeartbeats 4000000 in
theorem au_60 (l : Launch) (Z : State) (a0 : Array Value) (hw : ∀ d ∈ tables_1, d.before a0 Z = true) (x0 : Addr) (x1 : Addr) (x2 : Addr) (x3 : Addr) (kk0 : ClassId) (p0 : Int32) (p1 : Int32) (kk1 : ClassId) (p2 : Int32) (p3 : Int32) (p4 : Int32) (p5 : Int32) (p6 : Int32) (p7 : Int32) (gz1 : Int32) (gv5 : Value) (h0 : Heap) (n0 : Nat) (Z0 : n0 ≤ h0.size) (O0 : Old Z n0 h0) (G : Glob Z gz1 gv5) (P1 : Fld Z h0 x0 "java/lang/String" "coder" "B" (.int 0)) (P2 : Fld Z h0 x0 "java/lang/String" "value" "[B" (.ref x2)) (P3 : Exa Z h0 x1 "java/lang/String") (P4 : Fld Z h0 x1 "java/lang/String" "coder" "B" (.int 0)) (P5 : Fld Z h0 x1 "java/lang/String" "value" "[B" (.ref x3)) (P6 : Arv Z h0 x2 kk0 .byte (2 : Int32) [(.int p0), (.int p1)] (.int 0)) (P8 : Arv Z h0 x3 kk1 .byte (2 : Int32) [(.int p2), (.int p3)] (.int 0)) (R_p4 : 0 ≤ p4.toInt ∧ p4.toInt ≤ 255) (R_p5 : 0 ≤ p5.toInt ∧ p5.toInt ≤ 255) (R_p6 : 0 ≤ p6.toInt ∧ p6.toInt ≤ 255) (R_p7 : 0 ≤ p7.toInt ∧ p7.toInt ≤ 255) (B_p0 : (p4.toInt8.toInt32) = p0) (B_p1 : (p5.toInt8.toInt32) = p1) (B_p2 : (p6.toInt8.toInt32) = p2) (B_p3 : (p7.toInt8.toInt32) = p3) (ne_x0_x1 : x0 ≠ x1) :
    Ctr l Z (⟨"java/lang/String", "equals", "(Ljava/lang/Object;)Z"⟩ : MethodName) jdk_42_method_66_code 3 (some .boolean) ({ frames := 1, cells := 0, slots := 0, locals := 14 } : Room) #[(.ref x0), (.ref x1)] h0 (fun v h L => (p4 = p6 ∧ p5 = p7 ∧ v = some (.int 1) ∧ Fr n0 L ∧ h = h0) ∨ (p4 = p6 ∧ ¬ (p5 = p7) ∧ v = some (.int 0) ∧ Fr n0 L ∧ h = h0) ∨ (¬ (p4 = p6) ∧ v = some (.int 0) ∧ Fr n0 L ∧ h = h0)) := by
  refine Ctr.of (plainFor_of_name pn_c0) ?_
  intro p e s m below meth c T0 hx hZ hby hml hown hnm hret hlk e0 es X0
  have G' := G
  obtain ⟨G0, -, G2, -⟩ := G'
  refine Go.cast (ef_11_RR m x0 x1) ?_
  generalize hFF : EndN s _ _ _ = FF
  refine Go.aloadN X0 hx (pc' := 1) rfl (hb hby d11_0) rfl rfl ?_
  refine Go.aloadN X0 hx (pc' := 2) rfl (hb hby d11_1) rfl rfl ?_
  refine Go.acmp X0 hx (pc' := 7) (same := false) (hb hby d11_2) rfl rfl (decide_eq_false (fun q => ne_x0_x1 (Value.ref.inj q))) (by decide) (by decide) ?_
  refine Go.aloadN X0 hx (pc' := 8) rfl (hb hby d11_7) rfl rfl ?_
  refine Go.instY X0 hx hZ hown (tw_65 hw) e0 (Ins.self P3) (pc' := 11) rfl (hb hby d11_8) ?_
  intro T1 e1 X1
  refine Go.ifNo X1 hx (pc' := 14) rfl (hb hby d11_11) (by decide) ?_
  refine Go.aloadN X1 hx (pc' := 15) rfl (hb hby d11_14) rfl rfl ?_
  refine Go.castY X1 hx hZ hown (tw_65 hw) e1 (Ins.self P3) (pc' := 18) rfl (hb hby d11_15) ?_
  intro T2 e2 X2
  refine Go.astoreN X2 hx (pc' := 19) rfl (hb hby d11_18) (Ls' := #[.val (.ref x0), .val (.ref x1), .val (.ref x1)]) rfl rfl ?_
  have fk3 : Sta Z h0 "java/lang/String" "COMPACT_STRINGS" "Z" (.int gz1) := G0.ext O0.2
  refine Go.getS X2 hx hZ hown (host := "") (Or.inl (tw_18 hw)) Via.refl e2 fk3 (pc' := 22) rfl (hb hby d11_19) ?_
  intro T4 e4 X4
  refine Go.ifNo X4 hx (pc' := 25) rfl (hb hby d11_22) (feq G2).1 ?_
  refine Go.aloadN X4 hx (pc' := 26) rfl (hb hby d11_25) rfl rfl ?_
  refine Go.getF X4 hx hZ hown (host := "") (Or.inl (tw_30 hw)) Via.refl e4 P1 (pc' := 29) rfl (hb hby d11_26) ?_
  intro T5 e5 X5
  refine Go.aloadN X5 hx (pc' := 30) rfl (hb hby d11_29) rfl rfl ?_
  refine Go.getF X5 hx hZ hown (host := "") (Or.inl (tw_30 hw)) Via.refl e5 P4 (pc' := 33) rfl (hb hby d11_30) ?_
  intro T6 e6 X6
  refine Go.icmpNo X6 hx (pc' := 36) rfl (hb hby d11_33) (by decide) ?_
  refine Go.aloadN X6 hx (pc' := 37) rfl (hb hby d11_36) rfl rfl ?_
  refine Go.getF X6 hx hZ hown (host := "") (Or.inl (tw_32 hw)) Via.refl e6 P2 (pc' := 40) rfl (hb hby d11_37) ?_
  intro T7 e7 X7
  refine Go.aloadN X7 hx (pc' := 41) rfl (hb hby d11_40) rfl rfl ?_
  refine Go.getF X7 hx hZ hown (host := "") (Or.inl (tw_32 hw)) Via.refl e7 P5 (pc' := 44) rfl (hb hby d11_41) ?_
  intro T8 e8 X8
  refine Go.callS X8 hx hZ hown (tw_66 hw) (tw_67 hw) (tw_68 hw) (tw_69 hw) (by decide) (tw_69 hw) (tw_68 hw) (au_61 l Z a0 hw x2 x3 kk0 p0 p1 kk1 p2 p3 p4 p5 p6 p7 h0 n0 Z0 P6 P8 R_p4 R_p5 R_p6 R_p7 B_p0 B_p1 B_p2 B_p3) e8 (argsL := [(.ref x2), (.ref x3)]) (rest := []) (pc' := 47) rfl (by rw [hml]; rfl) (lenOf pd_6 rfl) rfl rfl (W := 0) (Nat.le_of_eq rfl) (by decide) (by decide) (by decide) (by decide) (hb hby d11_44) ?_
  intro v9 T9 L9 q9 X9
  rcases q9 with ⟨c9_0_0, c9_0_1, rfl, N9_0, e9_0⟩ | ⟨c9_1_0, c9_1_1, rfl, N9_1, e9_1⟩ | ⟨c9_2_0, rfl, N9_2, e9_2⟩
  · show Go _ _ _ _ (T9.setTop (mkF m 47 #[.val (.ref x0), .val (.ref x1), .val (.ref x1)] [(.int 1)]))
    refine Go.ifNo X9 hx (pc' := 50) rfl (hb hby d11_47) (by decide) ?_
    refine Go.iconst X9 hx (pc' := 51) rfl (hb hby d11_50) (v := (1 : Int32)) rfl ?_
    refine Go.goto X9 hx (pc' := 55) (hb hby d11_51) (by decide) (by decide) ?_
    subst hFF
    refine Go.retN X9 hx hlk (t := .boolean) hret (by simp) (hb hby d11_55) (by decide) (by decide) ?_
    rw [e9_0]
    exact Or.inl ⟨c9_0_0, c9_0_1, (congrArg (fun z => some (Value.int z)) (by decide : nar .boolean (1 : Int32) = (1 : Int32))), (Fr.app (Fr.nil n0) N9_0), rfl⟩
  · show Go _ _ _ _ (T9.setTop (mkF m 47 #[.val (.ref x0), .val (.ref x1), .val (.ref x1)] [(.int 0)]))
    refine Go.ifYes X9 hx (pc' := 54) (hb hby d11_47) (by decide) (by decide) (by decide) ?_
    refine Go.iconst X9 hx (pc' := 55) rfl (hb hby d11_54) (v := (0 : Int32)) rfl ?_
    subst hFF
    refine Go.retN X9 hx hlk (t := .boolean) hret (by simp) (hb hby d11_55) (by decide) (by decide) ?_
    rw [e9_1]
    exact Or.inr (Or.inl ⟨c9_1_0, c9_1_1, (congrArg (fun z => some (Value.int z)) (by decide : nar .boolean (0 : Int32) = (0 : Int32))), (Fr.app (Fr.nil n0) N9_1), rfl⟩)
  · show Go _ _ _ _ (T9.setTop (mkF m 47 #[.val (.ref x0), .val (.ref x1), .val (.ref x1)] [(.int 0)]))
    refine Go.ifYes X9 hx (pc' := 54) (hb hby d11_47) (by decide) (by decide) (by decide) ?_
    refine Go.iconst X9 hx (pc' := 55) rfl (hb hby d11_54) (v := (0 : Int32)) rfl ?_
    subst hFF
    refine Go.retN X9 hx hlk (t := .boolean) hret (by simp) (hb hby d11_55) (by decide) (by decide) ?_
    rw [e9_2]
    exact Or.inr (Or.inr (⟨c9_2_0, (congrArg (fun z => some (Value.int z)) (by decide : nar .boolean (0 : Int32) = (0 : Int32))), (Fr.app (Fr.nil n0) N9_2), rfl⟩))
-- com/example/tough_filter/toughfilter/Expression$Keyword.equals
set_option maxRecDepth 65536 in
set_option maxHeartbeats 4000000 in
theorem au_59 (l : Launch) (Z : State) (a0 : Array Value) (hw : ∀ d ∈ tables_1, d.before a0 Z = true) (x0 : Addr) (x1 : Addr) (p0 : Int32) (x2 : Addr) (p1 : Int32) (x3 : Addr) (x4 : Addr) (x5 : Addr) (kk0 : ClassId) (p2 : Int32) (p3 : Int32) (kk1 : ClassId) (p4 : Int32) (p5 : Int32) (p6 : Int32) (p7 : Int32) (p8 : Int32) (p9 : Int32) (gz1 : Int32) (gv5 : Value) (h0 : Heap) (n0 : Nat) (Z0 : n0 ≤ h0.size) (O0 : Old Z n0 h0) (G : Glob Z gz1 gv5) (P1 : Fld Z h0 x0 "com/example/tough_filter/toughfilter/Expression$Keyword" "pinyin" "Z" (.int p0)) (P2 : Fld Z h0 x0 "com/example/tough_filter/toughfilter/Expression$Keyword" "word" "Ljava/lang/String;" (.ref x2)) (P3 : Exa Z h0 x1 "com/example/tough_filter/toughfilter/Expression$Keyword") (P4 : Fld Z h0 x1 "com/example/tough_filter/toughfilter/Expression$Keyword" "pinyin" "Z" (.int p1)) (P5 : Fld Z h0 x1 "com/example/tough_filter/toughfilter/Expression$Keyword" "word" "Ljava/lang/String;" (.ref x3)) (P6 : Exa Z h0 x2 "java/lang/String") (P7 : Fld Z h0 x2 "java/lang/String" "coder" "B" (.int 0)) (P8 : Fld Z h0 x2 "java/lang/String" "value" "[B" (.ref x4)) (P9 : Exa Z h0 x3 "java/lang/String") (P10 : Fld Z h0 x3 "java/lang/String" "coder" "B" (.int 0)) (P11 : Fld Z h0 x3 "java/lang/String" "value" "[B" (.ref x5)) (P12 : Arv Z h0 x4 kk0 .byte (2 : Int32) [(.int p2), (.int p3)] (.int 0)) (P14 : Arv Z h0 x5 kk1 .byte (2 : Int32) [(.int p4), (.int p5)] (.int 0)) (R_p6 : 0 ≤ p6.toInt ∧ p6.toInt ≤ 255) (R_p7 : 0 ≤ p7.toInt ∧ p7.toInt ≤ 255) (R_p8 : 0 ≤ p8.toInt ∧ p8.toInt ≤ 255) (R_p9 : 0 ≤ p9.toInt ∧ p9.toInt ≤ 255) (B_p2 : (p6.toInt8.toInt32) = p2) (B_p3 : (p7.toInt8.toInt32) = p3) (B_p4 : (p8.toInt8.toInt32) = p4) (B_p5 : (p9.toInt8.toInt32) = p5) (ne_x2_x3 : x2 ≠ x3) :
    Ctr l Z (⟨"com/example/tough_filter/toughfilter/Expression$Keyword", "equals", "(Ljava/lang/Object;)Z"⟩ : MethodName) prog_7_method_2_code 3 (some .boolean) ({ frames := 2, cells := 0, slots := 0, locals := 28 } : Room) #[(.ref x0), (.ref x1)] h0 (fun v h L => (p0 = p1 ∧ p6 = p8 ∧ p7 = p9 ∧ v = some (.int 1) ∧ Fr n0 L ∧ h = h0) ∨ (p0 = p1 ∧ p6 = p8 ∧ ¬ (p7 = p9) ∧ v = some (.int 0) ∧ Fr n0 L ∧ h = h0) ∨ (p0 = p1 ∧ ¬ (p6 = p8) ∧ v = some (.int 0) ∧ Fr n0 L ∧ h = h0) ∨ (¬ (p0 = p1) ∧ v = some (.int 0) ∧ Fr n0 L ∧ h = h0)) := by
  refine Ctr.of (plainFor_of_name pn_c3) ?_
  intro p e s m below meth c T0 hx hZ hby hml hown hnm hret hlk e0 es X0
  refine Go.cast (ef_10_RR m x0 x1) ?_
  generalize hFF : EndN s _ _ _ = FF
  refine Go.aloadN X0 hx (pc' := 1) rfl (hb hby d10_0) rfl rfl ?_
  refine Go.instY X0 hx hZ hown (tw_58 hw) e0 (Ins.self P3) (pc' := 4) rfl (hb hby d10_1) ?_
  intro T1 e1 X1
  refine Go.ifNo X1 hx (pc' := 7) rfl (hb hby d10_4) (by decide) ?_
  refine Go.aloadN X1 hx (pc' := 8) rfl (hb hby d10_7) rfl rfl ?_
  refine Go.castY X1 hx hZ hown (tw_58 hw) e1 (Ins.self P3) (pc' := 11) rfl (hb hby d10_8) ?_
  intro T2 e2 X2
  refine Go.astoreN X2 hx (pc' := 12) rfl (hb hby d10_11) (Ls' := #[.val (.ref x0), .val (.ref x1), .val (.ref x1)]) rfl rfl ?_
  refine Go.aloadN X2 hx (pc' := 13) rfl (hb hby d10_12) rfl rfl ?_
  refine Go.getF X2 hx hZ hown (host := "") (Or.inl (tw_48 hw)) Via.refl e2 P1 (pc' := 16) rfl (hb hby d10_13) ?_
  intro T3 e3 X3
  refine Go.aloadN X3 hx (pc' := 17) rfl (hb hby d10_16) rfl rfl ?_
  refine Go.getF X3 hx hZ hown (host := "") (Or.inl (tw_48 hw)) Via.refl e3 P4 (pc' := 20) rfl (hb hby d10_17) ?_
  intro T4 e4 X4
  by_cases hc5 : p0 = p1
  · refine Go.icmpNo X4 hx (pc' := 23) rfl (hb hby d10_20) (teq hc5).2 ?_
    refine Go.aloadN X4 hx (pc' := 24) rfl (hb hby d10_23) rfl rfl ?_
    refine Go.getF X4 hx hZ hown (host := "") (Or.inl (tw_46 hw)) Via.refl e4 P2 (pc' := 27) rfl (hb hby d10_24) ?_
    intro T6 e6 X6
    refine Go.aloadN X6 hx (pc' := 28) rfl (hb hby d10_27) rfl rfl ?_
    refine Go.getF X6 hx hZ hown (host := "") (Or.inl (tw_46 hw)) Via.refl e6 P5 (pc' := 31) rfl (hb hby d10_28) ?_
    intro T7 e7 X7
    refine Go.callV X7 hx hZ hown (tw_60 hw) (tw_61 hw) (notFace_of_selects (args := #[]) (mvT hZ (tw_63 hw))) (tw_63 hw) (tw_62 hw) (by decide) (tw_64 hw) (tw_6 hw) (au_60 l Z a0 hw x2 x3 x4 x5 kk0 p2 p3 kk1 p4 p5 p6 p7 p8 p9 gz1 gv5 h0 n0 Z0 O0 G P7 P8 P9 P10 P11 P12 P14 R_p6 R_p7 R_p8 R_p9 B_p2 B_p3 B_p4 B_p5 ne_x2_x3) e7 P6 (argsL := [(.ref x3)]) (rest := []) (pc' := 34) rfl (by rw [hml]; rfl) (lenOf pd_5 rfl) rfl rfl (W := 0) (Nat.le_of_eq rfl) (by decide) (by decide) (by decide) (by decide) (hb hby d10_31) ?_
    intro v8 T8 L8 q8 X8
    rcases q8 with ⟨c8_0_0, c8_0_1, rfl, N8_0, e8_0⟩ | ⟨c8_1_0, c8_1_1, rfl, N8_1, e8_1⟩ | ⟨c8_2_0, rfl, N8_2, e8_2⟩
    · show Go _ _ _ _ (T8.setTop (mkF m 34 #[.val (.ref x0), .val (.ref x1), .val (.ref x1)] [(.int 1)]))
      refine Go.ifNo X8 hx (pc' := 37) rfl (hb hby d10_34) (by decide) ?_
      refine Go.iconst X8 hx (pc' := 38) rfl (hb hby d10_37) (v := (1 : Int32)) rfl ?_
      refine Go.goto X8 hx (pc' := 42) (hb hby d10_38) (by decide) (by decide) ?_
      subst hFF
      refine Go.retN X8 hx hlk (t := .boolean) hret (by simp) (hb hby d10_42) (by decide) (by decide) ?_
      rw [e8_0]
      exact Or.inl ⟨hc5, c8_0_0, c8_0_1, (congrArg (fun z => some (Value.int z)) (by decide : nar .boolean (1 : Int32) = (1 : Int32))), (Fr.app (Fr.nil n0) N8_0), rfl⟩
    · show Go _ _ _ _ (T8.setTop (mkF m 34 #[.val (.ref x0), .val (.ref x1), .val (.ref x1)] [(.int 0)]))
      refine Go.ifYes X8 hx (pc' := 41) (hb hby d10_34) (by decide) (by decide) (by decide) ?_
      refine Go.iconst X8 hx (pc' := 42) rfl (hb hby d10_41) (v := (0 : Int32)) rfl ?_
      subst hFF
      refine Go.retN X8 hx hlk (t := .boolean) hret (by simp) (hb hby d10_42) (by decide) (by decide) ?_
      rw [e8_1]
      exact Or.inr (Or.inl ⟨hc5, c8_1_0, c8_1_1, (congrArg (fun z => some (Value.int z)) (by decide : nar .boolean (0 : Int32) = (0 : Int32))), (Fr.app (Fr.nil n0) N8_1), rfl⟩)
    · show Go _ _ _ _ (T8.setTop (mkF m 34 #[.val (.ref x0), .val (.ref x1), .val (.ref x1)] [(.int 0)]))
      refine Go.ifYes X8 hx (pc' := 41) (hb hby d10_34) (by decide) (by decide) (by decide) ?_
      refine Go.iconst X8 hx (pc' := 42) rfl (hb hby d10_41) (v := (0 : Int32)) rfl ?_
      subst hFF
      refine Go.retN X8 hx hlk (t := .boolean) hret (by simp) (hb hby d10_42) (by decide) (by decide) ?_
      rw [e8_2]
      exact Or.inr (Or.inr (Or.inl ⟨hc5, c8_2_0, (congrArg (fun z => some (Value.int z)) (by decide : nar .boolean (0 : Int32) = (0 : Int32))), (Fr.app (Fr.nil n0) N8_2), rfl⟩))
  · refine Go.icmpYes X4 hx (pc' := 41) (hb hby d10_20) (feq hc5).2 (by decide) (by decide) ?_
    refine Go.iconst X4 hx (pc' := 42) rfl (hb hby d10_41) (v := (0 : Int32)) rfl ?_
    subst hFF
    refine Go.retN X4 hx hlk (t := .boolean) hret (by simp) (hb hby d10_42) (by decide) (by decide) ?_
    rw [e4]
    exact Or.inr (Or.inr (Or.inr (⟨hc5, (congrArg (fun z => some (Value.int z)) (by decide : nar .boolean (0 : Int32) = (0 : Int32))), (Fr.nil n0), rfl⟩)))
theorem ef_0_III (m : MethodId) (x0 : Int32) (x1 : Int32) (x2 : Int32) : entryFrame m #[(.int x0), (.int x1), (.int x2)] maxLocals = mkF m 0 #[.val (.int x0), .val (.int x1), .val (.int x2), .unset, .unset, .unset, .unset, .unset, .unset, .unset, .unset, .unset, .unset, .unset, .unset, .unset, .unset, .unset] [] := by first | (simp [entryFrame, mkF, argsToLocals, Value.category, maxLocals]; done) | rfl
set_option maxRecDepth 65536 in
set_option maxHeartbeats 40000000 in
theorem rm0 (l : Launch) (Z : State) (a0 : Array Value) (hw : ∀ d ∈ tables_1, d.before a0 Z = true) (p0 : Int32) (p1 : Int32) (p2 : Int32) (gz1 : Int32) (gv5 : Value) (h0 : Heap) (n0 : Nat) (Z0 : n0 ≤ h0.size) (O0 : Old Z n0 h0) (G : Glob Z gz1 gv5) :
    CtrW l Z EL0 x code maxLocals ret room_1 #[(.int p0), (.int p1), (.int p2)] h0 [] (fun v vm h L => v = some (.int (1 : Int32)) ∧ Fr n0 L) := by
  refine CtrW.of (plainFor_of_name pn_c1) ?_
  intro p e s m below meth c T0 hx hZ hby hml hown hnm hret hlk e0 es hS0 C0 hsf X0
  refine Go.cast (ef_0_III m p0 p1 p2) ?_
  refine Go.iloadN X0 hx (pc' := 1) rfl (hb hby at_0) rfl ?_
  refine Go.sipush X0 hx (pc' := 4) rfl (hb hby at_1) (v := (255 : Int32)) (by decide) ?_
  refine Go.iand X0 hx (pc' := 5) rfl (hb hby at_4) ?_
  generalize hz1 : (p0 &&& (255 : Int32)) = z1
  refine Go.i2c X0 hx (pc' := 6) rfl (hb hby at_5) ?_
  have r2 : 0 ≤ z1.toInt ∧ z1.toInt ≤ 255 := own_rand hz1 (by decide)
  rw [show (z1.toUInt32.toUInt16.toUInt32.toInt32) = z1 from (own_i2c_id r2 (by decide) (by decide))]
  refine Go.istoreN X0 hx (pc' := 7) rfl (hb hby at_6) (Ls' := #[.val (.int p0), .val (.int p1), .val (.int p2), .val (.int z1), .unset, .unset, .unset, .unset, .unset, .unset, .unset, .unset, .unset, .unset, .unset, .unset, .unset, .unset]) rfl ?_
  refine Go.iloadN X0 hx (pc' := 8) rfl (hb hby at_7) rfl ?_
  refine Go.bipush X0 hx (pc' := 10) rfl (hb hby at_8) (v := (8 : Int32)) (by decide) ?_
  refine Go.iushr X0 hx (pc' := 11) rfl (hb hby at_10) ?_
  generalize hz3 : ((p0.toUInt32 >>> ((8 : Int32) &&& 31).toUInt32).toInt32) = z3
  refine Go.sipush X0 hx (pc' := 14) rfl (hb hby at_11) (v := (255 : Int32)) (by decide) ?_
  refine Go.iand X0 hx (pc' := 15) rfl (hb hby at_14) ?_
  have r4 : 0 ≤ z3.toInt ∧ z3.toInt ≤ 16777215 := own_rushr hz3 (k := 8) (by decide) (by decide) (by decide)
  generalize hz5 : (z3 &&& (255 : Int32)) = z5
  refine Go.i2c X0 hx (pc' := 16) rfl (hb hby at_15) ?_
  have r6 : 0 ≤ z5.toInt ∧ z5.toInt ≤ 255 := own_rand hz5 (by decide)
  rw [show (z5.toUInt32.toUInt16.toUInt32.toInt32) = z5 from (own_i2c_id r6 (by decide) (by decide))]
  refine Go.istore X0 hx (pc' := 18) rfl (hb hby at_16) (Ls' := #[.val (.int p0), .val (.int p1), .val (.int p2), .val (.int z1), .val (.int z5), .unset, .unset, .unset, .unset, .unset, .unset, .unset, .unset, .unset, .unset, .unset, .unset, .unset]) rfl ?_
  have J7 : ∀ (jv7_5 : Int32), (0 ≤ jv7_5.toInt ∧ jv7_5.toInt ≤ 255) → Go p e below (EndW Z EL0 s (fun v vm h L => v = some (.int (1 : Int32)) ∧ Fr n0 L) room_1.cells room_1.slots) (T0.setTop (mkF m 38 #[.val (.int p0), .val (.int p1), .val (.int p2), .val (.int z1), .val (.int z5), .val (.int jv7_5), .unset, .unset, .unset, .unset, .unset, .unset, .unset, .unset, .unset, .unset, .unset, .unset] [])) := by
    intro jv7_5 jr7_5
    have J8 : ∀ (jv8_6 : Int32), (0 ≤ jv8_6.toInt ∧ jv8_6.toInt ≤ 255) → Go p e below (EndW Z EL0 s (fun v vm h L => v = some (.int (1 : Int32)) ∧ Fr n0 L) room_1.cells room_1.slots) (T0.setTop (mkF m 62 #[.val (.int p0), .val (.int p1), .val (.int p2), .val (.int z1), .val (.int z5), .val (.int jv7_5), .val (.int jv8_6), .unset, .unset, .unset, .unset, .unset, .unset, .unset, .unset, .unset, .unset, .unset] [])) := by
      intro jv8_6 jr8_6
      refine Go.iloadN X0 hx (pc' := 63) rfl (hb hby at_62) rfl ?_
      refine Go.iconst X0 hx (pc' := 64) rfl (hb hby at_63) (v := (3 : Int32)) rfl ?_
      refine Go.iand X0 hx (pc' := 65) rfl (hb hby at_64) ?_
      generalize hz9 : (p2 &&& (3 : Int32)) = z9
      refine Go.iconst X0 hx (pc' := 66) rfl (hb hby at_65) (v := (3 : Int32)) rfl ?_
      refine Go.irem X0 hx (pc' := 67) rfl (hb hby at_66) (by decide) ?_
      have r10 : 0 ≤ z9.toInt ∧ z9.toInt ≤ 3 := own_rand hz9 (by decide)
      generalize hz11 : (z9 % (3 : Int32)) = z11
      refine Go.istore X0 hx (pc' := 69) rfl (hb hby at_67) (Ls' := #[.val (.int p0), .val (.int p1), .val (.int p2), .val (.int z1), .val (.int z5), .val (.int jv7_5), .val (.int jv8_6), .val (.int z11), .unset, .unset, .unset, .unset, .unset, .unset, .unset, .unset, .unset, .unset]) rfl ?_
      refine Go.iloadN X0 hx (pc' := 70) rfl (hb hby at_69) rfl ?_
      refine Go.iconst X0 hx (pc' := 71) rfl (hb hby at_70) (v := (2 : Int32)) rfl ?_
      refine Go.iushr X0 hx (pc' := 72) rfl (hb hby at_71) ?_
      generalize hz12 : ((p2.toUInt32 >>> ((2 : Int32) &&& 31).toUInt32).toInt32) = z12
      refine Go.iconst X0 hx (pc' := 73) rfl (hb hby at_72) (v := (3 : Int32)) rfl ?_
      refine Go.iand X0 hx (pc' := 74) rfl (hb hby at_73) ?_
      have r13 : 0 ≤ z12.toInt ∧ z12.toInt ≤ 1073741823 := own_rushr hz12 (k := 2) (by decide) (by decide) (by decide)
      generalize hz14 : (z12 &&& (3 : Int32)) = z14
      refine Go.iconst X0 hx (pc' := 75) rfl (hb hby at_74) (v := (3 : Int32)) rfl ?_
      refine Go.irem X0 hx (pc' := 76) rfl (hb hby at_75) (by decide) ?_
      have r15 : 0 ≤ z14.toInt ∧ z14.toInt ≤ 3 := own_rand hz14 (by decide)
      generalize hz16 : (z14 % (3 : Int32)) = z16
      refine Go.istore X0 hx (pc' := 78) rfl (hb hby at_76) (Ls' := #[.val (.int p0), .val (.int p1), .val (.int p2), .val (.int z1), .val (.int z5), .val (.int jv7_5), .val (.int jv8_6), .val (.int z11), .val (.int z16), .unset, .unset, .unset, .unset, .unset, .unset, .unset, .unset, .unset]) rfl ?_
      have J17 : ∀ (jv17_9 : Int32), (0 ≤ jv17_9.toInt ∧ jv17_9.toInt ≤ 1) → Go p e below (EndW Z EL0 s (fun v vm h L => v = some (.int (1 : Int32)) ∧ Fr n0 L) room_1.cells room_1.slots) (T0.setTop (mkF m 94 #[.val (.int p0), .val (.int p1), .val (.int p2), .val (.int z1), .val (.int z5), .val (.int jv7_5), .val (.int jv8_6), .val (.int z11), .val (.int z16), .val (.int jv17_9), .unset, .unset, .unset, .unset, .unset, .unset, .unset, .unset] [])) := by
        intro jv17_9 jr17_9
        have J18 : ∀ (jv18_10 : Int32), (0 ≤ jv18_10.toInt ∧ jv18_10.toInt ≤ 1) → Go p e below (EndW Z EL0 s (fun v vm h L => v = some (.int (1 : Int32)) ∧ Fr n0 L) room_1.cells room_1.slots) (T0.setTop (mkF m 110 #[.val (.int p0), .val (.int p1), .val (.int p2), .val (.int z1), .val (.int z5), .val (.int jv7_5), .val (.int jv8_6), .val (.int z11), .val (.int z16), .val (.int jv17_9), .val (.int jv18_10), .unset, .unset, .unset, .unset, .unset, .unset, .unset] [])) := by
          intro jv18_10 jr18_10
          refine Go.iloadN X0 hx (pc' := 111) rfl (hb hby at_110) rfl ?_
          refine Go.bipush X0 hx (pc' := 113) rfl (hb hby at_111) (v := (8 : Int32)) (by decide) ?_
          refine Go.iushr X0 hx (pc' := 114) rfl (hb hby at_113) ?_
          generalize hz19 : ((p2.toUInt32 >>> ((8 : Int32) &&& 31).toUInt32).toInt32) = z19
          refine Go.iconst X0 hx (pc' := 115) rfl (hb hby at_114) (v := (3 : Int32)) rfl ?_
          refine Go.iand X0 hx (pc' := 116) rfl (hb hby at_115) ?_
          have r20 : 0 ≤ z19.toInt ∧ z19.toInt ≤ 16777215 := own_rushr hz19 (k := 8) (by decide) (by decide) (by decide)
          generalize hz21 : (z19 &&& (3 : Int32)) = z21
          refine Go.istore X0 hx (pc' := 118) rfl (hb hby at_116) (Ls' := #[.val (.int p0), .val (.int p1), .val (.int p2), .val (.int z1), .val (.int z5), .val (.int jv7_5), .val (.int jv8_6), .val (.int z11), .val (.int z16), .val (.int jv17_9), .val (.int jv18_10), .val (.int z21), .unset, .unset, .unset, .unset, .unset, .unset]) rfl ?_
          have r22 : 0 ≤ z11.toInt ∧ z11.toInt ≤ 2 := own_rrem hz11 (d := 3) (by decide) (by decide) r10 (by decide) (by decide)
          rcases own_cs_0_2 r22 with rfl | rfl | rfl
          · refine Go.iload X0 hx (pc' := 120) rfl (hb hby at_118) rfl ?_
            refine Go.iloadN X0 hx (pc' := 121) rfl (hb hby at_120) rfl ?_
            refine Go.iload X0 hx (pc' := 123) rfl (hb hby at_121) rfl ?_
            refine Go.callSW X0 hx hZ hown (tw_0 hw) (tw_1 hw) (tw_2 hw) (tw_3 hw) (by decide) (tw_3 hw) (tw_2 hw) (au_6 l Z a0 hw z1 z5 gz1 gv5 h0 n0 Z0 G) (own_EW hw) C0.1 all0 hS0 (Nat.le_refl _) e0 (argsL := [(.int 0), (.int z1), (.int z5)]) (rest := []) (pc' := 126) rfl (by rw [hml]; rfl) (lenOf pd_2 rfl) rfl rfl (W := 0) (Nat.le_of_eq rfl) (by decide) (by decide) (by decide) (by decide) (hb hby at_123) ?_
            intro v23 T23 L23 h23 e23 q23 C23 S23 Z23 O23 X23
            obtain ⟨b23_0, b23_1, k23_0, rfl, N23, K23, s23_0, y23_0, F23_0, F23_1, F23_2, F23_3⟩ := q23
            show Go _ _ _ _ (T23.setTop (mkF m 126 #[.val (.int p0), .val (.int p1), .val (.int p2), .val (.int z1), .val (.int z5), .val (.int jv7_5), .val (.int jv8_6), .val (.int 0), .val (.int z16), .val (.int jv17_9), .val (.int jv18_10), .val (.int z21), .unset, .unset, .unset, .unset, .unset, .unset] [(.ref b23_0)]))
            refine Go.astore X23 hx (pc' := 128) rfl (hb hby at_126) (Ls' := #[.val (.int p0), .val (.int p1), .val (.int p2), .val (.int z1), .val (.int z5), .val (.int jv7_5), .val (.int jv8_6), .val (.int 0), .val (.int z16), .val (.int jv17_9), .val (.int jv18_10), .val (.int z21), .val (.ref b23_0), .unset, .unset, .unset, .unset, .unset]) rfl rfl ?_
            refine Go.new X23 hx Z23 O23 (tw_34 hw) (tw_35 hw) (tw_36 hw) e23 (by decide) (by decide) (pc' := 131) rfl (hb hby at_128) ?_
            intro T24 h24 b24 e24 E24 g24 A24 D24 X24
            have b24_word : Fld Z h24 b24 "com/example/tough_filter/toughfilter/Expression$Keyword" "word" "Ljava/lang/String;" .null := D24 (Or.inr (tw_47 hw)) (ty := (.object "java/lang/String")) (by decide)
            have b24_pinyin : Fld Z h24 b24 "com/example/tough_filter/toughfilter/Expression$Keyword" "pinyin" "Z" (.int 0) := D24 (Or.inr (tw_49 hw)) (ty := .boolean) (by decide)
            refine Go.dup X24 hx (pc' := 132) rfl (hb hby at_131) rfl ?_
            refine Go.aload X24 hx (pc' := 134) rfl (hb hby at_132) rfl rfl ?_
            refine Go.iload X24 hx (pc' := 136) rfl (hb hby at_134) rfl ?_
            have Kp26 : Keep h0 h23 [] := ((Keep.refl h0 []).trans K23 all0)
            have Kp27 : Keep h0 h24 [] := (Kp26.ext E24)
            have Zn25 : n0 ≤ h24.size := Nat.le_trans Z0 Kp27.1
            have sz29 : h0.size ≤ b24 := Nat.le_trans Kp26.1 (Nat.le_of_eq g24.symm)
            have ge28 : n0 ≤ b24 := Nat.le_trans Z0 sz29
            refine Go.callN X24 hx Z23 O23 rfl (tw_37 hw) (tw_38 hw) (tw_39 hw) (by decide) (tw_39 hw) (tw_36 hw) (au_7 l Z a0 hw b24 b23_0 jv17_9 h24 n0 Zn25 A24 b24_pinyin b24_word jr17_9 ge28) e24 (a := b24) (argsL := [(.ref b23_0), (.int jv17_9)]) (rest := [(.ref b24)]) (pc' := 139) rfl (by rw [hml]; rfl) (lenOf pd_4 rfl) rfl rfl (W := 1) (Nat.le_of_eq rfl) (by decide) (by decide) (by decide) (by decide) (hb hby at_136) ?_
            intro v30 T30 L30 q30 X30
            obtain ⟨h30, e30⟩ : ∃ z, T30.heap = z := ⟨_, rfl⟩
            rw [e30] at q30
            obtain ⟨rfl, N30, K30, F30_0, F30_1, F30_2⟩ := q30
            show Go _ _ _ _ (T30.setTop (mkF m 139 #[.val (.int p0), .val (.int p1), .val (.int p2), .val (.int z1), .val (.int z5), .val (.int jv7_5), .val (.int jv8_6), .val (.int 0), .val (.int z16), .val (.int jv17_9), .val (.int jv18_10), .val (.int z21), .val (.ref b23_0), .unset, .unset, .unset, .unset, .unset] [(.ref b24)]))
            refine Go.astore X30 hx (pc' := 141) rfl (hb hby at_139) (Ls' := #[.val (.int p0), .val (.int p1), .val (.int p2), .val (.int z1), .val (.int z5), .val (.int jv7_5), .val (.int jv8_6), .val (.int 0), .val (.int z16), .val (.int jv17_9), .val (.int jv18_10), .val (.int z21), .val (.ref b23_0), .val (.ref b24), .unset, .unset, .unset, .unset]) rfl rfl ?_
            refine Go.iload X30 hx (pc' := 143) rfl (hb hby at_141) rfl ?_
            refine Go.iconst X30 hx (pc' := 144) rfl (hb hby at_143) (v := (1 : Int32)) rfl ?_
            have r31 : 0 ≤ z21.toInt ∧ z21.toInt ≤ 3 := own_rand hz21 (by decide)
            by_cases hc32 : z21 = (1 : Int32)
            · refine Go.icmpNo X30 hx (pc' := 147) rfl (hb hby at_144) (teq hc32).2 ?_
              refine Go.aload X30 hx (pc' := 149) rfl (hb hby at_147) rfl rfl ?_
              refine Go.anull X30 hx (pc' := 150) rfl (hb hby at_149) ?_
              have Kp34 : Keep h0 h30 [] := (Kp27.trans K30 (allS (Or.inr sz29) all0))
              have Zn33 : n0 ≤ h30.size := Nat.le_trans Z0 Kp34.1
              refine Go.callV X30 hx Z23 O23 (tw_53 hw) (tw_54 hw) (notFace_of_selects (args := #[]) (mvT Z23 (tw_56 hw))) (tw_56 hw) (tw_55 hw) (by decide) (tw_57 hw) (tw_36 hw) (au_9 l Z a0 hw b24 h30 n0 Zn33) e30 F30_0 (argsL := [.null]) (rest := []) (pc' := 153) rfl (by rw [hml]; rfl) (lenOf pd_5 rfl) rfl rfl (W := 0) (Nat.le_of_eq rfl) (by decide) (by decide) (by decide) (by decide) (hb hby at_150) ?_
              intro v35 T35 L35 q35 X35
              obtain ⟨rfl, N35, e35⟩ := q35
              show Go _ _ _ _ (T35.setTop (mkF m 153 #[.val (.int p0), .val (.int p1), .val (.int p2), .val (.int z1), .val (.int z5), .val (.int jv7_5), .val (.int jv8_6), .val (.int 0), .val (.int z16), .val (.int jv17_9), .val (.int jv18_10), .val (.int z21), .val (.ref b23_0), .val (.ref b24), .unset, .unset, .unset, .unset] [(.int 0)]))
              refine Go.ifNo X35 hx (pc' := 156) rfl (hb hby at_153) (by decide) ?_
              refine Go.iconst X35 hx (pc' := 157) rfl (hb hby at_156) (v := (1 : Int32)) rfl ?_
              refine Go.goto X35 hx (pc' := 161) (hb hby at_157) (by decide) (by decide) ?_
              have C36 : CHr Z EL0 s.vm s.heap T23.vm h23 := (C0.trans C23)
              have C37 : CHr Z EL0 s.vm s.heap T23.vm h24 := (C36.trans (CHr.ext E24 C36.1))
              have fk38 : Safe Z EL0 T23.vm h24 b24 := (Safe.ext E24 C36.1 (Safe.new (Nat.le_of_eq g24.symm) : Safe Z EL0 T23.vm h23 b24))
              have C39 : CHr Z EL0 s.vm s.heap T23.vm h30 := (C37.trans (CHr.keep K30 (sfS fk38 sf0) C37.1))
              have hk40 := (Nat.le_trans (Nat.le_trans (Nat.le_refl _) E24.1) K30.1)
              refine Go.retNW X35 hx hlk Z23 (own_EW hw) e35 S23 hk40 C39 (t := .boolean) hret (by simp) (hb hby at_161) (by decide) (by decide) (fun hat => ?_)
              exact ⟨rfl, (Fr.app (Fr.app (Fr.app (Fr.nil n0) N23) N30) N35)⟩
            · refine Go.icmpYes X30 hx (pc' := 162) (hb hby at_144) (feq hc32).2 (by decide) (by decide) ?_
              refine Go.iload X30 hx (pc' := 164) rfl (hb hby at_162) rfl ?_
              refine Go.iconst X30 hx (pc' := 165) rfl (hb hby at_164) (v := (2 : Int32)) rfl ?_
              by_cases hc41 : z21 = (2 : Int32)
              · refine Go.icmpNo X30 hx (pc' := 168) rfl (hb hby at_165) (teq hc41).2 ?_
                refine Go.aload X30 hx (pc' := 170) rfl (hb hby at_168) rfl rfl ?_
                refine Go.astore X30 hx (pc' := 172) rfl (hb hby at_170) (Ls' := #[.val (.int p0), .val (.int p1), .val (.int p2), .val (.int z1), .val (.int z5), .val (.int jv7_5), .val (.int jv8_6), .val (.int 0), .val (.int z16), .val (.int jv17_9), .val (.int jv18_10), .val (.int z21), .val (.ref b23_0), .val (.ref b24), .val (.ref b23_0), .unset, .unset, .unset]) rfl rfl ?_
                refine Go.aload X30 hx (pc' := 174) rfl (hb hby at_172) rfl rfl ?_
                refine Go.aload X30 hx (pc' := 176) rfl (hb hby at_174) rfl rfl ?_
                have Kp43 : Keep h0 h30 [] := (Kp27.trans K30 (allS (Or.inr sz29) all0))
                have Zn42 : n0 ≤ h30.size := Nat.le_trans Z0 Kp43.1
                have fk44 : Exa Z h30 b23_0 "java/lang/String" := ((F23_0.ext E24).keep K30)
                refine Go.callV X30 hx Z23 O23 (tw_53 hw) (tw_54 hw) (notFace_of_selects (args := #[]) (mvT Z23 (tw_56 hw))) (tw_56 hw) (tw_55 hw) (by decide) (tw_57 hw) (tw_36 hw) (au_10 l Z a0 hw b24 b23_0 h30 n0 Zn42 fk44) e30 F30_0 (argsL := [(.ref b23_0)]) (rest := []) (pc' := 179) rfl (by rw [hml]; rfl) (lenOf pd_5 rfl) rfl rfl (W := 0) (Nat.le_of_eq rfl) (by decide) (by decide) (by decide) (by decide) (hb hby at_176) ?_
                intro v45 T45 L45 q45 X45
                obtain ⟨rfl, N45, e45⟩ := q45
                show Go _ _ _ _ (T45.setTop (mkF m 179 #[.val (.int p0), .val (.int p1), .val (.int p2), .val (.int z1), .val (.int z5), .val (.int jv7_5), .val (.int jv8_6), .val (.int 0), .val (.int z16), .val (.int jv17_9), .val (.int jv18_10), .val (.int z21), .val (.ref b23_0), .val (.ref b24), .val (.ref b23_0), .unset, .unset, .unset] [(.int 0)]))
                refine Go.ifNo X45 hx (pc' := 182) rfl (hb hby at_179) (by decide) ?_
                refine Go.iconst X45 hx (pc' := 183) rfl (hb hby at_182) (v := (1 : Int32)) rfl ?_
                refine Go.goto X45 hx (pc' := 187) (hb hby at_183) (by decide) (by decide) ?_
                have C46 : CHr Z EL0 s.vm s.heap T23.vm h23 := (C0.trans C23)
                have C47 : CHr Z EL0 s.vm s.heap T23.vm h24 := (C46.trans (CHr.ext E24 C46.1))
                have fk48 : Safe Z EL0 T23.vm h24 b24 := (Safe.ext E24 C46.1 (Safe.new (Nat.le_of_eq g24.symm) : Safe Z EL0 T23.vm h23 b24))
                have C49 : CHr Z EL0 s.vm s.heap T23.vm h30 := (C47.trans (CHr.keep K30 (sfS fk48 sf0) C47.1))
                have hk50 := (Nat.le_trans (Nat.le_trans (Nat.le_refl _) E24.1) K30.1)
                refine Go.retNW X45 hx hlk Z23 (own_EW hw) e45 S23 hk50 C49 (t := .boolean) hret (by simp) (hb hby at_187) (by decide) (by decide) (fun hat => ?_)
                exact ⟨rfl, (Fr.app (Fr.app (Fr.app (Fr.nil n0) N23) N30) N45)⟩
              · refine Go.icmpYes X30 hx (pc' := 188) (hb hby at_165) (feq hc41).2 (by decide) (by decide) ?_
                refine Go.iload X30 hx (pc' := 190) rfl (hb hby at_188) rfl ?_
                refine Go.iconst X30 hx (pc' := 191) rfl (hb hby at_190) (v := (3 : Int32)) rfl ?_
                by_cases hc51 : z21 = (3 : Int32)
                · refine Go.icmpNo X30 hx (pc' := 194) rfl (hb hby at_191) (teq hc51).2 ?_
                  refine Go.aload X30 hx (pc' := 196) rfl (hb hby at_194) rfl rfl ?_
                  refine Go.aload X30 hx (pc' := 198) rfl (hb hby at_196) rfl rfl ?_
                  have Kp53 : Keep h0 h30 [] := (Kp27.trans K30 (allS (Or.inr sz29) all0))
                  have Zn52 : n0 ≤ h30.size := Nat.le_trans Z0 Kp53.1
                  have fk54 : Exa Z h30 b23_0 "java/lang/String" := ((F23_0.ext E24).keep K30)
                  refine Go.callV X30 hx Z23 O23 (tw_53 hw) (tw_54 hw) (notFace_of_selects (args := #[]) (mvT Z23 (tw_56 hw))) (tw_56 hw) (tw_55 hw) (by decide) (tw_57 hw) (tw_36 hw) (au_11 l Z a0 hw b24 jv17_9 b23_0 h30 n0 Zn52 F30_0 F30_1 F30_2 fk54) e30 F30_0 (argsL := [(.ref b24)]) (rest := []) (pc' := 201) rfl (by rw [hml]; rfl) (lenOf pd_5 rfl) rfl rfl (W := 0) (Nat.le_of_eq rfl) (by decide) (by decide) (by decide) (by decide) (hb hby at_198) ?_
                  intro v55 T55 L55 q55 X55
                  obtain ⟨rfl, N55, e55⟩ := q55
                  show Go _ _ _ _ (T55.setTop (mkF m 201 #[.val (.int p0), .val (.int p1), .val (.int p2), .val (.int z1), .val (.int z5), .val (.int jv7_5), .val (.int jv8_6), .val (.int 0), .val (.int z16), .val (.int jv17_9), .val (.int jv18_10), .val (.int z21), .val (.ref b23_0), .val (.ref b24), .unset, .unset, .unset, .unset] [(.int 1)]))
                  have C56 : CHr Z EL0 s.vm s.heap T23.vm h23 := (C0.trans C23)
                  have C57 : CHr Z EL0 s.vm s.heap T23.vm h24 := (C56.trans (CHr.ext E24 C56.1))
                  have fk58 : Safe Z EL0 T23.vm h24 b24 := (Safe.ext E24 C56.1 (Safe.new (Nat.le_of_eq g24.symm) : Safe Z EL0 T23.vm h23 b24))
                  have C59 : CHr Z EL0 s.vm s.heap T23.vm h30 := (C57.trans (CHr.keep K30 (sfS fk58 sf0) C57.1))
                  have hk60 := (Nat.le_trans (Nat.le_trans (Nat.le_refl _) E24.1) K30.1)
                  refine Go.retNW X55 hx hlk Z23 (own_EW hw) e55 S23 hk60 C59 (t := .boolean) hret (by simp) (hb hby at_201) (by decide) (by decide) (fun hat => ?_)
                  exact ⟨rfl, (Fr.app (Fr.app (Fr.app (Fr.nil n0) N23) N30) N55)⟩
                · refine Go.icmpYes X30 hx (pc' := 202) (hb hby at_191) (feq hc51).2 (by decide) (by decide) ?_
                  have r61 : 0 ≤ z16.toInt ∧ z16.toInt ≤ 2 := own_rrem hz16 (d := 3) (by decide) (by decide) r15 (by decide) (by decide)
                  rcases own_cs_0_2 r61 with rfl | rfl | rfl
                  · refine Go.iload X30 hx (pc' := 204) rfl (hb hby at_202) rfl ?_
                    refine Go.iload X30 hx (pc' := 206) rfl (hb hby at_204) rfl ?_
                    refine Go.iload X30 hx (pc' := 208) rfl (hb hby at_206) rfl ?_
                    have Kp63 : Keep h0 h30 [] := (Kp27.trans K30 (allS (Or.inr sz29) all0))
                    have Zn62 : n0 ≤ h30.size := Nat.le_trans Z0 Kp63.1
                    have C64 : CHr Z EL0 s.vm s.heap T23.vm h23 := (C0.trans C23)
                    have C65 : CHr Z EL0 s.vm s.heap T23.vm h24 := (C64.trans (CHr.ext E24 C64.1))
                    have fk66 : Safe Z EL0 T23.vm h24 b24 := (Safe.ext E24 C64.1 (Safe.new (Nat.le_of_eq g24.symm) : Safe Z EL0 T23.vm h23 b24))
                    have C67 : CHr Z EL0 s.vm s.heap T23.vm h30 := (C65.trans (CHr.keep K30 (sfS fk66 sf0) C65.1))
                    have hk68 := (Nat.le_trans (Nat.le_trans (Nat.le_refl _) E24.1) K30.1)
                    refine Go.callSW X30 hx Z23 O23 (tw_0 hw) (tw_1 hw) (tw_2 hw) (tw_3 hw) (by decide) (tw_3 hw) (tw_2 hw) (au_6 l Z a0 hw jv7_5 jv8_6 gz1 gv5 h30 n0 Zn62 G) (own_EW hw) C67.1 all0 S23 hk68 e30 (argsL := [(.int 0), (.int jv7_5), (.int jv8_6)]) (rest := []) (pc' := 211) rfl (by rw [hml]; rfl) (lenOf pd_2 rfl) rfl rfl (W := 0) (Nat.le_of_eq rfl) (by decide) (by decide) (by decide) (by decide) (hb hby at_208) ?_
                    intro v69 T69 L69 h69 e69 q69 C69 S69 Z69 O69 X69
                    obtain ⟨b69_0, b69_1, k69_0, rfl, N69, K69, s69_0, y69_0, F69_0, F69_1, F69_2, F69_3⟩ := q69
                    show Go _ _ _ _ (T69.setTop (mkF m 211 #[.val (.int p0), .val (.int p1), .val (.int p2), .val (.int z1), .val (.int z5), .val (.int jv7_5), .val (.int jv8_6), .val (.int 0), .val (.int 0), .val (.int jv17_9), .val (.int jv18_10), .val (.int z21), .val (.ref b23_0), .val (.ref b24), .unset, .unset, .unset, .unset] [(.ref b69_0)]))
                    refine Go.astore X69 hx (pc' := 213) rfl (hb hby at_211) (Ls' := #[.val (.int p0), .val (.int p1), .val (.int p2), .val (.int z1), .val (.int z5), .val (.int jv7_5), .val (.int jv8_6), .val (.int 0), .val (.int 0), .val (.int jv17_9), .val (.int jv18_10), .val (.int z21), .val (.ref b23_0), .val (.ref b24), .val (.ref b69_0), .unset, .unset, .unset]) rfl rfl ?_
                    refine Go.new X69 hx Z69 O69 (tw_34 hw) (tw_35 hw) (tw_36 hw) e69 (by decide) (by decide) (pc' := 216) rfl (hb hby at_213) ?_
                    intro T70 h70 b70 e70 E70 g70 A70 D70 X70
                    have b70_word : Fld Z h70 b70 "com/example/tough_filter/toughfilter/Expression$Keyword" "word" "Ljava/lang/String;" .null := D70 (Or.inr (tw_47 hw)) (ty := (.object "java/lang/String")) (by decide)
                    have b70_pinyin : Fld Z h70 b70 "com/example/tough_filter/toughfilter/Expression$Keyword" "pinyin" "Z" (.int 0) := D70 (Or.inr (tw_49 hw)) (ty := .boolean) (by decide)
                    refine Go.dup X70 hx (pc' := 217) rfl (hb hby at_216) rfl ?_
                    refine Go.aload X70 hx (pc' := 219) rfl (hb hby at_217) rfl rfl ?_
                    refine Go.iload X70 hx (pc' := 221) rfl (hb hby at_219) rfl ?_
                    have Kp72 : Keep h0 h69 [] := (Kp63.trans K69 all0)
                    have Kp73 : Keep h0 h70 [] := (Kp72.ext E70)
                    have Zn71 : n0 ≤ h70.size := Nat.le_trans Z0 Kp73.1
                    have sz75 : h0.size ≤ b70 := Nat.le_trans Kp72.1 (Nat.le_of_eq g70.symm)
                    have ge74 : n0 ≤ b70 := Nat.le_trans Z0 sz75
                    refine Go.callN X70 hx Z69 O69 rfl (tw_37 hw) (tw_38 hw) (tw_39 hw) (by decide) (tw_39 hw) (tw_36 hw) (au_7 l Z a0 hw b70 b69_0 jv18_10 h70 n0 Zn71 A70 b70_pinyin b70_word jr18_10 ge74) e70 (a := b70) (argsL := [(.ref b69_0), (.int jv18_10)]) (rest := [(.ref b70)]) (pc' := 224) rfl (by rw [hml]; rfl) (lenOf pd_4 rfl) rfl rfl (W := 1) (Nat.le_of_eq rfl) (by decide) (by decide) (by decide) (by decide) (hb hby at_221) ?_
                    intro v76 T76 L76 q76 X76
                    obtain ⟨h76, e76⟩ : ∃ z, T76.heap = z := ⟨_, rfl⟩
                    rw [e76] at q76
                    obtain ⟨rfl, N76, K76, F76_0, F76_1, F76_2⟩ := q76
                    show Go _ _ _ _ (T76.setTop (mkF m 224 #[.val (.int p0), .val (.int p1), .val (.int p2), .val (.int z1), .val (.int z5), .val (.int jv7_5), .val (.int jv8_6), .val (.int 0), .val (.int 0), .val (.int jv17_9), .val (.int jv18_10), .val (.int z21), .val (.ref b23_0), .val (.ref b24), .val (.ref b69_0), .unset, .unset, .unset] [(.ref b70)]))
                    refine Go.astore X76 hx (pc' := 226) rfl (hb hby at_224) (Ls' := #[.val (.int p0), .val (.int p1), .val (.int p2), .val (.int z1), .val (.int z5), .val (.int jv7_5), .val (.int jv8_6), .val (.int 0), .val (.int 0), .val (.int jv17_9), .val (.int jv18_10), .val (.int z21), .val (.ref b23_0), .val (.ref b24), .val (.ref b69_0), .val (.ref b70), .unset, .unset]) rfl rfl ?_
                    refine Go.iload X76 hx (pc' := 228) rfl (hb hby at_226) rfl ?_
                    refine Go.iload X76 hx (pc' := 230) rfl (hb hby at_228) rfl ?_
                    refine Go.icmpNo X76 hx (pc' := 233) rfl (hb hby at_230) (by decide) ?_
                    refine Go.iload X76 hx (pc' := 235) rfl (hb hby at_233) rfl ?_
                    refine Go.iconst X76 hx (pc' := 236) rfl (hb hby at_235) (v := (1 : Int32)) rfl ?_
                    refine Go.icmpYes X76 hx (pc' := 245) (hb hby at_236) (by decide) (by decide) (by decide) ?_
                    refine Go.iload X76 hx (pc' := 247) rfl (hb hby at_245) rfl ?_
                    refine Go.iconst X76 hx (pc' := 248) rfl (hb hby at_247) (v := (2 : Int32)) rfl ?_
                    refine Go.icmpYes X76 hx (pc' := 258) (hb hby at_248) (by decide) (by decide) (by decide) ?_
                    refine Go.iconst X76 hx (pc' := 259) rfl (hb hby at_258) (v := (1 : Int32)) rfl ?_
                    refine Go.goto X76 hx (pc' := 263) (hb hby at_259) (by decide) (by decide) ?_
                    refine Go.istore X76 hx (pc' := 265) rfl (hb hby at_263) (Ls' := #[.val (.int p0), .val (.int p1), .val (.int p2), .val (.int z1), .val (.int z5), .val (.int jv7_5), .val (.int jv8_6), .val (.int 0), .val (.int 0), .val (.int jv17_9), .val (.int jv18_10), .val (.int z21), .val (.ref b23_0), .val (.ref b24), .val (.ref b69_0), .val (.ref b70), .val (.int 1), .unset]) rfl ?_
                    refine Go.iload X76 hx (pc' := 267) rfl (hb hby at_265) rfl ?_
                    refine Go.iload X76 hx (pc' := 269) rfl (hb hby at_267) rfl ?_
                    by_cases hc77 : jv17_9 = jv18_10
                    · refine Go.icmpNo X76 hx (pc' := 272) rfl (hb hby at_269) (teq hc77).2 ?_
                      refine Go.iload X76 hx (pc' := 274) rfl (hb hby at_272) rfl ?_
                      refine Go.ifNo X76 hx (pc' := 277) rfl (hb hby at_274) (by decide) ?_
                      refine Go.iconst X76 hx (pc' := 278) rfl (hb hby at_277) (v := (1 : Int32)) rfl ?_
                      refine Go.goto X76 hx (pc' := 282) (hb hby at_278) (by decide) (by decide) ?_
                      refine Go.istore X76 hx (pc' := 284) rfl (hb hby at_282) (Ls' := #[.val (.int p0), .val (.int p1), .val (.int p2), .val (.int z1), .val (.int z5), .val (.int jv7_5), .val (.int jv8_6), .val (.int 0), .val (.int 0), .val (.int jv17_9), .val (.int jv18_10), .val (.int z21), .val (.ref b23_0), .val (.ref b24), .val (.ref b69_0), .val (.ref b70), .val (.int 1), .val (.int 1)]) rfl ?_
                      refine Go.aload X76 hx (pc' := 286) rfl (hb hby at_284) rfl rfl ?_
                      refine Go.aload X76 hx (pc' := 288) rfl (hb hby at_286) rfl rfl ?_
                      have Kp79 : Keep h0 h76 [] := (Kp73.trans K76 (allS (Or.inr sz75) all0))
                      have Zn78 : n0 ≤ h76.size := Nat.le_trans Z0 Kp79.1
                      have O80 := (O0.keep K23 all0)
                      have O81 := (O80.ext E24)
                      have O82 := (O81.keep K30 (allS ge28 all0))
                      have O83 := (O82.keep K69 all0)
                      have O84 := (O83.ext E70)
                      have O85 := (O84.keep K76 (allS ge74 all0))
                      have fk87 : Exa Z h69 b24 "com/example/tough_filter/toughfilter/Expression$Keyword" := (F30_0.keep K69)
                      have ne86 : b24 ≠ b70 := Nat.ne_of_lt (Nat.lt_of_lt_of_le fk87.lt (Nat.le_of_eq g70.symm))
                      have fk88 : Fld Z h76 b24 "com/example/tough_filter/toughfilter/Expression$Keyword" "pinyin" "Z" (.int jv17_9) := (((F30_1.keep K69 nin0).ext E70).keep K76 (ninS ne86 nin0))
                      have fk89 : Fld Z h76 b24 "com/example/tough_filter/toughfilter/Expression$Keyword" "word" "Ljava/lang/String;" (.ref b23_0) := (((F30_2.keep K69 nin0).ext E70).keep K76 (ninS ne86 nin0))
                      have fk90 : Exa Z h76 b23_0 "java/lang/String" := (((((F23_0.ext E24).keep K30).keep K69).ext E70).keep K76)
                      have ne91 : b23_0 ≠ b24 := Nat.ne_of_lt (Nat.lt_of_lt_of_le F23_0.lt (Nat.le_of_eq g24.symm))
                      have fk93 : Exa Z h69 b23_0 "java/lang/String" := (((F23_0.ext E24).keep K30).keep K69)
                      have ne92 : b23_0 ≠ b70 := Nat.ne_of_lt (Nat.lt_of_lt_of_le fk93.lt (Nat.le_of_eq g70.symm))
                      have fk94 : Fld Z h76 b23_0 "java/lang/String" "coder" "B" (.int 0) := (((((F23_1.ext E24).keep K30 (ninS ne91 nin0)).keep K69 nin0).ext E70).keep K76 (ninS ne92 nin0))
                      have fk95 : Fld Z h76 b23_0 "java/lang/String" "value" "[B" (.ref b23_1) := (((((F23_2.ext E24).keep K30 (ninS ne91 nin0)).keep K69 nin0).ext E70).keep K76 (ninS ne92 nin0))
                      have fk96 : Exa Z h76 b69_0 "java/lang/String" := ((F69_0.ext E70).keep K76)
                      have ne97 : b69_0 ≠ b70 := Nat.ne_of_lt (Nat.lt_of_lt_of_le F69_0.lt (Nat.le_of_eq g70.symm))
                      have fk98 : Fld Z h76 b69_0 "java/lang/String" "coder" "B" (.int 0) := ((F69_1.ext E70).keep K76 (ninS ne97 nin0))
                      have fk99 : Fld Z h76 b69_0 "java/lang/String" "value" "[B" (.ref b69_1) := ((F69_2.ext E70).keep K76 (ninS ne97 nin0))
                      have ne100 : b23_1 ≠ b24 := Nat.ne_of_lt (Nat.lt_of_lt_of_le F23_3.lt (Nat.le_of_eq g24.symm))
                      have fk102 := (((F23_3.ext E24).keep K30 (ninS ne100 nin0)).keep K69 nin0)
                      have ne101 : b23_1 ≠ b70 := Nat.ne_of_lt (Nat.lt_of_lt_of_le fk102.lt (Nat.le_of_eq g70.symm))
                      have fk103 := (((((F23_3.ext E24).keep K30 (ninS ne100 nin0)).keep K69 nin0).ext E70).keep K76 (ninS ne101 nin0))
                      have ne104 : b69_1 ≠ b70 := Nat.ne_of_lt (Nat.lt_of_lt_of_le F69_3.lt (Nat.le_of_eq g70.symm))
                      have fk105 := ((F69_3.ext E70).keep K76 (ninS ne104 nin0))
                      have fk107 : Exa Z h30 b23_0 "java/lang/String" := ((F23_0.ext E24).keep K30)
                      have ne106 : b23_0 ≠ b69_0 := Nat.ne_of_lt (Nat.lt_of_lt_of_le fk107.lt s69_0)
                      have fk108 : Exa Z h76 b24 "com/example/tough_filter/toughfilter/Expression$Keyword" := ((fk87.ext E70).keep K76)
                      refine Go.callV X76 hx Z69 O69 (tw_53 hw) (tw_54 hw) (notFace_of_selects (args := #[]) (mvT Z69 (tw_56 hw))) (tw_56 hw) (tw_55 hw) (by decide) (tw_57 hw) (tw_36 hw) (au_13 l Z a0 hw b24 b70 jv17_9 b23_0 jv18_10 b69_0 b23_1 b69_1 k23_0 k69_0 gz1 gv5 h76 n0 Zn78 O85 G fk88 fk89 F76_0 F76_1 F76_2 fk90 fk94 fk95 fk96 fk98 fk99 fk103 fk105 ne106) e76 fk108 (argsL := [(.ref b70)]) (rest := []) (pc' := 291) rfl (by rw [hml]; rfl) (lenOf pd_5 rfl) rfl rfl (W := 0) (Nat.le_of_eq rfl) (by decide) (by decide) (by decide) (by decide) (hb hby at_288) ?_
                      intro v109 T109 L109 q109 X109
                      rcases q109 with ⟨c109_0_0, rfl, N109_0, e109_0⟩ | ⟨c109_1_0, rfl, N109_1, e109_1⟩
                      · show Go _ _ _ _ (T109.setTop (mkF m 291 #[.val (.int p0), .val (.int p1), .val (.int p2), .val (.int z1), .val (.int z5), .val (.int jv7_5), .val (.int jv8_6), .val (.int 0), .val (.int 0), .val (.int jv17_9), .val (.int jv18_10), .val (.int z21), .val (.ref b23_0), .val (.ref b24), .val (.ref b69_0), .val (.ref b70), .val (.int 1), .val (.int 1)] [(.int 1)]))
                        refine Go.iload X109 hx (pc' := 293) rfl (hb hby at_291) rfl ?_
                        refine Go.icmpNo X109 hx (pc' := 296) rfl (hb hby at_293) (by decide) ?_
                        refine Go.aload X109 hx (pc' := 298) rfl (hb hby at_296) rfl rfl ?_
                        refine Go.aload X109 hx (pc' := 300) rfl (hb hby at_298) rfl rfl ?_
                        refine Go.callV X109 hx Z69 O69 (tw_53 hw) (tw_54 hw) (notFace_of_selects (args := #[]) (mvT Z69 (tw_56 hw))) (tw_56 hw) (tw_55 hw) (by decide) (tw_57 hw) (tw_36 hw) (au_13 l Z a0 hw b70 b24 jv18_10 b69_0 jv17_9 b23_0 b69_1 b23_1 k69_0 k23_0 gz1 gv5 h76 n0 Zn78 O85 G F76_1 F76_2 fk108 fk88 fk89 fk96 fk98 fk99 fk90 fk94 fk95 fk105 fk103 (Ne.symm ne106)) e109_0 F76_0 (argsL := [(.ref b24)]) (rest := []) (pc' := 303) rfl (by rw [hml]; rfl) (lenOf pd_5 rfl) rfl rfl (W := 0) (Nat.le_of_eq rfl) (by decide) (by decide) (by decide) (by decide) (hb hby at_300) ?_
                        intro v110 T110 L110 q110 X110
                        rcases q110 with ⟨c110_0_0, rfl, N110_0, e110_0⟩ | ⟨c110_1_0, rfl, N110_1, e110_1⟩
                        · show Go _ _ _ _ (T110.setTop (mkF m 303 #[.val (.int p0), .val (.int p1), .val (.int p2), .val (.int z1), .val (.int z5), .val (.int jv7_5), .val (.int jv8_6), .val (.int 0), .val (.int 0), .val (.int jv17_9), .val (.int jv18_10), .val (.int z21), .val (.ref b23_0), .val (.ref b24), .val (.ref b69_0), .val (.ref b70), .val (.int 1), .val (.int 1)] [(.int 1)]))
                          refine Go.iload X110 hx (pc' := 305) rfl (hb hby at_303) rfl ?_
                          refine Go.icmpNo X110 hx (pc' := 308) rfl (hb hby at_305) (by decide) ?_
                          refine Go.iconst X110 hx (pc' := 309) rfl (hb hby at_308) (v := (1 : Int32)) rfl ?_
                          refine Go.goto X110 hx (pc' := 313) (hb hby at_309) (by decide) (by decide) ?_
                          have C111 : CHr Z EL0 s.vm s.heap T69.vm h69 := (C67.trans C69)
                          have C112 : CHr Z EL0 s.vm s.heap T69.vm h70 := (C111.trans (CHr.ext E70 C111.1))
                          have fk113 : Safe Z EL0 T69.vm h70 b70 := (Safe.ext E70 C111.1 (Safe.new (Nat.le_of_eq g70.symm) : Safe Z EL0 T69.vm h69 b70))
                          have C114 : CHr Z EL0 s.vm s.heap T69.vm h76 := (C112.trans (CHr.keep K76 (sfS fk113 sf0) C112.1))
                          have hk115 := (Nat.le_trans (Nat.le_trans (Nat.le_refl _) E70.1) K76.1)
                          refine Go.retNW X110 hx hlk Z69 (own_EW hw) e110_0 S69 hk115 C114 (t := .boolean) hret (by simp) (hb hby at_313) (by decide) (by decide) (fun hat => ?_)
                          exact ⟨rfl, (Fr.app (Fr.app (Fr.app (Fr.app (Fr.app (Fr.app (Fr.nil n0) N23) N30) N69) N76) N109_0) N110_0)⟩
                        · exact absurd hc77.symm c110_1_0
                      · exact absurd hc77 c109_1_0
                    · refine Go.icmpYes X76 hx (pc' := 281) (hb hby at_269) (feq hc77).2 (by decide) (by decide) ?_
                      refine Go.iconst X76 hx (pc' := 282) rfl (hb hby at_281) (v := (0 : Int32)) rfl ?_
                      refine Go.istore X76 hx (pc' := 284) rfl (hb hby at_282) (Ls' := #[.val (.int p0), .val (.int p1), .val (.int p2), .val (.int z1), .val (.int z5), .val (.int jv7_5), .val (.int jv8_6), .val (.int 0), .val (.int 0), .val (.int jv17_9), .val (.int jv18_10), .val (.int z21), .val (.ref b23_0), .val (.ref b24), .val (.ref b69_0), .val (.ref b70), .val (.int 1), .val (.int 0)]) rfl ?_
                      refine Go.aload X76 hx (pc' := 286) rfl (hb hby at_284) rfl rfl ?_
                      refine Go.aload X76 hx (pc' := 288) rfl (hb hby at_286) rfl rfl ?_
                      have Kp117 : Keep h0 h76 [] := (Kp73.trans K76 (allS (Or.inr sz75) all0))
                      have Zn116 : n0 ≤ h76.size := Nat.le_trans Z0 Kp117.1
                      have O118 := (O0.keep K23 all0)
                      have O119 := (O118.ext E24)
                      have O120 := (O119.keep K30 (allS ge28 all0))
                      have O121 := (O120.keep K69 all0)
                      have O122 := (O121.ext E70)
                      have O123 := (O122.keep K76 (allS ge74 all0))
                      have fk125 : Exa Z h69 b24 "com/example/tough_filter/toughfilter/Expression$Keyword" := (F30_0.keep K69)
                      have ne124 : b24 ≠ b70 := Nat.ne_of_lt (Nat.lt_of_lt_of_le fk125.lt (Nat.le_of_eq g70.symm))
                      have fk126 : Fld Z h76 b24 "com/example/tough_filter/toughfilter/Expression$Keyword" "pinyin" "Z" (.int jv17_9) := (((F30_1.keep K69 nin0).ext E70).keep K76 (ninS ne124 nin0))
                      have fk127 : Fld Z h76 b24 "com/example/tough_filter/toughfilter/Expression$Keyword" "word" "Ljava/lang/String;" (.ref b23_0) := (((F30_2.keep K69 nin0).ext E70).keep K76 (ninS ne124 nin0))
                      have fk128 : Exa Z h76 b23_0 "java/lang/String" := (((((F23_0.ext E24).keep K30).keep K69).ext E70).keep K76)
                      have ne129 : b23_0 ≠ b24 := Nat.ne_of_lt (Nat.lt_of_lt_of_le F23_0.lt (Nat.le_of_eq g24.symm))
                      have fk131 : Exa Z h69 b23_0 "java/lang/String" := (((F23_0.ext E24).keep K30).keep K69)
                      have ne130 : b23_0 ≠ b70 := Nat.ne_of_lt (Nat.lt_of_lt_of_le fk131.lt (Nat.le_of_eq g70.symm))
                      have fk132 : Fld Z h76 b23_0 "java/lang/String" "coder" "B" (.int 0) := (((((F23_1.ext E24).keep K30 (ninS ne129 nin0)).keep K69 nin0).ext E70).keep K76 (ninS ne130 nin0))
                      have fk133 : Fld Z h76 b23_0 "java/lang/String" "value" "[B" (.ref b23_1) := (((((F23_2.ext E24).keep K30 (ninS ne129 nin0)).keep K69 nin0).ext E70).keep K76 (ninS ne130 nin0))
                      have fk134 : Exa Z h76 b69_0 "java/lang/String" := ((F69_0.ext E70).keep K76)
                      have ne135 : b69_0 ≠ b70 := Nat.ne_of_lt (Nat.lt_of_lt_of_le F69_0.lt (Nat.le_of_eq g70.symm))
                      have fk136 : Fld Z h76 b69_0 "java/lang/String" "coder" "B" (.int 0) := ((F69_1.ext E70).keep K76 (ninS ne135 nin0))
                      have fk137 : Fld Z h76 b69_0 "java/lang/String" "value" "[B" (.ref b69_1) := ((F69_2.ext E70).keep K76 (ninS ne135 nin0))
                      have ne138 : b23_1 ≠ b24 := Nat.ne_of_lt (Nat.lt_of_lt_of_le F23_3.lt (Nat.le_of_eq g24.symm))
                      have fk140 := (((F23_3.ext E24).keep K30 (ninS ne138 nin0)).keep K69 nin0)
                      have ne139 : b23_1 ≠ b70 := Nat.ne_of_lt (Nat.lt_of_lt_of_le fk140.lt (Nat.le_of_eq g70.symm))
                      have fk141 := (((((F23_3.ext E24).keep K30 (ninS ne138 nin0)).keep K69 nin0).ext E70).keep K76 (ninS ne139 nin0))
                      have ne142 : b69_1 ≠ b70 := Nat.ne_of_lt (Nat.lt_of_lt_of_le F69_3.lt (Nat.le_of_eq g70.symm))
                      have fk143 := ((F69_3.ext E70).keep K76 (ninS ne142 nin0))
                      have fk145 : Exa Z h30 b23_0 "java/lang/String" := ((F23_0.ext E24).keep K30)
                      have ne144 : b23_0 ≠ b69_0 := Nat.ne_of_lt (Nat.lt_of_lt_of_le fk145.lt s69_0)
                      have fk146 : Exa Z h76 b24 "com/example/tough_filter/toughfilter/Expression$Keyword" := ((fk125.ext E70).keep K76)
                      refine Go.callV X76 hx Z69 O69 (tw_53 hw) (tw_54 hw) (notFace_of_selects (args := #[]) (mvT Z69 (tw_56 hw))) (tw_56 hw) (tw_55 hw) (by decide) (tw_57 hw) (tw_36 hw) (au_13 l Z a0 hw b24 b70 jv17_9 b23_0 jv18_10 b69_0 b23_1 b69_1 k23_0 k69_0 gz1 gv5 h76 n0 Zn116 O123 G fk126 fk127 F76_0 F76_1 F76_2 fk128 fk132 fk133 fk134 fk136 fk137 fk141 fk143 ne144) e76 fk146 (argsL := [(.ref b70)]) (rest := []) (pc' := 291) rfl (by rw [hml]; rfl) (lenOf pd_5 rfl) rfl rfl (W := 0) (Nat.le_of_eq rfl) (by decide) (by decide) (by decide) (by decide) (hb hby at_288) ?_
                      intro v147 T147 L147 q147 X147
                      rcases q147 with ⟨c147_0_0, rfl, N147_0, e147_0⟩ | ⟨c147_1_0, rfl, N147_1, e147_1⟩
                      · exact absurd c147_0_0 hc77
                      · show Go _ _ _ _ (T147.setTop (mkF m 291 #[.val (.int p0), .val (.int p1), .val (.int p2), .val (.int z1), .val (.int z5), .val (.int jv7_5), .val (.int jv8_6), .val (.int 0), .val (.int 0), .val (.int jv17_9), .val (.int jv18_10), .val (.int z21), .val (.ref b23_0), .val (.ref b24), .val (.ref b69_0), .val (.ref b70), .val (.int 1), .val (.int 0)] [(.int 0)]))
                        refine Go.iload X147 hx (pc' := 293) rfl (hb hby at_291) rfl ?_
                        refine Go.icmpNo X147 hx (pc' := 296) rfl (hb hby at_293) (by decide) ?_
                        refine Go.aload X147 hx (pc' := 298) rfl (hb hby at_296) rfl rfl ?_
                        refine Go.aload X147 hx (pc' := 300) rfl (hb hby at_298) rfl rfl ?_
                        refine Go.callV X147 hx Z69 O69 (tw_53 hw) (tw_54 hw) (notFace_of_selects (args := #[]) (mvT Z69 (tw_56 hw))) (tw_56 hw) (tw_55 hw) (by decide) (tw_57 hw) (tw_36 hw) (au_13 l Z a0 hw b70 b24 jv18_10 b69_0 jv17_9 b23_0 b69_1 b23_1 k69_0 k23_0 gz1 gv5 h76 n0 Zn116 O123 G F76_1 F76_2 fk146 fk126 fk127 fk134 fk136 fk137 fk128 fk132 fk133 fk143 fk141 (Ne.symm ne144)) e147_1 F76_0 (argsL := [(.ref b24)]) (rest := []) (pc' := 303) rfl (by rw [hml]; rfl) (lenOf pd_5 rfl) rfl rfl (W := 0) (Nat.le_of_eq rfl) (by decide) (by decide) (by decide) (by decide) (hb hby at_300) ?_
                        intro v148 T148 L148 q148 X148
                        rcases q148 with ⟨c148_0_0, rfl, N148_0, e148_0⟩ | ⟨c148_1_0, rfl, N148_1, e148_1⟩
                        · exact absurd c148_0_0 (Ne.symm hc77)
                        · show Go _ _ _ _ (T148.setTop (mkF m 303 #[.val (.int p0), .val (.int p1), .val (.int p2), .val (.int z1), .val (.int z5), .val (.int jv7_5), .val (.int jv8_6), .val (.int 0), .val (.int 0), .val (.int jv17_9), .val (.int jv18_10), .val (.int z21), .val (.ref b23_0), .val (.ref b24), .val (.ref b69_0), .val (.ref b70), .val (.int 1), .val (.int 0)] [(.int 0)]))
                          refine Go.iload X148 hx (pc' := 305) rfl (hb hby at_303) rfl ?_
                          refine Go.icmpNo X148 hx (pc' := 308) rfl (hb hby at_305) (by decide) ?_
                          refine Go.iconst X148 hx (pc' := 309) rfl (hb hby at_308) (v := (1 : Int32)) rfl ?_
                          refine Go.goto X148 hx (pc' := 313) (hb hby at_309) (by decide) (by decide) ?_
                          have C149 : CHr Z EL0 s.vm s.heap T69.vm h69 := (C67.trans C69)
                          have C150 : CHr Z EL0 s.vm s.heap T69.vm h70 := (C149.trans (CHr.ext E70 C149.1))
                          have fk151 : Safe Z EL0 T69.vm h70 b70 := (Safe.ext E70 C149.1 (Safe.new (Nat.le_of_eq g70.symm) : Safe Z EL0 T69.vm h69 b70))
                          have C152 : CHr Z EL0 s.vm s.heap T69.vm h76 := (C150.trans (CHr.keep K76 (sfS fk151 sf0) C150.1))
                          have hk153 := (Nat.le_trans (Nat.le_trans (Nat.le_refl _) E70.1) K76.1)
                          refine Go.retNW X148 hx hlk Z69 (own_EW hw) e148_1 S69 hk153 C152 (t := .boolean) hret (by simp) (hb hby at_313) (by decide) (by decide) (fun hat => ?_)
                          exact ⟨rfl, (Fr.app (Fr.app (Fr.app (Fr.app (Fr.app (Fr.app (Fr.nil n0) N23) N30) N69) N76) N147_1) N148_1)⟩
                  · refine Go.iload X30 hx (pc' := 204) rfl (hb hby at_202) rfl ?_
                    refine Go.iload X30 hx (pc' := 206) rfl (hb hby at_204) rfl ?_
                    refine Go.iload X30 hx (pc' := 208) rfl (hb hby at_206) rfl ?_
                    have Kp155 : Keep h0 h30 [] := (Kp27.trans K30 (allS (Or.inr sz29) all0))
                    have Zn154 : n0 ≤ h30.size := Nat.le_trans Z0 Kp155.1
                    have O156 := (O0.keep K23 all0)
                    have O157 := (O156.ext E24)
                    have O158 := (O157.keep K30 (allS ge28 all0))
                    refine Go.callS X30 hx Z23 O23 (tw_0 hw) (tw_1 hw) (tw_2 hw) (tw_3 hw) (by decide) (tw_3 hw) (tw_2 hw) (au_16 l Z a0 hw jv7_5 jv8_6 gz1 gv5 h30 n0 Zn154 O158 G jr7_5) e30 (argsL := [(.int 1), (.int jv7_5), (.int jv8_6)]) (rest := []) (pc' := 211) rfl (by rw [hml]; rfl) (lenOf pd_2 rfl) rfl rfl (W := 0) (Nat.le_of_eq rfl) (by decide) (by decide) (by decide) (by decide) (hb hby at_208) ?_
                    intro v159 T159 L159 q159 X159
                    obtain ⟨h159, e159⟩ : ∃ z, T159.heap = z := ⟨_, rfl⟩
                    rw [e159] at q159
                    obtain ⟨z159_0, b159_0, b159_1, k159_0, d159_0, rfl, N159, K159, s159_0, s159_1, n159_0, F159_0, F159_1, F159_2, F159_3, F159_4⟩ := q159
                    show Go _ _ _ _ (T159.setTop (mkF m 211 #[.val (.int p0), .val (.int p1), .val (.int p2), .val (.int z1), .val (.int z5), .val (.int jv7_5), .val (.int jv8_6), .val (.int 0), .val (.int 1), .val (.int jv17_9), .val (.int jv18_10), .val (.int z21), .val (.ref b23_0), .val (.ref b24), .unset, .unset, .unset, .unset] [(.ref b159_0)]))
                    refine Go.astore X159 hx (pc' := 213) rfl (hb hby at_211) (Ls' := #[.val (.int p0), .val (.int p1), .val (.int p2), .val (.int z1), .val (.int z5), .val (.int jv7_5), .val (.int jv8_6), .val (.int 0), .val (.int 1), .val (.int jv17_9), .val (.int jv18_10), .val (.int z21), .val (.ref b23_0), .val (.ref b24), .val (.ref b159_0), .unset, .unset, .unset]) rfl rfl ?_
                    refine Go.new X159 hx Z23 O23 (tw_34 hw) (tw_35 hw) (tw_36 hw) e159 (by decide) (by decide) (pc' := 216) rfl (hb hby at_213) ?_
                    intro T160 h160 b160 e160 E160 g160 A160 D160 X160
                    have b160_word : Fld Z h160 b160 "com/example/tough_filter/toughfilter/Expression$Keyword" "word" "Ljava/lang/String;" .null := D160 (Or.inr (tw_47 hw)) (ty := (.object "java/lang/String")) (by decide)
                    have b160_pinyin : Fld Z h160 b160 "com/example/tough_filter/toughfilter/Expression$Keyword" "pinyin" "Z" (.int 0) := D160 (Or.inr (tw_49 hw)) (ty := .boolean) (by decide)
                    refine Go.dup X160 hx (pc' := 217) rfl (hb hby at_216) rfl ?_
                    refine Go.aload X160 hx (pc' := 219) rfl (hb hby at_217) rfl rfl ?_
                    refine Go.iload X160 hx (pc' := 221) rfl (hb hby at_219) rfl ?_
                    have r161 : -128 ≤ z159_0.toInt ∧ z159_0.toInt ≤ 127 := own_ri2b d159_0
                    have Kp163 : Keep h0 h159 [] := (Kp155.trans K159 all0)
                    have Kp164 : Keep h0 h160 [] := (Kp163.ext E160)
                    have Zn162 : n0 ≤ h160.size := Nat.le_trans Z0 Kp164.1
                    have sz166 : h0.size ≤ b160 := Nat.le_trans Kp163.1 (Nat.le_of_eq g160.symm)
                    have ge165 : n0 ≤ b160 := Nat.le_trans Z0 sz166
                    refine Go.callN X160 hx Z23 O23 rfl (tw_37 hw) (tw_38 hw) (tw_39 hw) (by decide) (tw_39 hw) (tw_36 hw) (au_22 l Z a0 hw b160 b159_0 jv18_10 h160 n0 Zn162 A160 b160_pinyin b160_word jr18_10 ge165) e160 (a := b160) (argsL := [(.ref b159_0), (.int jv18_10)]) (rest := [(.ref b160)]) (pc' := 224) rfl (by rw [hml]; rfl) (lenOf pd_4 rfl) rfl rfl (W := 1) (Nat.le_of_eq rfl) (by decide) (by decide) (by decide) (by decide) (hb hby at_221) ?_
                    intro v167 T167 L167 q167 X167
                    obtain ⟨h167, e167⟩ : ∃ z, T167.heap = z := ⟨_, rfl⟩
                    rw [e167] at q167
                    obtain ⟨rfl, N167, K167, F167_0, F167_1, F167_2⟩ := q167
                    show Go _ _ _ _ (T167.setTop (mkF m 224 #[.val (.int p0), .val (.int p1), .val (.int p2), .val (.int z1), .val (.int z5), .val (.int jv7_5), .val (.int jv8_6), .val (.int 0), .val (.int 1), .val (.int jv17_9), .val (.int jv18_10), .val (.int z21), .val (.ref b23_0), .val (.ref b24), .val (.ref b159_0), .unset, .unset, .unset] [(.ref b160)]))
                    refine Go.astore X167 hx (pc' := 226) rfl (hb hby at_224) (Ls' := #[.val (.int p0), .val (.int p1), .val (.int p2), .val (.int z1), .val (.int z5), .val (.int jv7_5), .val (.int jv8_6), .val (.int 0), .val (.int 1), .val (.int jv17_9), .val (.int jv18_10), .val (.int z21), .val (.ref b23_0), .val (.ref b24), .val (.ref b159_0), .val (.ref b160), .unset, .unset]) rfl rfl ?_
                    refine Go.iload X167 hx (pc' := 228) rfl (hb hby at_226) rfl ?_
                    refine Go.iload X167 hx (pc' := 230) rfl (hb hby at_228) rfl ?_
                    refine Go.icmpYes X167 hx (pc' := 262) (hb hby at_230) (by decide) (by decide) (by decide) ?_
                    refine Go.iconst X167 hx (pc' := 263) rfl (hb hby at_262) (v := (0 : Int32)) rfl ?_
                    refine Go.istore X167 hx (pc' := 265) rfl (hb hby at_263) (Ls' := #[.val (.int p0), .val (.int p1), .val (.int p2), .val (.int z1), .val (.int z5), .val (.int jv7_5), .val (.int jv8_6), .val (.int 0), .val (.int 1), .val (.int jv17_9), .val (.int jv18_10), .val (.int z21), .val (.ref b23_0), .val (.ref b24), .val (.ref b159_0), .val (.ref b160), .val (.int 0), .unset]) rfl ?_
                    refine Go.iload X167 hx (pc' := 267) rfl (hb hby at_265) rfl ?_
                    refine Go.iload X167 hx (pc' := 269) rfl (hb hby at_267) rfl ?_
                    by_cases hc168 : jv17_9 = jv18_10
                    · refine Go.icmpNo X167 hx (pc' := 272) rfl (hb hby at_269) (teq hc168).2 ?_
                      refine Go.iload X167 hx (pc' := 274) rfl (hb hby at_272) rfl ?_
                      refine Go.ifYes X167 hx (pc' := 281) (hb hby at_274) (by decide) (by decide) (by decide) ?_
                      refine Go.iconst X167 hx (pc' := 282) rfl (hb hby at_281) (v := (0 : Int32)) rfl ?_
                      refine Go.istore X167 hx (pc' := 284) rfl (hb hby at_282) (Ls' := #[.val (.int p0), .val (.int p1), .val (.int p2), .val (.int z1), .val (.int z5), .val (.int jv7_5), .val (.int jv8_6), .val (.int 0), .val (.int 1), .val (.int jv17_9), .val (.int jv18_10), .val (.int z21), .val (.ref b23_0), .val (.ref b24), .val (.ref b159_0), .val (.ref b160), .val (.int 0), .val (.int 0)]) rfl ?_
                      refine Go.aload X167 hx (pc' := 286) rfl (hb hby at_284) rfl rfl ?_
                      refine Go.aload X167 hx (pc' := 288) rfl (hb hby at_286) rfl rfl ?_
                      have Kp170 : Keep h0 h167 [] := (Kp164.trans K167 (allS (Or.inr sz166) all0))
                      have Zn169 : n0 ≤ h167.size := Nat.le_trans Z0 Kp170.1
                      have O171 := (O158.keep K159 all0)
                      have O172 := (O171.ext E160)
                      have O173 := (O172.keep K167 (allS ge165 all0))
                      have fk175 : Exa Z h159 b24 "com/example/tough_filter/toughfilter/Expression$Keyword" := (F30_0.keep K159)
                      have ne174 : b24 ≠ b160 := Nat.ne_of_lt (Nat.lt_of_lt_of_le fk175.lt (Nat.le_of_eq g160.symm))
                      have fk176 : Fld Z h167 b24 "com/example/tough_filter/toughfilter/Expression$Keyword" "pinyin" "Z" (.int jv17_9) := (((F30_1.keep K159 nin0).ext E160).keep K167 (ninS ne174 nin0))
                      have fk177 : Fld Z h167 b24 "com/example/tough_filter/toughfilter/Expression$Keyword" "word" "Ljava/lang/String;" (.ref b23_0) := (((F30_2.keep K159 nin0).ext E160).keep K167 (ninS ne174 nin0))
                      have fk178 : Exa Z h167 b23_0 "java/lang/String" := (((((F23_0.ext E24).keep K30).keep K159).ext E160).keep K167)
                      have ne179 : b23_0 ≠ b24 := Nat.ne_of_lt (Nat.lt_of_lt_of_le F23_0.lt (Nat.le_of_eq g24.symm))
                      have fk181 : Exa Z h159 b23_0 "java/lang/String" := (((F23_0.ext E24).keep K30).keep K159)
                      have ne180 : b23_0 ≠ b160 := Nat.ne_of_lt (Nat.lt_of_lt_of_le fk181.lt (Nat.le_of_eq g160.symm))
                      have fk182 : Fld Z h167 b23_0 "java/lang/String" "coder" "B" (.int 0) := (((((F23_1.ext E24).keep K30 (ninS ne179 nin0)).keep K159 nin0).ext E160).keep K167 (ninS ne180 nin0))
                      have fk183 : Fld Z h167 b23_0 "java/lang/String" "value" "[B" (.ref b23_1) := (((((F23_2.ext E24).keep K30 (ninS ne179 nin0)).keep K159 nin0).ext E160).keep K167 (ninS ne180 nin0))
                      have fk184 : Exa Z h167 b159_0 "java/lang/String" := ((F159_0.ext E160).keep K167)
                      have ne185 : b159_0 ≠ b160 := Nat.ne_of_lt (Nat.lt_of_lt_of_le F159_0.lt (Nat.le_of_eq g160.symm))
                      have fk186 : Fld Z h167 b159_0 "java/lang/String" "coder" "B" (.int 0) := ((F159_1.ext E160).keep K167 (ninS ne185 nin0))
                      have fk187 : Fld Z h167 b159_0 "java/lang/String" "value" "[B" (.ref b159_1) := ((F159_2.ext E160).keep K167 (ninS ne185 nin0))
                      have ne188 : b23_1 ≠ b24 := Nat.ne_of_lt (Nat.lt_of_lt_of_le F23_3.lt (Nat.le_of_eq g24.symm))
                      have fk190 := (((F23_3.ext E24).keep K30 (ninS ne188 nin0)).keep K159 nin0)
                      have ne189 : b23_1 ≠ b160 := Nat.ne_of_lt (Nat.lt_of_lt_of_le fk190.lt (Nat.le_of_eq g160.symm))
                      have fk191 := (((((F23_3.ext E24).keep K30 (ninS ne188 nin0)).keep K159 nin0).ext E160).keep K167 (ninS ne189 nin0))
                      have ne192 : b159_1 ≠ b160 := Nat.ne_of_lt (Nat.lt_of_lt_of_le F159_3.lt (Nat.le_of_eq g160.symm))
                      have fk193 := ((F159_3.ext E160).keep K167 (ninS ne192 nin0))
                      have fk195 : Exa Z h30 b23_0 "java/lang/String" := ((F23_0.ext E24).keep K30)
                      have ne194 : b23_0 ≠ b159_0 := Nat.ne_of_lt (Nat.lt_of_lt_of_le fk195.lt s159_0)
                      have fk196 : Exa Z h167 b24 "com/example/tough_filter/toughfilter/Expression$Keyword" := ((fk175.ext E160).keep K167)
                      refine Go.callV X167 hx Z23 O23 (tw_53 hw) (tw_54 hw) (notFace_of_selects (args := #[]) (mvT Z23 (tw_56 hw))) (tw_56 hw) (tw_55 hw) (by decide) (tw_57 hw) (tw_36 hw) (au_23 l Z a0 hw b24 b160 jv17_9 b23_0 jv18_10 b159_0 b23_1 b159_1 k23_0 k159_0 z159_0 gz1 gv5 h167 n0 Zn169 O173 G fk176 fk177 F167_0 F167_1 F167_2 fk178 fk182 fk183 fk184 fk186 fk187 fk191 fk193 ne194) e167 fk196 (argsL := [(.ref b160)]) (rest := []) (pc' := 291) rfl (by rw [hml]; rfl) (lenOf pd_5 rfl) rfl rfl (W := 0) (Nat.le_of_eq rfl) (by decide) (by decide) (by decide) (by decide) (hb hby at_288) ?_
                      intro v197 T197 L197 q197 X197
                      obtain ⟨rfl, N197, e197⟩ := q197
                      show Go _ _ _ _ (T197.setTop (mkF m 291 #[.val (.int p0), .val (.int p1), .val (.int p2), .val (.int z1), .val (.int z5), .val (.int jv7_5), .val (.int jv8_6), .val (.int 0), .val (.int 1), .val (.int jv17_9), .val (.int jv18_10), .val (.int z21), .val (.ref b23_0), .val (.ref b24), .val (.ref b159_0), .val (.ref b160), .val (.int 0), .val (.int 0)] [(.int 0)]))
                      refine Go.iload X197 hx (pc' := 293) rfl (hb hby at_291) rfl ?_
                      refine Go.icmpNo X197 hx (pc' := 296) rfl (hb hby at_293) (by decide) ?_
                      refine Go.aload X197 hx (pc' := 298) rfl (hb hby at_296) rfl rfl ?_
                      refine Go.aload X197 hx (pc' := 300) rfl (hb hby at_298) rfl rfl ?_
                      refine Go.callV X197 hx Z23 O23 (tw_53 hw) (tw_54 hw) (notFace_of_selects (args := #[]) (mvT Z23 (tw_56 hw))) (tw_56 hw) (tw_55 hw) (by decide) (tw_57 hw) (tw_36 hw) (au_26 l Z a0 hw b160 b24 jv18_10 b159_0 jv17_9 b23_0 b159_1 b23_1 k159_0 z159_0 k23_0 gz1 gv5 h167 n0 Zn169 O173 G F167_1 F167_2 fk196 fk176 fk177 fk184 fk186 fk187 fk178 fk182 fk183 fk193 fk191 (Ne.symm ne194)) e197 F167_0 (argsL := [(.ref b24)]) (rest := []) (pc' := 303) rfl (by rw [hml]; rfl) (lenOf pd_5 rfl) rfl rfl (W := 0) (Nat.le_of_eq rfl) (by decide) (by decide) (by decide) (by decide) (hb hby at_300) ?_
                      intro v198 T198 L198 q198 X198
                      obtain ⟨rfl, N198, e198⟩ := q198
                      show Go _ _ _ _ (T198.setTop (mkF m 303 #[.val (.int p0), .val (.int p1), .val (.int p2), .val (.int z1), .val (.int z5), .val (.int jv7_5), .val (.int jv8_6), .val (.int 0), .val (.int 1), .val (.int jv17_9), .val (.int jv18_10), .val (.int z21), .val (.ref b23_0), .val (.ref b24), .val (.ref b159_0), .val (.ref b160), .val (.int 0), .val (.int 0)] [(.int 0)]))
                      refine Go.iload X198 hx (pc' := 305) rfl (hb hby at_303) rfl ?_
                      refine Go.icmpNo X198 hx (pc' := 308) rfl (hb hby at_305) (by decide) ?_
                      refine Go.iconst X198 hx (pc' := 309) rfl (hb hby at_308) (v := (1 : Int32)) rfl ?_
                      refine Go.goto X198 hx (pc' := 313) (hb hby at_309) (by decide) (by decide) ?_
                      have C199 : CHr Z EL0 s.vm s.heap T23.vm h23 := (C0.trans C23)
                      have C200 : CHr Z EL0 s.vm s.heap T23.vm h24 := (C199.trans (CHr.ext E24 C199.1))
                      have fk201 : Safe Z EL0 T23.vm h24 b24 := (Safe.ext E24 C199.1 (Safe.new (Nat.le_of_eq g24.symm) : Safe Z EL0 T23.vm h23 b24))
                      have C202 : CHr Z EL0 s.vm s.heap T23.vm h30 := (C200.trans (CHr.keep K30 (sfS fk201 sf0) C200.1))
                      have C203 : CHr Z EL0 s.vm s.heap T23.vm h159 := (C202.trans (CHr.keep K159 sf0 C202.1))
                      have C204 : CHr Z EL0 s.vm s.heap T23.vm h160 := (C203.trans (CHr.ext E160 C203.1))
                      have fk205 : Safe Z EL0 T23.vm h160 b160 := (Safe.ext E160 C203.1 (Safe.new (Nat.le_of_eq g160.symm) : Safe Z EL0 T23.vm h159 b160))
                      have C206 : CHr Z EL0 s.vm s.heap T23.vm h167 := (C204.trans (CHr.keep K167 (sfS fk205 sf0) C204.1))
                      have hk207 := (Nat.le_trans (Nat.le_trans (Nat.le_trans (Nat.le_trans (Nat.le_trans (Nat.le_refl _) E24.1) K30.1) K159.1) E160.1) K167.1)
                      refine Go.retNW X198 hx hlk Z23 (own_EW hw) e198 S23 hk207 C206 (t := .boolean) hret (by simp) (hb hby at_313) (by decide) (by decide) (fun hat => ?_)
                      exact ⟨rfl, (Fr.app (Fr.app (Fr.app (Fr.app (Fr.app (Fr.app (Fr.nil n0) N23) N30) N159) N167) N197) N198)⟩
                    · refine Go.icmpYes X167 hx (pc' := 281) (hb hby at_269) (feq hc168).2 (by decide) (by decide) ?_
                      refine Go.iconst X167 hx (pc' := 282) rfl (hb hby at_281) (v := (0 : Int32)) rfl ?_
                      refine Go.istore X167 hx (pc' := 284) rfl (hb hby at_282) (Ls' := #[.val (.int p0), .val (.int p1), .val (.int p2), .val (.int z1), .val (.int z5), .val (.int jv7_5), .val (.int jv8_6), .val (.int 0), .val (.int 1), .val (.int jv17_9), .val (.int jv18_10), .val (.int z21), .val (.ref b23_0), .val (.ref b24), .val (.ref b159_0), .val (.ref b160), .val (.int 0), .val (.int 0)]) rfl ?_
                      refine Go.aload X167 hx (pc' := 286) rfl (hb hby at_284) rfl rfl ?_
                      refine Go.aload X167 hx (pc' := 288) rfl (hb hby at_286) rfl rfl ?_
                      have Kp209 : Keep h0 h167 [] := (Kp164.trans K167 (allS (Or.inr sz166) all0))
                      have Zn208 : n0 ≤ h167.size := Nat.le_trans Z0 Kp209.1
                      have O210 := (O158.keep K159 all0)
                      have O211 := (O210.ext E160)
                      have O212 := (O211.keep K167 (allS ge165 all0))
                      have fk214 : Exa Z h159 b24 "com/example/tough_filter/toughfilter/Expression$Keyword" := (F30_0.keep K159)
                      have ne213 : b24 ≠ b160 := Nat.ne_of_lt (Nat.lt_of_lt_of_le fk214.lt (Nat.le_of_eq g160.symm))
                      have fk215 : Fld Z h167 b24 "com/example/tough_filter/toughfilter/Expression$Keyword" "pinyin" "Z" (.int jv17_9) := (((F30_1.keep K159 nin0).ext E160).keep K167 (ninS ne213 nin0))
                      have fk216 : Fld Z h167 b24 "com/example/tough_filter/toughfilter/Expression$Keyword" "word" "Ljava/lang/String;" (.ref b23_0) := (((F30_2.keep K159 nin0).ext E160).keep K167 (ninS ne213 nin0))
                      have fk217 : Exa Z h167 b23_0 "java/lang/String" := (((((F23_0.ext E24).keep K30).keep K159).ext E160).keep K167)
                      have ne218 : b23_0 ≠ b24 := Nat.ne_of_lt (Nat.lt_of_lt_of_le F23_0.lt (Nat.le_of_eq g24.symm))
                      have fk220 : Exa Z h159 b23_0 "java/lang/String" := (((F23_0.ext E24).keep K30).keep K159)
                      have ne219 : b23_0 ≠ b160 := Nat.ne_of_lt (Nat.lt_of_lt_of_le fk220.lt (Nat.le_of_eq g160.symm))
                      have fk221 : Fld Z h167 b23_0 "java/lang/String" "coder" "B" (.int 0) := (((((F23_1.ext E24).keep K30 (ninS ne218 nin0)).keep K159 nin0).ext E160).keep K167 (ninS ne219 nin0))
                      have fk222 : Fld Z h167 b23_0 "java/lang/String" "value" "[B" (.ref b23_1) := (((((F23_2.ext E24).keep K30 (ninS ne218 nin0)).keep K159 nin0).ext E160).keep K167 (ninS ne219 nin0))
                      have fk223 : Exa Z h167 b159_0 "java/lang/String" := ((F159_0.ext E160).keep K167)
                      have ne224 : b159_0 ≠ b160 := Nat.ne_of_lt (Nat.lt_of_lt_of_le F159_0.lt (Nat.le_of_eq g160.symm))
                      have fk225 : Fld Z h167 b159_0 "java/lang/String" "coder" "B" (.int 0) := ((F159_1.ext E160).keep K167 (ninS ne224 nin0))
                      have fk226 : Fld Z h167 b159_0 "java/lang/String" "value" "[B" (.ref b159_1) := ((F159_2.ext E160).keep K167 (ninS ne224 nin0))
                      have ne227 : b23_1 ≠ b24 := Nat.ne_of_lt (Nat.lt_of_lt_of_le F23_3.lt (Nat.le_of_eq g24.symm))
                      have fk229 := (((F23_3.ext E24).keep K30 (ninS ne227 nin0)).keep K159 nin0)
                      have ne228 : b23_1 ≠ b160 := Nat.ne_of_lt (Nat.lt_of_lt_of_le fk229.lt (Nat.le_of_eq g160.symm))
                      have fk230 := (((((F23_3.ext E24).keep K30 (ninS ne227 nin0)).keep K159 nin0).ext E160).keep K167 (ninS ne228 nin0))
                      have ne231 : b159_1 ≠ b160 := Nat.ne_of_lt (Nat.lt_of_lt_of_le F159_3.lt (Nat.le_of_eq g160.symm))
                      have fk232 := ((F159_3.ext E160).keep K167 (ninS ne231 nin0))
                      have fk234 : Exa Z h30 b23_0 "java/lang/String" := ((F23_0.ext E24).keep K30)
                      have ne233 : b23_0 ≠ b159_0 := Nat.ne_of_lt (Nat.lt_of_lt_of_le fk234.lt s159_0)
                      have fk235 : Exa Z h167 b24 "com/example/tough_filter/toughfilter/Expression$Keyword" := ((fk214.ext E160).keep K167)
                      refine Go.callV X167 hx Z23 O23 (tw_53 hw) (tw_54 hw) (notFace_of_selects (args := #[]) (mvT Z23 (tw_56 hw))) (tw_56 hw) (tw_55 hw) (by decide) (tw_57 hw) (tw_36 hw) (au_23 l Z a0 hw b24 b160 jv17_9 b23_0 jv18_10 b159_0 b23_1 b159_1 k23_0 k159_0 z159_0 gz1 gv5 h167 n0 Zn208 O212 G fk215 fk216 F167_0 F167_1 F167_2 fk217 fk221 fk222 fk223 fk225 fk226 fk230 fk232 ne233) e167 fk235 (argsL := [(.ref b160)]) (rest := []) (pc' := 291) rfl (by rw [hml]; rfl) (lenOf pd_5 rfl) rfl rfl (W := 0) (Nat.le_of_eq rfl) (by decide) (by decide) (by decide) (by decide) (hb hby at_288) ?_
                      intro v236 T236 L236 q236 X236
                      obtain ⟨rfl, N236, e236⟩ := q236
                      show Go _ _ _ _ (T236.setTop (mkF m 291 #[.val (.int p0), .val (.int p1), .val (.int p2), .val (.int z1), .val (.int z5), .val (.int jv7_5), .val (.int jv8_6), .val (.int 0), .val (.int 1), .val (.int jv17_9), .val (.int jv18_10), .val (.int z21), .val (.ref b23_0), .val (.ref b24), .val (.ref b159_0), .val (.ref b160), .val (.int 0), .val (.int 0)] [(.int 0)]))
                      refine Go.iload X236 hx (pc' := 293) rfl (hb hby at_291) rfl ?_
                      refine Go.icmpNo X236 hx (pc' := 296) rfl (hb hby at_293) (by decide) ?_
                      refine Go.aload X236 hx (pc' := 298) rfl (hb hby at_296) rfl rfl ?_
                      refine Go.aload X236 hx (pc' := 300) rfl (hb hby at_298) rfl rfl ?_
                      refine Go.callV X236 hx Z23 O23 (tw_53 hw) (tw_54 hw) (notFace_of_selects (args := #[]) (mvT Z23 (tw_56 hw))) (tw_56 hw) (tw_55 hw) (by decide) (tw_57 hw) (tw_36 hw) (au_26 l Z a0 hw b160 b24 jv18_10 b159_0 jv17_9 b23_0 b159_1 b23_1 k159_0 z159_0 k23_0 gz1 gv5 h167 n0 Zn208 O212 G F167_1 F167_2 fk235 fk215 fk216 fk223 fk225 fk226 fk217 fk221 fk222 fk232 fk230 (Ne.symm ne233)) e236 F167_0 (argsL := [(.ref b24)]) (rest := []) (pc' := 303) rfl (by rw [hml]; rfl) (lenOf pd_5 rfl) rfl rfl (W := 0) (Nat.le_of_eq rfl) (by decide) (by decide) (by decide) (by decide) (hb hby at_300) ?_
                      intro v237 T237 L237 q237 X237
                      obtain ⟨rfl, N237, e237⟩ := q237
                      show Go _ _ _ _ (T237.setTop (mkF m 303 #[.val (.int p0), .val (.int p1), .val (.int p2), .val (.int z1), .val (.int z5), .val (.int jv7_5), .val (.int jv8_6), .val (.int 0), .val (.int 1), .val (.int jv17_9), .val (.int jv18_10), .val (.int z21), .val (.ref b23_0), .val (.ref b24), .val (.ref b159_0), .val (.ref b160), .val (.int 0), .val (.int 0)] [(.int 0)]))
                      refine Go.iload X237 hx (pc' := 305) rfl (hb hby at_303) rfl ?_
                      refine Go.icmpNo X237 hx (pc' := 308) rfl (hb hby at_305) (by decide) ?_
                      refine Go.iconst X237 hx (pc' := 309) rfl (hb hby at_308) (v := (1 : Int32)) rfl ?_
                      refine Go.goto X237 hx (pc' := 313) (hb hby at_309) (by decide) (by decide) ?_
                      have C238 : CHr Z EL0 s.vm s.heap T23.vm h23 := (C0.trans C23)
                      have C239 : CHr Z EL0 s.vm s.heap T23.vm h24 := (C238.trans (CHr.ext E24 C238.1))
                      have fk240 : Safe Z EL0 T23.vm h24 b24 := (Safe.ext E24 C238.1 (Safe.new (Nat.le_of_eq g24.symm) : Safe Z EL0 T23.vm h23 b24))
                      have C241 : CHr Z EL0 s.vm s.heap T23.vm h30 := (C239.trans (CHr.keep K30 (sfS fk240 sf0) C239.1))
                      have C242 : CHr Z EL0 s.vm s.heap T23.vm h159 := (C241.trans (CHr.keep K159 sf0 C241.1))
                      have C243 : CHr Z EL0 s.vm s.heap T23.vm h160 := (C242.trans (CHr.ext E160 C242.1))
                      have fk244 : Safe Z EL0 T23.vm h160 b160 := (Safe.ext E160 C242.1 (Safe.new (Nat.le_of_eq g160.symm) : Safe Z EL0 T23.vm h159 b160))
                      have C245 : CHr Z EL0 s.vm s.heap T23.vm h167 := (C243.trans (CHr.keep K167 (sfS fk244 sf0) C243.1))
                      have hk246 := (Nat.le_trans (Nat.le_trans (Nat.le_trans (Nat.le_trans (Nat.le_trans (Nat.le_refl _) E24.1) K30.1) K159.1) E160.1) K167.1)
                      refine Go.retNW X237 hx hlk Z23 (own_EW hw) e237 S23 hk246 C245 (t := .boolean) hret (by simp) (hb hby at_313) (by decide) (by decide) (fun hat => ?_)
                      exact ⟨rfl, (Fr.app (Fr.app (Fr.app (Fr.app (Fr.app (Fr.app (Fr.nil n0) N23) N30) N159) N167) N236) N237)⟩
                  · refine Go.iload X30 hx (pc' := 204) rfl (hb hby at_202) rfl ?_
                    refine Go.iload X30 hx (pc' := 206) rfl (hb hby at_204) rfl ?_
                    refine Go.iload X30 hx (pc' := 208) rfl (hb hby at_206) rfl ?_
                    have Kp248 : Keep h0 h30 [] := (Kp27.trans K30 (allS (Or.inr sz29) all0))
                    have Zn247 : n0 ≤ h30.size := Nat.le_trans Z0 Kp248.1
                    have O249 := (O0.keep K23 all0)
                    have O250 := (O249.ext E24)
                    have O251 := (O250.keep K30 (allS ge28 all0))
                    refine Go.callS X30 hx Z23 O23 (tw_0 hw) (tw_1 hw) (tw_2 hw) (tw_3 hw) (by decide) (tw_3 hw) (tw_2 hw) (au_29 l Z a0 hw jv7_5 jv8_6 gz1 gv5 h30 n0 Zn247 O251 G jr7_5 jr8_6) e30 (argsL := [(.int 2), (.int jv7_5), (.int jv8_6)]) (rest := []) (pc' := 211) rfl (by rw [hml]; rfl) (lenOf pd_2 rfl) rfl rfl (W := 0) (Nat.le_of_eq rfl) (by decide) (by decide) (by decide) (by decide) (hb hby at_208) ?_
                    intro v252 T252 L252 q252 X252
                    obtain ⟨h252, e252⟩ : ∃ z, T252.heap = z := ⟨_, rfl⟩
                    rw [e252] at q252
                    obtain ⟨z252_0, z252_1, b252_0, b252_1, k252_0, d252_0, d252_1, rfl, N252, K252, s252_0, s252_1, n252_0, F252_0, F252_1, F252_2, F252_3, F252_4⟩ := q252
                    show Go _ _ _ _ (T252.setTop (mkF m 211 #[.val (.int p0), .val (.int p1), .val (.int p2), .val (.int z1), .val (.int z5), .val (.int jv7_5), .val (.int jv8_6), .val (.int 0), .val (.int 2), .val (.int jv17_9), .val (.int jv18_10), .val (.int z21), .val (.ref b23_0), .val (.ref b24), .unset, .unset, .unset, .unset] [(.ref b252_0)]))
                    refine Go.astore X252 hx (pc' := 213) rfl (hb hby at_211) (Ls' := #[.val (.int p0), .val (.int p1), .val (.int p2), .val (.int z1), .val (.int z5), .val (.int jv7_5), .val (.int jv8_6), .val (.int 0), .val (.int 2), .val (.int jv17_9), .val (.int jv18_10), .val (.int z21), .val (.ref b23_0), .val (.ref b24), .val (.ref b252_0), .unset, .unset, .unset]) rfl rfl ?_
                    refine Go.new X252 hx Z23 O23 (tw_34 hw) (tw_35 hw) (tw_36 hw) e252 (by decide) (by decide) (pc' := 216) rfl (hb hby at_213) ?_
                    intro T253 h253 b253 e253 E253 g253 A253 D253 X253
                    have b253_word : Fld Z h253 b253 "com/example/tough_filter/toughfilter/Expression$Keyword" "word" "Ljava/lang/String;" .null := D253 (Or.inr (tw_47 hw)) (ty := (.object "java/lang/String")) (by decide)
                    have b253_pinyin : Fld Z h253 b253 "com/example/tough_filter/toughfilter/Expression$Keyword" "pinyin" "Z" (.int 0) := D253 (Or.inr (tw_49 hw)) (ty := .boolean) (by decide)
                    refine Go.dup X253 hx (pc' := 217) rfl (hb hby at_216) rfl ?_
                    refine Go.aload X253 hx (pc' := 219) rfl (hb hby at_217) rfl rfl ?_
                    refine Go.iload X253 hx (pc' := 221) rfl (hb hby at_219) rfl ?_
                    have r254 : -128 ≤ z252_0.toInt ∧ z252_0.toInt ≤ 127 := own_ri2b d252_0
                    have r255 : -128 ≤ z252_1.toInt ∧ z252_1.toInt ≤ 127 := own_ri2b d252_1
                    have Kp257 : Keep h0 h252 [] := (Kp248.trans K252 all0)
                    have Kp258 : Keep h0 h253 [] := (Kp257.ext E253)
                    have Zn256 : n0 ≤ h253.size := Nat.le_trans Z0 Kp258.1
                    have sz260 : h0.size ≤ b253 := Nat.le_trans Kp257.1 (Nat.le_of_eq g253.symm)
                    have ge259 : n0 ≤ b253 := Nat.le_trans Z0 sz260
                    refine Go.callN X253 hx Z23 O23 rfl (tw_37 hw) (tw_38 hw) (tw_39 hw) (by decide) (tw_39 hw) (tw_36 hw) (au_35 l Z a0 hw b253 b252_0 jv18_10 h253 n0 Zn256 A253 b253_pinyin b253_word jr18_10 ge259) e253 (a := b253) (argsL := [(.ref b252_0), (.int jv18_10)]) (rest := [(.ref b253)]) (pc' := 224) rfl (by rw [hml]; rfl) (lenOf pd_4 rfl) rfl rfl (W := 1) (Nat.le_of_eq rfl) (by decide) (by decide) (by decide) (by decide) (hb hby at_221) ?_
                    intro v261 T261 L261 q261 X261
                    obtain ⟨h261, e261⟩ : ∃ z, T261.heap = z := ⟨_, rfl⟩
                    rw [e261] at q261
                    obtain ⟨rfl, N261, K261, F261_0, F261_1, F261_2⟩ := q261
                    show Go _ _ _ _ (T261.setTop (mkF m 224 #[.val (.int p0), .val (.int p1), .val (.int p2), .val (.int z1), .val (.int z5), .val (.int jv7_5), .val (.int jv8_6), .val (.int 0), .val (.int 2), .val (.int jv17_9), .val (.int jv18_10), .val (.int z21), .val (.ref b23_0), .val (.ref b24), .val (.ref b252_0), .unset, .unset, .unset] [(.ref b253)]))
                    refine Go.astore X261 hx (pc' := 226) rfl (hb hby at_224) (Ls' := #[.val (.int p0), .val (.int p1), .val (.int p2), .val (.int z1), .val (.int z5), .val (.int jv7_5), .val (.int jv8_6), .val (.int 0), .val (.int 2), .val (.int jv17_9), .val (.int jv18_10), .val (.int z21), .val (.ref b23_0), .val (.ref b24), .val (.ref b252_0), .val (.ref b253), .unset, .unset]) rfl rfl ?_
                    refine Go.iload X261 hx (pc' := 228) rfl (hb hby at_226) rfl ?_
                    refine Go.iload X261 hx (pc' := 230) rfl (hb hby at_228) rfl ?_
                    refine Go.icmpYes X261 hx (pc' := 262) (hb hby at_230) (by decide) (by decide) (by decide) ?_
                    refine Go.iconst X261 hx (pc' := 263) rfl (hb hby at_262) (v := (0 : Int32)) rfl ?_
                    refine Go.istore X261 hx (pc' := 265) rfl (hb hby at_263) (Ls' := #[.val (.int p0), .val (.int p1), .val (.int p2), .val (.int z1), .val (.int z5), .val (.int jv7_5), .val (.int jv8_6), .val (.int 0), .val (.int 2), .val (.int jv17_9), .val (.int jv18_10), .val (.int z21), .val (.ref b23_0), .val (.ref b24), .val (.ref b252_0), .val (.ref b253), .val (.int 0), .unset]) rfl ?_
                    refine Go.iload X261 hx (pc' := 267) rfl (hb hby at_265) rfl ?_
                    refine Go.iload X261 hx (pc' := 269) rfl (hb hby at_267) rfl ?_
                    by_cases hc262 : jv17_9 = jv18_10
                    · refine Go.icmpNo X261 hx (pc' := 272) rfl (hb hby at_269) (teq hc262).2 ?_
                      refine Go.iload X261 hx (pc' := 274) rfl (hb hby at_272) rfl ?_
                      refine Go.ifYes X261 hx (pc' := 281) (hb hby at_274) (by decide) (by decide) (by decide) ?_
                      refine Go.iconst X261 hx (pc' := 282) rfl (hb hby at_281) (v := (0 : Int32)) rfl ?_
                      refine Go.istore X261 hx (pc' := 284) rfl (hb hby at_282) (Ls' := #[.val (.int p0), .val (.int p1), .val (.int p2), .val (.int z1), .val (.int z5), .val (.int jv7_5), .val (.int jv8_6), .val (.int 0), .val (.int 2), .val (.int jv17_9), .val (.int jv18_10), .val (.int z21), .val (.ref b23_0), .val (.ref b24), .val (.ref b252_0), .val (.ref b253), .val (.int 0), .val (.int 0)]) rfl ?_
                      refine Go.aload X261 hx (pc' := 286) rfl (hb hby at_284) rfl rfl ?_
                      refine Go.aload X261 hx (pc' := 288) rfl (hb hby at_286) rfl rfl ?_
                      have Kp264 : Keep h0 h261 [] := (Kp258.trans K261 (allS (Or.inr sz260) all0))
                      have Zn263 : n0 ≤ h261.size := Nat.le_trans Z0 Kp264.1
                      have O265 := (O251.keep K252 all0)
                      have O266 := (O265.ext E253)
                      have O267 := (O266.keep K261 (allS ge259 all0))
                      have fk269 : Exa Z h252 b24 "com/example/tough_filter/toughfilter/Expression$Keyword" := (F30_0.keep K252)
                      have ne268 : b24 ≠ b253 := Nat.ne_of_lt (Nat.lt_of_lt_of_le fk269.lt (Nat.le_of_eq g253.symm))
                      have fk270 : Fld Z h261 b24 "com/example/tough_filter/toughfilter/Expression$Keyword" "pinyin" "Z" (.int jv17_9) := (((F30_1.keep K252 nin0).ext E253).keep K261 (ninS ne268 nin0))
                      have fk271 : Fld Z h261 b24 "com/example/tough_filter/toughfilter/Expression$Keyword" "word" "Ljava/lang/String;" (.ref b23_0) := (((F30_2.keep K252 nin0).ext E253).keep K261 (ninS ne268 nin0))
                      have fk272 : Exa Z h261 b23_0 "java/lang/String" := (((((F23_0.ext E24).keep K30).keep K252).ext E253).keep K261)
                      have ne273 : b23_0 ≠ b24 := Nat.ne_of_lt (Nat.lt_of_lt_of_le F23_0.lt (Nat.le_of_eq g24.symm))
                      have fk275 : Exa Z h252 b23_0 "java/lang/String" := (((F23_0.ext E24).keep K30).keep K252)
                      have ne274 : b23_0 ≠ b253 := Nat.ne_of_lt (Nat.lt_of_lt_of_le fk275.lt (Nat.le_of_eq g253.symm))
                      have fk276 : Fld Z h261 b23_0 "java/lang/String" "coder" "B" (.int 0) := (((((F23_1.ext E24).keep K30 (ninS ne273 nin0)).keep K252 nin0).ext E253).keep K261 (ninS ne274 nin0))
                      have fk277 : Fld Z h261 b23_0 "java/lang/String" "value" "[B" (.ref b23_1) := (((((F23_2.ext E24).keep K30 (ninS ne273 nin0)).keep K252 nin0).ext E253).keep K261 (ninS ne274 nin0))
                      have fk278 : Exa Z h261 b252_0 "java/lang/String" := ((F252_0.ext E253).keep K261)
                      have ne279 : b252_0 ≠ b253 := Nat.ne_of_lt (Nat.lt_of_lt_of_le F252_0.lt (Nat.le_of_eq g253.symm))
                      have fk280 : Fld Z h261 b252_0 "java/lang/String" "coder" "B" (.int 0) := ((F252_1.ext E253).keep K261 (ninS ne279 nin0))
                      have fk281 : Fld Z h261 b252_0 "java/lang/String" "value" "[B" (.ref b252_1) := ((F252_2.ext E253).keep K261 (ninS ne279 nin0))
                      have ne282 : b23_1 ≠ b24 := Nat.ne_of_lt (Nat.lt_of_lt_of_le F23_3.lt (Nat.le_of_eq g24.symm))
                      have fk284 := (((F23_3.ext E24).keep K30 (ninS ne282 nin0)).keep K252 nin0)
                      have ne283 : b23_1 ≠ b253 := Nat.ne_of_lt (Nat.lt_of_lt_of_le fk284.lt (Nat.le_of_eq g253.symm))
                      have fk285 := (((((F23_3.ext E24).keep K30 (ninS ne282 nin0)).keep K252 nin0).ext E253).keep K261 (ninS ne283 nin0))
                      have ne286 : b252_1 ≠ b253 := Nat.ne_of_lt (Nat.lt_of_lt_of_le F252_3.lt (Nat.le_of_eq g253.symm))
                      have fk287 := ((F252_3.ext E253).keep K261 (ninS ne286 nin0))
                      have fk289 : Exa Z h30 b23_0 "java/lang/String" := ((F23_0.ext E24).keep K30)
                      have ne288 : b23_0 ≠ b252_0 := Nat.ne_of_lt (Nat.lt_of_lt_of_le fk289.lt s252_0)
                      have fk290 : Exa Z h261 b24 "com/example/tough_filter/toughfilter/Expression$Keyword" := ((fk269.ext E253).keep K261)
                      refine Go.callV X261 hx Z23 O23 (tw_53 hw) (tw_54 hw) (notFace_of_selects (args := #[]) (mvT Z23 (tw_56 hw))) (tw_56 hw) (tw_55 hw) (by decide) (tw_57 hw) (tw_36 hw) (au_36 l Z a0 hw b24 b253 jv17_9 b23_0 jv18_10 b252_0 b23_1 b252_1 k23_0 k252_0 z252_0 z252_1 gz1 gv5 h261 n0 Zn263 O267 G fk270 fk271 F261_0 F261_1 F261_2 fk272 fk276 fk277 fk278 fk280 fk281 fk285 fk287 ne288) e261 fk290 (argsL := [(.ref b253)]) (rest := []) (pc' := 291) rfl (by rw [hml]; rfl) (lenOf pd_5 rfl) rfl rfl (W := 0) (Nat.le_of_eq rfl) (by decide) (by decide) (by decide) (by decide) (hb hby at_288) ?_
                      intro v291 T291 L291 q291 X291
                      obtain ⟨rfl, N291, e291⟩ := q291
                      show Go _ _ _ _ (T291.setTop (mkF m 291 #[.val (.int p0), .val (.int p1), .val (.int p2), .val (.int z1), .val (.int z5), .val (.int jv7_5), .val (.int jv8_6), .val (.int 0), .val (.int 2), .val (.int jv17_9), .val (.int jv18_10), .val (.int z21), .val (.ref b23_0), .val (.ref b24), .val (.ref b252_0), .val (.ref b253), .val (.int 0), .val (.int 0)] [(.int 0)]))
                      refine Go.iload X291 hx (pc' := 293) rfl (hb hby at_291) rfl ?_
                      refine Go.icmpNo X291 hx (pc' := 296) rfl (hb hby at_293) (by decide) ?_
                      refine Go.aload X291 hx (pc' := 298) rfl (hb hby at_296) rfl rfl ?_
                      refine Go.aload X291 hx (pc' := 300) rfl (hb hby at_298) rfl rfl ?_
                      refine Go.callV X291 hx Z23 O23 (tw_53 hw) (tw_54 hw) (notFace_of_selects (args := #[]) (mvT Z23 (tw_56 hw))) (tw_56 hw) (tw_55 hw) (by decide) (tw_57 hw) (tw_36 hw) (au_39 l Z a0 hw b253 b24 jv18_10 b252_0 jv17_9 b23_0 b252_1 b23_1 k252_0 z252_0 z252_1 k23_0 gz1 gv5 h261 n0 Zn263 O267 G F261_1 F261_2 fk290 fk270 fk271 fk278 fk280 fk281 fk272 fk276 fk277 fk287 fk285 (Ne.symm ne288)) e291 F261_0 (argsL := [(.ref b24)]) (rest := []) (pc' := 303) rfl (by rw [hml]; rfl) (lenOf pd_5 rfl) rfl rfl (W := 0) (Nat.le_of_eq rfl) (by decide) (by decide) (by decide) (by decide) (hb hby at_300) ?_
                      intro v292 T292 L292 q292 X292
                      obtain ⟨rfl, N292, e292⟩ := q292
                      show Go _ _ _ _ (T292.setTop (mkF m 303 #[.val (.int p0), .val (.int p1), .val (.int p2), .val (.int z1), .val (.int z5), .val (.int jv7_5), .val (.int jv8_6), .val (.int 0), .val (.int 2), .val (.int jv17_9), .val (.int jv18_10), .val (.int z21), .val (.ref b23_0), .val (.ref b24), .val (.ref b252_0), .val (.ref b253), .val (.int 0), .val (.int 0)] [(.int 0)]))
                      refine Go.iload X292 hx (pc' := 305) rfl (hb hby at_303) rfl ?_
                      refine Go.icmpNo X292 hx (pc' := 308) rfl (hb hby at_305) (by decide) ?_
                      refine Go.iconst X292 hx (pc' := 309) rfl (hb hby at_308) (v := (1 : Int32)) rfl ?_
                      refine Go.goto X292 hx (pc' := 313) (hb hby at_309) (by decide) (by decide) ?_
                      have C293 : CHr Z EL0 s.vm s.heap T23.vm h23 := (C0.trans C23)
                      have C294 : CHr Z EL0 s.vm s.heap T23.vm h24 := (C293.trans (CHr.ext E24 C293.1))
                      have fk295 : Safe Z EL0 T23.vm h24 b24 := (Safe.ext E24 C293.1 (Safe.new (Nat.le_of_eq g24.symm) : Safe Z EL0 T23.vm h23 b24))
                      have C296 : CHr Z EL0 s.vm s.heap T23.vm h30 := (C294.trans (CHr.keep K30 (sfS fk295 sf0) C294.1))
                      have C297 : CHr Z EL0 s.vm s.heap T23.vm h252 := (C296.trans (CHr.keep K252 sf0 C296.1))
                      have C298 : CHr Z EL0 s.vm s.heap T23.vm h253 := (C297.trans (CHr.ext E253 C297.1))
                      have fk299 : Safe Z EL0 T23.vm h253 b253 := (Safe.ext E253 C297.1 (Safe.new (Nat.le_of_eq g253.symm) : Safe Z EL0 T23.vm h252 b253))
                      have C300 : CHr Z EL0 s.vm s.heap T23.vm h261 := (C298.trans (CHr.keep K261 (sfS fk299 sf0) C298.1))
                      have hk301 := (Nat.le_trans (Nat.le_trans (Nat.le_trans (Nat.le_trans (Nat.le_trans (Nat.le_refl _) E24.1) K30.1) K252.1) E253.1) K261.1)
                      refine Go.retNW X292 hx hlk Z23 (own_EW hw) e292 S23 hk301 C300 (t := .boolean) hret (by simp) (hb hby at_313) (by decide) (by decide) (fun hat => ?_)
                      exact ⟨rfl, (Fr.app (Fr.app (Fr.app (Fr.app (Fr.app (Fr.app (Fr.nil n0) N23) N30) N252) N261) N291) N292)⟩
                    · refine Go.icmpYes X261 hx (pc' := 281) (hb hby at_269) (feq hc262).2 (by decide) (by decide) ?_
                      refine Go.iconst X261 hx (pc' := 282) rfl (hb hby at_281) (v := (0 : Int32)) rfl ?_
                      refine Go.istore X261 hx (pc' := 284) rfl (hb hby at_282) (Ls' := #[.val (.int p0), .val (.int p1), .val (.int p2), .val (.int z1), .val (.int z5), .val (.int jv7_5), .val (.int jv8_6), .val (.int 0), .val (.int 2), .val (.int jv17_9), .val (.int jv18_10), .val (.int z21), .val (.ref b23_0), .val (.ref b24), .val (.ref b252_0), .val (.ref b253), .val (.int 0), .val (.int 0)]) rfl ?_
                      refine Go.aload X261 hx (pc' := 286) rfl (hb hby at_284) rfl rfl ?_
                      refine Go.aload X261 hx (pc' := 288) rfl (hb hby at_286) rfl rfl ?_
                      have Kp303 : Keep h0 h261 [] := (Kp258.trans K261 (allS (Or.inr sz260) all0))
                      have Zn302 : n0 ≤ h261.size := Nat.le_trans Z0 Kp303.1
                      have O304 := (O251.keep K252 all0)
                      have O305 := (O304.ext E253)
                      have O306 := (O305.keep K261 (allS ge259 all0))
                      have fk308 : Exa Z h252 b24 "com/example/tough_filter/toughfilter/Expression$Keyword" := (F30_0.keep K252)
                      have ne307 : b24 ≠ b253 := Nat.ne_of_lt (Nat.lt_of_lt_of_le fk308.lt (Nat.le_of_eq g253.symm))
                      have fk309 : Fld Z h261 b24 "com/example/tough_filter/toughfilter/Expression$Keyword" "pinyin" "Z" (.int jv17_9) := (((F30_1.keep K252 nin0).ext E253).keep K261 (ninS ne307 nin0))
                      have fk310 : Fld Z h261 b24 "com/example/tough_filter/toughfilter/Expression$Keyword" "word" "Ljava/lang/String;" (.ref b23_0) := (((F30_2.keep K252 nin0).ext E253).keep K261 (ninS ne307 nin0))
                      have fk311 : Exa Z h261 b23_0 "java/lang/String" := (((((F23_0.ext E24).keep K30).keep K252).ext E253).keep K261)
                      have ne312 : b23_0 ≠ b24 := Nat.ne_of_lt (Nat.lt_of_lt_of_le F23_0.lt (Nat.le_of_eq g24.symm))
                      have fk314 : Exa Z h252 b23_0 "java/lang/String" := (((F23_0.ext E24).keep K30).keep K252)
                      have ne313 : b23_0 ≠ b253 := Nat.ne_of_lt (Nat.lt_of_lt_of_le fk314.lt (Nat.le_of_eq g253.symm))
                      have fk315 : Fld Z h261 b23_0 "java/lang/String" "coder" "B" (.int 0) := (((((F23_1.ext E24).keep K30 (ninS ne312 nin0)).keep K252 nin0).ext E253).keep K261 (ninS ne313 nin0))
                      have fk316 : Fld Z h261 b23_0 "java/lang/String" "value" "[B" (.ref b23_1) := (((((F23_2.ext E24).keep K30 (ninS ne312 nin0)).keep K252 nin0).ext E253).keep K261 (ninS ne313 nin0))
                      have fk317 : Exa Z h261 b252_0 "java/lang/String" := ((F252_0.ext E253).keep K261)
                      have ne318 : b252_0 ≠ b253 := Nat.ne_of_lt (Nat.lt_of_lt_of_le F252_0.lt (Nat.le_of_eq g253.symm))
                      have fk319 : Fld Z h261 b252_0 "java/lang/String" "coder" "B" (.int 0) := ((F252_1.ext E253).keep K261 (ninS ne318 nin0))
                      have fk320 : Fld Z h261 b252_0 "java/lang/String" "value" "[B" (.ref b252_1) := ((F252_2.ext E253).keep K261 (ninS ne318 nin0))
                      have ne321 : b23_1 ≠ b24 := Nat.ne_of_lt (Nat.lt_of_lt_of_le F23_3.lt (Nat.le_of_eq g24.symm))
                      have fk323 := (((F23_3.ext E24).keep K30 (ninS ne321 nin0)).keep K252 nin0)
                      have ne322 : b23_1 ≠ b253 := Nat.ne_of_lt (Nat.lt_of_lt_of_le fk323.lt (Nat.le_of_eq g253.symm))
                      have fk324 := (((((F23_3.ext E24).keep K30 (ninS ne321 nin0)).keep K252 nin0).ext E253).keep K261 (ninS ne322 nin0))
                      have ne325 : b252_1 ≠ b253 := Nat.ne_of_lt (Nat.lt_of_lt_of_le F252_3.lt (Nat.le_of_eq g253.symm))
                      have fk326 := ((F252_3.ext E253).keep K261 (ninS ne325 nin0))
                      have fk328 : Exa Z h30 b23_0 "java/lang/String" := ((F23_0.ext E24).keep K30)
                      have ne327 : b23_0 ≠ b252_0 := Nat.ne_of_lt (Nat.lt_of_lt_of_le fk328.lt s252_0)
                      have fk329 : Exa Z h261 b24 "com/example/tough_filter/toughfilter/Expression$Keyword" := ((fk308.ext E253).keep K261)
                      refine Go.callV X261 hx Z23 O23 (tw_53 hw) (tw_54 hw) (notFace_of_selects (args := #[]) (mvT Z23 (tw_56 hw))) (tw_56 hw) (tw_55 hw) (by decide) (tw_57 hw) (tw_36 hw) (au_36 l Z a0 hw b24 b253 jv17_9 b23_0 jv18_10 b252_0 b23_1 b252_1 k23_0 k252_0 z252_0 z252_1 gz1 gv5 h261 n0 Zn302 O306 G fk309 fk310 F261_0 F261_1 F261_2 fk311 fk315 fk316 fk317 fk319 fk320 fk324 fk326 ne327) e261 fk329 (argsL := [(.ref b253)]) (rest := []) (pc' := 291) rfl (by rw [hml]; rfl) (lenOf pd_5 rfl) rfl rfl (W := 0) (Nat.le_of_eq rfl) (by decide) (by decide) (by decide) (by decide) (hb hby at_288) ?_
                      intro v330 T330 L330 q330 X330
                      obtain ⟨rfl, N330, e330⟩ := q330
                      show Go _ _ _ _ (T330.setTop (mkF m 291 #[.val (.int p0), .val (.int p1), .val (.int p2), .val (.int z1), .val (.int z5), .val (.int jv7_5), .val (.int jv8_6), .val (.int 0), .val (.int 2), .val (.int jv17_9), .val (.int jv18_10), .val (.int z21), .val (.ref b23_0), .val (.ref b24), .val (.ref b252_0), .val (.ref b253), .val (.int 0), .val (.int 0)] [(.int 0)]))
                      refine Go.iload X330 hx (pc' := 293) rfl (hb hby at_291) rfl ?_
                      refine Go.icmpNo X330 hx (pc' := 296) rfl (hb hby at_293) (by decide) ?_
                      refine Go.aload X330 hx (pc' := 298) rfl (hb hby at_296) rfl rfl ?_
                      refine Go.aload X330 hx (pc' := 300) rfl (hb hby at_298) rfl rfl ?_
                      refine Go.callV X330 hx Z23 O23 (tw_53 hw) (tw_54 hw) (notFace_of_selects (args := #[]) (mvT Z23 (tw_56 hw))) (tw_56 hw) (tw_55 hw) (by decide) (tw_57 hw) (tw_36 hw) (au_39 l Z a0 hw b253 b24 jv18_10 b252_0 jv17_9 b23_0 b252_1 b23_1 k252_0 z252_0 z252_1 k23_0 gz1 gv5 h261 n0 Zn302 O306 G F261_1 F261_2 fk329 fk309 fk310 fk317 fk319 fk320 fk311 fk315 fk316 fk326 fk324 (Ne.symm ne327)) e330 F261_0 (argsL := [(.ref b24)]) (rest := []) (pc' := 303) rfl (by rw [hml]; rfl) (lenOf pd_5 rfl) rfl rfl (W := 0) (Nat.le_of_eq rfl) (by decide) (by decide) (by decide) (by decide) (hb hby at_300) ?_
                      intro v331 T331 L331 q331 X331
                      obtain ⟨rfl, N331, e331⟩ := q331
                      show Go _ _ _ _ (T331.setTop (mkF m 303 #[.val (.int p0), .val (.int p1), .val (.int p2), .val (.int z1), .val (.int z5), .val (.int jv7_5), .val (.int jv8_6), .val (.int 0), .val (.int 2), .val (.int jv17_9), .val (.int jv18_10), .val (.int z21), .val (.ref b23_0), .val (.ref b24), .val (.ref b252_0), .val (.ref b253), .val (.int 0), .val (.int 0)] [(.int 0)]))
                      refine Go.iload X331 hx (pc' := 305) rfl (hb hby at_303) rfl ?_
                      refine Go.icmpNo X331 hx (pc' := 308) rfl (hb hby at_305) (by decide) ?_
                      refine Go.iconst X331 hx (pc' := 309) rfl (hb hby at_308) (v := (1 : Int32)) rfl ?_
                      refine Go.goto X331 hx (pc' := 313) (hb hby at_309) (by decide) (by decide) ?_
                      have C332 : CHr Z EL0 s.vm s.heap T23.vm h23 := (C0.trans C23)
                      have C333 : CHr Z EL0 s.vm s.heap T23.vm h24 := (C332.trans (CHr.ext E24 C332.1))
                      have fk334 : Safe Z EL0 T23.vm h24 b24 := (Safe.ext E24 C332.1 (Safe.new (Nat.le_of_eq g24.symm) : Safe Z EL0 T23.vm h23 b24))
                      have C335 : CHr Z EL0 s.vm s.heap T23.vm h30 := (C333.trans (CHr.keep K30 (sfS fk334 sf0) C333.1))
                      have C336 : CHr Z EL0 s.vm s.heap T23.vm h252 := (C335.trans (CHr.keep K252 sf0 C335.1))
                      have C337 : CHr Z EL0 s.vm s.heap T23.vm h253 := (C336.trans (CHr.ext E253 C336.1))
                      have fk338 : Safe Z EL0 T23.vm h253 b253 := (Safe.ext E253 C336.1 (Safe.new (Nat.le_of_eq g253.symm) : Safe Z EL0 T23.vm h252 b253))
                      have C339 : CHr Z EL0 s.vm s.heap T23.vm h261 := (C337.trans (CHr.keep K261 (sfS fk338 sf0) C337.1))
                      have hk340 := (Nat.le_trans (Nat.le_trans (Nat.le_trans (Nat.le_trans (Nat.le_trans (Nat.le_refl _) E24.1) K30.1) K252.1) E253.1) K261.1)
                      refine Go.retNW X331 hx hlk Z23 (own_EW hw) e331 S23 hk340 C339 (t := .boolean) hret (by simp) (hb hby at_313) (by decide) (by decide) (fun hat => ?_)
                      exact ⟨rfl, (Fr.app (Fr.app (Fr.app (Fr.app (Fr.app (Fr.app (Fr.nil n0) N23) N30) N252) N261) N330) N331)⟩
          · refine Go.iload X0 hx (pc' := 120) rfl (hb hby at_118) rfl ?_
            refine Go.iloadN X0 hx (pc' := 121) rfl (hb hby at_120) rfl ?_
            refine Go.iload X0 hx (pc' := 123) rfl (hb hby at_121) rfl ?_
            refine Go.callS X0 hx hZ hown (tw_0 hw) (tw_1 hw) (tw_2 hw) (tw_3 hw) (by decide) (tw_3 hw) (tw_2 hw) (au_16 l Z a0 hw z1 z5 gz1 gv5 h0 n0 Z0 O0 G r2) e0 (argsL := [(.int 1), (.int z1), (.int z5)]) (rest := []) (pc' := 126) rfl (by rw [hml]; rfl) (lenOf pd_2 rfl) rfl rfl (W := 0) (Nat.le_of_eq rfl) (by decide) (by decide) (by decide) (by decide) (hb hby at_123) ?_
            intro v341 T341 L341 q341 X341
            obtain ⟨h341, e341⟩ : ∃ z, T341.heap = z := ⟨_, rfl⟩
            rw [e341] at q341
            obtain ⟨z341_0, b341_0, b341_1, k341_0, d341_0, rfl, N341, K341, s341_0, s341_1, n341_0, F341_0, F341_1, F341_2, F341_3, F341_4⟩ := q341
            show Go _ _ _ _ (T341.setTop (mkF m 126 #[.val (.int p0), .val (.int p1), .val (.int p2), .val (.int z1), .val (.int z5), .val (.int jv7_5), .val (.int jv8_6), .val (.int 1), .val (.int z16), .val (.int jv17_9), .val (.int jv18_10), .val (.int z21), .unset, .unset, .unset, .unset, .unset, .unset] [(.ref b341_0)]))
            refine Go.astore X341 hx (pc' := 128) rfl (hb hby at_126) (Ls' := #[.val (.int p0), .val (.int p1), .val (.int p2), .val (.int z1), .val (.int z5), .val (.int jv7_5), .val (.int jv8_6), .val (.int 1), .val (.int z16), .val (.int jv17_9), .val (.int jv18_10), .val (.int z21), .val (.ref b341_0), .unset, .unset, .unset, .unset, .unset]) rfl rfl ?_
            refine Go.new X341 hx hZ hown (tw_34 hw) (tw_35 hw) (tw_36 hw) e341 (by decide) (by decide) (pc' := 131) rfl (hb hby at_128) ?_
            intro T342 h342 b342 e342 E342 g342 A342 D342 X342
            have b342_word : Fld Z h342 b342 "com/example/tough_filter/toughfilter/Expression$Keyword" "word" "Ljava/lang/String;" .null := D342 (Or.inr (tw_47 hw)) (ty := (.object "java/lang/String")) (by decide)
            have b342_pinyin : Fld Z h342 b342 "com/example/tough_filter/toughfilter/Expression$Keyword" "pinyin" "Z" (.int 0) := D342 (Or.inr (tw_49 hw)) (ty := .boolean) (by decide)
            refine Go.dup X342 hx (pc' := 132) rfl (hb hby at_131) rfl ?_
            refine Go.aload X342 hx (pc' := 134) rfl (hb hby at_132) rfl rfl ?_
            refine Go.iload X342 hx (pc' := 136) rfl (hb hby at_134) rfl ?_
            have r343 : -128 ≤ z341_0.toInt ∧ z341_0.toInt ≤ 127 := own_ri2b d341_0
            have Kp345 : Keep h0 h341 [] := ((Keep.refl h0 []).trans K341 all0)
            have Kp346 : Keep h0 h342 [] := (Kp345.ext E342)
            have Zn344 : n0 ≤ h342.size := Nat.le_trans Z0 Kp346.1
            have sz348 : h0.size ≤ b342 := Nat.le_trans Kp345.1 (Nat.le_of_eq g342.symm)
            have ge347 : n0 ≤ b342 := Nat.le_trans Z0 sz348
            refine Go.callN X342 hx hZ hown rfl (tw_37 hw) (tw_38 hw) (tw_39 hw) (by decide) (tw_39 hw) (tw_36 hw) (au_22 l Z a0 hw b342 b341_0 jv17_9 h342 n0 Zn344 A342 b342_pinyin b342_word jr17_9 ge347) e342 (a := b342) (argsL := [(.ref b341_0), (.int jv17_9)]) (rest := [(.ref b342)]) (pc' := 139) rfl (by rw [hml]; rfl) (lenOf pd_4 rfl) rfl rfl (W := 1) (Nat.le_of_eq rfl) (by decide) (by decide) (by decide) (by decide) (hb hby at_136) ?_
            intro v349 T349 L349 q349 X349
            obtain ⟨h349, e349⟩ : ∃ z, T349.heap = z := ⟨_, rfl⟩
            rw [e349] at q349
            obtain ⟨rfl, N349, K349, F349_0, F349_1, F349_2⟩ := q349
            show Go _ _ _ _ (T349.setTop (mkF m 139 #[.val (.int p0), .val (.int p1), .val (.int p2), .val (.int z1), .val (.int z5), .val (.int jv7_5), .val (.int jv8_6), .val (.int 1), .val (.int z16), .val (.int jv17_9), .val (.int jv18_10), .val (.int z21), .val (.ref b341_0), .unset, .unset, .unset, .unset, .unset] [(.ref b342)]))
            refine Go.astore X349 hx (pc' := 141) rfl (hb hby at_139) (Ls' := #[.val (.int p0), .val (.int p1), .val (.int p2), .val (.int z1), .val (.int z5), .val (.int jv7_5), .val (.int jv8_6), .val (.int 1), .val (.int z16), .val (.int jv17_9), .val (.int jv18_10), .val (.int z21), .val (.ref b341_0), .val (.ref b342), .unset, .unset, .unset, .unset]) rfl rfl ?_
            refine Go.iload X349 hx (pc' := 143) rfl (hb hby at_141) rfl ?_
            refine Go.iconst X349 hx (pc' := 144) rfl (hb hby at_143) (v := (1 : Int32)) rfl ?_
            have r350 : 0 ≤ z21.toInt ∧ z21.toInt ≤ 3 := own_rand hz21 (by decide)
            by_cases hc351 : z21 = (1 : Int32)
            · refine Go.icmpNo X349 hx (pc' := 147) rfl (hb hby at_144) (teq hc351).2 ?_
              refine Go.aload X349 hx (pc' := 149) rfl (hb hby at_147) rfl rfl ?_
              refine Go.anull X349 hx (pc' := 150) rfl (hb hby at_149) ?_
              have Kp353 : Keep h0 h349 [] := (Kp346.trans K349 (allS (Or.inr sz348) all0))
              have Zn352 : n0 ≤ h349.size := Nat.le_trans Z0 Kp353.1
              refine Go.callV X349 hx hZ hown (tw_53 hw) (tw_54 hw) (notFace_of_selects (args := #[]) (mvT hZ (tw_56 hw))) (tw_56 hw) (tw_55 hw) (by decide) (tw_57 hw) (tw_36 hw) (au_42 l Z a0 hw b342 h349 n0 Zn352) e349 F349_0 (argsL := [.null]) (rest := []) (pc' := 153) rfl (by rw [hml]; rfl) (lenOf pd_5 rfl) rfl rfl (W := 0) (Nat.le_of_eq rfl) (by decide) (by decide) (by decide) (by decide) (hb hby at_150) ?_
              intro v354 T354 L354 q354 X354
              obtain ⟨rfl, N354, e354⟩ := q354
              show Go _ _ _ _ (T354.setTop (mkF m 153 #[.val (.int p0), .val (.int p1), .val (.int p2), .val (.int z1), .val (.int z5), .val (.int jv7_5), .val (.int jv8_6), .val (.int 1), .val (.int z16), .val (.int jv17_9), .val (.int jv18_10), .val (.int z21), .val (.ref b341_0), .val (.ref b342), .unset, .unset, .unset, .unset] [(.int 0)]))
              refine Go.ifNo X354 hx (pc' := 156) rfl (hb hby at_153) (by decide) ?_
              refine Go.iconst X354 hx (pc' := 157) rfl (hb hby at_156) (v := (1 : Int32)) rfl ?_
              refine Go.goto X354 hx (pc' := 161) (hb hby at_157) (by decide) (by decide) ?_
              have C355 : CHr Z EL0 s.vm s.heap s.vm h341 := (C0.trans (CHr.keep K341 sf0 C0.1))
              have C356 : CHr Z EL0 s.vm s.heap s.vm h342 := (C355.trans (CHr.ext E342 C355.1))
              have fk357 : Safe Z EL0 s.vm h342 b342 := (Safe.ext E342 C355.1 (Safe.new (Nat.le_of_eq g342.symm) : Safe Z EL0 s.vm h341 b342))
              have C358 : CHr Z EL0 s.vm s.heap s.vm h349 := (C356.trans (CHr.keep K349 (sfS fk357 sf0) C356.1))
              have hk359 := (Nat.le_trans (Nat.le_trans (Nat.le_trans (Nat.le_refl _) K341.1) E342.1) K349.1)
              refine Go.retNW X354 hx hlk hZ (own_EW hw) e354 hS0 hk359 C358 (t := .boolean) hret (by simp) (hb hby at_161) (by decide) (by decide) (fun hat => ?_)
              exact ⟨rfl, (Fr.app (Fr.app (Fr.app (Fr.nil n0) N341) N349) N354)⟩
            · refine Go.icmpYes X349 hx (pc' := 162) (hb hby at_144) (feq hc351).2 (by decide) (by decide) ?_
              refine Go.iload X349 hx (pc' := 164) rfl (hb hby at_162) rfl ?_
              refine Go.iconst X349 hx (pc' := 165) rfl (hb hby at_164) (v := (2 : Int32)) rfl ?_
              by_cases hc360 : z21 = (2 : Int32)
              · refine Go.icmpNo X349 hx (pc' := 168) rfl (hb hby at_165) (teq hc360).2 ?_
                refine Go.aload X349 hx (pc' := 170) rfl (hb hby at_168) rfl rfl ?_
                refine Go.astore X349 hx (pc' := 172) rfl (hb hby at_170) (Ls' := #[.val (.int p0), .val (.int p1), .val (.int p2), .val (.int z1), .val (.int z5), .val (.int jv7_5), .val (.int jv8_6), .val (.int 1), .val (.int z16), .val (.int jv17_9), .val (.int jv18_10), .val (.int z21), .val (.ref b341_0), .val (.ref b342), .val (.ref b341_0), .unset, .unset, .unset]) rfl rfl ?_
                refine Go.aload X349 hx (pc' := 174) rfl (hb hby at_172) rfl rfl ?_
                refine Go.aload X349 hx (pc' := 176) rfl (hb hby at_174) rfl rfl ?_
                have Kp362 : Keep h0 h349 [] := (Kp346.trans K349 (allS (Or.inr sz348) all0))
                have Zn361 : n0 ≤ h349.size := Nat.le_trans Z0 Kp362.1
                have fk363 : Exa Z h349 b341_0 "java/lang/String" := ((F341_0.ext E342).keep K349)
                refine Go.callV X349 hx hZ hown (tw_53 hw) (tw_54 hw) (notFace_of_selects (args := #[]) (mvT hZ (tw_56 hw))) (tw_56 hw) (tw_55 hw) (by decide) (tw_57 hw) (tw_36 hw) (au_43 l Z a0 hw b342 b341_0 h349 n0 Zn361 fk363) e349 F349_0 (argsL := [(.ref b341_0)]) (rest := []) (pc' := 179) rfl (by rw [hml]; rfl) (lenOf pd_5 rfl) rfl rfl (W := 0) (Nat.le_of_eq rfl) (by decide) (by decide) (by decide) (by decide) (hb hby at_176) ?_
                intro v364 T364 L364 q364 X364
                obtain ⟨rfl, N364, e364⟩ := q364
                show Go _ _ _ _ (T364.setTop (mkF m 179 #[.val (.int p0), .val (.int p1), .val (.int p2), .val (.int z1), .val (.int z5), .val (.int jv7_5), .val (.int jv8_6), .val (.int 1), .val (.int z16), .val (.int jv17_9), .val (.int jv18_10), .val (.int z21), .val (.ref b341_0), .val (.ref b342), .val (.ref b341_0), .unset, .unset, .unset] [(.int 0)]))
                refine Go.ifNo X364 hx (pc' := 182) rfl (hb hby at_179) (by decide) ?_
                refine Go.iconst X364 hx (pc' := 183) rfl (hb hby at_182) (v := (1 : Int32)) rfl ?_
                refine Go.goto X364 hx (pc' := 187) (hb hby at_183) (by decide) (by decide) ?_
                have C365 : CHr Z EL0 s.vm s.heap s.vm h341 := (C0.trans (CHr.keep K341 sf0 C0.1))
                have C366 : CHr Z EL0 s.vm s.heap s.vm h342 := (C365.trans (CHr.ext E342 C365.1))
                have fk367 : Safe Z EL0 s.vm h342 b342 := (Safe.ext E342 C365.1 (Safe.new (Nat.le_of_eq g342.symm) : Safe Z EL0 s.vm h341 b342))
                have C368 : CHr Z EL0 s.vm s.heap s.vm h349 := (C366.trans (CHr.keep K349 (sfS fk367 sf0) C366.1))
                have hk369 := (Nat.le_trans (Nat.le_trans (Nat.le_trans (Nat.le_refl _) K341.1) E342.1) K349.1)
                refine Go.retNW X364 hx hlk hZ (own_EW hw) e364 hS0 hk369 C368 (t := .boolean) hret (by simp) (hb hby at_187) (by decide) (by decide) (fun hat => ?_)
                exact ⟨rfl, (Fr.app (Fr.app (Fr.app (Fr.nil n0) N341) N349) N364)⟩
              · refine Go.icmpYes X349 hx (pc' := 188) (hb hby at_165) (feq hc360).2 (by decide) (by decide) ?_
                refine Go.iload X349 hx (pc' := 190) rfl (hb hby at_188) rfl ?_
                refine Go.iconst X349 hx (pc' := 191) rfl (hb hby at_190) (v := (3 : Int32)) rfl ?_
                by_cases hc370 : z21 = (3 : Int32)
                · refine Go.icmpNo X349 hx (pc' := 194) rfl (hb hby at_191) (teq hc370).2 ?_
                  refine Go.aload X349 hx (pc' := 196) rfl (hb hby at_194) rfl rfl ?_
                  refine Go.aload X349 hx (pc' := 198) rfl (hb hby at_196) rfl rfl ?_
                  have Kp372 : Keep h0 h349 [] := (Kp346.trans K349 (allS (Or.inr sz348) all0))
                  have Zn371 : n0 ≤ h349.size := Nat.le_trans Z0 Kp372.1
                  have fk373 : Exa Z h349 b341_0 "java/lang/String" := ((F341_0.ext E342).keep K349)
                  refine Go.callV X349 hx hZ hown (tw_53 hw) (tw_54 hw) (notFace_of_selects (args := #[]) (mvT hZ (tw_56 hw))) (tw_56 hw) (tw_55 hw) (by decide) (tw_57 hw) (tw_36 hw) (au_44 l Z a0 hw b342 jv17_9 b341_0 h349 n0 Zn371 F349_0 F349_1 F349_2 fk373) e349 F349_0 (argsL := [(.ref b342)]) (rest := []) (pc' := 201) rfl (by rw [hml]; rfl) (lenOf pd_5 rfl) rfl rfl (W := 0) (Nat.le_of_eq rfl) (by decide) (by decide) (by decide) (by decide) (hb hby at_198) ?_
                  intro v374 T374 L374 q374 X374
                  obtain ⟨rfl, N374, e374⟩ := q374
                  show Go _ _ _ _ (T374.setTop (mkF m 201 #[.val (.int p0), .val (.int p1), .val (.int p2), .val (.int z1), .val (.int z5), .val (.int jv7_5), .val (.int jv8_6), .val (.int 1), .val (.int z16), .val (.int jv17_9), .val (.int jv18_10), .val (.int z21), .val (.ref b341_0), .val (.ref b342), .unset, .unset, .unset, .unset] [(.int 1)]))
                  have C375 : CHr Z EL0 s.vm s.heap s.vm h341 := (C0.trans (CHr.keep K341 sf0 C0.1))
                  have C376 : CHr Z EL0 s.vm s.heap s.vm h342 := (C375.trans (CHr.ext E342 C375.1))
                  have fk377 : Safe Z EL0 s.vm h342 b342 := (Safe.ext E342 C375.1 (Safe.new (Nat.le_of_eq g342.symm) : Safe Z EL0 s.vm h341 b342))
                  have C378 : CHr Z EL0 s.vm s.heap s.vm h349 := (C376.trans (CHr.keep K349 (sfS fk377 sf0) C376.1))
                  have hk379 := (Nat.le_trans (Nat.le_trans (Nat.le_trans (Nat.le_refl _) K341.1) E342.1) K349.1)
                  refine Go.retNW X374 hx hlk hZ (own_EW hw) e374 hS0 hk379 C378 (t := .boolean) hret (by simp) (hb hby at_201) (by decide) (by decide) (fun hat => ?_)
                  exact ⟨rfl, (Fr.app (Fr.app (Fr.app (Fr.nil n0) N341) N349) N374)⟩
                · refine Go.icmpYes X349 hx (pc' := 202) (hb hby at_191) (feq hc370).2 (by decide) (by decide) ?_
                  have r380 : 0 ≤ z16.toInt ∧ z16.toInt ≤ 2 := own_rrem hz16 (d := 3) (by decide) (by decide) r15 (by decide) (by decide)
                  rcases own_cs_0_2 r380 with rfl | rfl | rfl
                  · refine Go.iload X349 hx (pc' := 204) rfl (hb hby at_202) rfl ?_
                    refine Go.iload X349 hx (pc' := 206) rfl (hb hby at_204) rfl ?_
                    refine Go.iload X349 hx (pc' := 208) rfl (hb hby at_206) rfl ?_
                    have Kp382 : Keep h0 h349 [] := (Kp346.trans K349 (allS (Or.inr sz348) all0))
                    have Zn381 : n0 ≤ h349.size := Nat.le_trans Z0 Kp382.1
                    have C383 : CHr Z EL0 s.vm s.heap s.vm h341 := (C0.trans (CHr.keep K341 sf0 C0.1))
                    have C384 : CHr Z EL0 s.vm s.heap s.vm h342 := (C383.trans (CHr.ext E342 C383.1))
                    have fk385 : Safe Z EL0 s.vm h342 b342 := (Safe.ext E342 C383.1 (Safe.new (Nat.le_of_eq g342.symm) : Safe Z EL0 s.vm h341 b342))
                    have C386 : CHr Z EL0 s.vm s.heap s.vm h349 := (C384.trans (CHr.keep K349 (sfS fk385 sf0) C384.1))
                    have hk387 := (Nat.le_trans (Nat.le_trans (Nat.le_trans (Nat.le_refl _) K341.1) E342.1) K349.1)
                    refine Go.callSW X349 hx hZ hown (tw_0 hw) (tw_1 hw) (tw_2 hw) (tw_3 hw) (by decide) (tw_3 hw) (tw_2 hw) (au_6 l Z a0 hw jv7_5 jv8_6 gz1 gv5 h349 n0 Zn381 G) (own_EW hw) C386.1 all0 hS0 hk387 e349 (argsL := [(.int 0), (.int jv7_5), (.int jv8_6)]) (rest := []) (pc' := 211) rfl (by rw [hml]; rfl) (lenOf pd_2 rfl) rfl rfl (W := 0) (Nat.le_of_eq rfl) (by decide) (by decide) (by decide) (by decide) (hb hby at_208) ?_
                    intro v388 T388 L388 h388 e388 q388 C388 S388 Z388 O388 X388
                    obtain ⟨b388_0, b388_1, k388_0, rfl, N388, K388, s388_0, y388_0, F388_0, F388_1, F388_2, F388_3⟩ := q388
                    show Go _ _ _ _ (T388.setTop (mkF m 211 #[.val (.int p0), .val (.int p1), .val (.int p2), .val (.int z1), .val (.int z5), .val (.int jv7_5), .val (.int jv8_6), .val (.int 1), .val (.int 0), .val (.int jv17_9), .val (.int jv18_10), .val (.int z21), .val (.ref b341_0), .val (.ref b342), .unset, .unset, .unset, .unset] [(.ref b388_0)]))
                    refine Go.astore X388 hx (pc' := 213) rfl (hb hby at_211) (Ls' := #[.val (.int p0), .val (.int p1), .val (.int p2), .val (.int z1), .val (.int z5), .val (.int jv7_5), .val (.int jv8_6), .val (.int 1), .val (.int 0), .val (.int jv17_9), .val (.int jv18_10), .val (.int z21), .val (.ref b341_0), .val (.ref b342), .val (.ref b388_0), .unset, .unset, .unset]) rfl rfl ?_
                    refine Go.new X388 hx Z388 O388 (tw_34 hw) (tw_35 hw) (tw_36 hw) e388 (by decide) (by decide) (pc' := 216) rfl (hb hby at_213) ?_
                    intro T389 h389 b389 e389 E389 g389 A389 D389 X389
                    have b389_word : Fld Z h389 b389 "com/example/tough_filter/toughfilter/Expression$Keyword" "word" "Ljava/lang/String;" .null := D389 (Or.inr (tw_47 hw)) (ty := (.object "java/lang/String")) (by decide)
                    have b389_pinyin : Fld Z h389 b389 "com/example/tough_filter/toughfilter/Expression$Keyword" "pinyin" "Z" (.int 0) := D389 (Or.inr (tw_49 hw)) (ty := .boolean) (by decide)
                    refine Go.dup X389 hx (pc' := 217) rfl (hb hby at_216) rfl ?_
                    refine Go.aload X389 hx (pc' := 219) rfl (hb hby at_217) rfl rfl ?_
                    refine Go.iload X389 hx (pc' := 221) rfl (hb hby at_219) rfl ?_
                    have Kp391 : Keep h0 h388 [] := (Kp382.trans K388 all0)
                    have Kp392 : Keep h0 h389 [] := (Kp391.ext E389)
                    have Zn390 : n0 ≤ h389.size := Nat.le_trans Z0 Kp392.1
                    have sz394 : h0.size ≤ b389 := Nat.le_trans Kp391.1 (Nat.le_of_eq g389.symm)
                    have ge393 : n0 ≤ b389 := Nat.le_trans Z0 sz394
                    refine Go.callN X389 hx Z388 O388 rfl (tw_37 hw) (tw_38 hw) (tw_39 hw) (by decide) (tw_39 hw) (tw_36 hw) (au_7 l Z a0 hw b389 b388_0 jv18_10 h389 n0 Zn390 A389 b389_pinyin b389_word jr18_10 ge393) e389 (a := b389) (argsL := [(.ref b388_0), (.int jv18_10)]) (rest := [(.ref b389)]) (pc' := 224) rfl (by rw [hml]; rfl) (lenOf pd_4 rfl) rfl rfl (W := 1) (Nat.le_of_eq rfl) (by decide) (by decide) (by decide) (by decide) (hb hby at_221) ?_
                    intro v395 T395 L395 q395 X395
                    obtain ⟨h395, e395⟩ : ∃ z, T395.heap = z := ⟨_, rfl⟩
                    rw [e395] at q395
                    obtain ⟨rfl, N395, K395, F395_0, F395_1, F395_2⟩ := q395
                    show Go _ _ _ _ (T395.setTop (mkF m 224 #[.val (.int p0), .val (.int p1), .val (.int p2), .val (.int z1), .val (.int z5), .val (.int jv7_5), .val (.int jv8_6), .val (.int 1), .val (.int 0), .val (.int jv17_9), .val (.int jv18_10), .val (.int z21), .val (.ref b341_0), .val (.ref b342), .val (.ref b388_0), .unset, .unset, .unset] [(.ref b389)]))
                    refine Go.astore X395 hx (pc' := 226) rfl (hb hby at_224) (Ls' := #[.val (.int p0), .val (.int p1), .val (.int p2), .val (.int z1), .val (.int z5), .val (.int jv7_5), .val (.int jv8_6), .val (.int 1), .val (.int 0), .val (.int jv17_9), .val (.int jv18_10), .val (.int z21), .val (.ref b341_0), .val (.ref b342), .val (.ref b388_0), .val (.ref b389), .unset, .unset]) rfl rfl ?_
                    refine Go.iload X395 hx (pc' := 228) rfl (hb hby at_226) rfl ?_
                    refine Go.iload X395 hx (pc' := 230) rfl (hb hby at_228) rfl ?_
                    refine Go.icmpYes X395 hx (pc' := 262) (hb hby at_230) (by decide) (by decide) (by decide) ?_
                    refine Go.iconst X395 hx (pc' := 263) rfl (hb hby at_262) (v := (0 : Int32)) rfl ?_
                    refine Go.istore X395 hx (pc' := 265) rfl (hb hby at_263) (Ls' := #[.val (.int p0), .val (.int p1), .val (.int p2), .val (.int z1), .val (.int z5), .val (.int jv7_5), .val (.int jv8_6), .val (.int 1), .val (.int 0), .val (.int jv17_9), .val (.int jv18_10), .val (.int z21), .val (.ref b341_0), .val (.ref b342), .val (.ref b388_0), .val (.ref b389), .val (.int 0), .unset]) rfl ?_
                    refine Go.iload X395 hx (pc' := 267) rfl (hb hby at_265) rfl ?_
                    refine Go.iload X395 hx (pc' := 269) rfl (hb hby at_267) rfl ?_
                    by_cases hc396 : jv17_9 = jv18_10
                    · refine Go.icmpNo X395 hx (pc' := 272) rfl (hb hby at_269) (teq hc396).2 ?_
                      refine Go.iload X395 hx (pc' := 274) rfl (hb hby at_272) rfl ?_
                      refine Go.ifYes X395 hx (pc' := 281) (hb hby at_274) (by decide) (by decide) (by decide) ?_
                      refine Go.iconst X395 hx (pc' := 282) rfl (hb hby at_281) (v := (0 : Int32)) rfl ?_
                      refine Go.istore X395 hx (pc' := 284) rfl (hb hby at_282) (Ls' := #[.val (.int p0), .val (.int p1), .val (.int p2), .val (.int z1), .val (.int z5), .val (.int jv7_5), .val (.int jv8_6), .val (.int 1), .val (.int 0), .val (.int jv17_9), .val (.int jv18_10), .val (.int z21), .val (.ref b341_0), .val (.ref b342), .val (.ref b388_0), .val (.ref b389), .val (.int 0), .val (.int 0)]) rfl ?_
                      refine Go.aload X395 hx (pc' := 286) rfl (hb hby at_284) rfl rfl ?_
                      refine Go.aload X395 hx (pc' := 288) rfl (hb hby at_286) rfl rfl ?_
                      have Kp398 : Keep h0 h395 [] := (Kp392.trans K395 (allS (Or.inr sz394) all0))
                      have Zn397 : n0 ≤ h395.size := Nat.le_trans Z0 Kp398.1
                      have O399 := (O0.keep K341 all0)
                      have O400 := (O399.ext E342)
                      have O401 := (O400.keep K349 (allS ge347 all0))
                      have O402 := (O401.keep K388 all0)
                      have O403 := (O402.ext E389)
                      have O404 := (O403.keep K395 (allS ge393 all0))
                      have fk406 : Exa Z h388 b342 "com/example/tough_filter/toughfilter/Expression$Keyword" := (F349_0.keep K388)
                      have ne405 : b342 ≠ b389 := Nat.ne_of_lt (Nat.lt_of_lt_of_le fk406.lt (Nat.le_of_eq g389.symm))
                      have fk407 : Fld Z h395 b342 "com/example/tough_filter/toughfilter/Expression$Keyword" "pinyin" "Z" (.int jv17_9) := (((F349_1.keep K388 nin0).ext E389).keep K395 (ninS ne405 nin0))
                      have fk408 : Fld Z h395 b342 "com/example/tough_filter/toughfilter/Expression$Keyword" "word" "Ljava/lang/String;" (.ref b341_0) := (((F349_2.keep K388 nin0).ext E389).keep K395 (ninS ne405 nin0))
                      have fk409 : Exa Z h395 b341_0 "java/lang/String" := (((((F341_0.ext E342).keep K349).keep K388).ext E389).keep K395)
                      have ne410 : b341_0 ≠ b342 := Nat.ne_of_lt (Nat.lt_of_lt_of_le F341_0.lt (Nat.le_of_eq g342.symm))
                      have fk412 : Exa Z h388 b341_0 "java/lang/String" := (((F341_0.ext E342).keep K349).keep K388)
                      have ne411 : b341_0 ≠ b389 := Nat.ne_of_lt (Nat.lt_of_lt_of_le fk412.lt (Nat.le_of_eq g389.symm))
                      have fk413 : Fld Z h395 b341_0 "java/lang/String" "coder" "B" (.int 0) := (((((F341_1.ext E342).keep K349 (ninS ne410 nin0)).keep K388 nin0).ext E389).keep K395 (ninS ne411 nin0))
                      have fk414 : Fld Z h395 b341_0 "java/lang/String" "value" "[B" (.ref b341_1) := (((((F341_2.ext E342).keep K349 (ninS ne410 nin0)).keep K388 nin0).ext E389).keep K395 (ninS ne411 nin0))
                      have fk415 : Exa Z h395 b388_0 "java/lang/String" := ((F388_0.ext E389).keep K395)
                      have ne416 : b388_0 ≠ b389 := Nat.ne_of_lt (Nat.lt_of_lt_of_le F388_0.lt (Nat.le_of_eq g389.symm))
                      have fk417 : Fld Z h395 b388_0 "java/lang/String" "coder" "B" (.int 0) := ((F388_1.ext E389).keep K395 (ninS ne416 nin0))
                      have fk418 : Fld Z h395 b388_0 "java/lang/String" "value" "[B" (.ref b388_1) := ((F388_2.ext E389).keep K395 (ninS ne416 nin0))
                      have ne419 : b341_1 ≠ b342 := Nat.ne_of_lt (Nat.lt_of_lt_of_le F341_3.lt (Nat.le_of_eq g342.symm))
                      have fk421 := (((F341_3.ext E342).keep K349 (ninS ne419 nin0)).keep K388 nin0)
                      have ne420 : b341_1 ≠ b389 := Nat.ne_of_lt (Nat.lt_of_lt_of_le fk421.lt (Nat.le_of_eq g389.symm))
                      have fk422 := (((((F341_3.ext E342).keep K349 (ninS ne419 nin0)).keep K388 nin0).ext E389).keep K395 (ninS ne420 nin0))
                      have ne423 : b388_1 ≠ b389 := Nat.ne_of_lt (Nat.lt_of_lt_of_le F388_3.lt (Nat.le_of_eq g389.symm))
                      have fk424 := ((F388_3.ext E389).keep K395 (ninS ne423 nin0))
                      have fk426 : Exa Z h349 b341_0 "java/lang/String" := ((F341_0.ext E342).keep K349)
                      have ne425 : b341_0 ≠ b388_0 := Nat.ne_of_lt (Nat.lt_of_lt_of_le fk426.lt s388_0)
                      have fk427 : Exa Z h395 b342 "com/example/tough_filter/toughfilter/Expression$Keyword" := ((fk406.ext E389).keep K395)
                      refine Go.callV X395 hx Z388 O388 (tw_53 hw) (tw_54 hw) (notFace_of_selects (args := #[]) (mvT Z388 (tw_56 hw))) (tw_56 hw) (tw_55 hw) (by decide) (tw_57 hw) (tw_36 hw) (au_26 l Z a0 hw b342 b389 jv17_9 b341_0 jv18_10 b388_0 b341_1 b388_1 k341_0 z341_0 k388_0 gz1 gv5 h395 n0 Zn397 O404 G fk407 fk408 F395_0 F395_1 F395_2 fk409 fk413 fk414 fk415 fk417 fk418 fk422 fk424 ne425) e395 fk427 (argsL := [(.ref b389)]) (rest := []) (pc' := 291) rfl (by rw [hml]; rfl) (lenOf pd_5 rfl) rfl rfl (W := 0) (Nat.le_of_eq rfl) (by decide) (by decide) (by decide) (by decide) (hb hby at_288) ?_
                      intro v428 T428 L428 q428 X428
                      obtain ⟨rfl, N428, e428⟩ := q428
                      show Go _ _ _ _ (T428.setTop (mkF m 291 #[.val (.int p0), .val (.int p1), .val (.int p2), .val (.int z1), .val (.int z5), .val (.int jv7_5), .val (.int jv8_6), .val (.int 1), .val (.int 0), .val (.int jv17_9), .val (.int jv18_10), .val (.int z21), .val (.ref b341_0), .val (.ref b342), .val (.ref b388_0), .val (.ref b389), .val (.int 0), .val (.int 0)] [(.int 0)]))
                      refine Go.iload X428 hx (pc' := 293) rfl (hb hby at_291) rfl ?_
                      refine Go.icmpNo X428 hx (pc' := 296) rfl (hb hby at_293) (by decide) ?_
                      refine Go.aload X428 hx (pc' := 298) rfl (hb hby at_296) rfl rfl ?_
                      refine Go.aload X428 hx (pc' := 300) rfl (hb hby at_298) rfl rfl ?_
                      refine Go.callV X428 hx Z388 O388 (tw_53 hw) (tw_54 hw) (notFace_of_selects (args := #[]) (mvT Z388 (tw_56 hw))) (tw_56 hw) (tw_55 hw) (by decide) (tw_57 hw) (tw_36 hw) (au_23 l Z a0 hw b389 b342 jv18_10 b388_0 jv17_9 b341_0 b388_1 b341_1 k388_0 k341_0 z341_0 gz1 gv5 h395 n0 Zn397 O404 G F395_1 F395_2 fk427 fk407 fk408 fk415 fk417 fk418 fk409 fk413 fk414 fk424 fk422 (Ne.symm ne425)) e428 F395_0 (argsL := [(.ref b342)]) (rest := []) (pc' := 303) rfl (by rw [hml]; rfl) (lenOf pd_5 rfl) rfl rfl (W := 0) (Nat.le_of_eq rfl) (by decide) (by decide) (by decide) (by decide) (hb hby at_300) ?_
                      intro v429 T429 L429 q429 X429
                      obtain ⟨rfl, N429, e429⟩ := q429
                      show Go _ _ _ _ (T429.setTop (mkF m 303 #[.val (.int p0), .val (.int p1), .val (.int p2), .val (.int z1), .val (.int z5), .val (.int jv7_5), .val (.int jv8_6), .val (.int 1), .val (.int 0), .val (.int jv17_9), .val (.int jv18_10), .val (.int z21), .val (.ref b341_0), .val (.ref b342), .val (.ref b388_0), .val (.ref b389), .val (.int 0), .val (.int 0)] [(.int 0)]))
                      refine Go.iload X429 hx (pc' := 305) rfl (hb hby at_303) rfl ?_
                      refine Go.icmpNo X429 hx (pc' := 308) rfl (hb hby at_305) (by decide) ?_
                      refine Go.iconst X429 hx (pc' := 309) rfl (hb hby at_308) (v := (1 : Int32)) rfl ?_
                      refine Go.goto X429 hx (pc' := 313) (hb hby at_309) (by decide) (by decide) ?_
                      have C430 : CHr Z EL0 s.vm s.heap T388.vm h388 := (C386.trans C388)
                      have C431 : CHr Z EL0 s.vm s.heap T388.vm h389 := (C430.trans (CHr.ext E389 C430.1))
                      have fk432 : Safe Z EL0 T388.vm h389 b389 := (Safe.ext E389 C430.1 (Safe.new (Nat.le_of_eq g389.symm) : Safe Z EL0 T388.vm h388 b389))
                      have C433 : CHr Z EL0 s.vm s.heap T388.vm h395 := (C431.trans (CHr.keep K395 (sfS fk432 sf0) C431.1))
                      have hk434 := (Nat.le_trans (Nat.le_trans (Nat.le_refl _) E389.1) K395.1)
                      refine Go.retNW X429 hx hlk Z388 (own_EW hw) e429 S388 hk434 C433 (t := .boolean) hret (by simp) (hb hby at_313) (by decide) (by decide) (fun hat => ?_)
                      exact ⟨rfl, (Fr.app (Fr.app (Fr.app (Fr.app (Fr.app (Fr.app (Fr.nil n0) N341) N349) N388) N395) N428) N429)⟩
                    · refine Go.icmpYes X395 hx (pc' := 281) (hb hby at_269) (feq hc396).2 (by decide) (by decide) ?_
                      refine Go.iconst X395 hx (pc' := 282) rfl (hb hby at_281) (v := (0 : Int32)) rfl ?_
                      refine Go.istore X395 hx (pc' := 284) rfl (hb hby at_282) (Ls' := #[.val (.int p0), .val (.int p1), .val (.int p2), .val (.int z1), .val (.int z5), .val (.int jv7_5), .val (.int jv8_6), .val (.int 1), .val (.int 0), .val (.int jv17_9), .val (.int jv18_10), .val (.int z21), .val (.ref b341_0), .val (.ref b342), .val (.ref b388_0), .val (.ref b389), .val (.int 0), .val (.int 0)]) rfl ?_
                      refine Go.aload X395 hx (pc' := 286) rfl (hb hby at_284) rfl rfl ?_
                      refine Go.aload X395 hx (pc' := 288) rfl (hb hby at_286) rfl rfl ?_
                      have Kp436 : Keep h0 h395 [] := (Kp392.trans K395 (allS (Or.inr sz394) all0))
                      have Zn435 : n0 ≤ h395.size := Nat.le_trans Z0 Kp436.1
                      have O437 := (O0.keep K341 all0)
                      have O438 := (O437.ext E342)
                      have O439 := (O438.keep K349 (allS ge347 all0))
                      have O440 := (O439.keep K388 all0)
                      have O441 := (O440.ext E389)
                      have O442 := (O441.keep K395 (allS ge393 all0))
                      have fk444 : Exa Z h388 b342 "com/example/tough_filter/toughfilter/Expression$Keyword" := (F349_0.keep K388)
                      have ne443 : b342 ≠ b389 := Nat.ne_of_lt (Nat.lt_of_lt_of_le fk444.lt (Nat.le_of_eq g389.symm))
                      have fk445 : Fld Z h395 b342 "com/example/tough_filter/toughfilter/Expression$Keyword" "pinyin" "Z" (.int jv17_9) := (((F349_1.keep K388 nin0).ext E389).keep K395 (ninS ne443 nin0))
                      have fk446 : Fld Z h395 b342 "com/example/tough_filter/toughfilter/Expression$Keyword" "word" "Ljava/lang/String;" (.ref b341_0) := (((F349_2.keep K388 nin0).ext E389).keep K395 (ninS ne443 nin0))
                      have fk447 : Exa Z h395 b341_0 "java/lang/String" := (((((F341_0.ext E342).keep K349).keep K388).ext E389).keep K395)
                      have ne448 : b341_0 ≠ b342 := Nat.ne_of_lt (Nat.lt_of_lt_of_le F341_0.lt (Nat.le_of_eq g342.symm))
                      have fk450 : Exa Z h388 b341_0 "java/lang/String" := (((F341_0.ext E342).keep K349).keep K388)
                      have ne449 : b341_0 ≠ b389 := Nat.ne_of_lt (Nat.lt_of_lt_of_le fk450.lt (Nat.le_of_eq g389.symm))
                      have fk451 : Fld Z h395 b341_0 "java/lang/String" "coder" "B" (.int 0) := (((((F341_1.ext E342).keep K349 (ninS ne448 nin0)).keep K388 nin0).ext E389).keep K395 (ninS ne449 nin0))
                      have fk452 : Fld Z h395 b341_0 "java/lang/String" "value" "[B" (.ref b341_1) := (((((F341_2.ext E342).keep K349 (ninS ne448 nin0)).keep K388 nin0).ext E389).keep K395 (ninS ne449 nin0))
                      have fk453 : Exa Z h395 b388_0 "java/lang/String" := ((F388_0.ext E389).keep K395)
                      have ne454 : b388_0 ≠ b389 := Nat.ne_of_lt (Nat.lt_of_lt_of_le F388_0.lt (Nat.le_of_eq g389.symm))
                      have fk455 : Fld Z h395 b388_0 "java/lang/String" "coder" "B" (.int 0) := ((F388_1.ext E389).keep K395 (ninS ne454 nin0))
                      have fk456 : Fld Z h395 b388_0 "java/lang/String" "value" "[B" (.ref b388_1) := ((F388_2.ext E389).keep K395 (ninS ne454 nin0))
                      have ne457 : b341_1 ≠ b342 := Nat.ne_of_lt (Nat.lt_of_lt_of_le F341_3.lt (Nat.le_of_eq g342.symm))
                      have fk459 := (((F341_3.ext E342).keep K349 (ninS ne457 nin0)).keep K388 nin0)
                      have ne458 : b341_1 ≠ b389 := Nat.ne_of_lt (Nat.lt_of_lt_of_le fk459.lt (Nat.le_of_eq g389.symm))
                      have fk460 := (((((F341_3.ext E342).keep K349 (ninS ne457 nin0)).keep K388 nin0).ext E389).keep K395 (ninS ne458 nin0))
                      have ne461 : b388_1 ≠ b389 := Nat.ne_of_lt (Nat.lt_of_lt_of_le F388_3.lt (Nat.le_of_eq g389.symm))
                      have fk462 := ((F388_3.ext E389).keep K395 (ninS ne461 nin0))
                      have fk464 : Exa Z h349 b341_0 "java/lang/String" := ((F341_0.ext E342).keep K349)
                      have ne463 : b341_0 ≠ b388_0 := Nat.ne_of_lt (Nat.lt_of_lt_of_le fk464.lt s388_0)
                      have fk465 : Exa Z h395 b342 "com/example/tough_filter/toughfilter/Expression$Keyword" := ((fk444.ext E389).keep K395)
                      refine Go.callV X395 hx Z388 O388 (tw_53 hw) (tw_54 hw) (notFace_of_selects (args := #[]) (mvT Z388 (tw_56 hw))) (tw_56 hw) (tw_55 hw) (by decide) (tw_57 hw) (tw_36 hw) (au_26 l Z a0 hw b342 b389 jv17_9 b341_0 jv18_10 b388_0 b341_1 b388_1 k341_0 z341_0 k388_0 gz1 gv5 h395 n0 Zn435 O442 G fk445 fk446 F395_0 F395_1 F395_2 fk447 fk451 fk452 fk453 fk455 fk456 fk460 fk462 ne463) e395 fk465 (argsL := [(.ref b389)]) (rest := []) (pc' := 291) rfl (by rw [hml]; rfl) (lenOf pd_5 rfl) rfl rfl (W := 0) (Nat.le_of_eq rfl) (by decide) (by decide) (by decide) (by decide) (hb hby at_288) ?_
                      intro v466 T466 L466 q466 X466
                      obtain ⟨rfl, N466, e466⟩ := q466
                      show Go _ _ _ _ (T466.setTop (mkF m 291 #[.val (.int p0), .val (.int p1), .val (.int p2), .val (.int z1), .val (.int z5), .val (.int jv7_5), .val (.int jv8_6), .val (.int 1), .val (.int 0), .val (.int jv17_9), .val (.int jv18_10), .val (.int z21), .val (.ref b341_0), .val (.ref b342), .val (.ref b388_0), .val (.ref b389), .val (.int 0), .val (.int 0)] [(.int 0)]))
                      refine Go.iload X466 hx (pc' := 293) rfl (hb hby at_291) rfl ?_
                      refine Go.icmpNo X466 hx (pc' := 296) rfl (hb hby at_293) (by decide) ?_
                      refine Go.aload X466 hx (pc' := 298) rfl (hb hby at_296) rfl rfl ?_
                      refine Go.aload X466 hx (pc' := 300) rfl (hb hby at_298) rfl rfl ?_
                      refine Go.callV X466 hx Z388 O388 (tw_53 hw) (tw_54 hw) (notFace_of_selects (args := #[]) (mvT Z388 (tw_56 hw))) (tw_56 hw) (tw_55 hw) (by decide) (tw_57 hw) (tw_36 hw) (au_23 l Z a0 hw b389 b342 jv18_10 b388_0 jv17_9 b341_0 b388_1 b341_1 k388_0 k341_0 z341_0 gz1 gv5 h395 n0 Zn435 O442 G F395_1 F395_2 fk465 fk445 fk446 fk453 fk455 fk456 fk447 fk451 fk452 fk462 fk460 (Ne.symm ne463)) e466 F395_0 (argsL := [(.ref b342)]) (rest := []) (pc' := 303) rfl (by rw [hml]; rfl) (lenOf pd_5 rfl) rfl rfl (W := 0) (Nat.le_of_eq rfl) (by decide) (by decide) (by decide) (by decide) (hb hby at_300) ?_
                      intro v467 T467 L467 q467 X467
                      obtain ⟨rfl, N467, e467⟩ := q467
                      show Go _ _ _ _ (T467.setTop (mkF m 303 #[.val (.int p0), .val (.int p1), .val (.int p2), .val (.int z1), .val (.int z5), .val (.int jv7_5), .val (.int jv8_6), .val (.int 1), .val (.int 0), .val (.int jv17_9), .val (.int jv18_10), .val (.int z21), .val (.ref b341_0), .val (.ref b342), .val (.ref b388_0), .val (.ref b389), .val (.int 0), .val (.int 0)] [(.int 0)]))
                      refine Go.iload X467 hx (pc' := 305) rfl (hb hby at_303) rfl ?_
                      refine Go.icmpNo X467 hx (pc' := 308) rfl (hb hby at_305) (by decide) ?_
                      refine Go.iconst X467 hx (pc' := 309) rfl (hb hby at_308) (v := (1 : Int32)) rfl ?_
                      refine Go.goto X467 hx (pc' := 313) (hb hby at_309) (by decide) (by decide) ?_
                      have C468 : CHr Z EL0 s.vm s.heap T388.vm h388 := (C386.trans C388)
                      have C469 : CHr Z EL0 s.vm s.heap T388.vm h389 := (C468.trans (CHr.ext E389 C468.1))
                      have fk470 : Safe Z EL0 T388.vm h389 b389 := (Safe.ext E389 C468.1 (Safe.new (Nat.le_of_eq g389.symm) : Safe Z EL0 T388.vm h388 b389))
                      have C471 : CHr Z EL0 s.vm s.heap T388.vm h395 := (C469.trans (CHr.keep K395 (sfS fk470 sf0) C469.1))
                      have hk472 := (Nat.le_trans (Nat.le_trans (Nat.le_refl _) E389.1) K395.1)
                      refine Go.retNW X467 hx hlk Z388 (own_EW hw) e467 S388 hk472 C471 (t := .boolean) hret (by simp) (hb hby at_313) (by decide) (by decide) (fun hat => ?_)
                      exact ⟨rfl, (Fr.app (Fr.app (Fr.app (Fr.app (Fr.app (Fr.app (Fr.nil n0) N341) N349) N388) N395) N466) N467)⟩
                  · refine Go.iload X349 hx (pc' := 204) rfl (hb hby at_202) rfl ?_
                    refine Go.iload X349 hx (pc' := 206) rfl (hb hby at_204) rfl ?_
                    refine Go.iload X349 hx (pc' := 208) rfl (hb hby at_206) rfl ?_
                    have Kp474 : Keep h0 h349 [] := (Kp346.trans K349 (allS (Or.inr sz348) all0))
                    have Zn473 : n0 ≤ h349.size := Nat.le_trans Z0 Kp474.1
                    have O475 := (O0.keep K341 all0)
                    have O476 := (O475.ext E342)
                    have O477 := (O476.keep K349 (allS ge347 all0))
                    refine Go.callS X349 hx hZ hown (tw_0 hw) (tw_1 hw) (tw_2 hw) (tw_3 hw) (by decide) (tw_3 hw) (tw_2 hw) (au_16 l Z a0 hw jv7_5 jv8_6 gz1 gv5 h349 n0 Zn473 O477 G jr7_5) e349 (argsL := [(.int 1), (.int jv7_5), (.int jv8_6)]) (rest := []) (pc' := 211) rfl (by rw [hml]; rfl) (lenOf pd_2 rfl) rfl rfl (W := 0) (Nat.le_of_eq rfl) (by decide) (by decide) (by decide) (by decide) (hb hby at_208) ?_
                    intro v478 T478 L478 q478 X478
                    obtain ⟨h478, e478⟩ : ∃ z, T478.heap = z := ⟨_, rfl⟩
                    rw [e478] at q478
                    obtain ⟨z478_0, b478_0, b478_1, k478_0, d478_0, rfl, N478, K478, s478_0, s478_1, n478_0, F478_0, F478_1, F478_2, F478_3, F478_4⟩ := q478
                    show Go _ _ _ _ (T478.setTop (mkF m 211 #[.val (.int p0), .val (.int p1), .val (.int p2), .val (.int z1), .val (.int z5), .val (.int jv7_5), .val (.int jv8_6), .val (.int 1), .val (.int 1), .val (.int jv17_9), .val (.int jv18_10), .val (.int z21), .val (.ref b341_0), .val (.ref b342), .unset, .unset, .unset, .unset] [(.ref b478_0)]))
                    refine Go.astore X478 hx (pc' := 213) rfl (hb hby at_211) (Ls' := #[.val (.int p0), .val (.int p1), .val (.int p2), .val (.int z1), .val (.int z5), .val (.int jv7_5), .val (.int jv8_6), .val (.int 1), .val (.int 1), .val (.int jv17_9), .val (.int jv18_10), .val (.int z21), .val (.ref b341_0), .val (.ref b342), .val (.ref b478_0), .unset, .unset, .unset]) rfl rfl ?_
                    refine Go.new X478 hx hZ hown (tw_34 hw) (tw_35 hw) (tw_36 hw) e478 (by decide) (by decide) (pc' := 216) rfl (hb hby at_213) ?_
                    intro T479 h479 b479 e479 E479 g479 A479 D479 X479
                    have b479_word : Fld Z h479 b479 "com/example/tough_filter/toughfilter/Expression$Keyword" "word" "Ljava/lang/String;" .null := D479 (Or.inr (tw_47 hw)) (ty := (.object "java/lang/String")) (by decide)
                    have b479_pinyin : Fld Z h479 b479 "com/example/tough_filter/toughfilter/Expression$Keyword" "pinyin" "Z" (.int 0) := D479 (Or.inr (tw_49 hw)) (ty := .boolean) (by decide)
                    refine Go.dup X479 hx (pc' := 217) rfl (hb hby at_216) rfl ?_
                    refine Go.aload X479 hx (pc' := 219) rfl (hb hby at_217) rfl rfl ?_
                    refine Go.iload X479 hx (pc' := 221) rfl (hb hby at_219) rfl ?_
                    have r480 : -128 ≤ z478_0.toInt ∧ z478_0.toInt ≤ 127 := own_ri2b d478_0
                    have Kp482 : Keep h0 h478 [] := (Kp474.trans K478 all0)
                    have Kp483 : Keep h0 h479 [] := (Kp482.ext E479)
                    have Zn481 : n0 ≤ h479.size := Nat.le_trans Z0 Kp483.1
                    have sz485 : h0.size ≤ b479 := Nat.le_trans Kp482.1 (Nat.le_of_eq g479.symm)
                    have ge484 : n0 ≤ b479 := Nat.le_trans Z0 sz485
                    refine Go.callN X479 hx hZ hown rfl (tw_37 hw) (tw_38 hw) (tw_39 hw) (by decide) (tw_39 hw) (tw_36 hw) (au_22 l Z a0 hw b479 b478_0 jv18_10 h479 n0 Zn481 A479 b479_pinyin b479_word jr18_10 ge484) e479 (a := b479) (argsL := [(.ref b478_0), (.int jv18_10)]) (rest := [(.ref b479)]) (pc' := 224) rfl (by rw [hml]; rfl) (lenOf pd_4 rfl) rfl rfl (W := 1) (Nat.le_of_eq rfl) (by decide) (by decide) (by decide) (by decide) (hb hby at_221) ?_
                    intro v486 T486 L486 q486 X486
                    obtain ⟨h486, e486⟩ : ∃ z, T486.heap = z := ⟨_, rfl⟩
                    rw [e486] at q486
                    obtain ⟨rfl, N486, K486, F486_0, F486_1, F486_2⟩ := q486
                    show Go _ _ _ _ (T486.setTop (mkF m 224 #[.val (.int p0), .val (.int p1), .val (.int p2), .val (.int z1), .val (.int z5), .val (.int jv7_5), .val (.int jv8_6), .val (.int 1), .val (.int 1), .val (.int jv17_9), .val (.int jv18_10), .val (.int z21), .val (.ref b341_0), .val (.ref b342), .val (.ref b478_0), .unset, .unset, .unset] [(.ref b479)]))
                    refine Go.astore X486 hx (pc' := 226) rfl (hb hby at_224) (Ls' := #[.val (.int p0), .val (.int p1), .val (.int p2), .val (.int z1), .val (.int z5), .val (.int jv7_5), .val (.int jv8_6), .val (.int 1), .val (.int 1), .val (.int jv17_9), .val (.int jv18_10), .val (.int z21), .val (.ref b341_0), .val (.ref b342), .val (.ref b478_0), .val (.ref b479), .unset, .unset]) rfl rfl ?_
                    refine Go.iload X486 hx (pc' := 228) rfl (hb hby at_226) rfl ?_
                    refine Go.iload X486 hx (pc' := 230) rfl (hb hby at_228) rfl ?_
                    refine Go.icmpNo X486 hx (pc' := 233) rfl (hb hby at_230) (by decide) ?_
                    refine Go.iload X486 hx (pc' := 235) rfl (hb hby at_233) rfl ?_
                    refine Go.iconst X486 hx (pc' := 236) rfl (hb hby at_235) (v := (1 : Int32)) rfl ?_
                    refine Go.icmpNo X486 hx (pc' := 239) rfl (hb hby at_236) (by decide) ?_
                    refine Go.iloadN X486 hx (pc' := 240) rfl (hb hby at_239) rfl ?_
                    refine Go.iload X486 hx (pc' := 242) rfl (hb hby at_240) rfl ?_
                    by_cases hc487 : z1 = jv7_5
                    · refine Go.icmpNo X486 hx (pc' := 245) rfl (hb hby at_242) (teq hc487).2 ?_
                      refine Go.iload X486 hx (pc' := 247) rfl (hb hby at_245) rfl ?_
                      refine Go.iconst X486 hx (pc' := 248) rfl (hb hby at_247) (v := (2 : Int32)) rfl ?_
                      refine Go.icmpYes X486 hx (pc' := 258) (hb hby at_248) (by decide) (by decide) (by decide) ?_
                      refine Go.iconst X486 hx (pc' := 259) rfl (hb hby at_258) (v := (1 : Int32)) rfl ?_
                      refine Go.goto X486 hx (pc' := 263) (hb hby at_259) (by decide) (by decide) ?_
                      refine Go.istore X486 hx (pc' := 265) rfl (hb hby at_263) (Ls' := #[.val (.int p0), .val (.int p1), .val (.int p2), .val (.int z1), .val (.int z5), .val (.int jv7_5), .val (.int jv8_6), .val (.int 1), .val (.int 1), .val (.int jv17_9), .val (.int jv18_10), .val (.int z21), .val (.ref b341_0), .val (.ref b342), .val (.ref b478_0), .val (.ref b479), .val (.int 1), .unset]) rfl ?_
                      refine Go.iload X486 hx (pc' := 267) rfl (hb hby at_265) rfl ?_
                      refine Go.iload X486 hx (pc' := 269) rfl (hb hby at_267) rfl ?_
                      by_cases hc488 : jv17_9 = jv18_10
                      · refine Go.icmpNo X486 hx (pc' := 272) rfl (hb hby at_269) (teq hc488).2 ?_
                        refine Go.iload X486 hx (pc' := 274) rfl (hb hby at_272) rfl ?_
                        refine Go.ifNo X486 hx (pc' := 277) rfl (hb hby at_274) (by decide) ?_
                        refine Go.iconst X486 hx (pc' := 278) rfl (hb hby at_277) (v := (1 : Int32)) rfl ?_
                        refine Go.goto X486 hx (pc' := 282) (hb hby at_278) (by decide) (by decide) ?_
                        refine Go.istore X486 hx (pc' := 284) rfl (hb hby at_282) (Ls' := #[.val (.int p0), .val (.int p1), .val (.int p2), .val (.int z1), .val (.int z5), .val (.int jv7_5), .val (.int jv8_6), .val (.int 1), .val (.int 1), .val (.int jv17_9), .val (.int jv18_10), .val (.int z21), .val (.ref b341_0), .val (.ref b342), .val (.ref b478_0), .val (.ref b479), .val (.int 1), .val (.int 1)]) rfl ?_
                        refine Go.aload X486 hx (pc' := 286) rfl (hb hby at_284) rfl rfl ?_
                        refine Go.aload X486 hx (pc' := 288) rfl (hb hby at_286) rfl rfl ?_
                        have Kp490 : Keep h0 h486 [] := (Kp483.trans K486 (allS (Or.inr sz485) all0))
                        have Zn489 : n0 ≤ h486.size := Nat.le_trans Z0 Kp490.1
                        have O491 := (O477.keep K478 all0)
                        have O492 := (O491.ext E479)
                        have O493 := (O492.keep K486 (allS ge484 all0))
                        have fk495 : Exa Z h478 b342 "com/example/tough_filter/toughfilter/Expression$Keyword" := (F349_0.keep K478)
                        have ne494 : b342 ≠ b479 := Nat.ne_of_lt (Nat.lt_of_lt_of_le fk495.lt (Nat.le_of_eq g479.symm))
                        have fk496 : Fld Z h486 b342 "com/example/tough_filter/toughfilter/Expression$Keyword" "pinyin" "Z" (.int jv17_9) := (((F349_1.keep K478 nin0).ext E479).keep K486 (ninS ne494 nin0))
                        have fk497 : Fld Z h486 b342 "com/example/tough_filter/toughfilter/Expression$Keyword" "word" "Ljava/lang/String;" (.ref b341_0) := (((F349_2.keep K478 nin0).ext E479).keep K486 (ninS ne494 nin0))
                        have fk498 : Exa Z h486 b341_0 "java/lang/String" := (((((F341_0.ext E342).keep K349).keep K478).ext E479).keep K486)
                        have ne499 : b341_0 ≠ b342 := Nat.ne_of_lt (Nat.lt_of_lt_of_le F341_0.lt (Nat.le_of_eq g342.symm))
                        have fk501 : Exa Z h478 b341_0 "java/lang/String" := (((F341_0.ext E342).keep K349).keep K478)
                        have ne500 : b341_0 ≠ b479 := Nat.ne_of_lt (Nat.lt_of_lt_of_le fk501.lt (Nat.le_of_eq g479.symm))
                        have fk502 : Fld Z h486 b341_0 "java/lang/String" "coder" "B" (.int 0) := (((((F341_1.ext E342).keep K349 (ninS ne499 nin0)).keep K478 nin0).ext E479).keep K486 (ninS ne500 nin0))
                        have fk503 : Fld Z h486 b341_0 "java/lang/String" "value" "[B" (.ref b341_1) := (((((F341_2.ext E342).keep K349 (ninS ne499 nin0)).keep K478 nin0).ext E479).keep K486 (ninS ne500 nin0))
                        have fk504 : Exa Z h486 b478_0 "java/lang/String" := ((F478_0.ext E479).keep K486)
                        have ne505 : b478_0 ≠ b479 := Nat.ne_of_lt (Nat.lt_of_lt_of_le F478_0.lt (Nat.le_of_eq g479.symm))
                        have fk506 : Fld Z h486 b478_0 "java/lang/String" "coder" "B" (.int 0) := ((F478_1.ext E479).keep K486 (ninS ne505 nin0))
                        have fk507 : Fld Z h486 b478_0 "java/lang/String" "value" "[B" (.ref b478_1) := ((F478_2.ext E479).keep K486 (ninS ne505 nin0))
                        have ne508 : b341_1 ≠ b342 := Nat.ne_of_lt (Nat.lt_of_lt_of_le F341_3.lt (Nat.le_of_eq g342.symm))
                        have fk510 := (((F341_3.ext E342).keep K349 (ninS ne508 nin0)).keep K478 nin0)
                        have ne509 : b341_1 ≠ b479 := Nat.ne_of_lt (Nat.lt_of_lt_of_le fk510.lt (Nat.le_of_eq g479.symm))
                        have fk511 := (((((F341_3.ext E342).keep K349 (ninS ne508 nin0)).keep K478 nin0).ext E479).keep K486 (ninS ne509 nin0))
                        have ne512 : b478_1 ≠ b479 := Nat.ne_of_lt (Nat.lt_of_lt_of_le F478_3.lt (Nat.le_of_eq g479.symm))
                        have fk513 := ((F478_3.ext E479).keep K486 (ninS ne512 nin0))
                        have fk515 : Exa Z h349 b341_0 "java/lang/String" := ((F341_0.ext E342).keep K349)
                        have ne514 : b341_0 ≠ b478_0 := Nat.ne_of_lt (Nat.lt_of_lt_of_le fk515.lt s478_0)
                        have fk516 : Exa Z h486 b342 "com/example/tough_filter/toughfilter/Expression$Keyword" := ((fk495.ext E479).keep K486)
                        refine Go.callV X486 hx hZ hown (tw_53 hw) (tw_54 hw) (notFace_of_selects (args := #[]) (mvT hZ (tw_56 hw))) (tw_56 hw) (tw_55 hw) (by decide) (tw_57 hw) (tw_36 hw) (au_46 l Z a0 hw b342 b479 jv17_9 b341_0 jv18_10 b478_0 b341_1 b478_1 k341_0 z341_0 k478_0 z478_0 z1 jv7_5 gz1 gv5 h486 n0 Zn489 O493 G fk496 fk497 F486_0 F486_1 F486_2 fk498 fk502 fk503 fk504 fk506 fk507 fk511 fk513 r2 jr7_5 d341_0 d478_0 ne514) e486 fk516 (argsL := [(.ref b479)]) (rest := []) (pc' := 291) rfl (by rw [hml]; rfl) (lenOf pd_5 rfl) rfl rfl (W := 0) (Nat.le_of_eq rfl) (by decide) (by decide) (by decide) (by decide) (hb hby at_288) ?_
                        intro v517 T517 L517 q517 X517
                        rcases q517 with ⟨c517_0_0, c517_0_1, rfl, N517_0, e517_0⟩ | ⟨c517_1_0, c517_1_1, rfl, N517_1, e517_1⟩ | ⟨c517_2_0, rfl, N517_2, e517_2⟩
                        · show Go _ _ _ _ (T517.setTop (mkF m 291 #[.val (.int p0), .val (.int p1), .val (.int p2), .val (.int z1), .val (.int z5), .val (.int jv7_5), .val (.int jv8_6), .val (.int 1), .val (.int 1), .val (.int jv17_9), .val (.int jv18_10), .val (.int z21), .val (.ref b341_0), .val (.ref b342), .val (.ref b478_0), .val (.ref b479), .val (.int 1), .val (.int 1)] [(.int 1)]))
                          refine Go.iload X517 hx (pc' := 293) rfl (hb hby at_291) rfl ?_
                          refine Go.icmpNo X517 hx (pc' := 296) rfl (hb hby at_293) (by decide) ?_
                          refine Go.aload X517 hx (pc' := 298) rfl (hb hby at_296) rfl rfl ?_
                          refine Go.aload X517 hx (pc' := 300) rfl (hb hby at_298) rfl rfl ?_
                          refine Go.callV X517 hx hZ hown (tw_53 hw) (tw_54 hw) (notFace_of_selects (args := #[]) (mvT hZ (tw_56 hw))) (tw_56 hw) (tw_55 hw) (by decide) (tw_57 hw) (tw_36 hw) (au_46 l Z a0 hw b479 b342 jv18_10 b478_0 jv17_9 b341_0 b478_1 b341_1 k478_0 z478_0 k341_0 z341_0 jv7_5 z1 gz1 gv5 h486 n0 Zn489 O493 G F486_1 F486_2 fk516 fk496 fk497 fk504 fk506 fk507 fk498 fk502 fk503 fk513 fk511 jr7_5 r2 d478_0 d341_0 (Ne.symm ne514)) e517_0 F486_0 (argsL := [(.ref b342)]) (rest := []) (pc' := 303) rfl (by rw [hml]; rfl) (lenOf pd_5 rfl) rfl rfl (W := 0) (Nat.le_of_eq rfl) (by decide) (by decide) (by decide) (by decide) (hb hby at_300) ?_
                          intro v518 T518 L518 q518 X518
                          rcases q518 with ⟨c518_0_0, c518_0_1, rfl, N518_0, e518_0⟩ | ⟨c518_1_0, c518_1_1, rfl, N518_1, e518_1⟩ | ⟨c518_2_0, rfl, N518_2, e518_2⟩
                          · show Go _ _ _ _ (T518.setTop (mkF m 303 #[.val (.int p0), .val (.int p1), .val (.int p2), .val (.int z1), .val (.int z5), .val (.int jv7_5), .val (.int jv8_6), .val (.int 1), .val (.int 1), .val (.int jv17_9), .val (.int jv18_10), .val (.int z21), .val (.ref b341_0), .val (.ref b342), .val (.ref b478_0), .val (.ref b479), .val (.int 1), .val (.int 1)] [(.int 1)]))
                            refine Go.iload X518 hx (pc' := 305) rfl (hb hby at_303) rfl ?_
                            refine Go.icmpNo X518 hx (pc' := 308) rfl (hb hby at_305) (by decide) ?_
                            refine Go.iconst X518 hx (pc' := 309) rfl (hb hby at_308) (v := (1 : Int32)) rfl ?_
                            refine Go.goto X518 hx (pc' := 313) (hb hby at_309) (by decide) (by decide) ?_
                            have C519 : CHr Z EL0 s.vm s.heap s.vm h341 := (C0.trans (CHr.keep K341 sf0 C0.1))
                            have C520 : CHr Z EL0 s.vm s.heap s.vm h342 := (C519.trans (CHr.ext E342 C519.1))
                            have fk521 : Safe Z EL0 s.vm h342 b342 := (Safe.ext E342 C519.1 (Safe.new (Nat.le_of_eq g342.symm) : Safe Z EL0 s.vm h341 b342))
                            have C522 : CHr Z EL0 s.vm s.heap s.vm h349 := (C520.trans (CHr.keep K349 (sfS fk521 sf0) C520.1))
                            have C523 : CHr Z EL0 s.vm s.heap s.vm h478 := (C522.trans (CHr.keep K478 sf0 C522.1))
                            have C524 : CHr Z EL0 s.vm s.heap s.vm h479 := (C523.trans (CHr.ext E479 C523.1))
                            have fk525 : Safe Z EL0 s.vm h479 b479 := (Safe.ext E479 C523.1 (Safe.new (Nat.le_of_eq g479.symm) : Safe Z EL0 s.vm h478 b479))
                            have C526 : CHr Z EL0 s.vm s.heap s.vm h486 := (C524.trans (CHr.keep K486 (sfS fk525 sf0) C524.1))
                            have hk527 := (Nat.le_trans (Nat.le_trans (Nat.le_trans (Nat.le_trans (Nat.le_trans (Nat.le_trans (Nat.le_refl _) K341.1) E342.1) K349.1) K478.1) E479.1) K486.1)
                            refine Go.retNW X518 hx hlk hZ (own_EW hw) e518_0 hS0 hk527 C526 (t := .boolean) hret (by simp) (hb hby at_313) (by decide) (by decide) (fun hat => ?_)
                            exact ⟨rfl, (Fr.app (Fr.app (Fr.app (Fr.app (Fr.app (Fr.app (Fr.nil n0) N341) N349) N478) N486) N517_0) N518_0)⟩
                          · exact absurd hc487.symm c518_1_1
                          · exact absurd hc488.symm c518_2_0
                        · exact absurd hc487 c517_1_1
                        · exact absurd hc488 c517_2_0
                      · refine Go.icmpYes X486 hx (pc' := 281) (hb hby at_269) (feq hc488).2 (by decide) (by decide) ?_
                        refine Go.iconst X486 hx (pc' := 282) rfl (hb hby at_281) (v := (0 : Int32)) rfl ?_
                        refine Go.istore X486 hx (pc' := 284) rfl (hb hby at_282) (Ls' := #[.val (.int p0), .val (.int p1), .val (.int p2), .val (.int z1), .val (.int z5), .val (.int jv7_5), .val (.int jv8_6), .val (.int 1), .val (.int 1), .val (.int jv17_9), .val (.int jv18_10), .val (.int z21), .val (.ref b341_0), .val (.ref b342), .val (.ref b478_0), .val (.ref b479), .val (.int 1), .val (.int 0)]) rfl ?_
                        refine Go.aload X486 hx (pc' := 286) rfl (hb hby at_284) rfl rfl ?_
                        refine Go.aload X486 hx (pc' := 288) rfl (hb hby at_286) rfl rfl ?_
                        have Kp529 : Keep h0 h486 [] := (Kp483.trans K486 (allS (Or.inr sz485) all0))
                        have Zn528 : n0 ≤ h486.size := Nat.le_trans Z0 Kp529.1
                        have O530 := (O477.keep K478 all0)
                        have O531 := (O530.ext E479)
                        have O532 := (O531.keep K486 (allS ge484 all0))
                        have fk534 : Exa Z h478 b342 "com/example/tough_filter/toughfilter/Expression$Keyword" := (F349_0.keep K478)
                        have ne533 : b342 ≠ b479 := Nat.ne_of_lt (Nat.lt_of_lt_of_le fk534.lt (Nat.le_of_eq g479.symm))
                        have fk535 : Fld Z h486 b342 "com/example/tough_filter/toughfilter/Expression$Keyword" "pinyin" "Z" (.int jv17_9) := (((F349_1.keep K478 nin0).ext E479).keep K486 (ninS ne533 nin0))
                        have fk536 : Fld Z h486 b342 "com/example/tough_filter/toughfilter/Expression$Keyword" "word" "Ljava/lang/String;" (.ref b341_0) := (((F349_2.keep K478 nin0).ext E479).keep K486 (ninS ne533 nin0))
                        have fk537 : Exa Z h486 b341_0 "java/lang/String" := (((((F341_0.ext E342).keep K349).keep K478).ext E479).keep K486)
                        have ne538 : b341_0 ≠ b342 := Nat.ne_of_lt (Nat.lt_of_lt_of_le F341_0.lt (Nat.le_of_eq g342.symm))
                        have fk540 : Exa Z h478 b341_0 "java/lang/String" := (((F341_0.ext E342).keep K349).keep K478)
                        have ne539 : b341_0 ≠ b479 := Nat.ne_of_lt (Nat.lt_of_lt_of_le fk540.lt (Nat.le_of_eq g479.symm))
                        have fk541 : Fld Z h486 b341_0 "java/lang/String" "coder" "B" (.int 0) := (((((F341_1.ext E342).keep K349 (ninS ne538 nin0)).keep K478 nin0).ext E479).keep K486 (ninS ne539 nin0))
                        have fk542 : Fld Z h486 b341_0 "java/lang/String" "value" "[B" (.ref b341_1) := (((((F341_2.ext E342).keep K349 (ninS ne538 nin0)).keep K478 nin0).ext E479).keep K486 (ninS ne539 nin0))
                        have fk543 : Exa Z h486 b478_0 "java/lang/String" := ((F478_0.ext E479).keep K486)
                        have ne544 : b478_0 ≠ b479 := Nat.ne_of_lt (Nat.lt_of_lt_of_le F478_0.lt (Nat.le_of_eq g479.symm))
                        have fk545 : Fld Z h486 b478_0 "java/lang/String" "coder" "B" (.int 0) := ((F478_1.ext E479).keep K486 (ninS ne544 nin0))
                        have fk546 : Fld Z h486 b478_0 "java/lang/String" "value" "[B" (.ref b478_1) := ((F478_2.ext E479).keep K486 (ninS ne544 nin0))
                        have ne547 : b341_1 ≠ b342 := Nat.ne_of_lt (Nat.lt_of_lt_of_le F341_3.lt (Nat.le_of_eq g342.symm))
                        have fk549 := (((F341_3.ext E342).keep K349 (ninS ne547 nin0)).keep K478 nin0)
                        have ne548 : b341_1 ≠ b479 := Nat.ne_of_lt (Nat.lt_of_lt_of_le fk549.lt (Nat.le_of_eq g479.symm))
                        have fk550 := (((((F341_3.ext E342).keep K349 (ninS ne547 nin0)).keep K478 nin0).ext E479).keep K486 (ninS ne548 nin0))
                        have ne551 : b478_1 ≠ b479 := Nat.ne_of_lt (Nat.lt_of_lt_of_le F478_3.lt (Nat.le_of_eq g479.symm))
                        have fk552 := ((F478_3.ext E479).keep K486 (ninS ne551 nin0))
                        have fk554 : Exa Z h349 b341_0 "java/lang/String" := ((F341_0.ext E342).keep K349)
                        have ne553 : b341_0 ≠ b478_0 := Nat.ne_of_lt (Nat.lt_of_lt_of_le fk554.lt s478_0)
                        have fk555 : Exa Z h486 b342 "com/example/tough_filter/toughfilter/Expression$Keyword" := ((fk534.ext E479).keep K486)
                        refine Go.callV X486 hx hZ hown (tw_53 hw) (tw_54 hw) (notFace_of_selects (args := #[]) (mvT hZ (tw_56 hw))) (tw_56 hw) (tw_55 hw) (by decide) (tw_57 hw) (tw_36 hw) (au_46 l Z a0 hw b342 b479 jv17_9 b341_0 jv18_10 b478_0 b341_1 b478_1 k341_0 z341_0 k478_0 z478_0 z1 jv7_5 gz1 gv5 h486 n0 Zn528 O532 G fk535 fk536 F486_0 F486_1 F486_2 fk537 fk541 fk542 fk543 fk545 fk546 fk550 fk552 r2 jr7_5 d341_0 d478_0 ne553) e486 fk555 (argsL := [(.ref b479)]) (rest := []) (pc' := 291) rfl (by rw [hml]; rfl) (lenOf pd_5 rfl) rfl rfl (W := 0) (Nat.le_of_eq rfl) (by decide) (by decide) (by decide) (by decide) (hb hby at_288) ?_
                        intro v556 T556 L556 q556 X556
                        rcases q556 with ⟨c556_0_0, c556_0_1, rfl, N556_0, e556_0⟩ | ⟨c556_1_0, c556_1_1, rfl, N556_1, e556_1⟩ | ⟨c556_2_0, rfl, N556_2, e556_2⟩
                        · exact absurd c556_0_0 hc488
                        · exact absurd c556_1_0 hc488
                        · show Go _ _ _ _ (T556.setTop (mkF m 291 #[.val (.int p0), .val (.int p1), .val (.int p2), .val (.int z1), .val (.int z5), .val (.int jv7_5), .val (.int jv8_6), .val (.int 1), .val (.int 1), .val (.int jv17_9), .val (.int jv18_10), .val (.int z21), .val (.ref b341_0), .val (.ref b342), .val (.ref b478_0), .val (.ref b479), .val (.int 1), .val (.int 0)] [(.int 0)]))
                          refine Go.iload X556 hx (pc' := 293) rfl (hb hby at_291) rfl ?_
                          refine Go.icmpNo X556 hx (pc' := 296) rfl (hb hby at_293) (by decide) ?_
                          refine Go.aload X556 hx (pc' := 298) rfl (hb hby at_296) rfl rfl ?_
                          refine Go.aload X556 hx (pc' := 300) rfl (hb hby at_298) rfl rfl ?_
                          refine Go.callV X556 hx hZ hown (tw_53 hw) (tw_54 hw) (notFace_of_selects (args := #[]) (mvT hZ (tw_56 hw))) (tw_56 hw) (tw_55 hw) (by decide) (tw_57 hw) (tw_36 hw) (au_46 l Z a0 hw b479 b342 jv18_10 b478_0 jv17_9 b341_0 b478_1 b341_1 k478_0 z478_0 k341_0 z341_0 jv7_5 z1 gz1 gv5 h486 n0 Zn528 O532 G F486_1 F486_2 fk555 fk535 fk536 fk543 fk545 fk546 fk537 fk541 fk542 fk552 fk550 jr7_5 r2 d478_0 d341_0 (Ne.symm ne553)) e556_2 F486_0 (argsL := [(.ref b342)]) (rest := []) (pc' := 303) rfl (by rw [hml]; rfl) (lenOf pd_5 rfl) rfl rfl (W := 0) (Nat.le_of_eq rfl) (by decide) (by decide) (by decide) (by decide) (hb hby at_300) ?_
                          intro v557 T557 L557 q557 X557
                          rcases q557 with ⟨c557_0_0, c557_0_1, rfl, N557_0, e557_0⟩ | ⟨c557_1_0, c557_1_1, rfl, N557_1, e557_1⟩ | ⟨c557_2_0, rfl, N557_2, e557_2⟩
                          · exact absurd c557_0_0 (Ne.symm hc488)
                          · exact absurd c557_1_0 (Ne.symm hc488)
                          · show Go _ _ _ _ (T557.setTop (mkF m 303 #[.val (.int p0), .val (.int p1), .val (.int p2), .val (.int z1), .val (.int z5), .val (.int jv7_5), .val (.int jv8_6), .val (.int 1), .val (.int 1), .val (.int jv17_9), .val (.int jv18_10), .val (.int z21), .val (.ref b341_0), .val (.ref b342), .val (.ref b478_0), .val (.ref b479), .val (.int 1), .val (.int 0)] [(.int 0)]))
                            refine Go.iload X557 hx (pc' := 305) rfl (hb hby at_303) rfl ?_
                            refine Go.icmpNo X557 hx (pc' := 308) rfl (hb hby at_305) (by decide) ?_
                            refine Go.iconst X557 hx (pc' := 309) rfl (hb hby at_308) (v := (1 : Int32)) rfl ?_
                            refine Go.goto X557 hx (pc' := 313) (hb hby at_309) (by decide) (by decide) ?_
                            have C558 : CHr Z EL0 s.vm s.heap s.vm h341 := (C0.trans (CHr.keep K341 sf0 C0.1))
                            have C559 : CHr Z EL0 s.vm s.heap s.vm h342 := (C558.trans (CHr.ext E342 C558.1))
                            have fk560 : Safe Z EL0 s.vm h342 b342 := (Safe.ext E342 C558.1 (Safe.new (Nat.le_of_eq g342.symm) : Safe Z EL0 s.vm h341 b342))
                            have C561 : CHr Z EL0 s.vm s.heap s.vm h349 := (C559.trans (CHr.keep K349 (sfS fk560 sf0) C559.1))
                            have C562 : CHr Z EL0 s.vm s.heap s.vm h478 := (C561.trans (CHr.keep K478 sf0 C561.1))
                            have C563 : CHr Z EL0 s.vm s.heap s.vm h479 := (C562.trans (CHr.ext E479 C562.1))
                            have fk564 : Safe Z EL0 s.vm h479 b479 := (Safe.ext E479 C562.1 (Safe.new (Nat.le_of_eq g479.symm) : Safe Z EL0 s.vm h478 b479))
                            have C565 : CHr Z EL0 s.vm s.heap s.vm h486 := (C563.trans (CHr.keep K486 (sfS fk564 sf0) C563.1))
                            have hk566 := (Nat.le_trans (Nat.le_trans (Nat.le_trans (Nat.le_trans (Nat.le_trans (Nat.le_trans (Nat.le_refl _) K341.1) E342.1) K349.1) K478.1) E479.1) K486.1)
                            refine Go.retNW X557 hx hlk hZ (own_EW hw) e557_2 hS0 hk566 C565 (t := .boolean) hret (by simp) (hb hby at_313) (by decide) (by decide) (fun hat => ?_)
                            exact ⟨rfl, (Fr.app (Fr.app (Fr.app (Fr.app (Fr.app (Fr.app (Fr.nil n0) N341) N349) N478) N486) N556_2) N557_2)⟩
                    · refine Go.icmpYes X486 hx (pc' := 262) (hb hby at_242) (feq hc487).2 (by decide) (by decide) ?_
                      refine Go.iconst X486 hx (pc' := 263) rfl (hb hby at_262) (v := (0 : Int32)) rfl ?_
                      refine Go.istore X486 hx (pc' := 265) rfl (hb hby at_263) (Ls' := #[.val (.int p0), .val (.int p1), .val (.int p2), .val (.int z1), .val (.int z5), .val (.int jv7_5), .val (.int jv8_6), .val (.int 1), .val (.int 1), .val (.int jv17_9), .val (.int jv18_10), .val (.int z21), .val (.ref b341_0), .val (.ref b342), .val (.ref b478_0), .val (.ref b479), .val (.int 0), .unset]) rfl ?_
                      refine Go.iload X486 hx (pc' := 267) rfl (hb hby at_265) rfl ?_
                      refine Go.iload X486 hx (pc' := 269) rfl (hb hby at_267) rfl ?_
                      by_cases hc567 : jv17_9 = jv18_10
                      · refine Go.icmpNo X486 hx (pc' := 272) rfl (hb hby at_269) (teq hc567).2 ?_
                        refine Go.iload X486 hx (pc' := 274) rfl (hb hby at_272) rfl ?_
                        refine Go.ifYes X486 hx (pc' := 281) (hb hby at_274) (by decide) (by decide) (by decide) ?_
                        refine Go.iconst X486 hx (pc' := 282) rfl (hb hby at_281) (v := (0 : Int32)) rfl ?_
                        refine Go.istore X486 hx (pc' := 284) rfl (hb hby at_282) (Ls' := #[.val (.int p0), .val (.int p1), .val (.int p2), .val (.int z1), .val (.int z5), .val (.int jv7_5), .val (.int jv8_6), .val (.int 1), .val (.int 1), .val (.int jv17_9), .val (.int jv18_10), .val (.int z21), .val (.ref b341_0), .val (.ref b342), .val (.ref b478_0), .val (.ref b479), .val (.int 0), .val (.int 0)]) rfl ?_
                        refine Go.aload X486 hx (pc' := 286) rfl (hb hby at_284) rfl rfl ?_
                        refine Go.aload X486 hx (pc' := 288) rfl (hb hby at_286) rfl rfl ?_
                        have Kp569 : Keep h0 h486 [] := (Kp483.trans K486 (allS (Or.inr sz485) all0))
                        have Zn568 : n0 ≤ h486.size := Nat.le_trans Z0 Kp569.1
                        have O570 := (O477.keep K478 all0)
                        have O571 := (O570.ext E479)
                        have O572 := (O571.keep K486 (allS ge484 all0))
                        have fk574 : Exa Z h478 b342 "com/example/tough_filter/toughfilter/Expression$Keyword" := (F349_0.keep K478)
                        have ne573 : b342 ≠ b479 := Nat.ne_of_lt (Nat.lt_of_lt_of_le fk574.lt (Nat.le_of_eq g479.symm))
                        have fk575 : Fld Z h486 b342 "com/example/tough_filter/toughfilter/Expression$Keyword" "pinyin" "Z" (.int jv17_9) := (((F349_1.keep K478 nin0).ext E479).keep K486 (ninS ne573 nin0))
                        have fk576 : Fld Z h486 b342 "com/example/tough_filter/toughfilter/Expression$Keyword" "word" "Ljava/lang/String;" (.ref b341_0) := (((F349_2.keep K478 nin0).ext E479).keep K486 (ninS ne573 nin0))
                        have fk577 : Exa Z h486 b341_0 "java/lang/String" := (((((F341_0.ext E342).keep K349).keep K478).ext E479).keep K486)
                        have ne578 : b341_0 ≠ b342 := Nat.ne_of_lt (Nat.lt_of_lt_of_le F341_0.lt (Nat.le_of_eq g342.symm))
                        have fk580 : Exa Z h478 b341_0 "java/lang/String" := (((F341_0.ext E342).keep K349).keep K478)
                        have ne579 : b341_0 ≠ b479 := Nat.ne_of_lt (Nat.lt_of_lt_of_le fk580.lt (Nat.le_of_eq g479.symm))
                        have fk581 : Fld Z h486 b341_0 "java/lang/String" "coder" "B" (.int 0) := (((((F341_1.ext E342).keep K349 (ninS ne578 nin0)).keep K478 nin0).ext E479).keep K486 (ninS ne579 nin0))
                        have fk582 : Fld Z h486 b341_0 "java/lang/String" "value" "[B" (.ref b341_1) := (((((F341_2.ext E342).keep K349 (ninS ne578 nin0)).keep K478 nin0).ext E479).keep K486 (ninS ne579 nin0))
                        have fk583 : Exa Z h486 b478_0 "java/lang/String" := ((F478_0.ext E479).keep K486)
                        have ne584 : b478_0 ≠ b479 := Nat.ne_of_lt (Nat.lt_of_lt_of_le F478_0.lt (Nat.le_of_eq g479.symm))
                        have fk585 : Fld Z h486 b478_0 "java/lang/String" "coder" "B" (.int 0) := ((F478_1.ext E479).keep K486 (ninS ne584 nin0))
                        have fk586 : Fld Z h486 b478_0 "java/lang/String" "value" "[B" (.ref b478_1) := ((F478_2.ext E479).keep K486 (ninS ne584 nin0))
                        have ne587 : b341_1 ≠ b342 := Nat.ne_of_lt (Nat.lt_of_lt_of_le F341_3.lt (Nat.le_of_eq g342.symm))
                        have fk589 := (((F341_3.ext E342).keep K349 (ninS ne587 nin0)).keep K478 nin0)
                        have ne588 : b341_1 ≠ b479 := Nat.ne_of_lt (Nat.lt_of_lt_of_le fk589.lt (Nat.le_of_eq g479.symm))
                        have fk590 := (((((F341_3.ext E342).keep K349 (ninS ne587 nin0)).keep K478 nin0).ext E479).keep K486 (ninS ne588 nin0))
                        have ne591 : b478_1 ≠ b479 := Nat.ne_of_lt (Nat.lt_of_lt_of_le F478_3.lt (Nat.le_of_eq g479.symm))
                        have fk592 := ((F478_3.ext E479).keep K486 (ninS ne591 nin0))
                        have fk594 : Exa Z h349 b341_0 "java/lang/String" := ((F341_0.ext E342).keep K349)
                        have ne593 : b341_0 ≠ b478_0 := Nat.ne_of_lt (Nat.lt_of_lt_of_le fk594.lt s478_0)
                        have fk595 : Exa Z h486 b342 "com/example/tough_filter/toughfilter/Expression$Keyword" := ((fk574.ext E479).keep K486)
                        refine Go.callV X486 hx hZ hown (tw_53 hw) (tw_54 hw) (notFace_of_selects (args := #[]) (mvT hZ (tw_56 hw))) (tw_56 hw) (tw_55 hw) (by decide) (tw_57 hw) (tw_36 hw) (au_46 l Z a0 hw b342 b479 jv17_9 b341_0 jv18_10 b478_0 b341_1 b478_1 k341_0 z341_0 k478_0 z478_0 z1 jv7_5 gz1 gv5 h486 n0 Zn568 O572 G fk575 fk576 F486_0 F486_1 F486_2 fk577 fk581 fk582 fk583 fk585 fk586 fk590 fk592 r2 jr7_5 d341_0 d478_0 ne593) e486 fk595 (argsL := [(.ref b479)]) (rest := []) (pc' := 291) rfl (by rw [hml]; rfl) (lenOf pd_5 rfl) rfl rfl (W := 0) (Nat.le_of_eq rfl) (by decide) (by decide) (by decide) (by decide) (hb hby at_288) ?_
                        intro v596 T596 L596 q596 X596
                        rcases q596 with ⟨c596_0_0, c596_0_1, rfl, N596_0, e596_0⟩ | ⟨c596_1_0, c596_1_1, rfl, N596_1, e596_1⟩ | ⟨c596_2_0, rfl, N596_2, e596_2⟩
                        · exact absurd c596_0_1 hc487
                        · show Go _ _ _ _ (T596.setTop (mkF m 291 #[.val (.int p0), .val (.int p1), .val (.int p2), .val (.int z1), .val (.int z5), .val (.int jv7_5), .val (.int jv8_6), .val (.int 1), .val (.int 1), .val (.int jv17_9), .val (.int jv18_10), .val (.int z21), .val (.ref b341_0), .val (.ref b342), .val (.ref b478_0), .val (.ref b479), .val (.int 0), .val (.int 0)] [(.int 0)]))
                          refine Go.iload X596 hx (pc' := 293) rfl (hb hby at_291) rfl ?_
                          refine Go.icmpNo X596 hx (pc' := 296) rfl (hb hby at_293) (by decide) ?_
                          refine Go.aload X596 hx (pc' := 298) rfl (hb hby at_296) rfl rfl ?_
                          refine Go.aload X596 hx (pc' := 300) rfl (hb hby at_298) rfl rfl ?_
                          refine Go.callV X596 hx hZ hown (tw_53 hw) (tw_54 hw) (notFace_of_selects (args := #[]) (mvT hZ (tw_56 hw))) (tw_56 hw) (tw_55 hw) (by decide) (tw_57 hw) (tw_36 hw) (au_46 l Z a0 hw b479 b342 jv18_10 b478_0 jv17_9 b341_0 b478_1 b341_1 k478_0 z478_0 k341_0 z341_0 jv7_5 z1 gz1 gv5 h486 n0 Zn568 O572 G F486_1 F486_2 fk595 fk575 fk576 fk583 fk585 fk586 fk577 fk581 fk582 fk592 fk590 jr7_5 r2 d478_0 d341_0 (Ne.symm ne593)) e596_1 F486_0 (argsL := [(.ref b342)]) (rest := []) (pc' := 303) rfl (by rw [hml]; rfl) (lenOf pd_5 rfl) rfl rfl (W := 0) (Nat.le_of_eq rfl) (by decide) (by decide) (by decide) (by decide) (hb hby at_300) ?_
                          intro v597 T597 L597 q597 X597
                          rcases q597 with ⟨c597_0_0, c597_0_1, rfl, N597_0, e597_0⟩ | ⟨c597_1_0, c597_1_1, rfl, N597_1, e597_1⟩ | ⟨c597_2_0, rfl, N597_2, e597_2⟩
                          · exact absurd c597_0_1 (Ne.symm hc487)
                          · show Go _ _ _ _ (T597.setTop (mkF m 303 #[.val (.int p0), .val (.int p1), .val (.int p2), .val (.int z1), .val (.int z5), .val (.int jv7_5), .val (.int jv8_6), .val (.int 1), .val (.int 1), .val (.int jv17_9), .val (.int jv18_10), .val (.int z21), .val (.ref b341_0), .val (.ref b342), .val (.ref b478_0), .val (.ref b479), .val (.int 0), .val (.int 0)] [(.int 0)]))
                            refine Go.iload X597 hx (pc' := 305) rfl (hb hby at_303) rfl ?_
                            refine Go.icmpNo X597 hx (pc' := 308) rfl (hb hby at_305) (by decide) ?_
                            refine Go.iconst X597 hx (pc' := 309) rfl (hb hby at_308) (v := (1 : Int32)) rfl ?_
                            refine Go.goto X597 hx (pc' := 313) (hb hby at_309) (by decide) (by decide) ?_
                            have C598 : CHr Z EL0 s.vm s.heap s.vm h341 := (C0.trans (CHr.keep K341 sf0 C0.1))
                            have C599 : CHr Z EL0 s.vm s.heap s.vm h342 := (C598.trans (CHr.ext E342 C598.1))
                            have fk600 : Safe Z EL0 s.vm h342 b342 := (Safe.ext E342 C598.1 (Safe.new (Nat.le_of_eq g342.symm) : Safe Z EL0 s.vm h341 b342))
                            have C601 : CHr Z EL0 s.vm s.heap s.vm h349 := (C599.trans (CHr.keep K349 (sfS fk600 sf0) C599.1))
                            have C602 : CHr Z EL0 s.vm s.heap s.vm h478 := (C601.trans (CHr.keep K478 sf0 C601.1))
                            have C603 : CHr Z EL0 s.vm s.heap s.vm h479 := (C602.trans (CHr.ext E479 C602.1))
                            have fk604 : Safe Z EL0 s.vm h479 b479 := (Safe.ext E479 C602.1 (Safe.new (Nat.le_of_eq g479.symm) : Safe Z EL0 s.vm h478 b479))
                            have C605 : CHr Z EL0 s.vm s.heap s.vm h486 := (C603.trans (CHr.keep K486 (sfS fk604 sf0) C603.1))
                            have hk606 := (Nat.le_trans (Nat.le_trans (Nat.le_trans (Nat.le_trans (Nat.le_trans (Nat.le_trans (Nat.le_refl _) K341.1) E342.1) K349.1) K478.1) E479.1) K486.1)
                            refine Go.retNW X597 hx hlk hZ (own_EW hw) e597_1 hS0 hk606 C605 (t := .boolean) hret (by simp) (hb hby at_313) (by decide) (by decide) (fun hat => ?_)
                            exact ⟨rfl, (Fr.app (Fr.app (Fr.app (Fr.app (Fr.app (Fr.app (Fr.nil n0) N341) N349) N478) N486) N596_1) N597_1)⟩
                          · exact absurd hc567.symm c597_2_0
                        · exact absurd hc567 c596_2_0
                      · refine Go.icmpYes X486 hx (pc' := 281) (hb hby at_269) (feq hc567).2 (by decide) (by decide) ?_
                        refine Go.iconst X486 hx (pc' := 282) rfl (hb hby at_281) (v := (0 : Int32)) rfl ?_
                        refine Go.istore X486 hx (pc' := 284) rfl (hb hby at_282) (Ls' := #[.val (.int p0), .val (.int p1), .val (.int p2), .val (.int z1), .val (.int z5), .val (.int jv7_5), .val (.int jv8_6), .val (.int 1), .val (.int 1), .val (.int jv17_9), .val (.int jv18_10), .val (.int z21), .val (.ref b341_0), .val (.ref b342), .val (.ref b478_0), .val (.ref b479), .val (.int 0), .val (.int 0)]) rfl ?_
                        refine Go.aload X486 hx (pc' := 286) rfl (hb hby at_284) rfl rfl ?_
                        refine Go.aload X486 hx (pc' := 288) rfl (hb hby at_286) rfl rfl ?_
                        have Kp608 : Keep h0 h486 [] := (Kp483.trans K486 (allS (Or.inr sz485) all0))
                        have Zn607 : n0 ≤ h486.size := Nat.le_trans Z0 Kp608.1
                        have O609 := (O477.keep K478 all0)
                        have O610 := (O609.ext E479)
                        have O611 := (O610.keep K486 (allS ge484 all0))
                        have fk613 : Exa Z h478 b342 "com/example/tough_filter/toughfilter/Expression$Keyword" := (F349_0.keep K478)
                        have ne612 : b342 ≠ b479 := Nat.ne_of_lt (Nat.lt_of_lt_of_le fk613.lt (Nat.le_of_eq g479.symm))
                        have fk614 : Fld Z h486 b342 "com/example/tough_filter/toughfilter/Expression$Keyword" "pinyin" "Z" (.int jv17_9) := (((F349_1.keep K478 nin0).ext E479).keep K486 (ninS ne612 nin0))
                        have fk615 : Fld Z h486 b342 "com/example/tough_filter/toughfilter/Expression$Keyword" "word" "Ljava/lang/String;" (.ref b341_0) := (((F349_2.keep K478 nin0).ext E479).keep K486 (ninS ne612 nin0))
                        have fk616 : Exa Z h486 b341_0 "java/lang/String" := (((((F341_0.ext E342).keep K349).keep K478).ext E479).keep K486)
                        have ne617 : b341_0 ≠ b342 := Nat.ne_of_lt (Nat.lt_of_lt_of_le F341_0.lt (Nat.le_of_eq g342.symm))
                        have fk619 : Exa Z h478 b341_0 "java/lang/String" := (((F341_0.ext E342).keep K349).keep K478)
                        have ne618 : b341_0 ≠ b479 := Nat.ne_of_lt (Nat.lt_of_lt_of_le fk619.lt (Nat.le_of_eq g479.symm))
                        have fk620 : Fld Z h486 b341_0 "java/lang/String" "coder" "B" (.int 0) := (((((F341_1.ext E342).keep K349 (ninS ne617 nin0)).keep K478 nin0).ext E479).keep K486 (ninS ne618 nin0))
                        have fk621 : Fld Z h486 b341_0 "java/lang/String" "value" "[B" (.ref b341_1) := (((((F341_2.ext E342).keep K349 (ninS ne617 nin0)).keep K478 nin0).ext E479).keep K486 (ninS ne618 nin0))
                        have fk622 : Exa Z h486 b478_0 "java/lang/String" := ((F478_0.ext E479).keep K486)
                        have ne623 : b478_0 ≠ b479 := Nat.ne_of_lt (Nat.lt_of_lt_of_le F478_0.lt (Nat.le_of_eq g479.symm))
                        have fk624 : Fld Z h486 b478_0 "java/lang/String" "coder" "B" (.int 0) := ((F478_1.ext E479).keep K486 (ninS ne623 nin0))
                        have fk625 : Fld Z h486 b478_0 "java/lang/String" "value" "[B" (.ref b478_1) := ((F478_2.ext E479).keep K486 (ninS ne623 nin0))
                        have ne626 : b341_1 ≠ b342 := Nat.ne_of_lt (Nat.lt_of_lt_of_le F341_3.lt (Nat.le_of_eq g342.symm))
                        have fk628 := (((F341_3.ext E342).keep K349 (ninS ne626 nin0)).keep K478 nin0)
                        have ne627 : b341_1 ≠ b479 := Nat.ne_of_lt (Nat.lt_of_lt_of_le fk628.lt (Nat.le_of_eq g479.symm))
                        have fk629 := (((((F341_3.ext E342).keep K349 (ninS ne626 nin0)).keep K478 nin0).ext E479).keep K486 (ninS ne627 nin0))
                        have ne630 : b478_1 ≠ b479 := Nat.ne_of_lt (Nat.lt_of_lt_of_le F478_3.lt (Nat.le_of_eq g479.symm))
                        have fk631 := ((F478_3.ext E479).keep K486 (ninS ne630 nin0))
                        have fk633 : Exa Z h349 b341_0 "java/lang/String" := ((F341_0.ext E342).keep K349)
                        have ne632 : b341_0 ≠ b478_0 := Nat.ne_of_lt (Nat.lt_of_lt_of_le fk633.lt s478_0)
                        have fk634 : Exa Z h486 b342 "com/example/tough_filter/toughfilter/Expression$Keyword" := ((fk613.ext E479).keep K486)
                        refine Go.callV X486 hx hZ hown (tw_53 hw) (tw_54 hw) (notFace_of_selects (args := #[]) (mvT hZ (tw_56 hw))) (tw_56 hw) (tw_55 hw) (by decide) (tw_57 hw) (tw_36 hw) (au_46 l Z a0 hw b342 b479 jv17_9 b341_0 jv18_10 b478_0 b341_1 b478_1 k341_0 z341_0 k478_0 z478_0 z1 jv7_5 gz1 gv5 h486 n0 Zn607 O611 G fk614 fk615 F486_0 F486_1 F486_2 fk616 fk620 fk621 fk622 fk624 fk625 fk629 fk631 r2 jr7_5 d341_0 d478_0 ne632) e486 fk634 (argsL := [(.ref b479)]) (rest := []) (pc' := 291) rfl (by rw [hml]; rfl) (lenOf pd_5 rfl) rfl rfl (W := 0) (Nat.le_of_eq rfl) (by decide) (by decide) (by decide) (by decide) (hb hby at_288) ?_
                        intro v635 T635 L635 q635 X635
                        rcases q635 with ⟨c635_0_0, c635_0_1, rfl, N635_0, e635_0⟩ | ⟨c635_1_0, c635_1_1, rfl, N635_1, e635_1⟩ | ⟨c635_2_0, rfl, N635_2, e635_2⟩
                        · exact absurd c635_0_0 hc567
                        · exact absurd c635_1_0 hc567
                        · show Go _ _ _ _ (T635.setTop (mkF m 291 #[.val (.int p0), .val (.int p1), .val (.int p2), .val (.int z1), .val (.int z5), .val (.int jv7_5), .val (.int jv8_6), .val (.int 1), .val (.int 1), .val (.int jv17_9), .val (.int jv18_10), .val (.int z21), .val (.ref b341_0), .val (.ref b342), .val (.ref b478_0), .val (.ref b479), .val (.int 0), .val (.int 0)] [(.int 0)]))
                          refine Go.iload X635 hx (pc' := 293) rfl (hb hby at_291) rfl ?_
                          refine Go.icmpNo X635 hx (pc' := 296) rfl (hb hby at_293) (by decide) ?_
                          refine Go.aload X635 hx (pc' := 298) rfl (hb hby at_296) rfl rfl ?_
                          refine Go.aload X635 hx (pc' := 300) rfl (hb hby at_298) rfl rfl ?_
                          refine Go.callV X635 hx hZ hown (tw_53 hw) (tw_54 hw) (notFace_of_selects (args := #[]) (mvT hZ (tw_56 hw))) (tw_56 hw) (tw_55 hw) (by decide) (tw_57 hw) (tw_36 hw) (au_46 l Z a0 hw b479 b342 jv18_10 b478_0 jv17_9 b341_0 b478_1 b341_1 k478_0 z478_0 k341_0 z341_0 jv7_5 z1 gz1 gv5 h486 n0 Zn607 O611 G F486_1 F486_2 fk634 fk614 fk615 fk622 fk624 fk625 fk616 fk620 fk621 fk631 fk629 jr7_5 r2 d478_0 d341_0 (Ne.symm ne632)) e635_2 F486_0 (argsL := [(.ref b342)]) (rest := []) (pc' := 303) rfl (by rw [hml]; rfl) (lenOf pd_5 rfl) rfl rfl (W := 0) (Nat.le_of_eq rfl) (by decide) (by decide) (by decide) (by decide) (hb hby at_300) ?_
                          intro v636 T636 L636 q636 X636
                          rcases q636 with ⟨c636_0_0, c636_0_1, rfl, N636_0, e636_0⟩ | ⟨c636_1_0, c636_1_1, rfl, N636_1, e636_1⟩ | ⟨c636_2_0, rfl, N636_2, e636_2⟩
                          · exact absurd c636_0_0 (Ne.symm hc567)
                          · exact absurd c636_1_0 (Ne.symm hc567)
                          · show Go _ _ _ _ (T636.setTop (mkF m 303 #[.val (.int p0), .val (.int p1), .val (.int p2), .val (.int z1), .val (.int z5), .val (.int jv7_5), .val (.int jv8_6), .val (.int 1), .val (.int 1), .val (.int jv17_9), .val (.int jv18_10), .val (.int z21), .val (.ref b341_0), .val (.ref b342), .val (.ref b478_0), .val (.ref b479), .val (.int 0), .val (.int 0)] [(.int 0)]))
                            refine Go.iload X636 hx (pc' := 305) rfl (hb hby at_303) rfl ?_
                            refine Go.icmpNo X636 hx (pc' := 308) rfl (hb hby at_305) (by decide) ?_
                            refine Go.iconst X636 hx (pc' := 309) rfl (hb hby at_308) (v := (1 : Int32)) rfl ?_
                            refine Go.goto X636 hx (pc' := 313) (hb hby at_309) (by decide) (by decide) ?_
                            have C637 : CHr Z EL0 s.vm s.heap s.vm h341 := (C0.trans (CHr.keep K341 sf0 C0.1))
                            have C638 : CHr Z EL0 s.vm s.heap s.vm h342 := (C637.trans (CHr.ext E342 C637.1))
                            have fk639 : Safe Z EL0 s.vm h342 b342 := (Safe.ext E342 C637.1 (Safe.new (Nat.le_of_eq g342.symm) : Safe Z EL0 s.vm h341 b342))
                            have C640 : CHr Z EL0 s.vm s.heap s.vm h349 := (C638.trans (CHr.keep K349 (sfS fk639 sf0) C638.1))
                            have C641 : CHr Z EL0 s.vm s.heap s.vm h478 := (C640.trans (CHr.keep K478 sf0 C640.1))
                            have C642 : CHr Z EL0 s.vm s.heap s.vm h479 := (C641.trans (CHr.ext E479 C641.1))
                            have fk643 : Safe Z EL0 s.vm h479 b479 := (Safe.ext E479 C641.1 (Safe.new (Nat.le_of_eq g479.symm) : Safe Z EL0 s.vm h478 b479))
                            have C644 : CHr Z EL0 s.vm s.heap s.vm h486 := (C642.trans (CHr.keep K486 (sfS fk643 sf0) C642.1))
                            have hk645 := (Nat.le_trans (Nat.le_trans (Nat.le_trans (Nat.le_trans (Nat.le_trans (Nat.le_trans (Nat.le_refl _) K341.1) E342.1) K349.1) K478.1) E479.1) K486.1)
                            refine Go.retNW X636 hx hlk hZ (own_EW hw) e636_2 hS0 hk645 C644 (t := .boolean) hret (by simp) (hb hby at_313) (by decide) (by decide) (fun hat => ?_)
                            exact ⟨rfl, (Fr.app (Fr.app (Fr.app (Fr.app (Fr.app (Fr.app (Fr.nil n0) N341) N349) N478) N486) N635_2) N636_2)⟩
                  · refine Go.iload X349 hx (pc' := 204) rfl (hb hby at_202) rfl ?_
                    refine Go.iload X349 hx (pc' := 206) rfl (hb hby at_204) rfl ?_
                    refine Go.iload X349 hx (pc' := 208) rfl (hb hby at_206) rfl ?_
                    have Kp647 : Keep h0 h349 [] := (Kp346.trans K349 (allS (Or.inr sz348) all0))
                    have Zn646 : n0 ≤ h349.size := Nat.le_trans Z0 Kp647.1
                    have O648 := (O0.keep K341 all0)
                    have O649 := (O648.ext E342)
                    have O650 := (O649.keep K349 (allS ge347 all0))
                    refine Go.callS X349 hx hZ hown (tw_0 hw) (tw_1 hw) (tw_2 hw) (tw_3 hw) (by decide) (tw_3 hw) (tw_2 hw) (au_29 l Z a0 hw jv7_5 jv8_6 gz1 gv5 h349 n0 Zn646 O650 G jr7_5 jr8_6) e349 (argsL := [(.int 2), (.int jv7_5), (.int jv8_6)]) (rest := []) (pc' := 211) rfl (by rw [hml]; rfl) (lenOf pd_2 rfl) rfl rfl (W := 0) (Nat.le_of_eq rfl) (by decide) (by decide) (by decide) (by decide) (hb hby at_208) ?_
                    intro v651 T651 L651 q651 X651
                    obtain ⟨h651, e651⟩ : ∃ z, T651.heap = z := ⟨_, rfl⟩
                    rw [e651] at q651
                    obtain ⟨z651_0, z651_1, b651_0, b651_1, k651_0, d651_0, d651_1, rfl, N651, K651, s651_0, s651_1, n651_0, F651_0, F651_1, F651_2, F651_3, F651_4⟩ := q651
                    show Go _ _ _ _ (T651.setTop (mkF m 211 #[.val (.int p0), .val (.int p1), .val (.int p2), .val (.int z1), .val (.int z5), .val (.int jv7_5), .val (.int jv8_6), .val (.int 1), .val (.int 2), .val (.int jv17_9), .val (.int jv18_10), .val (.int z21), .val (.ref b341_0), .val (.ref b342), .unset, .unset, .unset, .unset] [(.ref b651_0)]))
                    refine Go.astore X651 hx (pc' := 213) rfl (hb hby at_211) (Ls' := #[.val (.int p0), .val (.int p1), .val (.int p2), .val (.int z1), .val (.int z5), .val (.int jv7_5), .val (.int jv8_6), .val (.int 1), .val (.int 2), .val (.int jv17_9), .val (.int jv18_10), .val (.int z21), .val (.ref b341_0), .val (.ref b342), .val (.ref b651_0), .unset, .unset, .unset]) rfl rfl ?_
                    refine Go.new X651 hx hZ hown (tw_34 hw) (tw_35 hw) (tw_36 hw) e651 (by decide) (by decide) (pc' := 216) rfl (hb hby at_213) ?_
                    intro T652 h652 b652 e652 E652 g652 A652 D652 X652
                    have b652_word : Fld Z h652 b652 "com/example/tough_filter/toughfilter/Expression$Keyword" "word" "Ljava/lang/String;" .null := D652 (Or.inr (tw_47 hw)) (ty := (.object "java/lang/String")) (by decide)
                    have b652_pinyin : Fld Z h652 b652 "com/example/tough_filter/toughfilter/Expression$Keyword" "pinyin" "Z" (.int 0) := D652 (Or.inr (tw_49 hw)) (ty := .boolean) (by decide)
                    refine Go.dup X652 hx (pc' := 217) rfl (hb hby at_216) rfl ?_
                    refine Go.aload X652 hx (pc' := 219) rfl (hb hby at_217) rfl rfl ?_
                    refine Go.iload X652 hx (pc' := 221) rfl (hb hby at_219) rfl ?_
                    have r653 : -128 ≤ z651_0.toInt ∧ z651_0.toInt ≤ 127 := own_ri2b d651_0
                    have r654 : -128 ≤ z651_1.toInt ∧ z651_1.toInt ≤ 127 := own_ri2b d651_1
                    have Kp656 : Keep h0 h651 [] := (Kp647.trans K651 all0)
                    have Kp657 : Keep h0 h652 [] := (Kp656.ext E652)
                    have Zn655 : n0 ≤ h652.size := Nat.le_trans Z0 Kp657.1
                    have sz659 : h0.size ≤ b652 := Nat.le_trans Kp656.1 (Nat.le_of_eq g652.symm)
                    have ge658 : n0 ≤ b652 := Nat.le_trans Z0 sz659
                    refine Go.callN X652 hx hZ hown rfl (tw_37 hw) (tw_38 hw) (tw_39 hw) (by decide) (tw_39 hw) (tw_36 hw) (au_35 l Z a0 hw b652 b651_0 jv18_10 h652 n0 Zn655 A652 b652_pinyin b652_word jr18_10 ge658) e652 (a := b652) (argsL := [(.ref b651_0), (.int jv18_10)]) (rest := [(.ref b652)]) (pc' := 224) rfl (by rw [hml]; rfl) (lenOf pd_4 rfl) rfl rfl (W := 1) (Nat.le_of_eq rfl) (by decide) (by decide) (by decide) (by decide) (hb hby at_221) ?_
                    intro v660 T660 L660 q660 X660
                    obtain ⟨h660, e660⟩ : ∃ z, T660.heap = z := ⟨_, rfl⟩
                    rw [e660] at q660
                    obtain ⟨rfl, N660, K660, F660_0, F660_1, F660_2⟩ := q660
                    show Go _ _ _ _ (T660.setTop (mkF m 224 #[.val (.int p0), .val (.int p1), .val (.int p2), .val (.int z1), .val (.int z5), .val (.int jv7_5), .val (.int jv8_6), .val (.int 1), .val (.int 2), .val (.int jv17_9), .val (.int jv18_10), .val (.int z21), .val (.ref b341_0), .val (.ref b342), .val (.ref b651_0), .unset, .unset, .unset] [(.ref b652)]))
                    refine Go.astore X660 hx (pc' := 226) rfl (hb hby at_224) (Ls' := #[.val (.int p0), .val (.int p1), .val (.int p2), .val (.int z1), .val (.int z5), .val (.int jv7_5), .val (.int jv8_6), .val (.int 1), .val (.int 2), .val (.int jv17_9), .val (.int jv18_10), .val (.int z21), .val (.ref b341_0), .val (.ref b342), .val (.ref b651_0), .val (.ref b652), .unset, .unset]) rfl rfl ?_
                    refine Go.iload X660 hx (pc' := 228) rfl (hb hby at_226) rfl ?_
                    refine Go.iload X660 hx (pc' := 230) rfl (hb hby at_228) rfl ?_
                    refine Go.icmpYes X660 hx (pc' := 262) (hb hby at_230) (by decide) (by decide) (by decide) ?_
                    refine Go.iconst X660 hx (pc' := 263) rfl (hb hby at_262) (v := (0 : Int32)) rfl ?_
                    refine Go.istore X660 hx (pc' := 265) rfl (hb hby at_263) (Ls' := #[.val (.int p0), .val (.int p1), .val (.int p2), .val (.int z1), .val (.int z5), .val (.int jv7_5), .val (.int jv8_6), .val (.int 1), .val (.int 2), .val (.int jv17_9), .val (.int jv18_10), .val (.int z21), .val (.ref b341_0), .val (.ref b342), .val (.ref b651_0), .val (.ref b652), .val (.int 0), .unset]) rfl ?_
                    refine Go.iload X660 hx (pc' := 267) rfl (hb hby at_265) rfl ?_
                    refine Go.iload X660 hx (pc' := 269) rfl (hb hby at_267) rfl ?_
                    by_cases hc661 : jv17_9 = jv18_10
                    · refine Go.icmpNo X660 hx (pc' := 272) rfl (hb hby at_269) (teq hc661).2 ?_
                      refine Go.iload X660 hx (pc' := 274) rfl (hb hby at_272) rfl ?_
                      refine Go.ifYes X660 hx (pc' := 281) (hb hby at_274) (by decide) (by decide) (by decide) ?_
                      refine Go.iconst X660 hx (pc' := 282) rfl (hb hby at_281) (v := (0 : Int32)) rfl ?_
                      refine Go.istore X660 hx (pc' := 284) rfl (hb hby at_282) (Ls' := #[.val (.int p0), .val (.int p1), .val (.int p2), .val (.int z1), .val (.int z5), .val (.int jv7_5), .val (.int jv8_6), .val (.int 1), .val (.int 2), .val (.int jv17_9), .val (.int jv18_10), .val (.int z21), .val (.ref b341_0), .val (.ref b342), .val (.ref b651_0), .val (.ref b652), .val (.int 0), .val (.int 0)]) rfl ?_
                      refine Go.aload X660 hx (pc' := 286) rfl (hb hby at_284) rfl rfl ?_
                      refine Go.aload X660 hx (pc' := 288) rfl (hb hby at_286) rfl rfl ?_
                      have Kp663 : Keep h0 h660 [] := (Kp657.trans K660 (allS (Or.inr sz659) all0))
                      have Zn662 : n0 ≤ h660.size := Nat.le_trans Z0 Kp663.1
                      have O664 := (O650.keep K651 all0)
                      have O665 := (O664.ext E652)
                      have O666 := (O665.keep K660 (allS ge658 all0))
                      have fk668 : Exa Z h651 b342 "com/example/tough_filter/toughfilter/Expression$Keyword" := (F349_0.keep K651)
                      have ne667 : b342 ≠ b652 := Nat.ne_of_lt (Nat.lt_of_lt_of_le fk668.lt (Nat.le_of_eq g652.symm))
                      have fk669 : Fld Z h660 b342 "com/example/tough_filter/toughfilter/Expression$Keyword" "pinyin" "Z" (.int jv17_9) := (((F349_1.keep K651 nin0).ext E652).keep K660 (ninS ne667 nin0))
                      have fk670 : Fld Z h660 b342 "com/example/tough_filter/toughfilter/Expression$Keyword" "word" "Ljava/lang/String;" (.ref b341_0) := (((F349_2.keep K651 nin0).ext E652).keep K660 (ninS ne667 nin0))
                      have fk671 : Exa Z h660 b341_0 "java/lang/String" := (((((F341_0.ext E342).keep K349).keep K651).ext E652).keep K660)
                      have ne672 : b341_0 ≠ b342 := Nat.ne_of_lt (Nat.lt_of_lt_of_le F341_0.lt (Nat.le_of_eq g342.symm))
                      have fk674 : Exa Z h651 b341_0 "java/lang/String" := (((F341_0.ext E342).keep K349).keep K651)
                      have ne673 : b341_0 ≠ b652 := Nat.ne_of_lt (Nat.lt_of_lt_of_le fk674.lt (Nat.le_of_eq g652.symm))
                      have fk675 : Fld Z h660 b341_0 "java/lang/String" "coder" "B" (.int 0) := (((((F341_1.ext E342).keep K349 (ninS ne672 nin0)).keep K651 nin0).ext E652).keep K660 (ninS ne673 nin0))
                      have fk676 : Fld Z h660 b341_0 "java/lang/String" "value" "[B" (.ref b341_1) := (((((F341_2.ext E342).keep K349 (ninS ne672 nin0)).keep K651 nin0).ext E652).keep K660 (ninS ne673 nin0))
                      have fk677 : Exa Z h660 b651_0 "java/lang/String" := ((F651_0.ext E652).keep K660)
                      have ne678 : b651_0 ≠ b652 := Nat.ne_of_lt (Nat.lt_of_lt_of_le F651_0.lt (Nat.le_of_eq g652.symm))
                      have fk679 : Fld Z h660 b651_0 "java/lang/String" "coder" "B" (.int 0) := ((F651_1.ext E652).keep K660 (ninS ne678 nin0))
                      have fk680 : Fld Z h660 b651_0 "java/lang/String" "value" "[B" (.ref b651_1) := ((F651_2.ext E652).keep K660 (ninS ne678 nin0))
                      have ne681 : b341_1 ≠ b342 := Nat.ne_of_lt (Nat.lt_of_lt_of_le F341_3.lt (Nat.le_of_eq g342.symm))
                      have fk683 := (((F341_3.ext E342).keep K349 (ninS ne681 nin0)).keep K651 nin0)
                      have ne682 : b341_1 ≠ b652 := Nat.ne_of_lt (Nat.lt_of_lt_of_le fk683.lt (Nat.le_of_eq g652.symm))
                      have fk684 := (((((F341_3.ext E342).keep K349 (ninS ne681 nin0)).keep K651 nin0).ext E652).keep K660 (ninS ne682 nin0))
                      have ne685 : b651_1 ≠ b652 := Nat.ne_of_lt (Nat.lt_of_lt_of_le F651_3.lt (Nat.le_of_eq g652.symm))
                      have fk686 := ((F651_3.ext E652).keep K660 (ninS ne685 nin0))
                      have fk688 : Exa Z h349 b341_0 "java/lang/String" := ((F341_0.ext E342).keep K349)
                      have ne687 : b341_0 ≠ b651_0 := Nat.ne_of_lt (Nat.lt_of_lt_of_le fk688.lt s651_0)
                      have fk689 : Exa Z h660 b342 "com/example/tough_filter/toughfilter/Expression$Keyword" := ((fk668.ext E652).keep K660)
                      refine Go.callV X660 hx hZ hown (tw_53 hw) (tw_54 hw) (notFace_of_selects (args := #[]) (mvT hZ (tw_56 hw))) (tw_56 hw) (tw_55 hw) (by decide) (tw_57 hw) (tw_36 hw) (au_49 l Z a0 hw b342 b652 jv17_9 b341_0 jv18_10 b651_0 b341_1 b651_1 k341_0 z341_0 k651_0 z651_0 z651_1 gz1 gv5 h660 n0 Zn662 O666 G fk669 fk670 F660_0 F660_1 F660_2 fk671 fk675 fk676 fk677 fk679 fk680 fk684 fk686 ne687) e660 fk689 (argsL := [(.ref b652)]) (rest := []) (pc' := 291) rfl (by rw [hml]; rfl) (lenOf pd_5 rfl) rfl rfl (W := 0) (Nat.le_of_eq rfl) (by decide) (by decide) (by decide) (by decide) (hb hby at_288) ?_
                      intro v690 T690 L690 q690 X690
                      obtain ⟨rfl, N690, e690⟩ := q690
                      show Go _ _ _ _ (T690.setTop (mkF m 291 #[.val (.int p0), .val (.int p1), .val (.int p2), .val (.int z1), .val (.int z5), .val (.int jv7_5), .val (.int jv8_6), .val (.int 1), .val (.int 2), .val (.int jv17_9), .val (.int jv18_10), .val (.int z21), .val (.ref b341_0), .val (.ref b342), .val (.ref b651_0), .val (.ref b652), .val (.int 0), .val (.int 0)] [(.int 0)]))
                      refine Go.iload X690 hx (pc' := 293) rfl (hb hby at_291) rfl ?_
                      refine Go.icmpNo X690 hx (pc' := 296) rfl (hb hby at_293) (by decide) ?_
                      refine Go.aload X690 hx (pc' := 298) rfl (hb hby at_296) rfl rfl ?_
                      refine Go.aload X690 hx (pc' := 300) rfl (hb hby at_298) rfl rfl ?_
                      refine Go.callV X690 hx hZ hown (tw_53 hw) (tw_54 hw) (notFace_of_selects (args := #[]) (mvT hZ (tw_56 hw))) (tw_56 hw) (tw_55 hw) (by decide) (tw_57 hw) (tw_36 hw) (au_52 l Z a0 hw b652 b342 jv18_10 b651_0 jv17_9 b341_0 b651_1 b341_1 k651_0 z651_0 z651_1 k341_0 z341_0 gz1 gv5 h660 n0 Zn662 O666 G F660_1 F660_2 fk689 fk669 fk670 fk677 fk679 fk680 fk671 fk675 fk676 fk686 fk684 (Ne.symm ne687)) e690 F660_0 (argsL := [(.ref b342)]) (rest := []) (pc' := 303) rfl (by rw [hml]; rfl) (lenOf pd_5 rfl) rfl rfl (W := 0) (Nat.le_of_eq rfl) (by decide) (by decide) (by decide) (by decide) (hb hby at_300) ?_
                      intro v691 T691 L691 q691 X691
                      obtain ⟨rfl, N691, e691⟩ := q691
                      show Go _ _ _ _ (T691.setTop (mkF m 303 #[.val (.int p0), .val (.int p1), .val (.int p2), .val (.int z1), .val (.int z5), .val (.int jv7_5), .val (.int jv8_6), .val (.int 1), .val (.int 2), .val (.int jv17_9), .val (.int jv18_10), .val (.int z21), .val (.ref b341_0), .val (.ref b342), .val (.ref b651_0), .val (.ref b652), .val (.int 0), .val (.int 0)] [(.int 0)]))
                      refine Go.iload X691 hx (pc' := 305) rfl (hb hby at_303) rfl ?_
                      refine Go.icmpNo X691 hx (pc' := 308) rfl (hb hby at_305) (by decide) ?_
                      refine Go.iconst X691 hx (pc' := 309) rfl (hb hby at_308) (v := (1 : Int32)) rfl ?_
                      refine Go.goto X691 hx (pc' := 313) (hb hby at_309) (by decide) (by decide) ?_
                      have C692 : CHr Z EL0 s.vm s.heap s.vm h341 := (C0.trans (CHr.keep K341 sf0 C0.1))
                      have C693 : CHr Z EL0 s.vm s.heap s.vm h342 := (C692.trans (CHr.ext E342 C692.1))
                      have fk694 : Safe Z EL0 s.vm h342 b342 := (Safe.ext E342 C692.1 (Safe.new (Nat.le_of_eq g342.symm) : Safe Z EL0 s.vm h341 b342))
                      have C695 : CHr Z EL0 s.vm s.heap s.vm h349 := (C693.trans (CHr.keep K349 (sfS fk694 sf0) C693.1))
                      have C696 : CHr Z EL0 s.vm s.heap s.vm h651 := (C695.trans (CHr.keep K651 sf0 C695.1))
                      have C697 : CHr Z EL0 s.vm s.heap s.vm h652 := (C696.trans (CHr.ext E652 C696.1))
                      have fk698 : Safe Z EL0 s.vm h652 b652 := (Safe.ext E652 C696.1 (Safe.new (Nat.le_of_eq g652.symm) : Safe Z EL0 s.vm h651 b652))
                      have C699 : CHr Z EL0 s.vm s.heap s.vm h660 := (C697.trans (CHr.keep K660 (sfS fk698 sf0) C697.1))
                      have hk700 := (Nat.le_trans (Nat.le_trans (Nat.le_trans (Nat.le_trans (Nat.le_trans (Nat.le_trans (Nat.le_refl _) K341.1) E342.1) K349.1) K651.1) E652.1) K660.1)
                      refine Go.retNW X691 hx hlk hZ (own_EW hw) e691 hS0 hk700 C699 (t := .boolean) hret (by simp) (hb hby at_313) (by decide) (by decide) (fun hat => ?_)
                      exact ⟨rfl, (Fr.app (Fr.app (Fr.app (Fr.app (Fr.app (Fr.app (Fr.nil n0) N341) N349) N651) N660) N690) N691)⟩
                    · refine Go.icmpYes X660 hx (pc' := 281) (hb hby at_269) (feq hc661).2 (by decide) (by decide) ?_
                      refine Go.iconst X660 hx (pc' := 282) rfl (hb hby at_281) (v := (0 : Int32)) rfl ?_
                      refine Go.istore X660 hx (pc' := 284) rfl (hb hby at_282) (Ls' := #[.val (.int p0), .val (.int p1), .val (.int p2), .val (.int z1), .val (.int z5), .val (.int jv7_5), .val (.int jv8_6), .val (.int 1), .val (.int 2), .val (.int jv17_9), .val (.int jv18_10), .val (.int z21), .val (.ref b341_0), .val (.ref b342), .val (.ref b651_0), .val (.ref b652), .val (.int 0), .val (.int 0)]) rfl ?_
                      refine Go.aload X660 hx (pc' := 286) rfl (hb hby at_284) rfl rfl ?_
                      refine Go.aload X660 hx (pc' := 288) rfl (hb hby at_286) rfl rfl ?_
                      have Kp702 : Keep h0 h660 [] := (Kp657.trans K660 (allS (Or.inr sz659) all0))
                      have Zn701 : n0 ≤ h660.size := Nat.le_trans Z0 Kp702.1
                      have O703 := (O650.keep K651 all0)
                      have O704 := (O703.ext E652)
                      have O705 := (O704.keep K660 (allS ge658 all0))
                      have fk707 : Exa Z h651 b342 "com/example/tough_filter/toughfilter/Expression$Keyword" := (F349_0.keep K651)
                      have ne706 : b342 ≠ b652 := Nat.ne_of_lt (Nat.lt_of_lt_of_le fk707.lt (Nat.le_of_eq g652.symm))
                      have fk708 : Fld Z h660 b342 "com/example/tough_filter/toughfilter/Expression$Keyword" "pinyin" "Z" (.int jv17_9) := (((F349_1.keep K651 nin0).ext E652).keep K660 (ninS ne706 nin0))
                      have fk709 : Fld Z h660 b342 "com/example/tough_filter/toughfilter/Expression$Keyword" "word" "Ljava/lang/String;" (.ref b341_0) := (((F349_2.keep K651 nin0).ext E652).keep K660 (ninS ne706 nin0))
                      have fk710 : Exa Z h660 b341_0 "java/lang/String" := (((((F341_0.ext E342).keep K349).keep K651).ext E652).keep K660)
                      have ne711 : b341_0 ≠ b342 := Nat.ne_of_lt (Nat.lt_of_lt_of_le F341_0.lt (Nat.le_of_eq g342.symm))
                      have fk713 : Exa Z h651 b341_0 "java/lang/String" := (((F341_0.ext E342).keep K349).keep K651)
                      have ne712 : b341_0 ≠ b652 := Nat.ne_of_lt (Nat.lt_of_lt_of_le fk713.lt (Nat.le_of_eq g652.symm))
                      have fk714 : Fld Z h660 b341_0 "java/lang/String" "coder" "B" (.int 0) := (((((F341_1.ext E342).keep K349 (ninS ne711 nin0)).keep K651 nin0).ext E652).keep K660 (ninS ne712 nin0))
                      have fk715 : Fld Z h660 b341_0 "java/lang/String" "value" "[B" (.ref b341_1) := (((((F341_2.ext E342).keep K349 (ninS ne711 nin0)).keep K651 nin0).ext E652).keep K660 (ninS ne712 nin0))
                      have fk716 : Exa Z h660 b651_0 "java/lang/String" := ((F651_0.ext E652).keep K660)
                      have ne717 : b651_0 ≠ b652 := Nat.ne_of_lt (Nat.lt_of_lt_of_le F651_0.lt (Nat.le_of_eq g652.symm))
                      have fk718 : Fld Z h660 b651_0 "java/lang/String" "coder" "B" (.int 0) := ((F651_1.ext E652).keep K660 (ninS ne717 nin0))
                      have fk719 : Fld Z h660 b651_0 "java/lang/String" "value" "[B" (.ref b651_1) := ((F651_2.ext E652).keep K660 (ninS ne717 nin0))
                      have ne720 : b341_1 ≠ b342 := Nat.ne_of_lt (Nat.lt_of_lt_of_le F341_3.lt (Nat.le_of_eq g342.symm))
                      have fk722 := (((F341_3.ext E342).keep K349 (ninS ne720 nin0)).keep K651 nin0)
                      have ne721 : b341_1 ≠ b652 := Nat.ne_of_lt (Nat.lt_of_lt_of_le fk722.lt (Nat.le_of_eq g652.symm))
                      have fk723 := (((((F341_3.ext E342).keep K349 (ninS ne720 nin0)).keep K651 nin0).ext E652).keep K660 (ninS ne721 nin0))
                      have ne724 : b651_1 ≠ b652 := Nat.ne_of_lt (Nat.lt_of_lt_of_le F651_3.lt (Nat.le_of_eq g652.symm))
                      have fk725 := ((F651_3.ext E652).keep K660 (ninS ne724 nin0))
                      have fk727 : Exa Z h349 b341_0 "java/lang/String" := ((F341_0.ext E342).keep K349)
                      have ne726 : b341_0 ≠ b651_0 := Nat.ne_of_lt (Nat.lt_of_lt_of_le fk727.lt s651_0)
                      have fk728 : Exa Z h660 b342 "com/example/tough_filter/toughfilter/Expression$Keyword" := ((fk707.ext E652).keep K660)
                      refine Go.callV X660 hx hZ hown (tw_53 hw) (tw_54 hw) (notFace_of_selects (args := #[]) (mvT hZ (tw_56 hw))) (tw_56 hw) (tw_55 hw) (by decide) (tw_57 hw) (tw_36 hw) (au_49 l Z a0 hw b342 b652 jv17_9 b341_0 jv18_10 b651_0 b341_1 b651_1 k341_0 z341_0 k651_0 z651_0 z651_1 gz1 gv5 h660 n0 Zn701 O705 G fk708 fk709 F660_0 F660_1 F660_2 fk710 fk714 fk715 fk716 fk718 fk719 fk723 fk725 ne726) e660 fk728 (argsL := [(.ref b652)]) (rest := []) (pc' := 291) rfl (by rw [hml]; rfl) (lenOf pd_5 rfl) rfl rfl (W := 0) (Nat.le_of_eq rfl) (by decide) (by decide) (by decide) (by decide) (hb hby at_288) ?_
                      intro v729 T729 L729 q729 X729
                      obtain ⟨rfl, N729, e729⟩ := q729
                      show Go _ _ _ _ (T729.setTop (mkF m 291 #[.val (.int p0), .val (.int p1), .val (.int p2), .val (.int z1), .val (.int z5), .val (.int jv7_5), .val (.int jv8_6), .val (.int 1), .val (.int 2), .val (.int jv17_9), .val (.int jv18_10), .val (.int z21), .val (.ref b341_0), .val (.ref b342), .val (.ref b651_0), .val (.ref b652), .val (.int 0), .val (.int 0)] [(.int 0)]))
                      refine Go.iload X729 hx (pc' := 293) rfl (hb hby at_291) rfl ?_
                      refine Go.icmpNo X729 hx (pc' := 296) rfl (hb hby at_293) (by decide) ?_
                      refine Go.aload X729 hx (pc' := 298) rfl (hb hby at_296) rfl rfl ?_
                      refine Go.aload X729 hx (pc' := 300) rfl (hb hby at_298) rfl rfl ?_
                      refine Go.callV X729 hx hZ hown (tw_53 hw) (tw_54 hw) (notFace_of_selects (args := #[]) (mvT hZ (tw_56 hw))) (tw_56 hw) (tw_55 hw) (by decide) (tw_57 hw) (tw_36 hw) (au_52 l Z a0 hw b652 b342 jv18_10 b651_0 jv17_9 b341_0 b651_1 b341_1 k651_0 z651_0 z651_1 k341_0 z341_0 gz1 gv5 h660 n0 Zn701 O705 G F660_1 F660_2 fk728 fk708 fk709 fk716 fk718 fk719 fk710 fk714 fk715 fk725 fk723 (Ne.symm ne726)) e729 F660_0 (argsL := [(.ref b342)]) (rest := []) (pc' := 303) rfl (by rw [hml]; rfl) (lenOf pd_5 rfl) rfl rfl (W := 0) (Nat.le_of_eq rfl) (by decide) (by decide) (by decide) (by decide) (hb hby at_300) ?_
                      intro v730 T730 L730 q730 X730
                      obtain ⟨rfl, N730, e730⟩ := q730
                      show Go _ _ _ _ (T730.setTop (mkF m 303 #[.val (.int p0), .val (.int p1), .val (.int p2), .val (.int z1), .val (.int z5), .val (.int jv7_5), .val (.int jv8_6), .val (.int 1), .val (.int 2), .val (.int jv17_9), .val (.int jv18_10), .val (.int z21), .val (.ref b341_0), .val (.ref b342), .val (.ref b651_0), .val (.ref b652), .val (.int 0), .val (.int 0)] [(.int 0)]))
                      refine Go.iload X730 hx (pc' := 305) rfl (hb hby at_303) rfl ?_
                      refine Go.icmpNo X730 hx (pc' := 308) rfl (hb hby at_305) (by decide) ?_
                      refine Go.iconst X730 hx (pc' := 309) rfl (hb hby at_308) (v := (1 : Int32)) rfl ?_
                      refine Go.goto X730 hx (pc' := 313) (hb hby at_309) (by decide) (by decide) ?_
                      have C731 : CHr Z EL0 s.vm s.heap s.vm h341 := (C0.trans (CHr.keep K341 sf0 C0.1))
                      have C732 : CHr Z EL0 s.vm s.heap s.vm h342 := (C731.trans (CHr.ext E342 C731.1))
                      have fk733 : Safe Z EL0 s.vm h342 b342 := (Safe.ext E342 C731.1 (Safe.new (Nat.le_of_eq g342.symm) : Safe Z EL0 s.vm h341 b342))
                      have C734 : CHr Z EL0 s.vm s.heap s.vm h349 := (C732.trans (CHr.keep K349 (sfS fk733 sf0) C732.1))
                      have C735 : CHr Z EL0 s.vm s.heap s.vm h651 := (C734.trans (CHr.keep K651 sf0 C734.1))
                      have C736 : CHr Z EL0 s.vm s.heap s.vm h652 := (C735.trans (CHr.ext E652 C735.1))
                      have fk737 : Safe Z EL0 s.vm h652 b652 := (Safe.ext E652 C735.1 (Safe.new (Nat.le_of_eq g652.symm) : Safe Z EL0 s.vm h651 b652))
                      have C738 : CHr Z EL0 s.vm s.heap s.vm h660 := (C736.trans (CHr.keep K660 (sfS fk737 sf0) C736.1))
                      have hk739 := (Nat.le_trans (Nat.le_trans (Nat.le_trans (Nat.le_trans (Nat.le_trans (Nat.le_trans (Nat.le_refl _) K341.1) E342.1) K349.1) K651.1) E652.1) K660.1)
                      refine Go.retNW X730 hx hlk hZ (own_EW hw) e730 hS0 hk739 C738 (t := .boolean) hret (by simp) (hb hby at_313) (by decide) (by decide) (fun hat => ?_)
                      exact ⟨rfl, (Fr.app (Fr.app (Fr.app (Fr.app (Fr.app (Fr.app (Fr.nil n0) N341) N349) N651) N660) N729) N730)⟩
          · refine Go.iload X0 hx (pc' := 120) rfl (hb hby at_118) rfl ?_
            refine Go.iloadN X0 hx (pc' := 121) rfl (hb hby at_120) rfl ?_
            refine Go.iload X0 hx (pc' := 123) rfl (hb hby at_121) rfl ?_
            refine Go.callS X0 hx hZ hown (tw_0 hw) (tw_1 hw) (tw_2 hw) (tw_3 hw) (by decide) (tw_3 hw) (tw_2 hw) (au_29 l Z a0 hw z1 z5 gz1 gv5 h0 n0 Z0 O0 G r2 r6) e0 (argsL := [(.int 2), (.int z1), (.int z5)]) (rest := []) (pc' := 126) rfl (by rw [hml]; rfl) (lenOf pd_2 rfl) rfl rfl (W := 0) (Nat.le_of_eq rfl) (by decide) (by decide) (by decide) (by decide) (hb hby at_123) ?_
            intro v740 T740 L740 q740 X740
            obtain ⟨h740, e740⟩ : ∃ z, T740.heap = z := ⟨_, rfl⟩
            rw [e740] at q740
            obtain ⟨z740_0, z740_1, b740_0, b740_1, k740_0, d740_0, d740_1, rfl, N740, K740, s740_0, s740_1, n740_0, F740_0, F740_1, F740_2, F740_3, F740_4⟩ := q740
            show Go _ _ _ _ (T740.setTop (mkF m 126 #[.val (.int p0), .val (.int p1), .val (.int p2), .val (.int z1), .val (.int z5), .val (.int jv7_5), .val (.int jv8_6), .val (.int 2), .val (.int z16), .val (.int jv17_9), .val (.int jv18_10), .val (.int z21), .unset, .unset, .unset, .unset, .unset, .unset] [(.ref b740_0)]))
            refine Go.astore X740 hx (pc' := 128) rfl (hb hby at_126) (Ls' := #[.val (.int p0), .val (.int p1), .val (.int p2), .val (.int z1), .val (.int z5), .val (.int jv7_5), .val (.int jv8_6), .val (.int 2), .val (.int z16), .val (.int jv17_9), .val (.int jv18_10), .val (.int z21), .val (.ref b740_0), .unset, .unset, .unset, .unset, .unset]) rfl rfl ?_
            refine Go.new X740 hx hZ hown (tw_34 hw) (tw_35 hw) (tw_36 hw) e740 (by decide) (by decide) (pc' := 131) rfl (hb hby at_128) ?_
            intro T741 h741 b741 e741 E741 g741 A741 D741 X741
            have b741_word : Fld Z h741 b741 "com/example/tough_filter/toughfilter/Expression$Keyword" "word" "Ljava/lang/String;" .null := D741 (Or.inr (tw_47 hw)) (ty := (.object "java/lang/String")) (by decide)
            have b741_pinyin : Fld Z h741 b741 "com/example/tough_filter/toughfilter/Expression$Keyword" "pinyin" "Z" (.int 0) := D741 (Or.inr (tw_49 hw)) (ty := .boolean) (by decide)
            refine Go.dup X741 hx (pc' := 132) rfl (hb hby at_131) rfl ?_
            refine Go.aload X741 hx (pc' := 134) rfl (hb hby at_132) rfl rfl ?_
            refine Go.iload X741 hx (pc' := 136) rfl (hb hby at_134) rfl ?_
            have r742 : -128 ≤ z740_0.toInt ∧ z740_0.toInt ≤ 127 := own_ri2b d740_0
            have r743 : -128 ≤ z740_1.toInt ∧ z740_1.toInt ≤ 127 := own_ri2b d740_1
            have Kp745 : Keep h0 h740 [] := ((Keep.refl h0 []).trans K740 all0)
            have Kp746 : Keep h0 h741 [] := (Kp745.ext E741)
            have Zn744 : n0 ≤ h741.size := Nat.le_trans Z0 Kp746.1
            have sz748 : h0.size ≤ b741 := Nat.le_trans Kp745.1 (Nat.le_of_eq g741.symm)
            have ge747 : n0 ≤ b741 := Nat.le_trans Z0 sz748
            refine Go.callN X741 hx hZ hown rfl (tw_37 hw) (tw_38 hw) (tw_39 hw) (by decide) (tw_39 hw) (tw_36 hw) (au_35 l Z a0 hw b741 b740_0 jv17_9 h741 n0 Zn744 A741 b741_pinyin b741_word jr17_9 ge747) e741 (a := b741) (argsL := [(.ref b740_0), (.int jv17_9)]) (rest := [(.ref b741)]) (pc' := 139) rfl (by rw [hml]; rfl) (lenOf pd_4 rfl) rfl rfl (W := 1) (Nat.le_of_eq rfl) (by decide) (by decide) (by decide) (by decide) (hb hby at_136) ?_
            intro v749 T749 L749 q749 X749
            obtain ⟨h749, e749⟩ : ∃ z, T749.heap = z := ⟨_, rfl⟩
            rw [e749] at q749
            obtain ⟨rfl, N749, K749, F749_0, F749_1, F749_2⟩ := q749
            show Go _ _ _ _ (T749.setTop (mkF m 139 #[.val (.int p0), .val (.int p1), .val (.int p2), .val (.int z1), .val (.int z5), .val (.int jv7_5), .val (.int jv8_6), .val (.int 2), .val (.int z16), .val (.int jv17_9), .val (.int jv18_10), .val (.int z21), .val (.ref b740_0), .unset, .unset, .unset, .unset, .unset] [(.ref b741)]))
            refine Go.astore X749 hx (pc' := 141) rfl (hb hby at_139) (Ls' := #[.val (.int p0), .val (.int p1), .val (.int p2), .val (.int z1), .val (.int z5), .val (.int jv7_5), .val (.int jv8_6), .val (.int 2), .val (.int z16), .val (.int jv17_9), .val (.int jv18_10), .val (.int z21), .val (.ref b740_0), .val (.ref b741), .unset, .unset, .unset, .unset]) rfl rfl ?_
            refine Go.iload X749 hx (pc' := 143) rfl (hb hby at_141) rfl ?_
            refine Go.iconst X749 hx (pc' := 144) rfl (hb hby at_143) (v := (1 : Int32)) rfl ?_
            have r750 : 0 ≤ z21.toInt ∧ z21.toInt ≤ 3 := own_rand hz21 (by decide)
            by_cases hc751 : z21 = (1 : Int32)
            · refine Go.icmpNo X749 hx (pc' := 147) rfl (hb hby at_144) (teq hc751).2 ?_
              refine Go.aload X749 hx (pc' := 149) rfl (hb hby at_147) rfl rfl ?_
              refine Go.anull X749 hx (pc' := 150) rfl (hb hby at_149) ?_
              have Kp753 : Keep h0 h749 [] := (Kp746.trans K749 (allS (Or.inr sz748) all0))
              have Zn752 : n0 ≤ h749.size := Nat.le_trans Z0 Kp753.1
              refine Go.callV X749 hx hZ hown (tw_53 hw) (tw_54 hw) (notFace_of_selects (args := #[]) (mvT hZ (tw_56 hw))) (tw_56 hw) (tw_55 hw) (by decide) (tw_57 hw) (tw_36 hw) (au_55 l Z a0 hw b741 h749 n0 Zn752) e749 F749_0 (argsL := [.null]) (rest := []) (pc' := 153) rfl (by rw [hml]; rfl) (lenOf pd_5 rfl) rfl rfl (W := 0) (Nat.le_of_eq rfl) (by decide) (by decide) (by decide) (by decide) (hb hby at_150) ?_
              intro v754 T754 L754 q754 X754
              obtain ⟨rfl, N754, e754⟩ := q754
              show Go _ _ _ _ (T754.setTop (mkF m 153 #[.val (.int p0), .val (.int p1), .val (.int p2), .val (.int z1), .val (.int z5), .val (.int jv7_5), .val (.int jv8_6), .val (.int 2), .val (.int z16), .val (.int jv17_9), .val (.int jv18_10), .val (.int z21), .val (.ref b740_0), .val (.ref b741), .unset, .unset, .unset, .unset] [(.int 0)]))
              refine Go.ifNo X754 hx (pc' := 156) rfl (hb hby at_153) (by decide) ?_
              refine Go.iconst X754 hx (pc' := 157) rfl (hb hby at_156) (v := (1 : Int32)) rfl ?_
              refine Go.goto X754 hx (pc' := 161) (hb hby at_157) (by decide) (by decide) ?_
              have C755 : CHr Z EL0 s.vm s.heap s.vm h740 := (C0.trans (CHr.keep K740 sf0 C0.1))
              have C756 : CHr Z EL0 s.vm s.heap s.vm h741 := (C755.trans (CHr.ext E741 C755.1))
              have fk757 : Safe Z EL0 s.vm h741 b741 := (Safe.ext E741 C755.1 (Safe.new (Nat.le_of_eq g741.symm) : Safe Z EL0 s.vm h740 b741))
              have C758 : CHr Z EL0 s.vm s.heap s.vm h749 := (C756.trans (CHr.keep K749 (sfS fk757 sf0) C756.1))
              have hk759 := (Nat.le_trans (Nat.le_trans (Nat.le_trans (Nat.le_refl _) K740.1) E741.1) K749.1)
              refine Go.retNW X754 hx hlk hZ (own_EW hw) e754 hS0 hk759 C758 (t := .boolean) hret (by simp) (hb hby at_161) (by decide) (by decide) (fun hat => ?_)
              exact ⟨rfl, (Fr.app (Fr.app (Fr.app (Fr.nil n0) N740) N749) N754)⟩
            · refine Go.icmpYes X749 hx (pc' := 162) (hb hby at_144) (feq hc751).2 (by decide) (by decide) ?_
              refine Go.iload X749 hx (pc' := 164) rfl (hb hby at_162) rfl ?_
              refine Go.iconst X749 hx (pc' := 165) rfl (hb hby at_164) (v := (2 : Int32)) rfl ?_
              by_cases hc760 : z21 = (2 : Int32)
              · refine Go.icmpNo X749 hx (pc' := 168) rfl (hb hby at_165) (teq hc760).2 ?_
                refine Go.aload X749 hx (pc' := 170) rfl (hb hby at_168) rfl rfl ?_
                refine Go.astore X749 hx (pc' := 172) rfl (hb hby at_170) (Ls' := #[.val (.int p0), .val (.int p1), .val (.int p2), .val (.int z1), .val (.int z5), .val (.int jv7_5), .val (.int jv8_6), .val (.int 2), .val (.int z16), .val (.int jv17_9), .val (.int jv18_10), .val (.int z21), .val (.ref b740_0), .val (.ref b741), .val (.ref b740_0), .unset, .unset, .unset]) rfl rfl ?_
                refine Go.aload X749 hx (pc' := 174) rfl (hb hby at_172) rfl rfl ?_
                refine Go.aload X749 hx (pc' := 176) rfl (hb hby at_174) rfl rfl ?_
                have Kp762 : Keep h0 h749 [] := (Kp746.trans K749 (allS (Or.inr sz748) all0))
                have Zn761 : n0 ≤ h749.size := Nat.le_trans Z0 Kp762.1
                have fk763 : Exa Z h749 b740_0 "java/lang/String" := ((F740_0.ext E741).keep K749)
                refine Go.callV X749 hx hZ hown (tw_53 hw) (tw_54 hw) (notFace_of_selects (args := #[]) (mvT hZ (tw_56 hw))) (tw_56 hw) (tw_55 hw) (by decide) (tw_57 hw) (tw_36 hw) (au_56 l Z a0 hw b741 b740_0 h749 n0 Zn761 fk763) e749 F749_0 (argsL := [(.ref b740_0)]) (rest := []) (pc' := 179) rfl (by rw [hml]; rfl) (lenOf pd_5 rfl) rfl rfl (W := 0) (Nat.le_of_eq rfl) (by decide) (by decide) (by decide) (by decide) (hb hby at_176) ?_
                intro v764 T764 L764 q764 X764
                obtain ⟨rfl, N764, e764⟩ := q764
                show Go _ _ _ _ (T764.setTop (mkF m 179 #[.val (.int p0), .val (.int p1), .val (.int p2), .val (.int z1), .val (.int z5), .val (.int jv7_5), .val (.int jv8_6), .val (.int 2), .val (.int z16), .val (.int jv17_9), .val (.int jv18_10), .val (.int z21), .val (.ref b740_0), .val (.ref b741), .val (.ref b740_0), .unset, .unset, .unset] [(.int 0)]))
                refine Go.ifNo X764 hx (pc' := 182) rfl (hb hby at_179) (by decide) ?_
                refine Go.iconst X764 hx (pc' := 183) rfl (hb hby at_182) (v := (1 : Int32)) rfl ?_
                refine Go.goto X764 hx (pc' := 187) (hb hby at_183) (by decide) (by decide) ?_
                have C765 : CHr Z EL0 s.vm s.heap s.vm h740 := (C0.trans (CHr.keep K740 sf0 C0.1))
                have C766 : CHr Z EL0 s.vm s.heap s.vm h741 := (C765.trans (CHr.ext E741 C765.1))
                have fk767 : Safe Z EL0 s.vm h741 b741 := (Safe.ext E741 C765.1 (Safe.new (Nat.le_of_eq g741.symm) : Safe Z EL0 s.vm h740 b741))
                have C768 : CHr Z EL0 s.vm s.heap s.vm h749 := (C766.trans (CHr.keep K749 (sfS fk767 sf0) C766.1))
                have hk769 := (Nat.le_trans (Nat.le_trans (Nat.le_trans (Nat.le_refl _) K740.1) E741.1) K749.1)
                refine Go.retNW X764 hx hlk hZ (own_EW hw) e764 hS0 hk769 C768 (t := .boolean) hret (by simp) (hb hby at_187) (by decide) (by decide) (fun hat => ?_)
                exact ⟨rfl, (Fr.app (Fr.app (Fr.app (Fr.nil n0) N740) N749) N764)⟩
              · refine Go.icmpYes X749 hx (pc' := 188) (hb hby at_165) (feq hc760).2 (by decide) (by decide) ?_
                refine Go.iload X749 hx (pc' := 190) rfl (hb hby at_188) rfl ?_
                refine Go.iconst X749 hx (pc' := 191) rfl (hb hby at_190) (v := (3 : Int32)) rfl ?_
                by_cases hc770 : z21 = (3 : Int32)
                · refine Go.icmpNo X749 hx (pc' := 194) rfl (hb hby at_191) (teq hc770).2 ?_
                  refine Go.aload X749 hx (pc' := 196) rfl (hb hby at_194) rfl rfl ?_
                  refine Go.aload X749 hx (pc' := 198) rfl (hb hby at_196) rfl rfl ?_
                  have Kp772 : Keep h0 h749 [] := (Kp746.trans K749 (allS (Or.inr sz748) all0))
                  have Zn771 : n0 ≤ h749.size := Nat.le_trans Z0 Kp772.1
                  have fk773 : Exa Z h749 b740_0 "java/lang/String" := ((F740_0.ext E741).keep K749)
                  refine Go.callV X749 hx hZ hown (tw_53 hw) (tw_54 hw) (notFace_of_selects (args := #[]) (mvT hZ (tw_56 hw))) (tw_56 hw) (tw_55 hw) (by decide) (tw_57 hw) (tw_36 hw) (au_57 l Z a0 hw b741 jv17_9 b740_0 h749 n0 Zn771 F749_0 F749_1 F749_2 fk773) e749 F749_0 (argsL := [(.ref b741)]) (rest := []) (pc' := 201) rfl (by rw [hml]; rfl) (lenOf pd_5 rfl) rfl rfl (W := 0) (Nat.le_of_eq rfl) (by decide) (by decide) (by decide) (by decide) (hb hby at_198) ?_
                  intro v774 T774 L774 q774 X774
                  obtain ⟨rfl, N774, e774⟩ := q774
                  show Go _ _ _ _ (T774.setTop (mkF m 201 #[.val (.int p0), .val (.int p1), .val (.int p2), .val (.int z1), .val (.int z5), .val (.int jv7_5), .val (.int jv8_6), .val (.int 2), .val (.int z16), .val (.int jv17_9), .val (.int jv18_10), .val (.int z21), .val (.ref b740_0), .val (.ref b741), .unset, .unset, .unset, .unset] [(.int 1)]))
                  have C775 : CHr Z EL0 s.vm s.heap s.vm h740 := (C0.trans (CHr.keep K740 sf0 C0.1))
                  have C776 : CHr Z EL0 s.vm s.heap s.vm h741 := (C775.trans (CHr.ext E741 C775.1))
                  have fk777 : Safe Z EL0 s.vm h741 b741 := (Safe.ext E741 C775.1 (Safe.new (Nat.le_of_eq g741.symm) : Safe Z EL0 s.vm h740 b741))
                  have C778 : CHr Z EL0 s.vm s.heap s.vm h749 := (C776.trans (CHr.keep K749 (sfS fk777 sf0) C776.1))
                  have hk779 := (Nat.le_trans (Nat.le_trans (Nat.le_trans (Nat.le_refl _) K740.1) E741.1) K749.1)
                  refine Go.retNW X774 hx hlk hZ (own_EW hw) e774 hS0 hk779 C778 (t := .boolean) hret (by simp) (hb hby at_201) (by decide) (by decide) (fun hat => ?_)
                  exact ⟨rfl, (Fr.app (Fr.app (Fr.app (Fr.nil n0) N740) N749) N774)⟩
                · refine Go.icmpYes X749 hx (pc' := 202) (hb hby at_191) (feq hc770).2 (by decide) (by decide) ?_
                  have r780 : 0 ≤ z16.toInt ∧ z16.toInt ≤ 2 := own_rrem hz16 (d := 3) (by decide) (by decide) r15 (by decide) (by decide)
                  rcases own_cs_0_2 r780 with rfl | rfl | rfl
                  · refine Go.iload X749 hx (pc' := 204) rfl (hb hby at_202) rfl ?_
                    refine Go.iload X749 hx (pc' := 206) rfl (hb hby at_204) rfl ?_
                    refine Go.iload X749 hx (pc' := 208) rfl (hb hby at_206) rfl ?_
                    have Kp782 : Keep h0 h749 [] := (Kp746.trans K749 (allS (Or.inr sz748) all0))
                    have Zn781 : n0 ≤ h749.size := Nat.le_trans Z0 Kp782.1
                    have C783 : CHr Z EL0 s.vm s.heap s.vm h740 := (C0.trans (CHr.keep K740 sf0 C0.1))
                    have C784 : CHr Z EL0 s.vm s.heap s.vm h741 := (C783.trans (CHr.ext E741 C783.1))
                    have fk785 : Safe Z EL0 s.vm h741 b741 := (Safe.ext E741 C783.1 (Safe.new (Nat.le_of_eq g741.symm) : Safe Z EL0 s.vm h740 b741))
                    have C786 : CHr Z EL0 s.vm s.heap s.vm h749 := (C784.trans (CHr.keep K749 (sfS fk785 sf0) C784.1))
                    have hk787 := (Nat.le_trans (Nat.le_trans (Nat.le_trans (Nat.le_refl _) K740.1) E741.1) K749.1)
                    refine Go.callSW X749 hx hZ hown (tw_0 hw) (tw_1 hw) (tw_2 hw) (tw_3 hw) (by decide) (tw_3 hw) (tw_2 hw) (au_6 l Z a0 hw jv7_5 jv8_6 gz1 gv5 h749 n0 Zn781 G) (own_EW hw) C786.1 all0 hS0 hk787 e749 (argsL := [(.int 0), (.int jv7_5), (.int jv8_6)]) (rest := []) (pc' := 211) rfl (by rw [hml]; rfl) (lenOf pd_2 rfl) rfl rfl (W := 0) (Nat.le_of_eq rfl) (by decide) (by decide) (by decide) (by decide) (hb hby at_208) ?_
                    intro v788 T788 L788 h788 e788 q788 C788 S788 Z788 O788 X788
                    obtain ⟨b788_0, b788_1, k788_0, rfl, N788, K788, s788_0, y788_0, F788_0, F788_1, F788_2, F788_3⟩ := q788
                    show Go _ _ _ _ (T788.setTop (mkF m 211 #[.val (.int p0), .val (.int p1), .val (.int p2), .val (.int z1), .val (.int z5), .val (.int jv7_5), .val (.int jv8_6), .val (.int 2), .val (.int 0), .val (.int jv17_9), .val (.int jv18_10), .val (.int z21), .val (.ref b740_0), .val (.ref b741), .unset, .unset, .unset, .unset] [(.ref b788_0)]))
                    refine Go.astore X788 hx (pc' := 213) rfl (hb hby at_211) (Ls' := #[.val (.int p0), .val (.int p1), .val (.int p2), .val (.int z1), .val (.int z5), .val (.int jv7_5), .val (.int jv8_6), .val (.int 2), .val (.int 0), .val (.int jv17_9), .val (.int jv18_10), .val (.int z21), .val (.ref b740_0), .val (.ref b741), .val (.ref b788_0), .unset, .unset, .unset]) rfl rfl ?_
                    refine Go.new X788 hx Z788 O788 (tw_34 hw) (tw_35 hw) (tw_36 hw) e788 (by decide) (by decide) (pc' := 216) rfl (hb hby at_213) ?_
                    intro T789 h789 b789 e789 E789 g789 A789 D789 X789
                    have b789_word : Fld Z h789 b789 "com/example/tough_filter/toughfilter/Expression$Keyword" "word" "Ljava/lang/String;" .null := D789 (Or.inr (tw_47 hw)) (ty := (.object "java/lang/String")) (by decide)
                    have b789_pinyin : Fld Z h789 b789 "com/example/tough_filter/toughfilter/Expression$Keyword" "pinyin" "Z" (.int 0) := D789 (Or.inr (tw_49 hw)) (ty := .boolean) (by decide)
                    refine Go.dup X789 hx (pc' := 217) rfl (hb hby at_216) rfl ?_
                    refine Go.aload X789 hx (pc' := 219) rfl (hb hby at_217) rfl rfl ?_
                    refine Go.iload X789 hx (pc' := 221) rfl (hb hby at_219) rfl ?_
                    have Kp791 : Keep h0 h788 [] := (Kp782.trans K788 all0)
                    have Kp792 : Keep h0 h789 [] := (Kp791.ext E789)
                    have Zn790 : n0 ≤ h789.size := Nat.le_trans Z0 Kp792.1
                    have sz794 : h0.size ≤ b789 := Nat.le_trans Kp791.1 (Nat.le_of_eq g789.symm)
                    have ge793 : n0 ≤ b789 := Nat.le_trans Z0 sz794
                    refine Go.callN X789 hx Z788 O788 rfl (tw_37 hw) (tw_38 hw) (tw_39 hw) (by decide) (tw_39 hw) (tw_36 hw) (au_7 l Z a0 hw b789 b788_0 jv18_10 h789 n0 Zn790 A789 b789_pinyin b789_word jr18_10 ge793) e789 (a := b789) (argsL := [(.ref b788_0), (.int jv18_10)]) (rest := [(.ref b789)]) (pc' := 224) rfl (by rw [hml]; rfl) (lenOf pd_4 rfl) rfl rfl (W := 1) (Nat.le_of_eq rfl) (by decide) (by decide) (by decide) (by decide) (hb hby at_221) ?_
                    intro v795 T795 L795 q795 X795
                    obtain ⟨h795, e795⟩ : ∃ z, T795.heap = z := ⟨_, rfl⟩
                    rw [e795] at q795
                    obtain ⟨rfl, N795, K795, F795_0, F795_1, F795_2⟩ := q795
                    show Go _ _ _ _ (T795.setTop (mkF m 224 #[.val (.int p0), .val (.int p1), .val (.int p2), .val (.int z1), .val (.int z5), .val (.int jv7_5), .val (.int jv8_6), .val (.int 2), .val (.int 0), .val (.int jv17_9), .val (.int jv18_10), .val (.int z21), .val (.ref b740_0), .val (.ref b741), .val (.ref b788_0), .unset, .unset, .unset] [(.ref b789)]))
                    refine Go.astore X795 hx (pc' := 226) rfl (hb hby at_224) (Ls' := #[.val (.int p0), .val (.int p1), .val (.int p2), .val (.int z1), .val (.int z5), .val (.int jv7_5), .val (.int jv8_6), .val (.int 2), .val (.int 0), .val (.int jv17_9), .val (.int jv18_10), .val (.int z21), .val (.ref b740_0), .val (.ref b741), .val (.ref b788_0), .val (.ref b789), .unset, .unset]) rfl rfl ?_
                    refine Go.iload X795 hx (pc' := 228) rfl (hb hby at_226) rfl ?_
                    refine Go.iload X795 hx (pc' := 230) rfl (hb hby at_228) rfl ?_
                    refine Go.icmpYes X795 hx (pc' := 262) (hb hby at_230) (by decide) (by decide) (by decide) ?_
                    refine Go.iconst X795 hx (pc' := 263) rfl (hb hby at_262) (v := (0 : Int32)) rfl ?_
                    refine Go.istore X795 hx (pc' := 265) rfl (hb hby at_263) (Ls' := #[.val (.int p0), .val (.int p1), .val (.int p2), .val (.int z1), .val (.int z5), .val (.int jv7_5), .val (.int jv8_6), .val (.int 2), .val (.int 0), .val (.int jv17_9), .val (.int jv18_10), .val (.int z21), .val (.ref b740_0), .val (.ref b741), .val (.ref b788_0), .val (.ref b789), .val (.int 0), .unset]) rfl ?_
                    refine Go.iload X795 hx (pc' := 267) rfl (hb hby at_265) rfl ?_
                    refine Go.iload X795 hx (pc' := 269) rfl (hb hby at_267) rfl ?_
                    by_cases hc796 : jv17_9 = jv18_10
                    · refine Go.icmpNo X795 hx (pc' := 272) rfl (hb hby at_269) (teq hc796).2 ?_
                      refine Go.iload X795 hx (pc' := 274) rfl (hb hby at_272) rfl ?_
                      refine Go.ifYes X795 hx (pc' := 281) (hb hby at_274) (by decide) (by decide) (by decide) ?_
                      refine Go.iconst X795 hx (pc' := 282) rfl (hb hby at_281) (v := (0 : Int32)) rfl ?_
                      refine Go.istore X795 hx (pc' := 284) rfl (hb hby at_282) (Ls' := #[.val (.int p0), .val (.int p1), .val (.int p2), .val (.int z1), .val (.int z5), .val (.int jv7_5), .val (.int jv8_6), .val (.int 2), .val (.int 0), .val (.int jv17_9), .val (.int jv18_10), .val (.int z21), .val (.ref b740_0), .val (.ref b741), .val (.ref b788_0), .val (.ref b789), .val (.int 0), .val (.int 0)]) rfl ?_
                      refine Go.aload X795 hx (pc' := 286) rfl (hb hby at_284) rfl rfl ?_
                      refine Go.aload X795 hx (pc' := 288) rfl (hb hby at_286) rfl rfl ?_
                      have Kp798 : Keep h0 h795 [] := (Kp792.trans K795 (allS (Or.inr sz794) all0))
                      have Zn797 : n0 ≤ h795.size := Nat.le_trans Z0 Kp798.1
                      have O799 := (O0.keep K740 all0)
                      have O800 := (O799.ext E741)
                      have O801 := (O800.keep K749 (allS ge747 all0))
                      have O802 := (O801.keep K788 all0)
                      have O803 := (O802.ext E789)
                      have O804 := (O803.keep K795 (allS ge793 all0))
                      have fk806 : Exa Z h788 b741 "com/example/tough_filter/toughfilter/Expression$Keyword" := (F749_0.keep K788)
                      have ne805 : b741 ≠ b789 := Nat.ne_of_lt (Nat.lt_of_lt_of_le fk806.lt (Nat.le_of_eq g789.symm))
                      have fk807 : Fld Z h795 b741 "com/example/tough_filter/toughfilter/Expression$Keyword" "pinyin" "Z" (.int jv17_9) := (((F749_1.keep K788 nin0).ext E789).keep K795 (ninS ne805 nin0))
                      have fk808 : Fld Z h795 b741 "com/example/tough_filter/toughfilter/Expression$Keyword" "word" "Ljava/lang/String;" (.ref b740_0) := (((F749_2.keep K788 nin0).ext E789).keep K795 (ninS ne805 nin0))
                      have fk809 : Exa Z h795 b740_0 "java/lang/String" := (((((F740_0.ext E741).keep K749).keep K788).ext E789).keep K795)
                      have ne810 : b740_0 ≠ b741 := Nat.ne_of_lt (Nat.lt_of_lt_of_le F740_0.lt (Nat.le_of_eq g741.symm))
                      have fk812 : Exa Z h788 b740_0 "java/lang/String" := (((F740_0.ext E741).keep K749).keep K788)
                      have ne811 : b740_0 ≠ b789 := Nat.ne_of_lt (Nat.lt_of_lt_of_le fk812.lt (Nat.le_of_eq g789.symm))
                      have fk813 : Fld Z h795 b740_0 "java/lang/String" "coder" "B" (.int 0) := (((((F740_1.ext E741).keep K749 (ninS ne810 nin0)).keep K788 nin0).ext E789).keep K795 (ninS ne811 nin0))
                      have fk814 : Fld Z h795 b740_0 "java/lang/String" "value" "[B" (.ref b740_1) := (((((F740_2.ext E741).keep K749 (ninS ne810 nin0)).keep K788 nin0).ext E789).keep K795 (ninS ne811 nin0))
                      have fk815 : Exa Z h795 b788_0 "java/lang/String" := ((F788_0.ext E789).keep K795)
                      have ne816 : b788_0 ≠ b789 := Nat.ne_of_lt (Nat.lt_of_lt_of_le F788_0.lt (Nat.le_of_eq g789.symm))
                      have fk817 : Fld Z h795 b788_0 "java/lang/String" "coder" "B" (.int 0) := ((F788_1.ext E789).keep K795 (ninS ne816 nin0))
                      have fk818 : Fld Z h795 b788_0 "java/lang/String" "value" "[B" (.ref b788_1) := ((F788_2.ext E789).keep K795 (ninS ne816 nin0))
                      have ne819 : b740_1 ≠ b741 := Nat.ne_of_lt (Nat.lt_of_lt_of_le F740_3.lt (Nat.le_of_eq g741.symm))
                      have fk821 := (((F740_3.ext E741).keep K749 (ninS ne819 nin0)).keep K788 nin0)
                      have ne820 : b740_1 ≠ b789 := Nat.ne_of_lt (Nat.lt_of_lt_of_le fk821.lt (Nat.le_of_eq g789.symm))
                      have fk822 := (((((F740_3.ext E741).keep K749 (ninS ne819 nin0)).keep K788 nin0).ext E789).keep K795 (ninS ne820 nin0))
                      have ne823 : b788_1 ≠ b789 := Nat.ne_of_lt (Nat.lt_of_lt_of_le F788_3.lt (Nat.le_of_eq g789.symm))
                      have fk824 := ((F788_3.ext E789).keep K795 (ninS ne823 nin0))
                      have fk826 : Exa Z h749 b740_0 "java/lang/String" := ((F740_0.ext E741).keep K749)
                      have ne825 : b740_0 ≠ b788_0 := Nat.ne_of_lt (Nat.lt_of_lt_of_le fk826.lt s788_0)
                      have fk827 : Exa Z h795 b741 "com/example/tough_filter/toughfilter/Expression$Keyword" := ((fk806.ext E789).keep K795)
                      refine Go.callV X795 hx Z788 O788 (tw_53 hw) (tw_54 hw) (notFace_of_selects (args := #[]) (mvT Z788 (tw_56 hw))) (tw_56 hw) (tw_55 hw) (by decide) (tw_57 hw) (tw_36 hw) (au_39 l Z a0 hw b741 b789 jv17_9 b740_0 jv18_10 b788_0 b740_1 b788_1 k740_0 z740_0 z740_1 k788_0 gz1 gv5 h795 n0 Zn797 O804 G fk807 fk808 F795_0 F795_1 F795_2 fk809 fk813 fk814 fk815 fk817 fk818 fk822 fk824 ne825) e795 fk827 (argsL := [(.ref b789)]) (rest := []) (pc' := 291) rfl (by rw [hml]; rfl) (lenOf pd_5 rfl) rfl rfl (W := 0) (Nat.le_of_eq rfl) (by decide) (by decide) (by decide) (by decide) (hb hby at_288) ?_
                      intro v828 T828 L828 q828 X828
                      obtain ⟨rfl, N828, e828⟩ := q828
                      show Go _ _ _ _ (T828.setTop (mkF m 291 #[.val (.int p0), .val (.int p1), .val (.int p2), .val (.int z1), .val (.int z5), .val (.int jv7_5), .val (.int jv8_6), .val (.int 2), .val (.int 0), .val (.int jv17_9), .val (.int jv18_10), .val (.int z21), .val (.ref b740_0), .val (.ref b741), .val (.ref b788_0), .val (.ref b789), .val (.int 0), .val (.int 0)] [(.int 0)]))
                      refine Go.iload X828 hx (pc' := 293) rfl (hb hby at_291) rfl ?_
                      refine Go.icmpNo X828 hx (pc' := 296) rfl (hb hby at_293) (by decide) ?_
                      refine Go.aload X828 hx (pc' := 298) rfl (hb hby at_296) rfl rfl ?_
                      refine Go.aload X828 hx (pc' := 300) rfl (hb hby at_298) rfl rfl ?_
                      refine Go.callV X828 hx Z788 O788 (tw_53 hw) (tw_54 hw) (notFace_of_selects (args := #[]) (mvT Z788 (tw_56 hw))) (tw_56 hw) (tw_55 hw) (by decide) (tw_57 hw) (tw_36 hw) (au_36 l Z a0 hw b789 b741 jv18_10 b788_0 jv17_9 b740_0 b788_1 b740_1 k788_0 k740_0 z740_0 z740_1 gz1 gv5 h795 n0 Zn797 O804 G F795_1 F795_2 fk827 fk807 fk808 fk815 fk817 fk818 fk809 fk813 fk814 fk824 fk822 (Ne.symm ne825)) e828 F795_0 (argsL := [(.ref b741)]) (rest := []) (pc' := 303) rfl (by rw [hml]; rfl) (lenOf pd_5 rfl) rfl rfl (W := 0) (Nat.le_of_eq rfl) (by decide) (by decide) (by decide) (by decide) (hb hby at_300) ?_
                      intro v829 T829 L829 q829 X829
                      obtain ⟨rfl, N829, e829⟩ := q829
                      show Go _ _ _ _ (T829.setTop (mkF m 303 #[.val (.int p0), .val (.int p1), .val (.int p2), .val (.int z1), .val (.int z5), .val (.int jv7_5), .val (.int jv8_6), .val (.int 2), .val (.int 0), .val (.int jv17_9), .val (.int jv18_10), .val (.int z21), .val (.ref b740_0), .val (.ref b741), .val (.ref b788_0), .val (.ref b789), .val (.int 0), .val (.int 0)] [(.int 0)]))
                      refine Go.iload X829 hx (pc' := 305) rfl (hb hby at_303) rfl ?_
                      refine Go.icmpNo X829 hx (pc' := 308) rfl (hb hby at_305) (by decide) ?_
                      refine Go.iconst X829 hx (pc' := 309) rfl (hb hby at_308) (v := (1 : Int32)) rfl ?_
                      refine Go.goto X829 hx (pc' := 313) (hb hby at_309) (by decide) (by decide) ?_
                      have C830 : CHr Z EL0 s.vm s.heap T788.vm h788 := (C786.trans C788)
                      have C831 : CHr Z EL0 s.vm s.heap T788.vm h789 := (C830.trans (CHr.ext E789 C830.1))
                      have fk832 : Safe Z EL0 T788.vm h789 b789 := (Safe.ext E789 C830.1 (Safe.new (Nat.le_of_eq g789.symm) : Safe Z EL0 T788.vm h788 b789))
                      have C833 : CHr Z EL0 s.vm s.heap T788.vm h795 := (C831.trans (CHr.keep K795 (sfS fk832 sf0) C831.1))
                      have hk834 := (Nat.le_trans (Nat.le_trans (Nat.le_refl _) E789.1) K795.1)
                      refine Go.retNW X829 hx hlk Z788 (own_EW hw) e829 S788 hk834 C833 (t := .boolean) hret (by simp) (hb hby at_313) (by decide) (by decide) (fun hat => ?_)
                      exact ⟨rfl, (Fr.app (Fr.app (Fr.app (Fr.app (Fr.app (Fr.app (Fr.nil n0) N740) N749) N788) N795) N828) N829)⟩
                    · refine Go.icmpYes X795 hx (pc' := 281) (hb hby at_269) (feq hc796).2 (by decide) (by decide) ?_
                      refine Go.iconst X795 hx (pc' := 282) rfl (hb hby at_281) (v := (0 : Int32)) rfl ?_
                      refine Go.istore X795 hx (pc' := 284) rfl (hb hby at_282) (Ls' := #[.val (.int p0), .val (.int p1), .val (.int p2), .val (.int z1), .val (.int z5), .val (.int jv7_5), .val (.int jv8_6), .val (.int 2), .val (.int 0), .val (.int jv17_9), .val (.int jv18_10), .val (.int z21), .val (.ref b740_0), .val (.ref b741), .val (.ref b788_0), .val (.ref b789), .val (.int 0), .val (.int 0)]) rfl ?_
                      refine Go.aload X795 hx (pc' := 286) rfl (hb hby at_284) rfl rfl ?_
                      refine Go.aload X795 hx (pc' := 288) rfl (hb hby at_286) rfl rfl ?_
                      have Kp836 : Keep h0 h795 [] := (Kp792.trans K795 (allS (Or.inr sz794) all0))
                      have Zn835 : n0 ≤ h795.size := Nat.le_trans Z0 Kp836.1
                      have O837 := (O0.keep K740 all0)
                      have O838 := (O837.ext E741)
                      have O839 := (O838.keep K749 (allS ge747 all0))
                      have O840 := (O839.keep K788 all0)
                      have O841 := (O840.ext E789)
                      have O842 := (O841.keep K795 (allS ge793 all0))
                      have fk844 : Exa Z h788 b741 "com/example/tough_filter/toughfilter/Expression$Keyword" := (F749_0.keep K788)
                      have ne843 : b741 ≠ b789 := Nat.ne_of_lt (Nat.lt_of_lt_of_le fk844.lt (Nat.le_of_eq g789.symm))
                      have fk845 : Fld Z h795 b741 "com/example/tough_filter/toughfilter/Expression$Keyword" "pinyin" "Z" (.int jv17_9) := (((F749_1.keep K788 nin0).ext E789).keep K795 (ninS ne843 nin0))
                      have fk846 : Fld Z h795 b741 "com/example/tough_filter/toughfilter/Expression$Keyword" "word" "Ljava/lang/String;" (.ref b740_0) := (((F749_2.keep K788 nin0).ext E789).keep K795 (ninS ne843 nin0))
                      have fk847 : Exa Z h795 b740_0 "java/lang/String" := (((((F740_0.ext E741).keep K749).keep K788).ext E789).keep K795)
                      have ne848 : b740_0 ≠ b741 := Nat.ne_of_lt (Nat.lt_of_lt_of_le F740_0.lt (Nat.le_of_eq g741.symm))
                      have fk850 : Exa Z h788 b740_0 "java/lang/String" := (((F740_0.ext E741).keep K749).keep K788)
                      have ne849 : b740_0 ≠ b789 := Nat.ne_of_lt (Nat.lt_of_lt_of_le fk850.lt (Nat.le_of_eq g789.symm))
                      have fk851 : Fld Z h795 b740_0 "java/lang/String" "coder" "B" (.int 0) := (((((F740_1.ext E741).keep K749 (ninS ne848 nin0)).keep K788 nin0).ext E789).keep K795 (ninS ne849 nin0))
                      have fk852 : Fld Z h795 b740_0 "java/lang/String" "value" "[B" (.ref b740_1) := (((((F740_2.ext E741).keep K749 (ninS ne848 nin0)).keep K788 nin0).ext E789).keep K795 (ninS ne849 nin0))
                      have fk853 : Exa Z h795 b788_0 "java/lang/String" := ((F788_0.ext E789).keep K795)
                      have ne854 : b788_0 ≠ b789 := Nat.ne_of_lt (Nat.lt_of_lt_of_le F788_0.lt (Nat.le_of_eq g789.symm))
                      have fk855 : Fld Z h795 b788_0 "java/lang/String" "coder" "B" (.int 0) := ((F788_1.ext E789).keep K795 (ninS ne854 nin0))
                      have fk856 : Fld Z h795 b788_0 "java/lang/String" "value" "[B" (.ref b788_1) := ((F788_2.ext E789).keep K795 (ninS ne854 nin0))
                      have ne857 : b740_1 ≠ b741 := Nat.ne_of_lt (Nat.lt_of_lt_of_le F740_3.lt (Nat.le_of_eq g741.symm))
                      have fk859 := (((F740_3.ext E741).keep K749 (ninS ne857 nin0)).keep K788 nin0)
                      have ne858 : b740_1 ≠ b789 := Nat.ne_of_lt (Nat.lt_of_lt_of_le fk859.lt (Nat.le_of_eq g789.symm))
                      have fk860 := (((((F740_3.ext E741).keep K749 (ninS ne857 nin0)).keep K788 nin0).ext E789).keep K795 (ninS ne858 nin0))
                      have ne861 : b788_1 ≠ b789 := Nat.ne_of_lt (Nat.lt_of_lt_of_le F788_3.lt (Nat.le_of_eq g789.symm))
                      have fk862 := ((F788_3.ext E789).keep K795 (ninS ne861 nin0))
                      have fk864 : Exa Z h749 b740_0 "java/lang/String" := ((F740_0.ext E741).keep K749)
                      have ne863 : b740_0 ≠ b788_0 := Nat.ne_of_lt (Nat.lt_of_lt_of_le fk864.lt s788_0)
                      have fk865 : Exa Z h795 b741 "com/example/tough_filter/toughfilter/Expression$Keyword" := ((fk844.ext E789).keep K795)
                      refine Go.callV X795 hx Z788 O788 (tw_53 hw) (tw_54 hw) (notFace_of_selects (args := #[]) (mvT Z788 (tw_56 hw))) (tw_56 hw) (tw_55 hw) (by decide) (tw_57 hw) (tw_36 hw) (au_39 l Z a0 hw b741 b789 jv17_9 b740_0 jv18_10 b788_0 b740_1 b788_1 k740_0 z740_0 z740_1 k788_0 gz1 gv5 h795 n0 Zn835 O842 G fk845 fk846 F795_0 F795_1 F795_2 fk847 fk851 fk852 fk853 fk855 fk856 fk860 fk862 ne863) e795 fk865 (argsL := [(.ref b789)]) (rest := []) (pc' := 291) rfl (by rw [hml]; rfl) (lenOf pd_5 rfl) rfl rfl (W := 0) (Nat.le_of_eq rfl) (by decide) (by decide) (by decide) (by decide) (hb hby at_288) ?_
                      intro v866 T866 L866 q866 X866
                      obtain ⟨rfl, N866, e866⟩ := q866
                      show Go _ _ _ _ (T866.setTop (mkF m 291 #[.val (.int p0), .val (.int p1), .val (.int p2), .val (.int z1), .val (.int z5), .val (.int jv7_5), .val (.int jv8_6), .val (.int 2), .val (.int 0), .val (.int jv17_9), .val (.int jv18_10), .val (.int z21), .val (.ref b740_0), .val (.ref b741), .val (.ref b788_0), .val (.ref b789), .val (.int 0), .val (.int 0)] [(.int 0)]))
                      refine Go.iload X866 hx (pc' := 293) rfl (hb hby at_291) rfl ?_
                      refine Go.icmpNo X866 hx (pc' := 296) rfl (hb hby at_293) (by decide) ?_
                      refine Go.aload X866 hx (pc' := 298) rfl (hb hby at_296) rfl rfl ?_
                      refine Go.aload X866 hx (pc' := 300) rfl (hb hby at_298) rfl rfl ?_
                      refine Go.callV X866 hx Z788 O788 (tw_53 hw) (tw_54 hw) (notFace_of_selects (args := #[]) (mvT Z788 (tw_56 hw))) (tw_56 hw) (tw_55 hw) (by decide) (tw_57 hw) (tw_36 hw) (au_36 l Z a0 hw b789 b741 jv18_10 b788_0 jv17_9 b740_0 b788_1 b740_1 k788_0 k740_0 z740_0 z740_1 gz1 gv5 h795 n0 Zn835 O842 G F795_1 F795_2 fk865 fk845 fk846 fk853 fk855 fk856 fk847 fk851 fk852 fk862 fk860 (Ne.symm ne863)) e866 F795_0 (argsL := [(.ref b741)]) (rest := []) (pc' := 303) rfl (by rw [hml]; rfl) (lenOf pd_5 rfl) rfl rfl (W := 0) (Nat.le_of_eq rfl) (by decide) (by decide) (by decide) (by decide) (hb hby at_300) ?_
                      intro v867 T867 L867 q867 X867
                      obtain ⟨rfl, N867, e867⟩ := q867
                      show Go _ _ _ _ (T867.setTop (mkF m 303 #[.val (.int p0), .val (.int p1), .val (.int p2), .val (.int z1), .val (.int z5), .val (.int jv7_5), .val (.int jv8_6), .val (.int 2), .val (.int 0), .val (.int jv17_9), .val (.int jv18_10), .val (.int z21), .val (.ref b740_0), .val (.ref b741), .val (.ref b788_0), .val (.ref b789), .val (.int 0), .val (.int 0)] [(.int 0)]))
                      refine Go.iload X867 hx (pc' := 305) rfl (hb hby at_303) rfl ?_
                      refine Go.icmpNo X867 hx (pc' := 308) rfl (hb hby at_305) (by decide) ?_
                      refine Go.iconst X867 hx (pc' := 309) rfl (hb hby at_308) (v := (1 : Int32)) rfl ?_
                      refine Go.goto X867 hx (pc' := 313) (hb hby at_309) (by decide) (by decide) ?_
                      have C868 : CHr Z EL0 s.vm s.heap T788.vm h788 := (C786.trans C788)
                      have C869 : CHr Z EL0 s.vm s.heap T788.vm h789 := (C868.trans (CHr.ext E789 C868.1))
                      have fk870 : Safe Z EL0 T788.vm h789 b789 := (Safe.ext E789 C868.1 (Safe.new (Nat.le_of_eq g789.symm) : Safe Z EL0 T788.vm h788 b789))
                      have C871 : CHr Z EL0 s.vm s.heap T788.vm h795 := (C869.trans (CHr.keep K795 (sfS fk870 sf0) C869.1))
                      have hk872 := (Nat.le_trans (Nat.le_trans (Nat.le_refl _) E789.1) K795.1)
                      refine Go.retNW X867 hx hlk Z788 (own_EW hw) e867 S788 hk872 C871 (t := .boolean) hret (by simp) (hb hby at_313) (by decide) (by decide) (fun hat => ?_)
                      exact ⟨rfl, (Fr.app (Fr.app (Fr.app (Fr.app (Fr.app (Fr.app (Fr.nil n0) N740) N749) N788) N795) N866) N867)⟩
                  · refine Go.iload X749 hx (pc' := 204) rfl (hb hby at_202) rfl ?_
                    refine Go.iload X749 hx (pc' := 206) rfl (hb hby at_204) rfl ?_
                    refine Go.iload X749 hx (pc' := 208) rfl (hb hby at_206) rfl ?_
                    have Kp874 : Keep h0 h749 [] := (Kp746.trans K749 (allS (Or.inr sz748) all0))
                    have Zn873 : n0 ≤ h749.size := Nat.le_trans Z0 Kp874.1
                    have O875 := (O0.keep K740 all0)
                    have O876 := (O875.ext E741)
                    have O877 := (O876.keep K749 (allS ge747 all0))
                    refine Go.callS X749 hx hZ hown (tw_0 hw) (tw_1 hw) (tw_2 hw) (tw_3 hw) (by decide) (tw_3 hw) (tw_2 hw) (au_16 l Z a0 hw jv7_5 jv8_6 gz1 gv5 h749 n0 Zn873 O877 G jr7_5) e749 (argsL := [(.int 1), (.int jv7_5), (.int jv8_6)]) (rest := []) (pc' := 211) rfl (by rw [hml]; rfl) (lenOf pd_2 rfl) rfl rfl (W := 0) (Nat.le_of_eq rfl) (by decide) (by decide) (by decide) (by decide) (hb hby at_208) ?_
                    intro v878 T878 L878 q878 X878
                    obtain ⟨h878, e878⟩ : ∃ z, T878.heap = z := ⟨_, rfl⟩
                    rw [e878] at q878
                    obtain ⟨z878_0, b878_0, b878_1, k878_0, d878_0, rfl, N878, K878, s878_0, s878_1, n878_0, F878_0, F878_1, F878_2, F878_3, F878_4⟩ := q878
                    show Go _ _ _ _ (T878.setTop (mkF m 211 #[.val (.int p0), .val (.int p1), .val (.int p2), .val (.int z1), .val (.int z5), .val (.int jv7_5), .val (.int jv8_6), .val (.int 2), .val (.int 1), .val (.int jv17_9), .val (.int jv18_10), .val (.int z21), .val (.ref b740_0), .val (.ref b741), .unset, .unset, .unset, .unset] [(.ref b878_0)]))
                    refine Go.astore X878 hx (pc' := 213) rfl (hb hby at_211) (Ls' := #[.val (.int p0), .val (.int p1), .val (.int p2), .val (.int z1), .val (.int z5), .val (.int jv7_5), .val (.int jv8_6), .val (.int 2), .val (.int 1), .val (.int jv17_9), .val (.int jv18_10), .val (.int z21), .val (.ref b740_0), .val (.ref b741), .val (.ref b878_0), .unset, .unset, .unset]) rfl rfl ?_
                    refine Go.new X878 hx hZ hown (tw_34 hw) (tw_35 hw) (tw_36 hw) e878 (by decide) (by decide) (pc' := 216) rfl (hb hby at_213) ?_
                    intro T879 h879 b879 e879 E879 g879 A879 D879 X879
                    have b879_word : Fld Z h879 b879 "com/example/tough_filter/toughfilter/Expression$Keyword" "word" "Ljava/lang/String;" .null := D879 (Or.inr (tw_47 hw)) (ty := (.object "java/lang/String")) (by decide)
                    have b879_pinyin : Fld Z h879 b879 "com/example/tough_filter/toughfilter/Expression$Keyword" "pinyin" "Z" (.int 0) := D879 (Or.inr (tw_49 hw)) (ty := .boolean) (by decide)
                    refine Go.dup X879 hx (pc' := 217) rfl (hb hby at_216) rfl ?_
                    refine Go.aload X879 hx (pc' := 219) rfl (hb hby at_217) rfl rfl ?_
                    refine Go.iload X879 hx (pc' := 221) rfl (hb hby at_219) rfl ?_
                    have r880 : -128 ≤ z878_0.toInt ∧ z878_0.toInt ≤ 127 := own_ri2b d878_0
                    have Kp882 : Keep h0 h878 [] := (Kp874.trans K878 all0)
                    have Kp883 : Keep h0 h879 [] := (Kp882.ext E879)
                    have Zn881 : n0 ≤ h879.size := Nat.le_trans Z0 Kp883.1
                    have sz885 : h0.size ≤ b879 := Nat.le_trans Kp882.1 (Nat.le_of_eq g879.symm)
                    have ge884 : n0 ≤ b879 := Nat.le_trans Z0 sz885
                    refine Go.callN X879 hx hZ hown rfl (tw_37 hw) (tw_38 hw) (tw_39 hw) (by decide) (tw_39 hw) (tw_36 hw) (au_22 l Z a0 hw b879 b878_0 jv18_10 h879 n0 Zn881 A879 b879_pinyin b879_word jr18_10 ge884) e879 (a := b879) (argsL := [(.ref b878_0), (.int jv18_10)]) (rest := [(.ref b879)]) (pc' := 224) rfl (by rw [hml]; rfl) (lenOf pd_4 rfl) rfl rfl (W := 1) (Nat.le_of_eq rfl) (by decide) (by decide) (by decide) (by decide) (hb hby at_221) ?_
                    intro v886 T886 L886 q886 X886
                    obtain ⟨h886, e886⟩ : ∃ z, T886.heap = z := ⟨_, rfl⟩
                    rw [e886] at q886
                    obtain ⟨rfl, N886, K886, F886_0, F886_1, F886_2⟩ := q886
                    show Go _ _ _ _ (T886.setTop (mkF m 224 #[.val (.int p0), .val (.int p1), .val (.int p2), .val (.int z1), .val (.int z5), .val (.int jv7_5), .val (.int jv8_6), .val (.int 2), .val (.int 1), .val (.int jv17_9), .val (.int jv18_10), .val (.int z21), .val (.ref b740_0), .val (.ref b741), .val (.ref b878_0), .unset, .unset, .unset] [(.ref b879)]))
                    refine Go.astore X886 hx (pc' := 226) rfl (hb hby at_224) (Ls' := #[.val (.int p0), .val (.int p1), .val (.int p2), .val (.int z1), .val (.int z5), .val (.int jv7_5), .val (.int jv8_6), .val (.int 2), .val (.int 1), .val (.int jv17_9), .val (.int jv18_10), .val (.int z21), .val (.ref b740_0), .val (.ref b741), .val (.ref b878_0), .val (.ref b879), .unset, .unset]) rfl rfl ?_
                    refine Go.iload X886 hx (pc' := 228) rfl (hb hby at_226) rfl ?_
                    refine Go.iload X886 hx (pc' := 230) rfl (hb hby at_228) rfl ?_
                    refine Go.icmpYes X886 hx (pc' := 262) (hb hby at_230) (by decide) (by decide) (by decide) ?_
                    refine Go.iconst X886 hx (pc' := 263) rfl (hb hby at_262) (v := (0 : Int32)) rfl ?_
                    refine Go.istore X886 hx (pc' := 265) rfl (hb hby at_263) (Ls' := #[.val (.int p0), .val (.int p1), .val (.int p2), .val (.int z1), .val (.int z5), .val (.int jv7_5), .val (.int jv8_6), .val (.int 2), .val (.int 1), .val (.int jv17_9), .val (.int jv18_10), .val (.int z21), .val (.ref b740_0), .val (.ref b741), .val (.ref b878_0), .val (.ref b879), .val (.int 0), .unset]) rfl ?_
                    refine Go.iload X886 hx (pc' := 267) rfl (hb hby at_265) rfl ?_
                    refine Go.iload X886 hx (pc' := 269) rfl (hb hby at_267) rfl ?_
                    by_cases hc887 : jv17_9 = jv18_10
                    · refine Go.icmpNo X886 hx (pc' := 272) rfl (hb hby at_269) (teq hc887).2 ?_
                      refine Go.iload X886 hx (pc' := 274) rfl (hb hby at_272) rfl ?_
                      refine Go.ifYes X886 hx (pc' := 281) (hb hby at_274) (by decide) (by decide) (by decide) ?_
                      refine Go.iconst X886 hx (pc' := 282) rfl (hb hby at_281) (v := (0 : Int32)) rfl ?_
                      refine Go.istore X886 hx (pc' := 284) rfl (hb hby at_282) (Ls' := #[.val (.int p0), .val (.int p1), .val (.int p2), .val (.int z1), .val (.int z5), .val (.int jv7_5), .val (.int jv8_6), .val (.int 2), .val (.int 1), .val (.int jv17_9), .val (.int jv18_10), .val (.int z21), .val (.ref b740_0), .val (.ref b741), .val (.ref b878_0), .val (.ref b879), .val (.int 0), .val (.int 0)]) rfl ?_
                      refine Go.aload X886 hx (pc' := 286) rfl (hb hby at_284) rfl rfl ?_
                      refine Go.aload X886 hx (pc' := 288) rfl (hb hby at_286) rfl rfl ?_
                      have Kp889 : Keep h0 h886 [] := (Kp883.trans K886 (allS (Or.inr sz885) all0))
                      have Zn888 : n0 ≤ h886.size := Nat.le_trans Z0 Kp889.1
                      have O890 := (O877.keep K878 all0)
                      have O891 := (O890.ext E879)
                      have O892 := (O891.keep K886 (allS ge884 all0))
                      have fk894 : Exa Z h878 b741 "com/example/tough_filter/toughfilter/Expression$Keyword" := (F749_0.keep K878)
                      have ne893 : b741 ≠ b879 := Nat.ne_of_lt (Nat.lt_of_lt_of_le fk894.lt (Nat.le_of_eq g879.symm))
                      have fk895 : Fld Z h886 b741 "com/example/tough_filter/toughfilter/Expression$Keyword" "pinyin" "Z" (.int jv17_9) := (((F749_1.keep K878 nin0).ext E879).keep K886 (ninS ne893 nin0))
                      have fk896 : Fld Z h886 b741 "com/example/tough_filter/toughfilter/Expression$Keyword" "word" "Ljava/lang/String;" (.ref b740_0) := (((F749_2.keep K878 nin0).ext E879).keep K886 (ninS ne893 nin0))
                      have fk897 : Exa Z h886 b740_0 "java/lang/String" := (((((F740_0.ext E741).keep K749).keep K878).ext E879).keep K886)
                      have ne898 : b740_0 ≠ b741 := Nat.ne_of_lt (Nat.lt_of_lt_of_le F740_0.lt (Nat.le_of_eq g741.symm))
                      have fk900 : Exa Z h878 b740_0 "java/lang/String" := (((F740_0.ext E741).keep K749).keep K878)
                      have ne899 : b740_0 ≠ b879 := Nat.ne_of_lt (Nat.lt_of_lt_of_le fk900.lt (Nat.le_of_eq g879.symm))
                      have fk901 : Fld Z h886 b740_0 "java/lang/String" "coder" "B" (.int 0) := (((((F740_1.ext E741).keep K749 (ninS ne898 nin0)).keep K878 nin0).ext E879).keep K886 (ninS ne899 nin0))
                      have fk902 : Fld Z h886 b740_0 "java/lang/String" "value" "[B" (.ref b740_1) := (((((F740_2.ext E741).keep K749 (ninS ne898 nin0)).keep K878 nin0).ext E879).keep K886 (ninS ne899 nin0))
                      have fk903 : Exa Z h886 b878_0 "java/lang/String" := ((F878_0.ext E879).keep K886)
                      have ne904 : b878_0 ≠ b879 := Nat.ne_of_lt (Nat.lt_of_lt_of_le F878_0.lt (Nat.le_of_eq g879.symm))
                      have fk905 : Fld Z h886 b878_0 "java/lang/String" "coder" "B" (.int 0) := ((F878_1.ext E879).keep K886 (ninS ne904 nin0))
                      have fk906 : Fld Z h886 b878_0 "java/lang/String" "value" "[B" (.ref b878_1) := ((F878_2.ext E879).keep K886 (ninS ne904 nin0))
                      have ne907 : b740_1 ≠ b741 := Nat.ne_of_lt (Nat.lt_of_lt_of_le F740_3.lt (Nat.le_of_eq g741.symm))
                      have fk909 := (((F740_3.ext E741).keep K749 (ninS ne907 nin0)).keep K878 nin0)
                      have ne908 : b740_1 ≠ b879 := Nat.ne_of_lt (Nat.lt_of_lt_of_le fk909.lt (Nat.le_of_eq g879.symm))
                      have fk910 := (((((F740_3.ext E741).keep K749 (ninS ne907 nin0)).keep K878 nin0).ext E879).keep K886 (ninS ne908 nin0))
                      have ne911 : b878_1 ≠ b879 := Nat.ne_of_lt (Nat.lt_of_lt_of_le F878_3.lt (Nat.le_of_eq g879.symm))
                      have fk912 := ((F878_3.ext E879).keep K886 (ninS ne911 nin0))
                      have fk914 : Exa Z h749 b740_0 "java/lang/String" := ((F740_0.ext E741).keep K749)
                      have ne913 : b740_0 ≠ b878_0 := Nat.ne_of_lt (Nat.lt_of_lt_of_le fk914.lt s878_0)
                      have fk915 : Exa Z h886 b741 "com/example/tough_filter/toughfilter/Expression$Keyword" := ((fk894.ext E879).keep K886)
                      refine Go.callV X886 hx hZ hown (tw_53 hw) (tw_54 hw) (notFace_of_selects (args := #[]) (mvT hZ (tw_56 hw))) (tw_56 hw) (tw_55 hw) (by decide) (tw_57 hw) (tw_36 hw) (au_52 l Z a0 hw b741 b879 jv17_9 b740_0 jv18_10 b878_0 b740_1 b878_1 k740_0 z740_0 z740_1 k878_0 z878_0 gz1 gv5 h886 n0 Zn888 O892 G fk895 fk896 F886_0 F886_1 F886_2 fk897 fk901 fk902 fk903 fk905 fk906 fk910 fk912 ne913) e886 fk915 (argsL := [(.ref b879)]) (rest := []) (pc' := 291) rfl (by rw [hml]; rfl) (lenOf pd_5 rfl) rfl rfl (W := 0) (Nat.le_of_eq rfl) (by decide) (by decide) (by decide) (by decide) (hb hby at_288) ?_
                      intro v916 T916 L916 q916 X916
                      obtain ⟨rfl, N916, e916⟩ := q916
                      show Go _ _ _ _ (T916.setTop (mkF m 291 #[.val (.int p0), .val (.int p1), .val (.int p2), .val (.int z1), .val (.int z5), .val (.int jv7_5), .val (.int jv8_6), .val (.int 2), .val (.int 1), .val (.int jv17_9), .val (.int jv18_10), .val (.int z21), .val (.ref b740_0), .val (.ref b741), .val (.ref b878_0), .val (.ref b879), .val (.int 0), .val (.int 0)] [(.int 0)]))
                      refine Go.iload X916 hx (pc' := 293) rfl (hb hby at_291) rfl ?_
                      refine Go.icmpNo X916 hx (pc' := 296) rfl (hb hby at_293) (by decide) ?_
                      refine Go.aload X916 hx (pc' := 298) rfl (hb hby at_296) rfl rfl ?_
                      refine Go.aload X916 hx (pc' := 300) rfl (hb hby at_298) rfl rfl ?_
                      refine Go.callV X916 hx hZ hown (tw_53 hw) (tw_54 hw) (notFace_of_selects (args := #[]) (mvT hZ (tw_56 hw))) (tw_56 hw) (tw_55 hw) (by decide) (tw_57 hw) (tw_36 hw) (au_49 l Z a0 hw b879 b741 jv18_10 b878_0 jv17_9 b740_0 b878_1 b740_1 k878_0 z878_0 k740_0 z740_0 z740_1 gz1 gv5 h886 n0 Zn888 O892 G F886_1 F886_2 fk915 fk895 fk896 fk903 fk905 fk906 fk897 fk901 fk902 fk912 fk910 (Ne.symm ne913)) e916 F886_0 (argsL := [(.ref b741)]) (rest := []) (pc' := 303) rfl (by rw [hml]; rfl) (lenOf pd_5 rfl) rfl rfl (W := 0) (Nat.le_of_eq rfl) (by decide) (by decide) (by decide) (by decide) (hb hby at_300) ?_
                      intro v917 T917 L917 q917 X917
                      obtain ⟨rfl, N917, e917⟩ := q917
                      show Go _ _ _ _ (T917.setTop (mkF m 303 #[.val (.int p0), .val (.int p1), .val (.int p2), .val (.int z1), .val (.int z5), .val (.int jv7_5), .val (.int jv8_6), .val (.int 2), .val (.int 1), .val (.int jv17_9), .val (.int jv18_10), .val (.int z21), .val (.ref b740_0), .val (.ref b741), .val (.ref b878_0), .val (.ref b879), .val (.int 0), .val (.int 0)] [(.int 0)]))
                      refine Go.iload X917 hx (pc' := 305) rfl (hb hby at_303) rfl ?_
                      refine Go.icmpNo X917 hx (pc' := 308) rfl (hb hby at_305) (by decide) ?_
                      refine Go.iconst X917 hx (pc' := 309) rfl (hb hby at_308) (v := (1 : Int32)) rfl ?_
                      refine Go.goto X917 hx (pc' := 313) (hb hby at_309) (by decide) (by decide) ?_
                      have C918 : CHr Z EL0 s.vm s.heap s.vm h740 := (C0.trans (CHr.keep K740 sf0 C0.1))
                      have C919 : CHr Z EL0 s.vm s.heap s.vm h741 := (C918.trans (CHr.ext E741 C918.1))
                      have fk920 : Safe Z EL0 s.vm h741 b741 := (Safe.ext E741 C918.1 (Safe.new (Nat.le_of_eq g741.symm) : Safe Z EL0 s.vm h740 b741))
                      have C921 : CHr Z EL0 s.vm s.heap s.vm h749 := (C919.trans (CHr.keep K749 (sfS fk920 sf0) C919.1))
                      have C922 : CHr Z EL0 s.vm s.heap s.vm h878 := (C921.trans (CHr.keep K878 sf0 C921.1))
                      have C923 : CHr Z EL0 s.vm s.heap s.vm h879 := (C922.trans (CHr.ext E879 C922.1))
                      have fk924 : Safe Z EL0 s.vm h879 b879 := (Safe.ext E879 C922.1 (Safe.new (Nat.le_of_eq g879.symm) : Safe Z EL0 s.vm h878 b879))
                      have C925 : CHr Z EL0 s.vm s.heap s.vm h886 := (C923.trans (CHr.keep K886 (sfS fk924 sf0) C923.1))
                      have hk926 := (Nat.le_trans (Nat.le_trans (Nat.le_trans (Nat.le_trans (Nat.le_trans (Nat.le_trans (Nat.le_refl _) K740.1) E741.1) K749.1) K878.1) E879.1) K886.1)
                      refine Go.retNW X917 hx hlk hZ (own_EW hw) e917 hS0 hk926 C925 (t := .boolean) hret (by simp) (hb hby at_313) (by decide) (by decide) (fun hat => ?_)
                      exact ⟨rfl, (Fr.app (Fr.app (Fr.app (Fr.app (Fr.app (Fr.app (Fr.nil n0) N740) N749) N878) N886) N916) N917)⟩
                    · refine Go.icmpYes X886 hx (pc' := 281) (hb hby at_269) (feq hc887).2 (by decide) (by decide) ?_
                      refine Go.iconst X886 hx (pc' := 282) rfl (hb hby at_281) (v := (0 : Int32)) rfl ?_
                      refine Go.istore X886 hx (pc' := 284) rfl (hb hby at_282) (Ls' := #[.val (.int p0), .val (.int p1), .val (.int p2), .val (.int z1), .val (.int z5), .val (.int jv7_5), .val (.int jv8_6), .val (.int 2), .val (.int 1), .val (.int jv17_9), .val (.int jv18_10), .val (.int z21), .val (.ref b740_0), .val (.ref b741), .val (.ref b878_0), .val (.ref b879), .val (.int 0), .val (.int 0)]) rfl ?_
                      refine Go.aload X886 hx (pc' := 286) rfl (hb hby at_284) rfl rfl ?_
                      refine Go.aload X886 hx (pc' := 288) rfl (hb hby at_286) rfl rfl ?_
                      have Kp928 : Keep h0 h886 [] := (Kp883.trans K886 (allS (Or.inr sz885) all0))
                      have Zn927 : n0 ≤ h886.size := Nat.le_trans Z0 Kp928.1
                      have O929 := (O877.keep K878 all0)
                      have O930 := (O929.ext E879)
                      have O931 := (O930.keep K886 (allS ge884 all0))
                      have fk933 : Exa Z h878 b741 "com/example/tough_filter/toughfilter/Expression$Keyword" := (F749_0.keep K878)
                      have ne932 : b741 ≠ b879 := Nat.ne_of_lt (Nat.lt_of_lt_of_le fk933.lt (Nat.le_of_eq g879.symm))
                      have fk934 : Fld Z h886 b741 "com/example/tough_filter/toughfilter/Expression$Keyword" "pinyin" "Z" (.int jv17_9) := (((F749_1.keep K878 nin0).ext E879).keep K886 (ninS ne932 nin0))
                      have fk935 : Fld Z h886 b741 "com/example/tough_filter/toughfilter/Expression$Keyword" "word" "Ljava/lang/String;" (.ref b740_0) := (((F749_2.keep K878 nin0).ext E879).keep K886 (ninS ne932 nin0))
                      have fk936 : Exa Z h886 b740_0 "java/lang/String" := (((((F740_0.ext E741).keep K749).keep K878).ext E879).keep K886)
                      have ne937 : b740_0 ≠ b741 := Nat.ne_of_lt (Nat.lt_of_lt_of_le F740_0.lt (Nat.le_of_eq g741.symm))
                      have fk939 : Exa Z h878 b740_0 "java/lang/String" := (((F740_0.ext E741).keep K749).keep K878)
                      have ne938 : b740_0 ≠ b879 := Nat.ne_of_lt (Nat.lt_of_lt_of_le fk939.lt (Nat.le_of_eq g879.symm))
                      have fk940 : Fld Z h886 b740_0 "java/lang/String" "coder" "B" (.int 0) := (((((F740_1.ext E741).keep K749 (ninS ne937 nin0)).keep K878 nin0).ext E879).keep K886 (ninS ne938 nin0))
                      have fk941 : Fld Z h886 b740_0 "java/lang/String" "value" "[B" (.ref b740_1) := (((((F740_2.ext E741).keep K749 (ninS ne937 nin0)).keep K878 nin0).ext E879).keep K886 (ninS ne938 nin0))
                      have fk942 : Exa Z h886 b878_0 "java/lang/String" := ((F878_0.ext E879).keep K886)
                      have ne943 : b878_0 ≠ b879 := Nat.ne_of_lt (Nat.lt_of_lt_of_le F878_0.lt (Nat.le_of_eq g879.symm))
                      have fk944 : Fld Z h886 b878_0 "java/lang/String" "coder" "B" (.int 0) := ((F878_1.ext E879).keep K886 (ninS ne943 nin0))
                      have fk945 : Fld Z h886 b878_0 "java/lang/String" "value" "[B" (.ref b878_1) := ((F878_2.ext E879).keep K886 (ninS ne943 nin0))
                      have ne946 : b740_1 ≠ b741 := Nat.ne_of_lt (Nat.lt_of_lt_of_le F740_3.lt (Nat.le_of_eq g741.symm))
                      have fk948 := (((F740_3.ext E741).keep K749 (ninS ne946 nin0)).keep K878 nin0)
                      have ne947 : b740_1 ≠ b879 := Nat.ne_of_lt (Nat.lt_of_lt_of_le fk948.lt (Nat.le_of_eq g879.symm))
                      have fk949 := (((((F740_3.ext E741).keep K749 (ninS ne946 nin0)).keep K878 nin0).ext E879).keep K886 (ninS ne947 nin0))
                      have ne950 : b878_1 ≠ b879 := Nat.ne_of_lt (Nat.lt_of_lt_of_le F878_3.lt (Nat.le_of_eq g879.symm))
                      have fk951 := ((F878_3.ext E879).keep K886 (ninS ne950 nin0))
                      have fk953 : Exa Z h749 b740_0 "java/lang/String" := ((F740_0.ext E741).keep K749)
                      have ne952 : b740_0 ≠ b878_0 := Nat.ne_of_lt (Nat.lt_of_lt_of_le fk953.lt s878_0)
                      have fk954 : Exa Z h886 b741 "com/example/tough_filter/toughfilter/Expression$Keyword" := ((fk933.ext E879).keep K886)
                      refine Go.callV X886 hx hZ hown (tw_53 hw) (tw_54 hw) (notFace_of_selects (args := #[]) (mvT hZ (tw_56 hw))) (tw_56 hw) (tw_55 hw) (by decide) (tw_57 hw) (tw_36 hw) (au_52 l Z a0 hw b741 b879 jv17_9 b740_0 jv18_10 b878_0 b740_1 b878_1 k740_0 z740_0 z740_1 k878_0 z878_0 gz1 gv5 h886 n0 Zn927 O931 G fk934 fk935 F886_0 F886_1 F886_2 fk936 fk940 fk941 fk942 fk944 fk945 fk949 fk951 ne952) e886 fk954 (argsL := [(.ref b879)]) (rest := []) (pc' := 291) rfl (by rw [hml]; rfl) (lenOf pd_5 rfl) rfl rfl (W := 0) (Nat.le_of_eq rfl) (by decide) (by decide) (by decide) (by decide) (hb hby at_288) ?_
                      intro v955 T955 L955 q955 X955
                      obtain ⟨rfl, N955, e955⟩ := q955
                      show Go _ _ _ _ (T955.setTop (mkF m 291 #[.val (.int p0), .val (.int p1), .val (.int p2), .val (.int z1), .val (.int z5), .val (.int jv7_5), .val (.int jv8_6), .val (.int 2), .val (.int 1), .val (.int jv17_9), .val (.int jv18_10), .val (.int z21), .val (.ref b740_0), .val (.ref b741), .val (.ref b878_0), .val (.ref b879), .val (.int 0), .val (.int 0)] [(.int 0)]))
                      refine Go.iload X955 hx (pc' := 293) rfl (hb hby at_291) rfl ?_
                      refine Go.icmpNo X955 hx (pc' := 296) rfl (hb hby at_293) (by decide) ?_
                      refine Go.aload X955 hx (pc' := 298) rfl (hb hby at_296) rfl rfl ?_
                      refine Go.aload X955 hx (pc' := 300) rfl (hb hby at_298) rfl rfl ?_
                      refine Go.callV X955 hx hZ hown (tw_53 hw) (tw_54 hw) (notFace_of_selects (args := #[]) (mvT hZ (tw_56 hw))) (tw_56 hw) (tw_55 hw) (by decide) (tw_57 hw) (tw_36 hw) (au_49 l Z a0 hw b879 b741 jv18_10 b878_0 jv17_9 b740_0 b878_1 b740_1 k878_0 z878_0 k740_0 z740_0 z740_1 gz1 gv5 h886 n0 Zn927 O931 G F886_1 F886_2 fk954 fk934 fk935 fk942 fk944 fk945 fk936 fk940 fk941 fk951 fk949 (Ne.symm ne952)) e955 F886_0 (argsL := [(.ref b741)]) (rest := []) (pc' := 303) rfl (by rw [hml]; rfl) (lenOf pd_5 rfl) rfl rfl (W := 0) (Nat.le_of_eq rfl) (by decide) (by decide) (by decide) (by decide) (hb hby at_300) ?_
                      intro v956 T956 L956 q956 X956
                      obtain ⟨rfl, N956, e956⟩ := q956
                      show Go _ _ _ _ (T956.setTop (mkF m 303 #[.val (.int p0), .val (.int p1), .val (.int p2), .val (.int z1), .val (.int z5), .val (.int jv7_5), .val (.int jv8_6), .val (.int 2), .val (.int 1), .val (.int jv17_9), .val (.int jv18_10), .val (.int z21), .val (.ref b740_0), .val (.ref b741), .val (.ref b878_0), .val (.ref b879), .val (.int 0), .val (.int 0)] [(.int 0)]))
                      refine Go.iload X956 hx (pc' := 305) rfl (hb hby at_303) rfl ?_
                      refine Go.icmpNo X956 hx (pc' := 308) rfl (hb hby at_305) (by decide) ?_
                      refine Go.iconst X956 hx (pc' := 309) rfl (hb hby at_308) (v := (1 : Int32)) rfl ?_
                      refine Go.goto X956 hx (pc' := 313) (hb hby at_309) (by decide) (by decide) ?_
                      have C957 : CHr Z EL0 s.vm s.heap s.vm h740 := (C0.trans (CHr.keep K740 sf0 C0.1))
                      have C958 : CHr Z EL0 s.vm s.heap s.vm h741 := (C957.trans (CHr.ext E741 C957.1))
                      have fk959 : Safe Z EL0 s.vm h741 b741 := (Safe.ext E741 C957.1 (Safe.new (Nat.le_of_eq g741.symm) : Safe Z EL0 s.vm h740 b741))
                      have C960 : CHr Z EL0 s.vm s.heap s.vm h749 := (C958.trans (CHr.keep K749 (sfS fk959 sf0) C958.1))
                      have C961 : CHr Z EL0 s.vm s.heap s.vm h878 := (C960.trans (CHr.keep K878 sf0 C960.1))
                      have C962 : CHr Z EL0 s.vm s.heap s.vm h879 := (C961.trans (CHr.ext E879 C961.1))
                      have fk963 : Safe Z EL0 s.vm h879 b879 := (Safe.ext E879 C961.1 (Safe.new (Nat.le_of_eq g879.symm) : Safe Z EL0 s.vm h878 b879))
                      have C964 : CHr Z EL0 s.vm s.heap s.vm h886 := (C962.trans (CHr.keep K886 (sfS fk963 sf0) C962.1))
                      have hk965 := (Nat.le_trans (Nat.le_trans (Nat.le_trans (Nat.le_trans (Nat.le_trans (Nat.le_trans (Nat.le_refl _) K740.1) E741.1) K749.1) K878.1) E879.1) K886.1)
                      refine Go.retNW X956 hx hlk hZ (own_EW hw) e956 hS0 hk965 C964 (t := .boolean) hret (by simp) (hb hby at_313) (by decide) (by decide) (fun hat => ?_)
                      exact ⟨rfl, (Fr.app (Fr.app (Fr.app (Fr.app (Fr.app (Fr.app (Fr.nil n0) N740) N749) N878) N886) N955) N956)⟩
                  · refine Go.iload X749 hx (pc' := 204) rfl (hb hby at_202) rfl ?_
                    refine Go.iload X749 hx (pc' := 206) rfl (hb hby at_204) rfl ?_
                    refine Go.iload X749 hx (pc' := 208) rfl (hb hby at_206) rfl ?_
                    have Kp967 : Keep h0 h749 [] := (Kp746.trans K749 (allS (Or.inr sz748) all0))
                    have Zn966 : n0 ≤ h749.size := Nat.le_trans Z0 Kp967.1
                    have O968 := (O0.keep K740 all0)
                    have O969 := (O968.ext E741)
                    have O970 := (O969.keep K749 (allS ge747 all0))
                    refine Go.callS X749 hx hZ hown (tw_0 hw) (tw_1 hw) (tw_2 hw) (tw_3 hw) (by decide) (tw_3 hw) (tw_2 hw) (au_29 l Z a0 hw jv7_5 jv8_6 gz1 gv5 h749 n0 Zn966 O970 G jr7_5 jr8_6) e749 (argsL := [(.int 2), (.int jv7_5), (.int jv8_6)]) (rest := []) (pc' := 211) rfl (by rw [hml]; rfl) (lenOf pd_2 rfl) rfl rfl (W := 0) (Nat.le_of_eq rfl) (by decide) (by decide) (by decide) (by decide) (hb hby at_208) ?_
                    intro v971 T971 L971 q971 X971
                    obtain ⟨h971, e971⟩ : ∃ z, T971.heap = z := ⟨_, rfl⟩
                    rw [e971] at q971
                    obtain ⟨z971_0, z971_1, b971_0, b971_1, k971_0, d971_0, d971_1, rfl, N971, K971, s971_0, s971_1, n971_0, F971_0, F971_1, F971_2, F971_3, F971_4⟩ := q971
                    show Go _ _ _ _ (T971.setTop (mkF m 211 #[.val (.int p0), .val (.int p1), .val (.int p2), .val (.int z1), .val (.int z5), .val (.int jv7_5), .val (.int jv8_6), .val (.int 2), .val (.int 2), .val (.int jv17_9), .val (.int jv18_10), .val (.int z21), .val (.ref b740_0), .val (.ref b741), .unset, .unset, .unset, .unset] [(.ref b971_0)]))
                    refine Go.astore X971 hx (pc' := 213) rfl (hb hby at_211) (Ls' := #[.val (.int p0), .val (.int p1), .val (.int p2), .val (.int z1), .val (.int z5), .val (.int jv7_5), .val (.int jv8_6), .val (.int 2), .val (.int 2), .val (.int jv17_9), .val (.int jv18_10), .val (.int z21), .val (.ref b740_0), .val (.ref b741), .val (.ref b971_0), .unset, .unset, .unset]) rfl rfl ?_
                    refine Go.new X971 hx hZ hown (tw_34 hw) (tw_35 hw) (tw_36 hw) e971 (by decide) (by decide) (pc' := 216) rfl (hb hby at_213) ?_
                    intro T972 h972 b972 e972 E972 g972 A972 D972 X972
                    have b972_word : Fld Z h972 b972 "com/example/tough_filter/toughfilter/Expression$Keyword" "word" "Ljava/lang/String;" .null := D972 (Or.inr (tw_47 hw)) (ty := (.object "java/lang/String")) (by decide)
                    have b972_pinyin : Fld Z h972 b972 "com/example/tough_filter/toughfilter/Expression$Keyword" "pinyin" "Z" (.int 0) := D972 (Or.inr (tw_49 hw)) (ty := .boolean) (by decide)
                    refine Go.dup X972 hx (pc' := 217) rfl (hb hby at_216) rfl ?_
                    refine Go.aload X972 hx (pc' := 219) rfl (hb hby at_217) rfl rfl ?_
                    refine Go.iload X972 hx (pc' := 221) rfl (hb hby at_219) rfl ?_
                    have r973 : -128 ≤ z971_0.toInt ∧ z971_0.toInt ≤ 127 := own_ri2b d971_0
                    have r974 : -128 ≤ z971_1.toInt ∧ z971_1.toInt ≤ 127 := own_ri2b d971_1
                    have Kp976 : Keep h0 h971 [] := (Kp967.trans K971 all0)
                    have Kp977 : Keep h0 h972 [] := (Kp976.ext E972)
                    have Zn975 : n0 ≤ h972.size := Nat.le_trans Z0 Kp977.1
                    have sz979 : h0.size ≤ b972 := Nat.le_trans Kp976.1 (Nat.le_of_eq g972.symm)
                    have ge978 : n0 ≤ b972 := Nat.le_trans Z0 sz979
                    refine Go.callN X972 hx hZ hown rfl (tw_37 hw) (tw_38 hw) (tw_39 hw) (by decide) (tw_39 hw) (tw_36 hw) (au_35 l Z a0 hw b972 b971_0 jv18_10 h972 n0 Zn975 A972 b972_pinyin b972_word jr18_10 ge978) e972 (a := b972) (argsL := [(.ref b971_0), (.int jv18_10)]) (rest := [(.ref b972)]) (pc' := 224) rfl (by rw [hml]; rfl) (lenOf pd_4 rfl) rfl rfl (W := 1) (Nat.le_of_eq rfl) (by decide) (by decide) (by decide) (by decide) (hb hby at_221) ?_
                    intro v980 T980 L980 q980 X980
                    obtain ⟨h980, e980⟩ : ∃ z, T980.heap = z := ⟨_, rfl⟩
                    rw [e980] at q980
                    obtain ⟨rfl, N980, K980, F980_0, F980_1, F980_2⟩ := q980
                    show Go _ _ _ _ (T980.setTop (mkF m 224 #[.val (.int p0), .val (.int p1), .val (.int p2), .val (.int z1), .val (.int z5), .val (.int jv7_5), .val (.int jv8_6), .val (.int 2), .val (.int 2), .val (.int jv17_9), .val (.int jv18_10), .val (.int z21), .val (.ref b740_0), .val (.ref b741), .val (.ref b971_0), .unset, .unset, .unset] [(.ref b972)]))
                    refine Go.astore X980 hx (pc' := 226) rfl (hb hby at_224) (Ls' := #[.val (.int p0), .val (.int p1), .val (.int p2), .val (.int z1), .val (.int z5), .val (.int jv7_5), .val (.int jv8_6), .val (.int 2), .val (.int 2), .val (.int jv17_9), .val (.int jv18_10), .val (.int z21), .val (.ref b740_0), .val (.ref b741), .val (.ref b971_0), .val (.ref b972), .unset, .unset]) rfl rfl ?_
                    refine Go.iload X980 hx (pc' := 228) rfl (hb hby at_226) rfl ?_
                    refine Go.iload X980 hx (pc' := 230) rfl (hb hby at_228) rfl ?_
                    refine Go.icmpNo X980 hx (pc' := 233) rfl (hb hby at_230) (by decide) ?_
                    refine Go.iload X980 hx (pc' := 235) rfl (hb hby at_233) rfl ?_
                    refine Go.iconst X980 hx (pc' := 236) rfl (hb hby at_235) (v := (1 : Int32)) rfl ?_
                    refine Go.icmpNo X980 hx (pc' := 239) rfl (hb hby at_236) (by decide) ?_
                    refine Go.iloadN X980 hx (pc' := 240) rfl (hb hby at_239) rfl ?_
                    refine Go.iload X980 hx (pc' := 242) rfl (hb hby at_240) rfl ?_
                    by_cases hc981 : z1 = jv7_5
                    · refine Go.icmpNo X980 hx (pc' := 245) rfl (hb hby at_242) (teq hc981).2 ?_
                      refine Go.iload X980 hx (pc' := 247) rfl (hb hby at_245) rfl ?_
                      refine Go.iconst X980 hx (pc' := 248) rfl (hb hby at_247) (v := (2 : Int32)) rfl ?_
                      refine Go.icmpNo X980 hx (pc' := 251) rfl (hb hby at_248) (by decide) ?_
                      refine Go.iload X980 hx (pc' := 253) rfl (hb hby at_251) rfl ?_
                      refine Go.iload X980 hx (pc' := 255) rfl (hb hby at_253) rfl ?_
                      by_cases hc982 : z5 = jv8_6
                      · refine Go.icmpNo X980 hx (pc' := 258) rfl (hb hby at_255) (teq hc982).2 ?_
                        refine Go.iconst X980 hx (pc' := 259) rfl (hb hby at_258) (v := (1 : Int32)) rfl ?_
                        refine Go.goto X980 hx (pc' := 263) (hb hby at_259) (by decide) (by decide) ?_
                        refine Go.istore X980 hx (pc' := 265) rfl (hb hby at_263) (Ls' := #[.val (.int p0), .val (.int p1), .val (.int p2), .val (.int z1), .val (.int z5), .val (.int jv7_5), .val (.int jv8_6), .val (.int 2), .val (.int 2), .val (.int jv17_9), .val (.int jv18_10), .val (.int z21), .val (.ref b740_0), .val (.ref b741), .val (.ref b971_0), .val (.ref b972), .val (.int 1), .unset]) rfl ?_
                        refine Go.iload X980 hx (pc' := 267) rfl (hb hby at_265) rfl ?_
                        refine Go.iload X980 hx (pc' := 269) rfl (hb hby at_267) rfl ?_
                        by_cases hc983 : jv17_9 = jv18_10
                        · refine Go.icmpNo X980 hx (pc' := 272) rfl (hb hby at_269) (teq hc983).2 ?_
                          refine Go.iload X980 hx (pc' := 274) rfl (hb hby at_272) rfl ?_
                          refine Go.ifNo X980 hx (pc' := 277) rfl (hb hby at_274) (by decide) ?_
                          refine Go.iconst X980 hx (pc' := 278) rfl (hb hby at_277) (v := (1 : Int32)) rfl ?_
                          refine Go.goto X980 hx (pc' := 282) (hb hby at_278) (by decide) (by decide) ?_
                          refine Go.istore X980 hx (pc' := 284) rfl (hb hby at_282) (Ls' := #[.val (.int p0), .val (.int p1), .val (.int p2), .val (.int z1), .val (.int z5), .val (.int jv7_5), .val (.int jv8_6), .val (.int 2), .val (.int 2), .val (.int jv17_9), .val (.int jv18_10), .val (.int z21), .val (.ref b740_0), .val (.ref b741), .val (.ref b971_0), .val (.ref b972), .val (.int 1), .val (.int 1)]) rfl ?_
                          refine Go.aload X980 hx (pc' := 286) rfl (hb hby at_284) rfl rfl ?_
                          refine Go.aload X980 hx (pc' := 288) rfl (hb hby at_286) rfl rfl ?_
                          have Kp985 : Keep h0 h980 [] := (Kp977.trans K980 (allS (Or.inr sz979) all0))
                          have Zn984 : n0 ≤ h980.size := Nat.le_trans Z0 Kp985.1
                          have O986 := (O970.keep K971 all0)
                          have O987 := (O986.ext E972)
                          have O988 := (O987.keep K980 (allS ge978 all0))
                          have fk990 : Exa Z h971 b741 "com/example/tough_filter/toughfilter/Expression$Keyword" := (F749_0.keep K971)
                          have ne989 : b741 ≠ b972 := Nat.ne_of_lt (Nat.lt_of_lt_of_le fk990.lt (Nat.le_of_eq g972.symm))
                          have fk991 : Fld Z h980 b741 "com/example/tough_filter/toughfilter/Expression$Keyword" "pinyin" "Z" (.int jv17_9) := (((F749_1.keep K971 nin0).ext E972).keep K980 (ninS ne989 nin0))
                          have fk992 : Fld Z h980 b741 "com/example/tough_filter/toughfilter/Expression$Keyword" "word" "Ljava/lang/String;" (.ref b740_0) := (((F749_2.keep K971 nin0).ext E972).keep K980 (ninS ne989 nin0))
                          have fk993 : Exa Z h980 b740_0 "java/lang/String" := (((((F740_0.ext E741).keep K749).keep K971).ext E972).keep K980)
                          have ne994 : b740_0 ≠ b741 := Nat.ne_of_lt (Nat.lt_of_lt_of_le F740_0.lt (Nat.le_of_eq g741.symm))
                          have fk996 : Exa Z h971 b740_0 "java/lang/String" := (((F740_0.ext E741).keep K749).keep K971)
                          have ne995 : b740_0 ≠ b972 := Nat.ne_of_lt (Nat.lt_of_lt_of_le fk996.lt (Nat.le_of_eq g972.symm))
                          have fk997 : Fld Z h980 b740_0 "java/lang/String" "coder" "B" (.int 0) := (((((F740_1.ext E741).keep K749 (ninS ne994 nin0)).keep K971 nin0).ext E972).keep K980 (ninS ne995 nin0))
                          have fk998 : Fld Z h980 b740_0 "java/lang/String" "value" "[B" (.ref b740_1) := (((((F740_2.ext E741).keep K749 (ninS ne994 nin0)).keep K971 nin0).ext E972).keep K980 (ninS ne995 nin0))
                          have fk999 : Exa Z h980 b971_0 "java/lang/String" := ((F971_0.ext E972).keep K980)
                          have ne1000 : b971_0 ≠ b972 := Nat.ne_of_lt (Nat.lt_of_lt_of_le F971_0.lt (Nat.le_of_eq g972.symm))
                          have fk1001 : Fld Z h980 b971_0 "java/lang/String" "coder" "B" (.int 0) := ((F971_1.ext E972).keep K980 (ninS ne1000 nin0))
                          have fk1002 : Fld Z h980 b971_0 "java/lang/String" "value" "[B" (.ref b971_1) := ((F971_2.ext E972).keep K980 (ninS ne1000 nin0))
                          have ne1003 : b740_1 ≠ b741 := Nat.ne_of_lt (Nat.lt_of_lt_of_le F740_3.lt (Nat.le_of_eq g741.symm))
                          have fk1005 := (((F740_3.ext E741).keep K749 (ninS ne1003 nin0)).keep K971 nin0)
                          have ne1004 : b740_1 ≠ b972 := Nat.ne_of_lt (Nat.lt_of_lt_of_le fk1005.lt (Nat.le_of_eq g972.symm))
                          have fk1006 := (((((F740_3.ext E741).keep K749 (ninS ne1003 nin0)).keep K971 nin0).ext E972).keep K980 (ninS ne1004 nin0))
                          have ne1007 : b971_1 ≠ b972 := Nat.ne_of_lt (Nat.lt_of_lt_of_le F971_3.lt (Nat.le_of_eq g972.symm))
                          have fk1008 := ((F971_3.ext E972).keep K980 (ninS ne1007 nin0))
                          have fk1010 : Exa Z h749 b740_0 "java/lang/String" := ((F740_0.ext E741).keep K749)
                          have ne1009 : b740_0 ≠ b971_0 := Nat.ne_of_lt (Nat.lt_of_lt_of_le fk1010.lt s971_0)
                          have fk1011 : Exa Z h980 b741 "com/example/tough_filter/toughfilter/Expression$Keyword" := ((fk990.ext E972).keep K980)
                          refine Go.callV X980 hx hZ hown (tw_53 hw) (tw_54 hw) (notFace_of_selects (args := #[]) (mvT hZ (tw_56 hw))) (tw_56 hw) (tw_55 hw) (by decide) (tw_57 hw) (tw_36 hw) (au_59 l Z a0 hw b741 b972 jv17_9 b740_0 jv18_10 b971_0 b740_1 b971_1 k740_0 z740_0 z740_1 k971_0 z971_0 z971_1 z1 z5 jv7_5 jv8_6 gz1 gv5 h980 n0 Zn984 O988 G fk991 fk992 F980_0 F980_1 F980_2 fk993 fk997 fk998 fk999 fk1001 fk1002 fk1006 fk1008 r2 r6 jr7_5 jr8_6 d740_0 d740_1 d971_0 d971_1 ne1009) e980 fk1011 (argsL := [(.ref b972)]) (rest := []) (pc' := 291) rfl (by rw [hml]; rfl) (lenOf pd_5 rfl) rfl rfl (W := 0) (Nat.le_of_eq rfl) (by decide) (by decide) (by decide) (by decide) (hb hby at_288) ?_
                          intro v1012 T1012 L1012 q1012 X1012
                          rcases q1012 with ⟨c1012_0_0, c1012_0_1, c1012_0_2, rfl, N1012_0, e1012_0⟩ | ⟨c1012_1_0, c1012_1_1, c1012_1_2, rfl, N1012_1, e1012_1⟩ | ⟨c1012_2_0, c1012_2_1, rfl, N1012_2, e1012_2⟩ | ⟨c1012_3_0, rfl, N1012_3, e1012_3⟩
                          · show Go _ _ _ _ (T1012.setTop (mkF m 291 #[.val (.int p0), .val (.int p1), .val (.int p2), .val (.int z1), .val (.int z5), .val (.int jv7_5), .val (.int jv8_6), .val (.int 2), .val (.int 2), .val (.int jv17_9), .val (.int jv18_10), .val (.int z21), .val (.ref b740_0), .val (.ref b741), .val (.ref b971_0), .val (.ref b972), .val (.int 1), .val (.int 1)] [(.int 1)]))
                            refine Go.iload X1012 hx (pc' := 293) rfl (hb hby at_291) rfl ?_
                            refine Go.icmpNo X1012 hx (pc' := 296) rfl (hb hby at_293) (by decide) ?_
                            refine Go.aload X1012 hx (pc' := 298) rfl (hb hby at_296) rfl rfl ?_
                            refine Go.aload X1012 hx (pc' := 300) rfl (hb hby at_298) rfl rfl ?_
                            refine Go.callV X1012 hx hZ hown (tw_53 hw) (tw_54 hw) (notFace_of_selects (args := #[]) (mvT hZ (tw_56 hw))) (tw_56 hw) (tw_55 hw) (by decide) (tw_57 hw) (tw_36 hw) (au_59 l Z a0 hw b972 b741 jv18_10 b971_0 jv17_9 b740_0 b971_1 b740_1 k971_0 z971_0 z971_1 k740_0 z740_0 z740_1 jv7_5 jv8_6 z1 z5 gz1 gv5 h980 n0 Zn984 O988 G F980_1 F980_2 fk1011 fk991 fk992 fk999 fk1001 fk1002 fk993 fk997 fk998 fk1008 fk1006 jr7_5 jr8_6 r2 r6 d971_0 d971_1 d740_0 d740_1 (Ne.symm ne1009)) e1012_0 F980_0 (argsL := [(.ref b741)]) (rest := []) (pc' := 303) rfl (by rw [hml]; rfl) (lenOf pd_5 rfl) rfl rfl (W := 0) (Nat.le_of_eq rfl) (by decide) (by decide) (by decide) (by decide) (hb hby at_300) ?_
                            intro v1013 T1013 L1013 q1013 X1013
                            rcases q1013 with ⟨c1013_0_0, c1013_0_1, c1013_0_2, rfl, N1013_0, e1013_0⟩ | ⟨c1013_1_0, c1013_1_1, c1013_1_2, rfl, N1013_1, e1013_1⟩ | ⟨c1013_2_0, c1013_2_1, rfl, N1013_2, e1013_2⟩ | ⟨c1013_3_0, rfl, N1013_3, e1013_3⟩
                            · show Go _ _ _ _ (T1013.setTop (mkF m 303 #[.val (.int p0), .val (.int p1), .val (.int p2), .val (.int z1), .val (.int z5), .val (.int jv7_5), .val (.int jv8_6), .val (.int 2), .val (.int 2), .val (.int jv17_9), .val (.int jv18_10), .val (.int z21), .val (.ref b740_0), .val (.ref b741), .val (.ref b971_0), .val (.ref b972), .val (.int 1), .val (.int 1)] [(.int 1)]))
                              refine Go.iload X1013 hx (pc' := 305) rfl (hb hby at_303) rfl ?_
                              refine Go.icmpNo X1013 hx (pc' := 308) rfl (hb hby at_305) (by decide) ?_
                              refine Go.iconst X1013 hx (pc' := 309) rfl (hb hby at_308) (v := (1 : Int32)) rfl ?_
                              refine Go.goto X1013 hx (pc' := 313) (hb hby at_309) (by decide) (by decide) ?_
                              have C1014 : CHr Z EL0 s.vm s.heap s.vm h740 := (C0.trans (CHr.keep K740 sf0 C0.1))
                              have C1015 : CHr Z EL0 s.vm s.heap s.vm h741 := (C1014.trans (CHr.ext E741 C1014.1))
                              have fk1016 : Safe Z EL0 s.vm h741 b741 := (Safe.ext E741 C1014.1 (Safe.new (Nat.le_of_eq g741.symm) : Safe Z EL0 s.vm h740 b741))
                              have C1017 : CHr Z EL0 s.vm s.heap s.vm h749 := (C1015.trans (CHr.keep K749 (sfS fk1016 sf0) C1015.1))
                              have C1018 : CHr Z EL0 s.vm s.heap s.vm h971 := (C1017.trans (CHr.keep K971 sf0 C1017.1))
                              have C1019 : CHr Z EL0 s.vm s.heap s.vm h972 := (C1018.trans (CHr.ext E972 C1018.1))
                              have fk1020 : Safe Z EL0 s.vm h972 b972 := (Safe.ext E972 C1018.1 (Safe.new (Nat.le_of_eq g972.symm) : Safe Z EL0 s.vm h971 b972))
                              have C1021 : CHr Z EL0 s.vm s.heap s.vm h980 := (C1019.trans (CHr.keep K980 (sfS fk1020 sf0) C1019.1))
                              have hk1022 := (Nat.le_trans (Nat.le_trans (Nat.le_trans (Nat.le_trans (Nat.le_trans (Nat.le_trans (Nat.le_refl _) K740.1) E741.1) K749.1) K971.1) E972.1) K980.1)
                              refine Go.retNW X1013 hx hlk hZ (own_EW hw) e1013_0 hS0 hk1022 C1021 (t := .boolean) hret (by simp) (hb hby at_313) (by decide) (by decide) (fun hat => ?_)
                              exact ⟨rfl, (Fr.app (Fr.app (Fr.app (Fr.app (Fr.app (Fr.app (Fr.nil n0) N740) N749) N971) N980) N1012_0) N1013_0)⟩
                            · exact absurd hc982.symm c1013_1_2
                            · exact absurd hc981.symm c1013_2_1
                            · exact absurd hc983.symm c1013_3_0
                          · exact absurd hc982 c1012_1_2
                          · exact absurd hc981 c1012_2_1
                          · exact absurd hc983 c1012_3_0
                        · refine Go.icmpYes X980 hx (pc' := 281) (hb hby at_269) (feq hc983).2 (by decide) (by decide) ?_
                          refine Go.iconst X980 hx (pc' := 282) rfl (hb hby at_281) (v := (0 : Int32)) rfl ?_
                          refine Go.istore X980 hx (pc' := 284) rfl (hb hby at_282) (Ls' := #[.val (.int p0), .val (.int p1), .val (.int p2), .val (.int z1), .val (.int z5), .val (.int jv7_5), .val (.int jv8_6), .val (.int 2), .val (.int 2), .val (.int jv17_9), .val (.int jv18_10), .val (.int z21), .val (.ref b740_0), .val (.ref b741), .val (.ref b971_0), .val (.ref b972), .val (.int 1), .val (.int 0)]) rfl ?_
                          refine Go.aload X980 hx (pc' := 286) rfl (hb hby at_284) rfl rfl ?_
                          refine Go.aload X980 hx (pc' := 288) rfl (hb hby at_286) rfl rfl ?_
                          have Kp1024 : Keep h0 h980 [] := (Kp977.trans K980 (allS (Or.inr sz979) all0))
                          have Zn1023 : n0 ≤ h980.size := Nat.le_trans Z0 Kp1024.1
                          have O1025 := (O970.keep K971 all0)
                          have O1026 := (O1025.ext E972)
                          have O1027 := (O1026.keep K980 (allS ge978 all0))
                          have fk1029 : Exa Z h971 b741 "com/example/tough_filter/toughfilter/Expression$Keyword" := (F749_0.keep K971)
                          have ne1028 : b741 ≠ b972 := Nat.ne_of_lt (Nat.lt_of_lt_of_le fk1029.lt (Nat.le_of_eq g972.symm))
                          have fk1030 : Fld Z h980 b741 "com/example/tough_filter/toughfilter/Expression$Keyword" "pinyin" "Z" (.int jv17_9) := (((F749_1.keep K971 nin0).ext E972).keep K980 (ninS ne1028 nin0))
                          have fk1031 : Fld Z h980 b741 "com/example/tough_filter/toughfilter/Expression$Keyword" "word" "Ljava/lang/String;" (.ref b740_0) := (((F749_2.keep K971 nin0).ext E972).keep K980 (ninS ne1028 nin0))
                          have fk1032 : Exa Z h980 b740_0 "java/lang/String" := (((((F740_0.ext E741).keep K749).keep K971).ext E972).keep K980)
                          have ne1033 : b740_0 ≠ b741 := Nat.ne_of_lt (Nat.lt_of_lt_of_le F740_0.lt (Nat.le_of_eq g741.symm))
                          have fk1035 : Exa Z h971 b740_0 "java/lang/String" := (((F740_0.ext E741).keep K749).keep K971)
                          have ne1034 : b740_0 ≠ b972 := Nat.ne_of_lt (Nat.lt_of_lt_of_le fk1035.lt (Nat.le_of_eq g972.symm))
                          have fk1036 : Fld Z h980 b740_0 "java/lang/String" "coder" "B" (.int 0) := (((((F740_1.ext E741).keep K749 (ninS ne1033 nin0)).keep K971 nin0).ext E972).keep K980 (ninS ne1034 nin0))
                          have fk1037 : Fld Z h980 b740_0 "java/lang/String" "value" "[B" (.ref b740_1) := (((((F740_2.ext E741).keep K749 (ninS ne1033 nin0)).keep K971 nin0).ext E972).keep K980 (ninS ne1034 nin0))
                          have fk1038 : Exa Z h980 b971_0 "java/lang/String" := ((F971_0.ext E972).keep K980)
                          have ne1039 : b971_0 ≠ b972 := Nat.ne_of_lt (Nat.lt_of_lt_of_le F971_0.lt (Nat.le_of_eq g972.symm))
                          have fk1040 : Fld Z h980 b971_0 "java/lang/String" "coder" "B" (.int 0) := ((F971_1.ext E972).keep K980 (ninS ne1039 nin0))
                          have fk1041 : Fld Z h980 b971_0 "java/lang/String" "value" "[B" (.ref b971_1) := ((F971_2.ext E972).keep K980 (ninS ne1039 nin0))
                          have ne1042 : b740_1 ≠ b741 := Nat.ne_of_lt (Nat.lt_of_lt_of_le F740_3.lt (Nat.le_of_eq g741.symm))
                          have fk1044 := (((F740_3.ext E741).keep K749 (ninS ne1042 nin0)).keep K971 nin0)
                          have ne1043 : b740_1 ≠ b972 := Nat.ne_of_lt (Nat.lt_of_lt_of_le fk1044.lt (Nat.le_of_eq g972.symm))
                          have fk1045 := (((((F740_3.ext E741).keep K749 (ninS ne1042 nin0)).keep K971 nin0).ext E972).keep K980 (ninS ne1043 nin0))
                          have ne1046 : b971_1 ≠ b972 := Nat.ne_of_lt (Nat.lt_of_lt_of_le F971_3.lt (Nat.le_of_eq g972.symm))
                          have fk1047 := ((F971_3.ext E972).keep K980 (ninS ne1046 nin0))
                          have fk1049 : Exa Z h749 b740_0 "java/lang/String" := ((F740_0.ext E741).keep K749)
                          have ne1048 : b740_0 ≠ b971_0 := Nat.ne_of_lt (Nat.lt_of_lt_of_le fk1049.lt s971_0)
                          have fk1050 : Exa Z h980 b741 "com/example/tough_filter/toughfilter/Expression$Keyword" := ((fk1029.ext E972).keep K980)
                          refine Go.callV X980 hx hZ hown (tw_53 hw) (tw_54 hw) (notFace_of_selects (args := #[]) (mvT hZ (tw_56 hw))) (tw_56 hw) (tw_55 hw) (by decide) (tw_57 hw) (tw_36 hw) (au_59 l Z a0 hw b741 b972 jv17_9 b740_0 jv18_10 b971_0 b740_1 b971_1 k740_0 z740_0 z740_1 k971_0 z971_0 z971_1 z1 z5 jv7_5 jv8_6 gz1 gv5 h980 n0 Zn1023 O1027 G fk1030 fk1031 F980_0 F980_1 F980_2 fk1032 fk1036 fk1037 fk1038 fk1040 fk1041 fk1045 fk1047 r2 r6 jr7_5 jr8_6 d740_0 d740_1 d971_0 d971_1 ne1048) e980 fk1050 (argsL := [(.ref b972)]) (rest := []) (pc' := 291) rfl (by rw [hml]; rfl) (lenOf pd_5 rfl) rfl rfl (W := 0) (Nat.le_of_eq rfl) (by decide) (by decide) (by decide) (by decide) (hb hby at_288) ?_
                          intro v1051 T1051 L1051 q1051 X1051
                          rcases q1051 with ⟨c1051_0_0, c1051_0_1, c1051_0_2, rfl, N1051_0, e1051_0⟩ | ⟨c1051_1_0, c1051_1_1, c1051_1_2, rfl, N1051_1, e1051_1⟩ | ⟨c1051_2_0, c1051_2_1, rfl, N1051_2, e1051_2⟩ | ⟨c1051_3_0, rfl, N1051_3, e1051_3⟩
                          · exact absurd c1051_0_0 hc983
                          · exact absurd c1051_1_0 hc983
                          · exact absurd c1051_2_0 hc983
                          · show Go _ _ _ _ (T1051.setTop (mkF m 291 #[.val (.int p0), .val (.int p1), .val (.int p2), .val (.int z1), .val (.int z5), .val (.int jv7_5), .val (.int jv8_6), .val (.int 2), .val (.int 2), .val (.int jv17_9), .val (.int jv18_10), .val (.int z21), .val (.ref b740_0), .val (.ref b741), .val (.ref b971_0), .val (.ref b972), .val (.int 1), .val (.int 0)] [(.int 0)]))
                            refine Go.iload X1051 hx (pc' := 293) rfl (hb hby at_291) rfl ?_
                            refine Go.icmpNo X1051 hx (pc' := 296) rfl (hb hby at_293) (by decide) ?_
                            refine Go.aload X1051 hx (pc' := 298) rfl (hb hby at_296) rfl rfl ?_
                            refine Go.aload X1051 hx (pc' := 300) rfl (hb hby at_298) rfl rfl ?_
                            refine Go.callV X1051 hx hZ hown (tw_53 hw) (tw_54 hw) (notFace_of_selects (args := #[]) (mvT hZ (tw_56 hw))) (tw_56 hw) (tw_55 hw) (by decide) (tw_57 hw) (tw_36 hw) (au_59 l Z a0 hw b972 b741 jv18_10 b971_0 jv17_9 b740_0 b971_1 b740_1 k971_0 z971_0 z971_1 k740_0 z740_0 z740_1 jv7_5 jv8_6 z1 z5 gz1 gv5 h980 n0 Zn1023 O1027 G F980_1 F980_2 fk1050 fk1030 fk1031 fk1038 fk1040 fk1041 fk1032 fk1036 fk1037 fk1047 fk1045 jr7_5 jr8_6 r2 r6 d971_0 d971_1 d740_0 d740_1 (Ne.symm ne1048)) e1051_3 F980_0 (argsL := [(.ref b741)]) (rest := []) (pc' := 303) rfl (by rw [hml]; rfl) (lenOf pd_5 rfl) rfl rfl (W := 0) (Nat.le_of_eq rfl) (by decide) (by decide) (by decide) (by decide) (hb hby at_300) ?_
                            intro v1052 T1052 L1052 q1052 X1052
                            rcases q1052 with ⟨c1052_0_0, c1052_0_1, c1052_0_2, rfl, N1052_0, e1052_0⟩ | ⟨c1052_1_0, c1052_1_1, c1052_1_2, rfl, N1052_1, e1052_1⟩ | ⟨c1052_2_0, c1052_2_1, rfl, N1052_2, e1052_2⟩ | ⟨c1052_3_0, rfl, N1052_3, e1052_3⟩
                            · exact absurd c1052_0_0 (Ne.symm hc983)
                            · exact absurd c1052_1_0 (Ne.symm hc983)
                            · exact absurd c1052_2_0 (Ne.symm hc983)
                            · show Go _ _ _ _ (T1052.setTop (mkF m 303 #[.val (.int p0), .val (.int p1), .val (.int p2), .val (.int z1), .val (.int z5), .val (.int jv7_5), .val (.int jv8_6), .val (.int 2), .val (.int 2), .val (.int jv17_9), .val (.int jv18_10), .val (.int z21), .val (.ref b740_0), .val (.ref b741), .val (.ref b971_0), .val (.ref b972), .val (.int 1), .val (.int 0)] [(.int 0)]))
                              refine Go.iload X1052 hx (pc' := 305) rfl (hb hby at_303) rfl ?_
                              refine Go.icmpNo X1052 hx (pc' := 308) rfl (hb hby at_305) (by decide) ?_
                              refine Go.iconst X1052 hx (pc' := 309) rfl (hb hby at_308) (v := (1 : Int32)) rfl ?_
                              refine Go.goto X1052 hx (pc' := 313) (hb hby at_309) (by decide) (by decide) ?_
                              have C1053 : CHr Z EL0 s.vm s.heap s.vm h740 := (C0.trans (CHr.keep K740 sf0 C0.1))
                              have C1054 : CHr Z EL0 s.vm s.heap s.vm h741 := (C1053.trans (CHr.ext E741 C1053.1))
                              have fk1055 : Safe Z EL0 s.vm h741 b741 := (Safe.ext E741 C1053.1 (Safe.new (Nat.le_of_eq g741.symm) : Safe Z EL0 s.vm h740 b741))
                              have C1056 : CHr Z EL0 s.vm s.heap s.vm h749 := (C1054.trans (CHr.keep K749 (sfS fk1055 sf0) C1054.1))
                              have C1057 : CHr Z EL0 s.vm s.heap s.vm h971 := (C1056.trans (CHr.keep K971 sf0 C1056.1))
                              have C1058 : CHr Z EL0 s.vm s.heap s.vm h972 := (C1057.trans (CHr.ext E972 C1057.1))
                              have fk1059 : Safe Z EL0 s.vm h972 b972 := (Safe.ext E972 C1057.1 (Safe.new (Nat.le_of_eq g972.symm) : Safe Z EL0 s.vm h971 b972))
                              have C1060 : CHr Z EL0 s.vm s.heap s.vm h980 := (C1058.trans (CHr.keep K980 (sfS fk1059 sf0) C1058.1))
                              have hk1061 := (Nat.le_trans (Nat.le_trans (Nat.le_trans (Nat.le_trans (Nat.le_trans (Nat.le_trans (Nat.le_refl _) K740.1) E741.1) K749.1) K971.1) E972.1) K980.1)
                              refine Go.retNW X1052 hx hlk hZ (own_EW hw) e1052_3 hS0 hk1061 C1060 (t := .boolean) hret (by simp) (hb hby at_313) (by decide) (by decide) (fun hat => ?_)
                              exact ⟨rfl, (Fr.app (Fr.app (Fr.app (Fr.app (Fr.app (Fr.app (Fr.nil n0) N740) N749) N971) N980) N1051_3) N1052_3)⟩
                      · refine Go.icmpYes X980 hx (pc' := 262) (hb hby at_255) (feq hc982).2 (by decide) (by decide) ?_
                        refine Go.iconst X980 hx (pc' := 263) rfl (hb hby at_262) (v := (0 : Int32)) rfl ?_
                        refine Go.istore X980 hx (pc' := 265) rfl (hb hby at_263) (Ls' := #[.val (.int p0), .val (.int p1), .val (.int p2), .val (.int z1), .val (.int z5), .val (.int jv7_5), .val (.int jv8_6), .val (.int 2), .val (.int 2), .val (.int jv17_9), .val (.int jv18_10), .val (.int z21), .val (.ref b740_0), .val (.ref b741), .val (.ref b971_0), .val (.ref b972), .val (.int 0), .unset]) rfl ?_
                        refine Go.iload X980 hx (pc' := 267) rfl (hb hby at_265) rfl ?_
                        refine Go.iload X980 hx (pc' := 269) rfl (hb hby at_267) rfl ?_
                        by_cases hc1062 : jv17_9 = jv18_10
                        · refine Go.icmpNo X980 hx (pc' := 272) rfl (hb hby at_269) (teq hc1062).2 ?_
                          refine Go.iload X980 hx (pc' := 274) rfl (hb hby at_272) rfl ?_
                          refine Go.ifYes X980 hx (pc' := 281) (hb hby at_274) (by decide) (by decide) (by decide) ?_
                          refine Go.iconst X980 hx (pc' := 282) rfl (hb hby at_281) (v := (0 : Int32)) rfl ?_
                          refine Go.istore X980 hx (pc' := 284) rfl (hb hby at_282) (Ls' := #[.val (.int p0), .val (.int p1), .val (.int p2), .val (.int z1), .val (.int z5), .val (.int jv7_5), .val (.int jv8_6), .val (.int 2), .val (.int 2), .val (.int jv17_9), .val (.int jv18_10), .val (.int z21), .val (.ref b740_0), .val (.ref b741), .val (.ref b971_0), .val (.ref b972), .val (.int 0), .val (.int 0)]) rfl ?_
                          refine Go.aload X980 hx (pc' := 286) rfl (hb hby at_284) rfl rfl ?_
                          refine Go.aload X980 hx (pc' := 288) rfl (hb hby at_286) rfl rfl ?_
                          have Kp1064 : Keep h0 h980 [] := (Kp977.trans K980 (allS (Or.inr sz979) all0))
                          have Zn1063 : n0 ≤ h980.size := Nat.le_trans Z0 Kp1064.1
                          have O1065 := (O970.keep K971 all0)
                          have O1066 := (O1065.ext E972)
                          have O1067 := (O1066.keep K980 (allS ge978 all0))
                          have fk1069 : Exa Z h971 b741 "com/example/tough_filter/toughfilter/Expression$Keyword" := (F749_0.keep K971)
                          have ne1068 : b741 ≠ b972 := Nat.ne_of_lt (Nat.lt_of_lt_of_le fk1069.lt (Nat.le_of_eq g972.symm))
                          have fk1070 : Fld Z h980 b741 "com/example/tough_filter/toughfilter/Expression$Keyword" "pinyin" "Z" (.int jv17_9) := (((F749_1.keep K971 nin0).ext E972).keep K980 (ninS ne1068 nin0))
                          have fk1071 : Fld Z h980 b741 "com/example/tough_filter/toughfilter/Expression$Keyword" "word" "Ljava/lang/String;" (.ref b740_0) := (((F749_2.keep K971 nin0).ext E972).keep K980 (ninS ne1068 nin0))
                          have fk1072 : Exa Z h980 b740_0 "java/lang/String" := (((((F740_0.ext E741).keep K749).keep K971).ext E972).keep K980)
                          have ne1073 : b740_0 ≠ b741 := Nat.ne_of_lt (Nat.lt_of_lt_of_le F740_0.lt (Nat.le_of_eq g741.symm))
                          have fk1075 : Exa Z h971 b740_0 "java/lang/String" := (((F740_0.ext E741).keep K749).keep K971)
                          have ne1074 : b740_0 ≠ b972 := Nat.ne_of_lt (Nat.lt_of_lt_of_le fk1075.lt (Nat.le_of_eq g972.symm))
                          have fk1076 : Fld Z h980 b740_0 "java/lang/String" "coder" "B" (.int 0) := (((((F740_1.ext E741).keep K749 (ninS ne1073 nin0)).keep K971 nin0).ext E972).keep K980 (ninS ne1074 nin0))
                          have fk1077 : Fld Z h980 b740_0 "java/lang/String" "value" "[B" (.ref b740_1) := (((((F740_2.ext E741).keep K749 (ninS ne1073 nin0)).keep K971 nin0).ext E972).keep K980 (ninS ne1074 nin0))
                          have fk1078 : Exa Z h980 b971_0 "java/lang/String" := ((F971_0.ext E972).keep K980)
                          have ne1079 : b971_0 ≠ b972 := Nat.ne_of_lt (Nat.lt_of_lt_of_le F971_0.lt (Nat.le_of_eq g972.symm))
                          have fk1080 : Fld Z h980 b971_0 "java/lang/String" "coder" "B" (.int 0) := ((F971_1.ext E972).keep K980 (ninS ne1079 nin0))
                          have fk1081 : Fld Z h980 b971_0 "java/lang/String" "value" "[B" (.ref b971_1) := ((F971_2.ext E972).keep K980 (ninS ne1079 nin0))
                          have ne1082 : b740_1 ≠ b741 := Nat.ne_of_lt (Nat.lt_of_lt_of_le F740_3.lt (Nat.le_of_eq g741.symm))
                          have fk1084 := (((F740_3.ext E741).keep K749 (ninS ne1082 nin0)).keep K971 nin0)
                          have ne1083 : b740_1 ≠ b972 := Nat.ne_of_lt (Nat.lt_of_lt_of_le fk1084.lt (Nat.le_of_eq g972.symm))
                          have fk1085 := (((((F740_3.ext E741).keep K749 (ninS ne1082 nin0)).keep K971 nin0).ext E972).keep K980 (ninS ne1083 nin0))
                          have ne1086 : b971_1 ≠ b972 := Nat.ne_of_lt (Nat.lt_of_lt_of_le F971_3.lt (Nat.le_of_eq g972.symm))
                          have fk1087 := ((F971_3.ext E972).keep K980 (ninS ne1086 nin0))
                          have fk1089 : Exa Z h749 b740_0 "java/lang/String" := ((F740_0.ext E741).keep K749)
                          have ne1088 : b740_0 ≠ b971_0 := Nat.ne_of_lt (Nat.lt_of_lt_of_le fk1089.lt s971_0)
                          have fk1090 : Exa Z h980 b741 "com/example/tough_filter/toughfilter/Expression$Keyword" := ((fk1069.ext E972).keep K980)
                          refine Go.callV X980 hx hZ hown (tw_53 hw) (tw_54 hw) (notFace_of_selects (args := #[]) (mvT hZ (tw_56 hw))) (tw_56 hw) (tw_55 hw) (by decide) (tw_57 hw) (tw_36 hw) (au_59 l Z a0 hw b741 b972 jv17_9 b740_0 jv18_10 b971_0 b740_1 b971_1 k740_0 z740_0 z740_1 k971_0 z971_0 z971_1 z1 z5 jv7_5 jv8_6 gz1 gv5 h980 n0 Zn1063 O1067 G fk1070 fk1071 F980_0 F980_1 F980_2 fk1072 fk1076 fk1077 fk1078 fk1080 fk1081 fk1085 fk1087 r2 r6 jr7_5 jr8_6 d740_0 d740_1 d971_0 d971_1 ne1088) e980 fk1090 (argsL := [(.ref b972)]) (rest := []) (pc' := 291) rfl (by rw [hml]; rfl) (lenOf pd_5 rfl) rfl rfl (W := 0) (Nat.le_of_eq rfl) (by decide) (by decide) (by decide) (by decide) (hb hby at_288) ?_
                          intro v1091 T1091 L1091 q1091 X1091
                          rcases q1091 with ⟨c1091_0_0, c1091_0_1, c1091_0_2, rfl, N1091_0, e1091_0⟩ | ⟨c1091_1_0, c1091_1_1, c1091_1_2, rfl, N1091_1, e1091_1⟩ | ⟨c1091_2_0, c1091_2_1, rfl, N1091_2, e1091_2⟩ | ⟨c1091_3_0, rfl, N1091_3, e1091_3⟩
                          · exact absurd c1091_0_2 hc982
                          · show Go _ _ _ _ (T1091.setTop (mkF m 291 #[.val (.int p0), .val (.int p1), .val (.int p2), .val (.int z1), .val (.int z5), .val (.int jv7_5), .val (.int jv8_6), .val (.int 2), .val (.int 2), .val (.int jv17_9), .val (.int jv18_10), .val (.int z21), .val (.ref b740_0), .val (.ref b741), .val (.ref b971_0), .val (.ref b972), .val (.int 0), .val (.int 0)] [(.int 0)]))
                            refine Go.iload X1091 hx (pc' := 293) rfl (hb hby at_291) rfl ?_
                            refine Go.icmpNo X1091 hx (pc' := 296) rfl (hb hby at_293) (by decide) ?_
                            refine Go.aload X1091 hx (pc' := 298) rfl (hb hby at_296) rfl rfl ?_
                            refine Go.aload X1091 hx (pc' := 300) rfl (hb hby at_298) rfl rfl ?_
                            refine Go.callV X1091 hx hZ hown (tw_53 hw) (tw_54 hw) (notFace_of_selects (args := #[]) (mvT hZ (tw_56 hw))) (tw_56 hw) (tw_55 hw) (by decide) (tw_57 hw) (tw_36 hw) (au_59 l Z a0 hw b972 b741 jv18_10 b971_0 jv17_9 b740_0 b971_1 b740_1 k971_0 z971_0 z971_1 k740_0 z740_0 z740_1 jv7_5 jv8_6 z1 z5 gz1 gv5 h980 n0 Zn1063 O1067 G F980_1 F980_2 fk1090 fk1070 fk1071 fk1078 fk1080 fk1081 fk1072 fk1076 fk1077 fk1087 fk1085 jr7_5 jr8_6 r2 r6 d971_0 d971_1 d740_0 d740_1 (Ne.symm ne1088)) e1091_1 F980_0 (argsL := [(.ref b741)]) (rest := []) (pc' := 303) rfl (by rw [hml]; rfl) (lenOf pd_5 rfl) rfl rfl (W := 0) (Nat.le_of_eq rfl) (by decide) (by decide) (by decide) (by decide) (hb hby at_300) ?_
                            intro v1092 T1092 L1092 q1092 X1092
                            rcases q1092 with ⟨c1092_0_0, c1092_0_1, c1092_0_2, rfl, N1092_0, e1092_0⟩ | ⟨c1092_1_0, c1092_1_1, c1092_1_2, rfl, N1092_1, e1092_1⟩ | ⟨c1092_2_0, c1092_2_1, rfl, N1092_2, e1092_2⟩ | ⟨c1092_3_0, rfl, N1092_3, e1092_3⟩
                            · exact absurd c1092_0_2 (Ne.symm hc982)
                            · show Go _ _ _ _ (T1092.setTop (mkF m 303 #[.val (.int p0), .val (.int p1), .val (.int p2), .val (.int z1), .val (.int z5), .val (.int jv7_5), .val (.int jv8_6), .val (.int 2), .val (.int 2), .val (.int jv17_9), .val (.int jv18_10), .val (.int z21), .val (.ref b740_0), .val (.ref b741), .val (.ref b971_0), .val (.ref b972), .val (.int 0), .val (.int 0)] [(.int 0)]))
                              refine Go.iload X1092 hx (pc' := 305) rfl (hb hby at_303) rfl ?_
                              refine Go.icmpNo X1092 hx (pc' := 308) rfl (hb hby at_305) (by decide) ?_
                              refine Go.iconst X1092 hx (pc' := 309) rfl (hb hby at_308) (v := (1 : Int32)) rfl ?_
                              refine Go.goto X1092 hx (pc' := 313) (hb hby at_309) (by decide) (by decide) ?_
                              have C1093 : CHr Z EL0 s.vm s.heap s.vm h740 := (C0.trans (CHr.keep K740 sf0 C0.1))
                              have C1094 : CHr Z EL0 s.vm s.heap s.vm h741 := (C1093.trans (CHr.ext E741 C1093.1))
                              have fk1095 : Safe Z EL0 s.vm h741 b741 := (Safe.ext E741 C1093.1 (Safe.new (Nat.le_of_eq g741.symm) : Safe Z EL0 s.vm h740 b741))
                              have C1096 : CHr Z EL0 s.vm s.heap s.vm h749 := (C1094.trans (CHr.keep K749 (sfS fk1095 sf0) C1094.1))
                              have C1097 : CHr Z EL0 s.vm s.heap s.vm h971 := (C1096.trans (CHr.keep K971 sf0 C1096.1))
                              have C1098 : CHr Z EL0 s.vm s.heap s.vm h972 := (C1097.trans (CHr.ext E972 C1097.1))
                              have fk1099 : Safe Z EL0 s.vm h972 b972 := (Safe.ext E972 C1097.1 (Safe.new (Nat.le_of_eq g972.symm) : Safe Z EL0 s.vm h971 b972))
                              have C1100 : CHr Z EL0 s.vm s.heap s.vm h980 := (C1098.trans (CHr.keep K980 (sfS fk1099 sf0) C1098.1))
                              have hk1101 := (Nat.le_trans (Nat.le_trans (Nat.le_trans (Nat.le_trans (Nat.le_trans (Nat.le_trans (Nat.le_refl _) K740.1) E741.1) K749.1) K971.1) E972.1) K980.1)
                              refine Go.retNW X1092 hx hlk hZ (own_EW hw) e1092_1 hS0 hk1101 C1100 (t := .boolean) hret (by simp) (hb hby at_313) (by decide) (by decide) (fun hat => ?_)
                              exact ⟨rfl, (Fr.app (Fr.app (Fr.app (Fr.app (Fr.app (Fr.app (Fr.nil n0) N740) N749) N971) N980) N1091_1) N1092_1)⟩
                            · exact absurd hc981.symm c1092_2_1
                            · exact absurd hc1062.symm c1092_3_0
                          · exact absurd hc981 c1091_2_1
                          · exact absurd hc1062 c1091_3_0
                        · refine Go.icmpYes X980 hx (pc' := 281) (hb hby at_269) (feq hc1062).2 (by decide) (by decide) ?_
                          refine Go.iconst X980 hx (pc' := 282) rfl (hb hby at_281) (v := (0 : Int32)) rfl ?_
                          refine Go.istore X980 hx (pc' := 284) rfl (hb hby at_282) (Ls' := #[.val (.int p0), .val (.int p1), .val (.int p2), .val (.int z1), .val (.int z5), .val (.int jv7_5), .val (.int jv8_6), .val (.int 2), .val (.int 2), .val (.int jv17_9), .val (.int jv18_10), .val (.int z21), .val (.ref b740_0), .val (.ref b741), .val (.ref b971_0), .val (.ref b972), .val (.int 0), .val (.int 0)]) rfl ?_
                          refine Go.aload X980 hx (pc' := 286) rfl (hb hby at_284) rfl rfl ?_
                          refine Go.aload X980 hx (pc' := 288) rfl (hb hby at_286) rfl rfl ?_
                          have Kp1103 : Keep h0 h980 [] := (Kp977.trans K980 (allS (Or.inr sz979) all0))
                          have Zn1102 : n0 ≤ h980.size := Nat.le_trans Z0 Kp1103.1
                          have O1104 := (O970.keep K971 all0)
                          have O1105 := (O1104.ext E972)
                          have O1106 := (O1105.keep K980 (allS ge978 all0))
                          have fk1108 : Exa Z h971 b741 "com/example/tough_filter/toughfilter/Expression$Keyword" := (F749_0.keep K971)
                          have ne1107 : b741 ≠ b972 := Nat.ne_of_lt (Nat.lt_of_lt_of_le fk1108.lt (Nat.le_of_eq g972.symm))
                          have fk1109 : Fld Z h980 b741 "com/example/tough_filter/toughfilter/Expression$Keyword" "pinyin" "Z" (.int jv17_9) := (((F749_1.keep K971 nin0).ext E972).keep K980 (ninS ne1107 nin0))
                          have fk1110 : Fld Z h980 b741 "com/example/tough_filter/toughfilter/Expression$Keyword" "word" "Ljava/lang/String;" (.ref b740_0) := (((F749_2.keep K971 nin0).ext E972).keep K980 (ninS ne1107 nin0))
                          have fk1111 : Exa Z h980 b740_0 "java/lang/String" := (((((F740_0.ext E741).keep K749).keep K971).ext E972).keep K980)
                          have ne1112 : b740_0 ≠ b741 := Nat.ne_of_lt (Nat.lt_of_lt_of_le F740_0.lt (Nat.le_of_eq g741.symm))
                          have fk1114 : Exa Z h971 b740_0 "java/lang/String" := (((F740_0.ext E741).keep K749).keep K971)
                          have ne1113 : b740_0 ≠ b972 := Nat.ne_of_lt (Nat.lt_of_lt_of_le fk1114.lt (Nat.le_of_eq g972.symm))
                          have fk1115 : Fld Z h980 b740_0 "java/lang/String" "coder" "B" (.int 0) := (((((F740_1.ext E741).keep K749 (ninS ne1112 nin0)).keep K971 nin0).ext E972).keep K980 (ninS ne1113 nin0))
                          have fk1116 : Fld Z h980 b740_0 "java/lang/String" "value" "[B" (.ref b740_1) := (((((F740_2.ext E741).keep K749 (ninS ne1112 nin0)).keep K971 nin0).ext E972).keep K980 (ninS ne1113 nin0))
                          have fk1117 : Exa Z h980 b971_0 "java/lang/String" := ((F971_0.ext E972).keep K980)
                          have ne1118 : b971_0 ≠ b972 := Nat.ne_of_lt (Nat.lt_of_lt_of_le F971_0.lt (Nat.le_of_eq g972.symm))
                          have fk1119 : Fld Z h980 b971_0 "java/lang/String" "coder" "B" (.int 0) := ((F971_1.ext E972).keep K980 (ninS ne1118 nin0))
                          have fk1120 : Fld Z h980 b971_0 "java/lang/String" "value" "[B" (.ref b971_1) := ((F971_2.ext E972).keep K980 (ninS ne1118 nin0))
                          have ne1121 : b740_1 ≠ b741 := Nat.ne_of_lt (Nat.lt_of_lt_of_le F740_3.lt (Nat.le_of_eq g741.symm))
                          have fk1123 := (((F740_3.ext E741).keep K749 (ninS ne1121 nin0)).keep K971 nin0)
                          have ne1122 : b740_1 ≠ b972 := Nat.ne_of_lt (Nat.lt_of_lt_of_le fk1123.lt (Nat.le_of_eq g972.symm))
                          have fk1124 := (((((F740_3.ext E741).keep K749 (ninS ne1121 nin0)).keep K971 nin0).ext E972).keep K980 (ninS ne1122 nin0))
                          have ne1125 : b971_1 ≠ b972 := Nat.ne_of_lt (Nat.lt_of_lt_of_le F971_3.lt (Nat.le_of_eq g972.symm))
                          have fk1126 := ((F971_3.ext E972).keep K980 (ninS ne1125 nin0))
                          have fk1128 : Exa Z h749 b740_0 "java/lang/String" := ((F740_0.ext E741).keep K749)
                          have ne1127 : b740_0 ≠ b971_0 := Nat.ne_of_lt (Nat.lt_of_lt_of_le fk1128.lt s971_0)
                          have fk1129 : Exa Z h980 b741 "com/example/tough_filter/toughfilter/Expression$Keyword" := ((fk1108.ext E972).keep K980)
                          refine Go.callV X980 hx hZ hown (tw_53 hw) (tw_54 hw) (notFace_of_selects (args := #[]) (mvT hZ (tw_56 hw))) (tw_56 hw) (tw_55 hw) (by decide) (tw_57 hw) (tw_36 hw) (au_59 l Z a0 hw b741 b972 jv17_9 b740_0 jv18_10 b971_0 b740_1 b971_1 k740_0 z740_0 z740_1 k971_0 z971_0 z971_1 z1 z5 jv7_5 jv8_6 gz1 gv5 h980 n0 Zn1102 O1106 G fk1109 fk1110 F980_0 F980_1 F980_2 fk1111 fk1115 fk1116 fk1117 fk1119 fk1120 fk1124 fk1126 r2 r6 jr7_5 jr8_6 d740_0 d740_1 d971_0 d971_1 ne1127) e980 fk1129 (argsL := [(.ref b972)]) (rest := []) (pc' := 291) rfl (by rw [hml]; rfl) (lenOf pd_5 rfl) rfl rfl (W := 0) (Nat.le_of_eq rfl) (by decide) (by decide) (by decide) (by decide) (hb hby at_288) ?_
                          intro v1130 T1130 L1130 q1130 X1130
                          rcases q1130 with ⟨c1130_0_0, c1130_0_1, c1130_0_2, rfl, N1130_0, e1130_0⟩ | ⟨c1130_1_0, c1130_1_1, c1130_1_2, rfl, N1130_1, e1130_1⟩ | ⟨c1130_2_0, c1130_2_1, rfl, N1130_2, e1130_2⟩ | ⟨c1130_3_0, rfl, N1130_3, e1130_3⟩
                          · exact absurd c1130_0_0 hc1062
                          · exact absurd c1130_1_0 hc1062
                          · exact absurd c1130_2_0 hc1062
                          · show Go _ _ _ _ (T1130.setTop (mkF m 291 #[.val (.int p0), .val (.int p1), .val (.int p2), .val (.int z1), .val (.int z5), .val (.int jv7_5), .val (.int jv8_6), .val (.int 2), .val (.int 2), .val (.int jv17_9), .val (.int jv18_10), .val (.int z21), .val (.ref b740_0), .val (.ref b741), .val (.ref b971_0), .val (.ref b972), .val (.int 0), .val (.int 0)] [(.int 0)]))
                            refine Go.iload X1130 hx (pc' := 293) rfl (hb hby at_291) rfl ?_
                            refine Go.icmpNo X1130 hx (pc' := 296) rfl (hb hby at_293) (by decide) ?_
                            refine Go.aload X1130 hx (pc' := 298) rfl (hb hby at_296) rfl rfl ?_
                            refine Go.aload X1130 hx (pc' := 300) rfl (hb hby at_298) rfl rfl ?_
                            refine Go.callV X1130 hx hZ hown (tw_53 hw) (tw_54 hw) (notFace_of_selects (args := #[]) (mvT hZ (tw_56 hw))) (tw_56 hw) (tw_55 hw) (by decide) (tw_57 hw) (tw_36 hw) (au_59 l Z a0 hw b972 b741 jv18_10 b971_0 jv17_9 b740_0 b971_1 b740_1 k971_0 z971_0 z971_1 k740_0 z740_0 z740_1 jv7_5 jv8_6 z1 z5 gz1 gv5 h980 n0 Zn1102 O1106 G F980_1 F980_2 fk1129 fk1109 fk1110 fk1117 fk1119 fk1120 fk1111 fk1115 fk1116 fk1126 fk1124 jr7_5 jr8_6 r2 r6 d971_0 d971_1 d740_0 d740_1 (Ne.symm ne1127)) e1130_3 F980_0 (argsL := [(.ref b741)]) (rest := []) (pc' := 303) rfl (by rw [hml]; rfl) (lenOf pd_5 rfl) rfl rfl (W := 0) (Nat.le_of_eq rfl) (by decide) (by decide) (by decide) (by decide) (hb hby at_300) ?_
                            intro v1131 T1131 L1131 q1131 X1131
                            rcases q1131 with ⟨c1131_0_0, c1131_0_1, c1131_0_2, rfl, N1131_0, e1131_0⟩ | ⟨c1131_1_0, c1131_1_1, c1131_1_2, rfl, N1131_1, e1131_1⟩ | ⟨c1131_2_0, c1131_2_1, rfl, N1131_2, e1131_2⟩ | ⟨c1131_3_0, rfl, N1131_3, e1131_3⟩
                            · exact absurd c1131_0_0 (Ne.symm hc1062)
                            · exact absurd c1131_1_0 (Ne.symm hc1062)
                            · exact absurd c1131_2_0 (Ne.symm hc1062)
                            · show Go _ _ _ _ (T1131.setTop (mkF m 303 #[.val (.int p0), .val (.int p1), .val (.int p2), .val (.int z1), .val (.int z5), .val (.int jv7_5), .val (.int jv8_6), .val (.int 2), .val (.int 2), .val (.int jv17_9), .val (.int jv18_10), .val (.int z21), .val (.ref b740_0), .val (.ref b741), .val (.ref b971_0), .val (.ref b972), .val (.int 0), .val (.int 0)] [(.int 0)]))
                              refine Go.iload X1131 hx (pc' := 305) rfl (hb hby at_303) rfl ?_
                              refine Go.icmpNo X1131 hx (pc' := 308) rfl (hb hby at_305) (by decide) ?_
                              refine Go.iconst X1131 hx (pc' := 309) rfl (hb hby at_308) (v := (1 : Int32)) rfl ?_
                              refine Go.goto X1131 hx (pc' := 313) (hb hby at_309) (by decide) (by decide) ?_
                              have C1132 : CHr Z EL0 s.vm s.heap s.vm h740 := (C0.trans (CHr.keep K740 sf0 C0.1))
                              have C1133 : CHr Z EL0 s.vm s.heap s.vm h741 := (C1132.trans (CHr.ext E741 C1132.1))
                              have fk1134 : Safe Z EL0 s.vm h741 b741 := (Safe.ext E741 C1132.1 (Safe.new (Nat.le_of_eq g741.symm) : Safe Z EL0 s.vm h740 b741))
                              have C1135 : CHr Z EL0 s.vm s.heap s.vm h749 := (C1133.trans (CHr.keep K749 (sfS fk1134 sf0) C1133.1))
                              have C1136 : CHr Z EL0 s.vm s.heap s.vm h971 := (C1135.trans (CHr.keep K971 sf0 C1135.1))
                              have C1137 : CHr Z EL0 s.vm s.heap s.vm h972 := (C1136.trans (CHr.ext E972 C1136.1))
                              have fk1138 : Safe Z EL0 s.vm h972 b972 := (Safe.ext E972 C1136.1 (Safe.new (Nat.le_of_eq g972.symm) : Safe Z EL0 s.vm h971 b972))
                              have C1139 : CHr Z EL0 s.vm s.heap s.vm h980 := (C1137.trans (CHr.keep K980 (sfS fk1138 sf0) C1137.1))
                              have hk1140 := (Nat.le_trans (Nat.le_trans (Nat.le_trans (Nat.le_trans (Nat.le_trans (Nat.le_trans (Nat.le_refl _) K740.1) E741.1) K749.1) K971.1) E972.1) K980.1)
                              refine Go.retNW X1131 hx hlk hZ (own_EW hw) e1131_3 hS0 hk1140 C1139 (t := .boolean) hret (by simp) (hb hby at_313) (by decide) (by decide) (fun hat => ?_)
                              exact ⟨rfl, (Fr.app (Fr.app (Fr.app (Fr.app (Fr.app (Fr.app (Fr.nil n0) N740) N749) N971) N980) N1130_3) N1131_3)⟩
                    · refine Go.icmpYes X980 hx (pc' := 262) (hb hby at_242) (feq hc981).2 (by decide) (by decide) ?_
                      refine Go.iconst X980 hx (pc' := 263) rfl (hb hby at_262) (v := (0 : Int32)) rfl ?_
                      refine Go.istore X980 hx (pc' := 265) rfl (hb hby at_263) (Ls' := #[.val (.int p0), .val (.int p1), .val (.int p2), .val (.int z1), .val (.int z5), .val (.int jv7_5), .val (.int jv8_6), .val (.int 2), .val (.int 2), .val (.int jv17_9), .val (.int jv18_10), .val (.int z21), .val (.ref b740_0), .val (.ref b741), .val (.ref b971_0), .val (.ref b972), .val (.int 0), .unset]) rfl ?_
                      refine Go.iload X980 hx (pc' := 267) rfl (hb hby at_265) rfl ?_
                      refine Go.iload X980 hx (pc' := 269) rfl (hb hby at_267) rfl ?_
                      by_cases hc1141 : jv17_9 = jv18_10
                      · refine Go.icmpNo X980 hx (pc' := 272) rfl (hb hby at_269) (teq hc1141).2 ?_
                        refine Go.iload X980 hx (pc' := 274) rfl (hb hby at_272) rfl ?_
                        refine Go.ifYes X980 hx (pc' := 281) (hb hby at_274) (by decide) (by decide) (by decide) ?_
                        refine Go.iconst X980 hx (pc' := 282) rfl (hb hby at_281) (v := (0 : Int32)) rfl ?_
                        refine Go.istore X980 hx (pc' := 284) rfl (hb hby at_282) (Ls' := #[.val (.int p0), .val (.int p1), .val (.int p2), .val (.int z1), .val (.int z5), .val (.int jv7_5), .val (.int jv8_6), .val (.int 2), .val (.int 2), .val (.int jv17_9), .val (.int jv18_10), .val (.int z21), .val (.ref b740_0), .val (.ref b741), .val (.ref b971_0), .val (.ref b972), .val (.int 0), .val (.int 0)]) rfl ?_
                        refine Go.aload X980 hx (pc' := 286) rfl (hb hby at_284) rfl rfl ?_
                        refine Go.aload X980 hx (pc' := 288) rfl (hb hby at_286) rfl rfl ?_
                        have Kp1143 : Keep h0 h980 [] := (Kp977.trans K980 (allS (Or.inr sz979) all0))
                        have Zn1142 : n0 ≤ h980.size := Nat.le_trans Z0 Kp1143.1
                        have O1144 := (O970.keep K971 all0)
                        have O1145 := (O1144.ext E972)
                        have O1146 := (O1145.keep K980 (allS ge978 all0))
                        have fk1148 : Exa Z h971 b741 "com/example/tough_filter/toughfilter/Expression$Keyword" := (F749_0.keep K971)
                        have ne1147 : b741 ≠ b972 := Nat.ne_of_lt (Nat.lt_of_lt_of_le fk1148.lt (Nat.le_of_eq g972.symm))
                        have fk1149 : Fld Z h980 b741 "com/example/tough_filter/toughfilter/Expression$Keyword" "pinyin" "Z" (.int jv17_9) := (((F749_1.keep K971 nin0).ext E972).keep K980 (ninS ne1147 nin0))
                        have fk1150 : Fld Z h980 b741 "com/example/tough_filter/toughfilter/Expression$Keyword" "word" "Ljava/lang/String;" (.ref b740_0) := (((F749_2.keep K971 nin0).ext E972).keep K980 (ninS ne1147 nin0))
                        have fk1151 : Exa Z h980 b740_0 "java/lang/String" := (((((F740_0.ext E741).keep K749).keep K971).ext E972).keep K980)
                        have ne1152 : b740_0 ≠ b741 := Nat.ne_of_lt (Nat.lt_of_lt_of_le F740_0.lt (Nat.le_of_eq g741.symm))
                        have fk1154 : Exa Z h971 b740_0 "java/lang/String" := (((F740_0.ext E741).keep K749).keep K971)
                        have ne1153 : b740_0 ≠ b972 := Nat.ne_of_lt (Nat.lt_of_lt_of_le fk1154.lt (Nat.le_of_eq g972.symm))
                        have fk1155 : Fld Z h980 b740_0 "java/lang/String" "coder" "B" (.int 0) := (((((F740_1.ext E741).keep K749 (ninS ne1152 nin0)).keep K971 nin0).ext E972).keep K980 (ninS ne1153 nin0))
                        have fk1156 : Fld Z h980 b740_0 "java/lang/String" "value" "[B" (.ref b740_1) := (((((F740_2.ext E741).keep K749 (ninS ne1152 nin0)).keep K971 nin0).ext E972).keep K980 (ninS ne1153 nin0))
                        have fk1157 : Exa Z h980 b971_0 "java/lang/String" := ((F971_0.ext E972).keep K980)
                        have ne1158 : b971_0 ≠ b972 := Nat.ne_of_lt (Nat.lt_of_lt_of_le F971_0.lt (Nat.le_of_eq g972.symm))
                        have fk1159 : Fld Z h980 b971_0 "java/lang/String" "coder" "B" (.int 0) := ((F971_1.ext E972).keep K980 (ninS ne1158 nin0))
                        have fk1160 : Fld Z h980 b971_0 "java/lang/String" "value" "[B" (.ref b971_1) := ((F971_2.ext E972).keep K980 (ninS ne1158 nin0))
                        have ne1161 : b740_1 ≠ b741 := Nat.ne_of_lt (Nat.lt_of_lt_of_le F740_3.lt (Nat.le_of_eq g741.symm))
                        have fk1163 := (((F740_3.ext E741).keep K749 (ninS ne1161 nin0)).keep K971 nin0)
                        have ne1162 : b740_1 ≠ b972 := Nat.ne_of_lt (Nat.lt_of_lt_of_le fk1163.lt (Nat.le_of_eq g972.symm))
                        have fk1164 := (((((F740_3.ext E741).keep K749 (ninS ne1161 nin0)).keep K971 nin0).ext E972).keep K980 (ninS ne1162 nin0))
                        have ne1165 : b971_1 ≠ b972 := Nat.ne_of_lt (Nat.lt_of_lt_of_le F971_3.lt (Nat.le_of_eq g972.symm))
                        have fk1166 := ((F971_3.ext E972).keep K980 (ninS ne1165 nin0))
                        have fk1168 : Exa Z h749 b740_0 "java/lang/String" := ((F740_0.ext E741).keep K749)
                        have ne1167 : b740_0 ≠ b971_0 := Nat.ne_of_lt (Nat.lt_of_lt_of_le fk1168.lt s971_0)
                        have fk1169 : Exa Z h980 b741 "com/example/tough_filter/toughfilter/Expression$Keyword" := ((fk1148.ext E972).keep K980)
                        refine Go.callV X980 hx hZ hown (tw_53 hw) (tw_54 hw) (notFace_of_selects (args := #[]) (mvT hZ (tw_56 hw))) (tw_56 hw) (tw_55 hw) (by decide) (tw_57 hw) (tw_36 hw) (au_59 l Z a0 hw b741 b972 jv17_9 b740_0 jv18_10 b971_0 b740_1 b971_1 k740_0 z740_0 z740_1 k971_0 z971_0 z971_1 z1 z5 jv7_5 jv8_6 gz1 gv5 h980 n0 Zn1142 O1146 G fk1149 fk1150 F980_0 F980_1 F980_2 fk1151 fk1155 fk1156 fk1157 fk1159 fk1160 fk1164 fk1166 r2 r6 jr7_5 jr8_6 d740_0 d740_1 d971_0 d971_1 ne1167) e980 fk1169 (argsL := [(.ref b972)]) (rest := []) (pc' := 291) rfl (by rw [hml]; rfl) (lenOf pd_5 rfl) rfl rfl (W := 0) (Nat.le_of_eq rfl) (by decide) (by decide) (by decide) (by decide) (hb hby at_288) ?_
                        intro v1170 T1170 L1170 q1170 X1170
                        rcases q1170 with ⟨c1170_0_0, c1170_0_1, c1170_0_2, rfl, N1170_0, e1170_0⟩ | ⟨c1170_1_0, c1170_1_1, c1170_1_2, rfl, N1170_1, e1170_1⟩ | ⟨c1170_2_0, c1170_2_1, rfl, N1170_2, e1170_2⟩ | ⟨c1170_3_0, rfl, N1170_3, e1170_3⟩
                        · exact absurd c1170_0_1 hc981
                        · exact absurd c1170_1_1 hc981
                        · show Go _ _ _ _ (T1170.setTop (mkF m 291 #[.val (.int p0), .val (.int p1), .val (.int p2), .val (.int z1), .val (.int z5), .val (.int jv7_5), .val (.int jv8_6), .val (.int 2), .val (.int 2), .val (.int jv17_9), .val (.int jv18_10), .val (.int z21), .val (.ref b740_0), .val (.ref b741), .val (.ref b971_0), .val (.ref b972), .val (.int 0), .val (.int 0)] [(.int 0)]))
                          refine Go.iload X1170 hx (pc' := 293) rfl (hb hby at_291) rfl ?_
                          refine Go.icmpNo X1170 hx (pc' := 296) rfl (hb hby at_293) (by decide) ?_
                          refine Go.aload X1170 hx (pc' := 298) rfl (hb hby at_296) rfl rfl ?_
                          refine Go.aload X1170 hx (pc' := 300) rfl (hb hby at_298) rfl rfl ?_
                          refine Go.callV X1170 hx hZ hown (tw_53 hw) (tw_54 hw) (notFace_of_selects (args := #[]) (mvT hZ (tw_56 hw))) (tw_56 hw) (tw_55 hw) (by decide) (tw_57 hw) (tw_36 hw) (au_59 l Z a0 hw b972 b741 jv18_10 b971_0 jv17_9 b740_0 b971_1 b740_1 k971_0 z971_0 z971_1 k740_0 z740_0 z740_1 jv7_5 jv8_6 z1 z5 gz1 gv5 h980 n0 Zn1142 O1146 G F980_1 F980_2 fk1169 fk1149 fk1150 fk1157 fk1159 fk1160 fk1151 fk1155 fk1156 fk1166 fk1164 jr7_5 jr8_6 r2 r6 d971_0 d971_1 d740_0 d740_1 (Ne.symm ne1167)) e1170_2 F980_0 (argsL := [(.ref b741)]) (rest := []) (pc' := 303) rfl (by rw [hml]; rfl) (lenOf pd_5 rfl) rfl rfl (W := 0) (Nat.le_of_eq rfl) (by decide) (by decide) (by decide) (by decide) (hb hby at_300) ?_
                          intro v1171 T1171 L1171 q1171 X1171
                          rcases q1171 with ⟨c1171_0_0, c1171_0_1, c1171_0_2, rfl, N1171_0, e1171_0⟩ | ⟨c1171_1_0, c1171_1_1, c1171_1_2, rfl, N1171_1, e1171_1⟩ | ⟨c1171_2_0, c1171_2_1, rfl, N1171_2, e1171_2⟩ | ⟨c1171_3_0, rfl, N1171_3, e1171_3⟩
                          · exact absurd c1171_0_1 (Ne.symm hc981)
                          · exact absurd c1171_1_1 (Ne.symm hc981)
                          · show Go _ _ _ _ (T1171.setTop (mkF m 303 #[.val (.int p0), .val (.int p1), .val (.int p2), .val (.int z1), .val (.int z5), .val (.int jv7_5), .val (.int jv8_6), .val (.int 2), .val (.int 2), .val (.int jv17_9), .val (.int jv18_10), .val (.int z21), .val (.ref b740_0), .val (.ref b741), .val (.ref b971_0), .val (.ref b972), .val (.int 0), .val (.int 0)] [(.int 0)]))
                            refine Go.iload X1171 hx (pc' := 305) rfl (hb hby at_303) rfl ?_
                            refine Go.icmpNo X1171 hx (pc' := 308) rfl (hb hby at_305) (by decide) ?_
                            refine Go.iconst X1171 hx (pc' := 309) rfl (hb hby at_308) (v := (1 : Int32)) rfl ?_
                            refine Go.goto X1171 hx (pc' := 313) (hb hby at_309) (by decide) (by decide) ?_
                            have C1172 : CHr Z EL0 s.vm s.heap s.vm h740 := (C0.trans (CHr.keep K740 sf0 C0.1))
                            have C1173 : CHr Z EL0 s.vm s.heap s.vm h741 := (C1172.trans (CHr.ext E741 C1172.1))
                            have fk1174 : Safe Z EL0 s.vm h741 b741 := (Safe.ext E741 C1172.1 (Safe.new (Nat.le_of_eq g741.symm) : Safe Z EL0 s.vm h740 b741))
                            have C1175 : CHr Z EL0 s.vm s.heap s.vm h749 := (C1173.trans (CHr.keep K749 (sfS fk1174 sf0) C1173.1))
                            have C1176 : CHr Z EL0 s.vm s.heap s.vm h971 := (C1175.trans (CHr.keep K971 sf0 C1175.1))
                            have C1177 : CHr Z EL0 s.vm s.heap s.vm h972 := (C1176.trans (CHr.ext E972 C1176.1))
                            have fk1178 : Safe Z EL0 s.vm h972 b972 := (Safe.ext E972 C1176.1 (Safe.new (Nat.le_of_eq g972.symm) : Safe Z EL0 s.vm h971 b972))
                            have C1179 : CHr Z EL0 s.vm s.heap s.vm h980 := (C1177.trans (CHr.keep K980 (sfS fk1178 sf0) C1177.1))
                            have hk1180 := (Nat.le_trans (Nat.le_trans (Nat.le_trans (Nat.le_trans (Nat.le_trans (Nat.le_trans (Nat.le_refl _) K740.1) E741.1) K749.1) K971.1) E972.1) K980.1)
                            refine Go.retNW X1171 hx hlk hZ (own_EW hw) e1171_2 hS0 hk1180 C1179 (t := .boolean) hret (by simp) (hb hby at_313) (by decide) (by decide) (fun hat => ?_)
                            exact ⟨rfl, (Fr.app (Fr.app (Fr.app (Fr.app (Fr.app (Fr.app (Fr.nil n0) N740) N749) N971) N980) N1170_2) N1171_2)⟩
                          · exact absurd hc1141.symm c1171_3_0
                        · exact absurd hc1141 c1170_3_0
                      · refine Go.icmpYes X980 hx (pc' := 281) (hb hby at_269) (feq hc1141).2 (by decide) (by decide) ?_
                        refine Go.iconst X980 hx (pc' := 282) rfl (hb hby at_281) (v := (0 : Int32)) rfl ?_
                        refine Go.istore X980 hx (pc' := 284) rfl (hb hby at_282) (Ls' := #[.val (.int p0), .val (.int p1), .val (.int p2), .val (.int z1), .val (.int z5), .val (.int jv7_5), .val (.int jv8_6), .val (.int 2), .val (.int 2), .val (.int jv17_9), .val (.int jv18_10), .val (.int z21), .val (.ref b740_0), .val (.ref b741), .val (.ref b971_0), .val (.ref b972), .val (.int 0), .val (.int 0)]) rfl ?_
                        refine Go.aload X980 hx (pc' := 286) rfl (hb hby at_284) rfl rfl ?_
                        refine Go.aload X980 hx (pc' := 288) rfl (hb hby at_286) rfl rfl ?_
                        have Kp1182 : Keep h0 h980 [] := (Kp977.trans K980 (allS (Or.inr sz979) all0))
                        have Zn1181 : n0 ≤ h980.size := Nat.le_trans Z0 Kp1182.1
                        have O1183 := (O970.keep K971 all0)
                        have O1184 := (O1183.ext E972)
                        have O1185 := (O1184.keep K980 (allS ge978 all0))
                        have fk1187 : Exa Z h971 b741 "com/example/tough_filter/toughfilter/Expression$Keyword" := (F749_0.keep K971)
                        have ne1186 : b741 ≠ b972 := Nat.ne_of_lt (Nat.lt_of_lt_of_le fk1187.lt (Nat.le_of_eq g972.symm))
                        have fk1188 : Fld Z h980 b741 "com/example/tough_filter/toughfilter/Expression$Keyword" "pinyin" "Z" (.int jv17_9) := (((F749_1.keep K971 nin0).ext E972).keep K980 (ninS ne1186 nin0))
                        have fk1189 : Fld Z h980 b741 "com/example/tough_filter/toughfilter/Expression$Keyword" "word" "Ljava/lang/String;" (.ref b740_0) := (((F749_2.keep K971 nin0).ext E972).keep K980 (ninS ne1186 nin0))
                        have fk1190 : Exa Z h980 b740_0 "java/lang/String" := (((((F740_0.ext E741).keep K749).keep K971).ext E972).keep K980)
                        have ne1191 : b740_0 ≠ b741 := Nat.ne_of_lt (Nat.lt_of_lt_of_le F740_0.lt (Nat.le_of_eq g741.symm))
                        have fk1193 : Exa Z h971 b740_0 "java/lang/String" := (((F740_0.ext E741).keep K749).keep K971)
                        have ne1192 : b740_0 ≠ b972 := Nat.ne_of_lt (Nat.lt_of_lt_of_le fk1193.lt (Nat.le_of_eq g972.symm))
                        have fk1194 : Fld Z h980 b740_0 "java/lang/String" "coder" "B" (.int 0) := (((((F740_1.ext E741).keep K749 (ninS ne1191 nin0)).keep K971 nin0).ext E972).keep K980 (ninS ne1192 nin0))
                        have fk1195 : Fld Z h980 b740_0 "java/lang/String" "value" "[B" (.ref b740_1) := (((((F740_2.ext E741).keep K749 (ninS ne1191 nin0)).keep K971 nin0).ext E972).keep K980 (ninS ne1192 nin0))
                        have fk1196 : Exa Z h980 b971_0 "java/lang/String" := ((F971_0.ext E972).keep K980)
                        have ne1197 : b971_0 ≠ b972 := Nat.ne_of_lt (Nat.lt_of_lt_of_le F971_0.lt (Nat.le_of_eq g972.symm))
                        have fk1198 : Fld Z h980 b971_0 "java/lang/String" "coder" "B" (.int 0) := ((F971_1.ext E972).keep K980 (ninS ne1197 nin0))
                        have fk1199 : Fld Z h980 b971_0 "java/lang/String" "value" "[B" (.ref b971_1) := ((F971_2.ext E972).keep K980 (ninS ne1197 nin0))
                        have ne1200 : b740_1 ≠ b741 := Nat.ne_of_lt (Nat.lt_of_lt_of_le F740_3.lt (Nat.le_of_eq g741.symm))
                        have fk1202 := (((F740_3.ext E741).keep K749 (ninS ne1200 nin0)).keep K971 nin0)
                        have ne1201 : b740_1 ≠ b972 := Nat.ne_of_lt (Nat.lt_of_lt_of_le fk1202.lt (Nat.le_of_eq g972.symm))
                        have fk1203 := (((((F740_3.ext E741).keep K749 (ninS ne1200 nin0)).keep K971 nin0).ext E972).keep K980 (ninS ne1201 nin0))
                        have ne1204 : b971_1 ≠ b972 := Nat.ne_of_lt (Nat.lt_of_lt_of_le F971_3.lt (Nat.le_of_eq g972.symm))
                        have fk1205 := ((F971_3.ext E972).keep K980 (ninS ne1204 nin0))
                        have fk1207 : Exa Z h749 b740_0 "java/lang/String" := ((F740_0.ext E741).keep K749)
                        have ne1206 : b740_0 ≠ b971_0 := Nat.ne_of_lt (Nat.lt_of_lt_of_le fk1207.lt s971_0)
                        have fk1208 : Exa Z h980 b741 "com/example/tough_filter/toughfilter/Expression$Keyword" := ((fk1187.ext E972).keep K980)
                        refine Go.callV X980 hx hZ hown (tw_53 hw) (tw_54 hw) (notFace_of_selects (args := #[]) (mvT hZ (tw_56 hw))) (tw_56 hw) (tw_55 hw) (by decide) (tw_57 hw) (tw_36 hw) (au_59 l Z a0 hw b741 b972 jv17_9 b740_0 jv18_10 b971_0 b740_1 b971_1 k740_0 z740_0 z740_1 k971_0 z971_0 z971_1 z1 z5 jv7_5 jv8_6 gz1 gv5 h980 n0 Zn1181 O1185 G fk1188 fk1189 F980_0 F980_1 F980_2 fk1190 fk1194 fk1195 fk1196 fk1198 fk1199 fk1203 fk1205 r2 r6 jr7_5 jr8_6 d740_0 d740_1 d971_0 d971_1 ne1206) e980 fk1208 (argsL := [(.ref b972)]) (rest := []) (pc' := 291) rfl (by rw [hml]; rfl) (lenOf pd_5 rfl) rfl rfl (W := 0) (Nat.le_of_eq rfl) (by decide) (by decide) (by decide) (by decide) (hb hby at_288) ?_
                        intro v1209 T1209 L1209 q1209 X1209
                        rcases q1209 with ⟨c1209_0_0, c1209_0_1, c1209_0_2, rfl, N1209_0, e1209_0⟩ | ⟨c1209_1_0, c1209_1_1, c1209_1_2, rfl, N1209_1, e1209_1⟩ | ⟨c1209_2_0, c1209_2_1, rfl, N1209_2, e1209_2⟩ | ⟨c1209_3_0, rfl, N1209_3, e1209_3⟩
                        · exact absurd c1209_0_0 hc1141
                        · exact absurd c1209_1_0 hc1141
                        · exact absurd c1209_2_0 hc1141
                        · show Go _ _ _ _ (T1209.setTop (mkF m 291 #[.val (.int p0), .val (.int p1), .val (.int p2), .val (.int z1), .val (.int z5), .val (.int jv7_5), .val (.int jv8_6), .val (.int 2), .val (.int 2), .val (.int jv17_9), .val (.int jv18_10), .val (.int z21), .val (.ref b740_0), .val (.ref b741), .val (.ref b971_0), .val (.ref b972), .val (.int 0), .val (.int 0)] [(.int 0)]))
                          refine Go.iload X1209 hx (pc' := 293) rfl (hb hby at_291) rfl ?_
                          refine Go.icmpNo X1209 hx (pc' := 296) rfl (hb hby at_293) (by decide) ?_
                          refine Go.aload X1209 hx (pc' := 298) rfl (hb hby at_296) rfl rfl ?_
                          refine Go.aload X1209 hx (pc' := 300) rfl (hb hby at_298) rfl rfl ?_
                          refine Go.callV X1209 hx hZ hown (tw_53 hw) (tw_54 hw) (notFace_of_selects (args := #[]) (mvT hZ (tw_56 hw))) (tw_56 hw) (tw_55 hw) (by decide) (tw_57 hw) (tw_36 hw) (au_59 l Z a0 hw b972 b741 jv18_10 b971_0 jv17_9 b740_0 b971_1 b740_1 k971_0 z971_0 z971_1 k740_0 z740_0 z740_1 jv7_5 jv8_6 z1 z5 gz1 gv5 h980 n0 Zn1181 O1185 G F980_1 F980_2 fk1208 fk1188 fk1189 fk1196 fk1198 fk1199 fk1190 fk1194 fk1195 fk1205 fk1203 jr7_5 jr8_6 r2 r6 d971_0 d971_1 d740_0 d740_1 (Ne.symm ne1206)) e1209_3 F980_0 (argsL := [(.ref b741)]) (rest := []) (pc' := 303) rfl (by rw [hml]; rfl) (lenOf pd_5 rfl) rfl rfl (W := 0) (Nat.le_of_eq rfl) (by decide) (by decide) (by decide) (by decide) (hb hby at_300) ?_
                          intro v1210 T1210 L1210 q1210 X1210
                          rcases q1210 with ⟨c1210_0_0, c1210_0_1, c1210_0_2, rfl, N1210_0, e1210_0⟩ | ⟨c1210_1_0, c1210_1_1, c1210_1_2, rfl, N1210_1, e1210_1⟩ | ⟨c1210_2_0, c1210_2_1, rfl, N1210_2, e1210_2⟩ | ⟨c1210_3_0, rfl, N1210_3, e1210_3⟩
                          · exact absurd c1210_0_0 (Ne.symm hc1141)
                          · exact absurd c1210_1_0 (Ne.symm hc1141)
                          · exact absurd c1210_2_0 (Ne.symm hc1141)
                          · show Go _ _ _ _ (T1210.setTop (mkF m 303 #[.val (.int p0), .val (.int p1), .val (.int p2), .val (.int z1), .val (.int z5), .val (.int jv7_5), .val (.int jv8_6), .val (.int 2), .val (.int 2), .val (.int jv17_9), .val (.int jv18_10), .val (.int z21), .val (.ref b740_0), .val (.ref b741), .val (.ref b971_0), .val (.ref b972), .val (.int 0), .val (.int 0)] [(.int 0)]))
                            refine Go.iload X1210 hx (pc' := 305) rfl (hb hby at_303) rfl ?_
                            refine Go.icmpNo X1210 hx (pc' := 308) rfl (hb hby at_305) (by decide) ?_
                            refine Go.iconst X1210 hx (pc' := 309) rfl (hb hby at_308) (v := (1 : Int32)) rfl ?_
                            refine Go.goto X1210 hx (pc' := 313) (hb hby at_309) (by decide) (by decide) ?_
                            have C1211 : CHr Z EL0 s.vm s.heap s.vm h740 := (C0.trans (CHr.keep K740 sf0 C0.1))
                            have C1212 : CHr Z EL0 s.vm s.heap s.vm h741 := (C1211.trans (CHr.ext E741 C1211.1))
                            have fk1213 : Safe Z EL0 s.vm h741 b741 := (Safe.ext E741 C1211.1 (Safe.new (Nat.le_of_eq g741.symm) : Safe Z EL0 s.vm h740 b741))
                            have C1214 : CHr Z EL0 s.vm s.heap s.vm h749 := (C1212.trans (CHr.keep K749 (sfS fk1213 sf0) C1212.1))
                            have C1215 : CHr Z EL0 s.vm s.heap s.vm h971 := (C1214.trans (CHr.keep K971 sf0 C1214.1))
                            have C1216 : CHr Z EL0 s.vm s.heap s.vm h972 := (C1215.trans (CHr.ext E972 C1215.1))
                            have fk1217 : Safe Z EL0 s.vm h972 b972 := (Safe.ext E972 C1215.1 (Safe.new (Nat.le_of_eq g972.symm) : Safe Z EL0 s.vm h971 b972))
                            have C1218 : CHr Z EL0 s.vm s.heap s.vm h980 := (C1216.trans (CHr.keep K980 (sfS fk1217 sf0) C1216.1))
                            have hk1219 := (Nat.le_trans (Nat.le_trans (Nat.le_trans (Nat.le_trans (Nat.le_trans (Nat.le_trans (Nat.le_refl _) K740.1) E741.1) K749.1) K971.1) E972.1) K980.1)
                            refine Go.retNW X1210 hx hlk hZ (own_EW hw) e1210_3 hS0 hk1219 C1218 (t := .boolean) hret (by simp) (hb hby at_313) (by decide) (by decide) (fun hat => ?_)
                            exact ⟨rfl, (Fr.app (Fr.app (Fr.app (Fr.app (Fr.app (Fr.app (Fr.nil n0) N740) N749) N971) N980) N1209_3) N1210_3)⟩
        refine Go.iloadN X0 hx (pc' := 95) rfl (hb hby at_94) rfl ?_
        refine Go.bipush X0 hx (pc' := 97) rfl (hb hby at_95) (v := (7 : Int32)) (by decide) ?_
        refine Go.iushr X0 hx (pc' := 98) rfl (hb hby at_97) ?_
        generalize hz1220 : ((p2.toUInt32 >>> ((7 : Int32) &&& 31).toUInt32).toInt32) = z1220
        refine Go.iconst X0 hx (pc' := 99) rfl (hb hby at_98) (v := (1 : Int32)) rfl ?_
        refine Go.iand X0 hx (pc' := 100) rfl (hb hby at_99) ?_
        have r1221 : 0 ≤ z1220.toInt ∧ z1220.toInt ≤ 33554431 := own_rushr hz1220 (k := 7) (by decide) (by decide) (by decide)
        generalize hz1222 : (z1220 &&& (1 : Int32)) = z1222
        have r1223 : 0 ≤ z1222.toInt ∧ z1222.toInt ≤ 1 := own_rand hz1222 (by decide)
        by_cases hc1224 : z1222 = (0 : Int32)
        · refine Go.ifYes X0 hx (pc' := 107) (hb hby at_100) (teq hc1224).1 (by decide) (by decide) ?_
          refine Go.iconst X0 hx (pc' := 108) rfl (hb hby at_107) (v := (0 : Int32)) rfl ?_
          refine Go.istore X0 hx (pc' := 110) rfl (hb hby at_108) (Ls' := #[.val (.int p0), .val (.int p1), .val (.int p2), .val (.int z1), .val (.int z5), .val (.int jv7_5), .val (.int jv8_6), .val (.int z11), .val (.int z16), .val (.int jv17_9), .val (.int 0), .unset, .unset, .unset, .unset, .unset, .unset, .unset]) rfl ?_
          exact J18 (0 : Int32) (own_rw (own_rlit (n := 0) (by decide)) (by decide) (by decide))
        · refine Go.ifNo X0 hx (pc' := 103) rfl (hb hby at_100) (feq hc1224).1 ?_
          refine Go.iconst X0 hx (pc' := 104) rfl (hb hby at_103) (v := (1 : Int32)) rfl ?_
          refine Go.goto X0 hx (pc' := 108) (hb hby at_104) (by decide) (by decide) ?_
          refine Go.istore X0 hx (pc' := 110) rfl (hb hby at_108) (Ls' := #[.val (.int p0), .val (.int p1), .val (.int p2), .val (.int z1), .val (.int z5), .val (.int jv7_5), .val (.int jv8_6), .val (.int z11), .val (.int z16), .val (.int jv17_9), .val (.int 1), .unset, .unset, .unset, .unset, .unset, .unset, .unset]) rfl ?_
          exact J18 (1 : Int32) (own_rw (own_rlit (n := 1) (by decide)) (by decide) (by decide))
      refine Go.iloadN X0 hx (pc' := 79) rfl (hb hby at_78) rfl ?_
      refine Go.bipush X0 hx (pc' := 81) rfl (hb hby at_79) (v := (6 : Int32)) (by decide) ?_
      refine Go.iushr X0 hx (pc' := 82) rfl (hb hby at_81) ?_
      generalize hz1225 : ((p2.toUInt32 >>> ((6 : Int32) &&& 31).toUInt32).toInt32) = z1225
      refine Go.iconst X0 hx (pc' := 83) rfl (hb hby at_82) (v := (1 : Int32)) rfl ?_
      refine Go.iand X0 hx (pc' := 84) rfl (hb hby at_83) ?_
      have r1226 : 0 ≤ z1225.toInt ∧ z1225.toInt ≤ 67108863 := own_rushr hz1225 (k := 6) (by decide) (by decide) (by decide)
      generalize hz1227 : (z1225 &&& (1 : Int32)) = z1227
      have r1228 : 0 ≤ z1227.toInt ∧ z1227.toInt ≤ 1 := own_rand hz1227 (by decide)
      by_cases hc1229 : z1227 = (0 : Int32)
      · refine Go.ifYes X0 hx (pc' := 91) (hb hby at_84) (teq hc1229).1 (by decide) (by decide) ?_
        refine Go.iconst X0 hx (pc' := 92) rfl (hb hby at_91) (v := (0 : Int32)) rfl ?_
        refine Go.istore X0 hx (pc' := 94) rfl (hb hby at_92) (Ls' := #[.val (.int p0), .val (.int p1), .val (.int p2), .val (.int z1), .val (.int z5), .val (.int jv7_5), .val (.int jv8_6), .val (.int z11), .val (.int z16), .val (.int 0), .unset, .unset, .unset, .unset, .unset, .unset, .unset, .unset]) rfl ?_
        exact J17 (0 : Int32) (own_rw (own_rlit (n := 0) (by decide)) (by decide) (by decide))
      · refine Go.ifNo X0 hx (pc' := 87) rfl (hb hby at_84) (feq hc1229).1 ?_
        refine Go.iconst X0 hx (pc' := 88) rfl (hb hby at_87) (v := (1 : Int32)) rfl ?_
        refine Go.goto X0 hx (pc' := 92) (hb hby at_88) (by decide) (by decide) ?_
        refine Go.istore X0 hx (pc' := 94) rfl (hb hby at_92) (Ls' := #[.val (.int p0), .val (.int p1), .val (.int p2), .val (.int z1), .val (.int z5), .val (.int jv7_5), .val (.int jv8_6), .val (.int z11), .val (.int z16), .val (.int 1), .unset, .unset, .unset, .unset, .unset, .unset, .unset, .unset]) rfl ?_
        exact J17 (1 : Int32) (own_rw (own_rlit (n := 1) (by decide)) (by decide) (by decide))
    refine Go.iloadN X0 hx (pc' := 39) rfl (hb hby at_38) rfl ?_
    refine Go.iconst X0 hx (pc' := 40) rfl (hb hby at_39) (v := (5 : Int32)) rfl ?_
    refine Go.iushr X0 hx (pc' := 41) rfl (hb hby at_40) ?_
    generalize hz1230 : ((p2.toUInt32 >>> ((5 : Int32) &&& 31).toUInt32).toInt32) = z1230
    refine Go.iconst X0 hx (pc' := 42) rfl (hb hby at_41) (v := (1 : Int32)) rfl ?_
    refine Go.iand X0 hx (pc' := 43) rfl (hb hby at_42) ?_
    have r1231 : 0 ≤ z1230.toInt ∧ z1230.toInt ≤ 134217727 := own_rushr hz1230 (k := 5) (by decide) (by decide) (by decide)
    generalize hz1232 : (z1230 &&& (1 : Int32)) = z1232
    have r1233 : 0 ≤ z1232.toInt ∧ z1232.toInt ≤ 1 := own_rand hz1232 (by decide)
    by_cases hc1234 : z1232 = (0 : Int32)
    · refine Go.ifYes X0 hx (pc' := 51) (hb hby at_43) (teq hc1234).1 (by decide) (by decide) ?_
      refine Go.iloadN X0 hx (pc' := 52) rfl (hb hby at_51) rfl ?_
      refine Go.bipush X0 hx (pc' := 54) rfl (hb hby at_52) (v := (8 : Int32)) (by decide) ?_
      refine Go.iushr X0 hx (pc' := 55) rfl (hb hby at_54) ?_
      generalize hz1235 : ((p1.toUInt32 >>> ((8 : Int32) &&& 31).toUInt32).toInt32) = z1235
      refine Go.sipush X0 hx (pc' := 58) rfl (hb hby at_55) (v := (255 : Int32)) (by decide) ?_
      refine Go.iand X0 hx (pc' := 59) rfl (hb hby at_58) ?_
      have r1236 : 0 ≤ z1235.toInt ∧ z1235.toInt ≤ 16777215 := own_rushr hz1235 (k := 8) (by decide) (by decide) (by decide)
      generalize hz1237 : (z1235 &&& (255 : Int32)) = z1237
      refine Go.i2c X0 hx (pc' := 60) rfl (hb hby at_59) ?_
      have r1238 : 0 ≤ z1237.toInt ∧ z1237.toInt ≤ 255 := own_rand hz1237 (by decide)
      rw [show (z1237.toUInt32.toUInt16.toUInt32.toInt32) = z1237 from (own_i2c_id r1238 (by decide) (by decide))]
      refine Go.istore X0 hx (pc' := 62) rfl (hb hby at_60) (Ls' := #[.val (.int p0), .val (.int p1), .val (.int p2), .val (.int z1), .val (.int z5), .val (.int jv7_5), .val (.int z1237), .unset, .unset, .unset, .unset, .unset, .unset, .unset, .unset, .unset, .unset, .unset]) rfl ?_
      exact J8 z1237 (own_rw r1238 (by decide) (by decide))
    · refine Go.ifNo X0 hx (pc' := 46) rfl (hb hby at_43) (feq hc1234).1 ?_
      refine Go.iload X0 hx (pc' := 48) rfl (hb hby at_46) rfl ?_
      refine Go.goto X0 hx (pc' := 60) (hb hby at_48) (by decide) (by decide) ?_
      refine Go.istore X0 hx (pc' := 62) rfl (hb hby at_60) (Ls' := #[.val (.int p0), .val (.int p1), .val (.int p2), .val (.int z1), .val (.int z5), .val (.int jv7_5), .val (.int z5), .unset, .unset, .unset, .unset, .unset, .unset, .unset, .unset, .unset, .unset, .unset]) rfl ?_
      exact J8 z5 (own_rw r6 (by decide) (by decide))
  refine Go.iloadN X0 hx (pc' := 19) rfl (hb hby at_18) rfl ?_
  refine Go.iconst X0 hx (pc' := 20) rfl (hb hby at_19) (v := (4 : Int32)) rfl ?_
  refine Go.iushr X0 hx (pc' := 21) rfl (hb hby at_20) ?_
  generalize hz1239 : ((p2.toUInt32 >>> ((4 : Int32) &&& 31).toUInt32).toInt32) = z1239
  refine Go.iconst X0 hx (pc' := 22) rfl (hb hby at_21) (v := (1 : Int32)) rfl ?_
  refine Go.iand X0 hx (pc' := 23) rfl (hb hby at_22) ?_
  have r1240 : 0 ≤ z1239.toInt ∧ z1239.toInt ≤ 268435455 := own_rushr hz1239 (k := 4) (by decide) (by decide) (by decide)
  generalize hz1241 : (z1239 &&& (1 : Int32)) = z1241
  have r1242 : 0 ≤ z1241.toInt ∧ z1241.toInt ≤ 1 := own_rand hz1241 (by decide)
  by_cases hc1243 : z1241 = (0 : Int32)
  · refine Go.ifYes X0 hx (pc' := 30) (hb hby at_23) (teq hc1243).1 (by decide) (by decide) ?_
    refine Go.iloadN X0 hx (pc' := 31) rfl (hb hby at_30) rfl ?_
    refine Go.sipush X0 hx (pc' := 34) rfl (hb hby at_31) (v := (255 : Int32)) (by decide) ?_
    refine Go.iand X0 hx (pc' := 35) rfl (hb hby at_34) ?_
    generalize hz1244 : (p1 &&& (255 : Int32)) = z1244
    refine Go.i2c X0 hx (pc' := 36) rfl (hb hby at_35) ?_
    have r1245 : 0 ≤ z1244.toInt ∧ z1244.toInt ≤ 255 := own_rand hz1244 (by decide)
    rw [show (z1244.toUInt32.toUInt16.toUInt32.toInt32) = z1244 from (own_i2c_id r1245 (by decide) (by decide))]
    refine Go.istore X0 hx (pc' := 38) rfl (hb hby at_36) (Ls' := #[.val (.int p0), .val (.int p1), .val (.int p2), .val (.int z1), .val (.int z5), .val (.int z1244), .unset, .unset, .unset, .unset, .unset, .unset, .unset, .unset, .unset, .unset, .unset, .unset]) rfl ?_
    exact J7 z1244 (own_rw r1245 (by decide) (by decide))
  · refine Go.ifNo X0 hx (pc' := 26) rfl (hb hby at_23) (feq hc1243).1 ?_
    refine Go.iloadN X0 hx (pc' := 27) rfl (hb hby at_26) rfl ?_
    refine Go.goto X0 hx (pc' := 36) (hb hby at_27) (by decide) (by decide) ?_
    refine Go.istore X0 hx (pc' := 38) rfl (hb hby at_36) (Ls' := #[.val (.int p0), .val (.int p1), .val (.int p2), .val (.int z1), .val (.int z5), .val (.int z1), .unset, .unset, .unset, .unset, .unset, .unset, .unset, .unset, .unset, .unset, .unset, .unset]) rfl ?_
    exact J7 z1 (own_rw r2 (by decide) (by decide))
set_option maxRecDepth 65536 in
set_option maxHeartbeats 4000000 in
theorem comes_1 {Post : Tables → Env → Array Value → State → Outcome → State → Prop} (hpost : ∀ tb e args s v u, (limb_1_1.after args s (.returned v) u = true ∧ limb_1_2.after args s (.returned v) u = true ∧ True) → ReturnedEndW s (.returned v) u (Jvm.fieldLocs frame_1_writes args s ++ Jvm.arrayLocs frame_1_arrays args s ++ Jvm.staticLocs frame_1_statics s) 32 1152 → Post tb e args s (.returned v) u) :
    ArmFor flags0 classFile x code maxLocals ret World_1 tables_1 room_1 Calls_1 rest_1 Pre_1 Post := by
  intro l hfl _ _ p e ha hc hk s m args below hf hA hF happ hP
  obtain ⟨hcalls, hrest, hpre⟩ := hP
  obtain ⟨-, -, -, hnamed, -, -, -, hat⟩ := (Spec.applies_iff hf).mp happ
  obtain ⟨hg, hn⟩ := and_e (Cond.before_iff.mp (show (Jvm.Cond.and given_1 narrow_1).before args s = true from hpre))
  obtain ⟨g501, g502⟩ := and_e hg
  obtain ⟨g503, g504⟩ := and_e g502
  obtain ⟨g505, g506⟩ := and_e g504
  obtain ⟨w0, w1, w2, rfl⟩ : ∃ w0 w1 w2 : Value, args = #[w0, w1, w2] := by
    have hs : args.size = 3 := by simpa [Cond.value, given_1] using g501
    obtain ⟨L⟩ := args
    match L, hs with
    | [w0, w1, w2], _ => exact ⟨w0, w1, w2, rfl⟩
  have hw := fun d (hd : d ∈ tables_1) => atoms_spec (ws := Jvm.Cond.code x code maxLocals ret :: tables_1) hat d (List.mem_cons_of_mem _ hd)
  have hfit : Fit s := fun {y c} hc i hi => by
    obtain ⟨ha, rfl⟩ := Array.getElem?_eq_some_iff.mp hc
    have q := List.all_eq_true.mp ((Array.all_eq_true_iff_forall_mem.mp hF) _ (Array.getElem_mem ha)) i (List.mem_range.mpr hi)
    simpa [Array.getElem?_eq_getElem hi] using q
  obtain ⟨i0, ei0⟩ := is_v g503
  obtain rfl : w0 = (.int i0) := Option.some.inj ei0
  obtain ⟨i1, ei1⟩ := is_v g505
  obtain rfl : w1 = (.int i1) := Option.some.inj ei1
  obtain ⟨i2, ei2⟩ := is_v g506
  obtain rfl : w2 = (.int i2) := Option.some.inj ei2
  obtain ⟨hsets, hown0⟩ := atoms_of _ (rest_1_c_eq ▸ (show rest_1_c.before _ s = true from hrest))
  obtain ⟨gz1, ev2⟩ := is_v (Cond.before_iff.mp (hsets _ (List.mem_of_getElem? (i := 1) rfl)))
  have Sx3 : Sta s s.heap "java/lang/String" "COMPACT_STRINGS" "Z" (.int gz1) := Sta.start ev2 (Or.inl (Cond.before_iff.mpr (Cond.before_iff.mp (hsets _ (List.mem_of_getElem? (i := 0) rfl)))))
  have nz4 : ¬ gz1 = (0 : Int32) := gotF (Cond.eq_ints ev2 (Term.int_eval (0))) (not_v (Cond.before_iff.mp (hsets _ (List.mem_of_getElem? (i := 2) rfl))))
  obtain ⟨gv5, ev6, rv7⟩ := isR_v (Cond.before_iff.mp (hsets _ (List.mem_of_getElem? (i := 8) rfl)))
  have Sx8 : Sta s s.heap "jdk/internal/util/Preconditions" "SIOOBE_FORMATTER" "Ljava/util/function/BiFunction;" gv5 := Sta.start ev6 (Or.inl (Cond.before_iff.mpr (Cond.before_iff.mp (hsets _ (List.mem_of_getElem? (i := 7) rfl)))))
  have G : Glob s gz1 gv5 := ⟨Sx3, Sx8, nz4, rv7⟩
  have hCH : CHv s EL0 s.vm s.heap := CHv.start (own_EW hw) (fun p hp => hcalls.1 p hp) (hsets _ (List.mem_of_getElem? (i := 2) rfl)) (tw_23 hw) (tw_5 hw)
  obtain ⟨n, o, h1, h2, h3, _, L, rfl, ⟨rfl, N⟩, hcr, hq⟩ := (rm0 l s _ hw i0 i1 i2 gz1 gv5 s.heap s.heap.size (Nat.le_refl _) (Old.start s) G) tables_1 p e ha hc hk s m _ below hf ((Spec.applies_iff_loose hf).mp happ).1 ⟨rfl, State.Warmed39.refl s, rfl, hCH, fun _ hx => nomatch hx⟩ trivial
  refine ⟨n, _, h1, h2, h3, hpost _ _ _ _ _ _ ⟨Cond.after_iff.mpr rfl, Cond.after_iff.mpr (eq_i res_at (Term.int_eval (1)) rfl), trivial⟩ ⟨hq.1, hq.2.1, hq.2.2.1, (hq.2.2.2.sift fun y hy => Or.inr (N y hy)).mono (by decide) (by decide)⟩⟩
theorem main_1_1 : Claimed_1_1 := comes_1 fun _ _ _ _ _ _ h hF => ⟨h.1, hF⟩
theorem main_1_2 : Claimed_1_2 := comes_1 fun _ _ _ _ _ _ h hF => ⟨h.2.1, hF⟩
end Jvm.Pilot.@@N@@
namespace Jvm.Pilot.@@N@@
open Jvm Jvm.ClassFile Sem Op Lib Jvm.Free Jvm.Stand Jvm.Pilot.@@N@@.Jvm.D
/-! MADE BY PROGRAM (witnessworld.py) out of the Statement's table words and the real class files: 22 classes; the members and pool entries that the words name. The judged class is class 1, her method 2. -/
namespace start1
open Jvm.ClassFile
def u (s : String) : CpInfo := .utf8 (stringToUtf16 s)
/-- a pool by its gaps: so many unusable entries, then the entry; so many at the end -/
def gap : Nat → List CpInfo → List CpInfo
  | 0, r => r
  | n + 1, r => .unusable :: gap n r
def poolList (es : List (Nat × CpInfo)) (last : Nat) : List CpInfo := es.foldr (fun e r => gap e.1 (e.2 :: r)) (gap last [])
def pool (es : List (Nat × CpInfo)) (last : Nat) : Array CpInfo := ⟨poolList es last⟩
def fileOf (pool : Array CpInfo) (this : Nat) (attrs : Array Attribute := #[]) (ms : Array MethodInfo := #[]) (fl : Nat := 33) (sup : Nat := 0) (ifs : Array Nat := #[]) (fds : Array FieldInfo := #[]) : ClassFile where
  minorVersion := 0
  majorVersion := 65
  constantPool := pool
  accessFlags := fl
  thisClass := this
  superClass := sup
  interfaces := ifs
  fields := fds
  methods := ms
  attributes := attrs
def plain (name : String) (sup : Option ClassId) : Class where
  name := name
  kind := .ordinary
  loader := none
  accessFlags := 33
  super := sup
  interfaces := #[]
  cf := none
  fields := #[]
  methods := #[]
  instanceTypes := #[]
  staticTypes := #[]
  resolved := #[]
  callSites := []
  init := .initialized
  statics := none
  mirror := none

def pool0 : Array CpInfo := pool [(5, u "<init>"), (0, u "()V"), (1, .class_ 10), (1, u "java/lang/Object")] 113

def k0c0 : Code := { maxStack := 0, maxLocals := 1, code := object_method_1_code, exceptionTable := #[], attributes := #[] }
def k0m0 : Method := { name := "<init>", desc := "()V", sig := { parameters := [], returnType := none }, accessFlags := 1, code := some k0c0 }
/-- java/lang/Object -/
def k0 : Class := { plain "java/lang/Object" none with
  accessFlags := 33
  interfaces := #[]
  cf := some (fileOf pool0 8 #[] #[{ accessFlags := 1, nameIndex := 5, descriptorIndex := 6, attributes := #[] }] 33 0 #[] #[])
  fields := #[]
  methods := #[k0m0]
  instanceTypes := #[]
  staticTypes := #[]
  resolved := Array.replicate 124 none
  statics := none }

def pool1 : Array CpInfo := pool [(2, .class_ 4), (1, u "java/lang/Object"), (0, u "<init>"), (0, u "()V"), (0, .class_ 8), (0, u "java/lang/String"), (0, .methodref 7 10), (0, .nameAndType 5 11), (0, u "([C)V"), (0, .methodref 13 14), (0, .class_ 15), (0, .nameAndType 16 17), (0, u "com/example/tough_filter/toughfilter/KeywordEqualsPinLaw"), (0, u "word"), (0, u "(ICC)Ljava/lang/String;"), (0, .class_ 19), (0, u "com/example/tough_filter/toughfilter/Expression$Keyword"), (0, .methodref 18 21), (0, .nameAndType 5 22), (0, u "(Ljava/lang/String;Z)V"), (0, .methodref 18 24), (0, .nameAndType 25 26), (0, u "equals"), (0, u "(Ljava/lang/Object;)Z"), (3, u "law"), (0, u "(III)Z")] 6

def k1m0 : Method := { name := "<init>", desc := "()V", sig := { parameters := [], returnType := none }, accessFlags := 1, code := none }
def k1c1 : Code := { maxStack := 6, maxLocals := 3, code := method_2_code, exceptionTable := #[], attributes := #[] }
def k1m1 : Method := { name := "word", desc := "(ICC)Ljava/lang/String;", sig := { parameters := [.int, .char, .char], returnType := some (.object "java/lang/String") }, accessFlags := 10, code := some k1c1 }
def k1c2 : Code := { maxStack := 4, maxLocals := 18, code := code, exceptionTable := #[], attributes := #[] }
def k1m2 : Method := { name := "law", desc := "(III)Z", sig := { parameters := [.int, .int, .int], returnType := some .boolean }, accessFlags := 9, code := some k1c2 }
/-- com/example/tough_filter/toughfilter/KeywordEqualsPinLaw -/
def k1 : Class := { plain "com/example/tough_filter/toughfilter/KeywordEqualsPinLaw" (some 0) with
  accessFlags := 49
  interfaces := #[]
  cf := some (fileOf pool1 13 #[] #[{ accessFlags := 1, nameIndex := 5, descriptorIndex := 6, attributes := #[] }, { accessFlags := 10, nameIndex := 16, descriptorIndex := 17, attributes := #[] }, { accessFlags := 9, nameIndex := 30, descriptorIndex := 31, attributes := #[] }] 49 2 #[] #[])
  fields := #[]
  methods := #[k1m0, k1m1, k1m2]
  instanceTypes := #[]
  staticTypes := #[]
  resolved := Array.replicate 38 none
  statics := none }

def pool2 : Array CpInfo := pool [(1, .class_ 2), (0, u "java/io/Serializable"), (0, .class_ 4), (0, u "java/lang/Object")] 2

/-- java/io/Serializable -/
def k2 : Class := { plain "java/io/Serializable" (some 0) with
  accessFlags := 1537
  interfaces := #[]
  cf := some (fileOf pool2 1 #[] #[] 1537 3 #[] #[])
  fields := #[]
  methods := #[]
  instanceTypes := #[]
  staticTypes := #[]
  resolved := Array.replicate 7 none
  statics := none }

def pool3 : Array CpInfo := pool [(1, .class_ 2), (0, u "java/lang/Comparable"), (0, .class_ 4), (0, u "java/lang/Object")] 7

/-- java/lang/Comparable -/
def k3 : Class := { plain "java/lang/Comparable" (some 0) with
  accessFlags := 1537
  interfaces := #[]
  cf := some (fileOf pool3 1 #[] #[] 1537 3 #[] #[])
  fields := #[]
  methods := #[]
  instanceTypes := #[]
  staticTypes := #[]
  resolved := Array.replicate 12 none
  statics := none }

def pool4 : Array CpInfo := pool [(2, .class_ 4), (1, u "java/lang/CharSequence"), (42, .class_ 48), (0, u "java/lang/CharSequence$1CodePointIterator"), (10, .class_ 60), (0, u "java/lang/CharSequence$1CharIterator"), (5, .class_ 67), (0, u "java/lang/Object")] 63

/-- java/lang/CharSequence -/
def k4 : Class := { plain "java/lang/CharSequence" (some 0) with
  accessFlags := 1537
  interfaces := #[]
  cf := some (fileOf pool4 2 #[.nestMembers #[47, 59]] #[] 1537 66 #[] #[])
  fields := #[]
  methods := #[]
  instanceTypes := #[]
  staticTypes := #[]
  resolved := Array.replicate 131 none
  statics := none }

def pool5 : Array CpInfo := pool [(1, .class_ 2), (0, u "java/lang/constant/Constable"), (0, .class_ 4), (0, u "java/lang/Object")] 6

/-- java/lang/constant/Constable -/
def k5 : Class := { plain "java/lang/constant/Constable" (some 0) with
  accessFlags := 1537
  interfaces := #[]
  cf := some (fileOf pool5 1 #[] #[] 1537 3 #[] #[])
  fields := #[]
  methods := #[]
  instanceTypes := #[]
  staticTypes := #[]
  resolved := Array.replicate 11 none
  statics := none }

def pool6 : Array CpInfo := pool [(1, .class_ 2), (0, u "java/lang/constant/ConstantDesc"), (0, .class_ 4), (0, u "java/lang/Object")] 32

/-- java/lang/constant/ConstantDesc -/
def k6 : Class := { plain "java/lang/constant/ConstantDesc" (some 0) with
  accessFlags := 1537
  interfaces := #[]
  cf := some (fileOf pool6 1 #[] #[] 1537 3 #[] #[])
  fields := #[]
  methods := #[]
  instanceTypes := #[]
  staticTypes := #[]
  resolved := Array.replicate 37 none
  statics := none }

def pool7 : Array CpInfo := pool [(1, .methodref 2 3), (0, .class_ 4), (0, .nameAndType 5 6), (0, u "java/lang/Object"), (0, u "<init>"), (0, u "()V"), (0, .string 8), (0, u ""), (0, .fieldref 10 11), (0, .class_ 12), (0, .nameAndType 13 14), (0, u "java/lang/String"), (0, u "value"), (0, u "[B"), (0, .fieldref 10 16), (0, .nameAndType 17 18), (0, u "coder"), (0, u "B"), (2, u "hash"), (0, u "I"), (2, u "hashIsZero"), (0, u "Z"), (0, .methodref 10 28), (0, .nameAndType 5 29), (0, u "([CIILjava/lang/Void;)V"), (8, .fieldref 10 39), (0, .nameAndType 40 26), (0, u "COMPACT_STRINGS"), (1, .class_ 44), (1, u "java/lang/StringUTF16"), (0, u "compress"), (1, .methodref 42 48), (0, .nameAndType 49 50), (0, u "coderFromArrayLen"), (0, u "([BI)B"), (56, .class_ 109), (1, u "java/lang/StringLatin1"), (67, .methodref 42 178), (0, .nameAndType 45 179), (0, u "([CII)[B"), (361, .methodref 107 542), (0, .nameAndType 543 544), (0, u "equals"), (0, u "([B[B)Z"), (28, u "(Ljava/lang/Object;)Z"), (1, .class_ 576), (0, u "java/lang/CharSequence"), (22, u "CASE_INSENSITIVE_ORDER"), (0, u "Ljava/util/Comparator;"), (409, u "([C)V"), (90, u "serialPersistentFields"), (0, u "[Ljava/io/ObjectStreamField;"), (0, .class_ 1104), (0, u "java/lang/String$CaseInsensitiveComparator"), (1, .class_ 1107), (0, u "java/io/Serializable"), (0, .class_ 1109), (0, u "java/lang/Comparable"), (0, .class_ 1111), (0, u "java/lang/constant/Constable"), (0, .class_ 1113), (0, u "java/lang/constant/ConstantDesc"), (2, u "serialVersionUID"), (0, u "J"), (3, u "REPL"), (0, u "C"), (2, u "LATIN1"), (1, u "UTF16")] 323

def k7m0 : Method := { name := "<init>", desc := "()V", sig := { parameters := [], returnType := none }, accessFlags := 1, code := none }
def k7c1 : Code := { maxStack := 5, maxLocals := 2, code := jdk_42_method_3_code, exceptionTable := #[], attributes := #[] }
def k7m1 : Method := { name := "<init>", desc := "([C)V", sig := { parameters := [(.array .char)], returnType := none }, accessFlags := 1, code := some k7c1 }
def k7c2 : Code := { maxStack := 2, maxLocals := 3, code := jdk_42_method_66_code, exceptionTable := #[], attributes := #[] }
def k7m2 : Method := { name := "equals", desc := "(Ljava/lang/Object;)Z", sig := { parameters := [(.object "java/lang/Object")], returnType := some .boolean }, accessFlags := 1, code := some k7c2 }
def k7c3 : Code := { maxStack := 4, maxLocals := 6, code := jdk_42_method_149_code, exceptionTable := #[], attributes := #[] }
def k7m3 : Method := { name := "<init>", desc := "([CIILjava/lang/Void;)V", sig := { parameters := [(.array .char), .int, .int, (.object "java/lang/Void")], returnType := none }, accessFlags := 2, code := some k7c3 }
/-- java/lang/String -/
def k7 : Class := { plain "java/lang/String" (some 0) with
  accessFlags := 49
  interfaces := #[2, 3, 4, 5, 6]
  cf := some (fileOf pool7 10 #[.nestMembers #[1103]] #[{ accessFlags := 1, nameIndex := 5, descriptorIndex := 6, attributes := #[] }, { accessFlags := 1, nameIndex := 5, descriptorIndex := 1010, attributes := #[] }, { accessFlags := 1, nameIndex := 543, descriptorIndex := 573, attributes := #[] }, { accessFlags := 2, nameIndex := 5, descriptorIndex := 29, attributes := #[] }] 49 2 #[1106, 1108, 575, 1110, 1112] #[{ accessFlags := 18, nameIndex := 13, descriptorIndex := 14, attributes := #[] }, { accessFlags := 18, nameIndex := 17, descriptorIndex := 18, attributes := #[] }, { accessFlags := 2, nameIndex := 21, descriptorIndex := 22, attributes := #[] }, { accessFlags := 2, nameIndex := 25, descriptorIndex := 26, attributes := #[] }, { accessFlags := 26, nameIndex := 1116, descriptorIndex := 1117, attributes := #[] }, { accessFlags := 24, nameIndex := 40, descriptorIndex := 26, attributes := #[] }, { accessFlags := 26, nameIndex := 1101, descriptorIndex := 1102, attributes := #[] }, { accessFlags := 26, nameIndex := 1121, descriptorIndex := 1122, attributes := #[] }, { accessFlags := 25, nameIndex := 599, descriptorIndex := 600, attributes := #[] }, { accessFlags := 24, nameIndex := 1125, descriptorIndex := 18, attributes := #[] }, { accessFlags := 24, nameIndex := 1127, descriptorIndex := 18, attributes := #[] }])
  fields := #[{ name := "value", type := (.array .byte), accessFlags := 18, slot := 0, constantValue := 0 }, { name := "coder", type := .byte, accessFlags := 18, slot := 1, constantValue := 0 }, { name := "hash", type := .int, accessFlags := 2, slot := 2, constantValue := 0 }, { name := "hashIsZero", type := .boolean, accessFlags := 2, slot := 3, constantValue := 0 }, { name := "serialVersionUID", type := .long, accessFlags := 26, slot := 0, constantValue := 0 }, { name := "COMPACT_STRINGS", type := .boolean, accessFlags := 24, slot := 1, constantValue := 0 }, { name := "serialPersistentFields", type := (.array (.object "java/io/ObjectStreamField")), accessFlags := 26, slot := 2, constantValue := 0 }, { name := "REPL", type := .char, accessFlags := 26, slot := 3, constantValue := 0 }, { name := "CASE_INSENSITIVE_ORDER", type := (.object "java/util/Comparator"), accessFlags := 25, slot := 4, constantValue := 0 }, { name := "LATIN1", type := .byte, accessFlags := 24, slot := 5, constantValue := 0 }, { name := "UTF16", type := .byte, accessFlags := 24, slot := 6, constantValue := 0 }]
  methods := #[k7m0, k7m1, k7m2, k7m3]
  instanceTypes := #[(.array .byte), .byte, .int, .boolean]
  staticTypes := #[.long, .boolean, (.array (.object "java/io/ObjectStreamField")), .char, (.object "java/util/Comparator"), .byte, .byte]
  resolved := Array.replicate 1451 none
  statics := some 0 }

def pool8 : Array CpInfo := pool [(6, .class_ 8), (1, u "java/lang/Object"), (0, u "<init>"), (0, u "()V"), (1, .class_ 14), (1, u "java/lang/StringUTF16"), (31, u "$assertionsDisabled"), (0, u "Z"), (13, u "HI_BYTE_SHIFT"), (0, u "I"), (2, u "LO_BYTE_SHIFT"), (49, .methodref 12 116), (0, .nameAndType 117 118), (0, u "compress"), (0, u "([CI[BII)I"), (3, u "([CII)[B"), (138, u "coderFromArrayLen"), (0, u "([BI)B"), (106, .class_ 371), (1, u "java/lang/StringUTF16$LinesSpliterator"), (58, u "MAX_LENGTH"), (196, .class_ 628), (0, u "java/lang/StringUTF16$CodePointsSpliterator"), (0, .class_ 630), (0, u "java/lang/StringUTF16$CharsSpliterator")] 4

def k8m0 : Method := { name := "<init>", desc := "()V", sig := { parameters := [], returnType := none }, accessFlags := 0, code := none }
def k8c1 : Code := { maxStack := 2, maxLocals := 2, code := jdk_52_method_15_code, exceptionTable := #[], attributes := #[] }
def k8m1 : Method := { name := "coderFromArrayLen", desc := "([BI)B", sig := { parameters := [(.array .byte), .int], returnType := some .byte }, accessFlags := 8, code := some k8c1 }
def k8c2 : Code := { maxStack := 5, maxLocals := 6, code := jdk_52_method_16_code, exceptionTable := #[], attributes := #[] }
def k8m2 : Method := { name := "compress", desc := "([CII)[B", sig := { parameters := [(.array .char), .int, .int], returnType := some (.array .byte) }, accessFlags := 9, code := some k8c2 }
def k8c3 : Code := { maxStack := 3, maxLocals := 7, code := jdk_52_method_21_code, exceptionTable := #[], attributes := #[] }
def k8m3 : Method := { name := "compress", desc := "([CI[BII)I", sig := { parameters := [(.array .char), .int, (.array .byte), .int, .int], returnType := some .int }, accessFlags := 9, code := some k8c3 }
/-- java/lang/StringUTF16 -/
def k8 : Class := { plain "java/lang/StringUTF16" (some 0) with
  accessFlags := 48
  interfaces := #[]
  cf := some (fileOf pool8 12 #[.nestMembers #[627, 629, 369]] #[{ accessFlags := 0, nameIndex := 9, descriptorIndex := 10, attributes := #[] }, { accessFlags := 8, nameIndex := 261, descriptorIndex := 262, attributes := #[] }, { accessFlags := 9, nameIndex := 117, descriptorIndex := 122, attributes := #[] }, { accessFlags := 9, nameIndex := 117, descriptorIndex := 118, attributes := #[] }] 48 6 #[] #[{ accessFlags := 26, nameIndex := 61, descriptorIndex := 62, attributes := #[] }, { accessFlags := 26, nameIndex := 65, descriptorIndex := 62, attributes := #[] }, { accessFlags := 24, nameIndex := 430, descriptorIndex := 62, attributes := #[] }, { accessFlags := 4120, nameIndex := 46, descriptorIndex := 47, attributes := #[] }])
  fields := #[{ name := "HI_BYTE_SHIFT", type := .int, accessFlags := 26, slot := 0, constantValue := 0 }, { name := "LO_BYTE_SHIFT", type := .int, accessFlags := 26, slot := 1, constantValue := 0 }, { name := "MAX_LENGTH", type := .int, accessFlags := 24, slot := 2, constantValue := 0 }, { name := "$assertionsDisabled", type := .boolean, accessFlags := 4120, slot := 3, constantValue := 0 }]
  methods := #[k8m0, k8m1, k8m2, k8m3]
  instanceTypes := #[]
  staticTypes := #[.int, .int, .int, .boolean]
  resolved := Array.replicate 635 none
  statics := none }

def pool9 : Array CpInfo := pool [(1, .methodref 2 3), (0, .class_ 4), (0, .nameAndType 5 6), (0, u "java/lang/Object"), (0, u "<init>"), (0, u "()V"), (0, .class_ 8), (0, u "java/lang/Record")] 13

def k9c0 : Code := { maxStack := 1, maxLocals := 1, code := jdk_30_method_1_code, exceptionTable := #[], attributes := #[] }
def k9m0 : Method := { name := "<init>", desc := "()V", sig := { parameters := [], returnType := none }, accessFlags := 4, code := some k9c0 }
/-- java/lang/Record -/
def k9 : Class := { plain "java/lang/Record" (some 0) with
  accessFlags := 1057
  interfaces := #[]
  cf := some (fileOf pool9 7 #[] #[{ accessFlags := 4, nameIndex := 5, descriptorIndex := 6, attributes := #[] }] 1057 2 #[] #[])
  fields := #[]
  methods := #[k9m0]
  instanceTypes := #[]
  staticTypes := #[]
  resolved := Array.replicate 22 none
  statics := none }

def pool10 : Array CpInfo := pool [(1, .class_ 2), (0, u "com/example/tough_filter/toughfilter/Expression"), (0, .class_ 4), (0, u "java/lang/Object"), (0, u "NO_SPAN"), (0, u "I"), (20, .class_ 28), (0, u "com/example/tough_filter/toughfilter/Expression$Reach"), (0, .class_ 30), (0, u "com/example/tough_filter/toughfilter/Expression$Presence"), (0, .class_ 32), (0, u "com/example/tough_filter/toughfilter/Expression$Stretch"), (0, .class_ 34), (0, u "com/example/tough_filter/toughfilter/Expression$Scope"), (0, .class_ 36), (0, u "com/example/tough_filter/toughfilter/Expression$AllOf"), (0, .class_ 38), (0, u "com/example/tough_filter/toughfilter/Expression$AnyOf"), (0, .class_ 40), (0, u "com/example/tough_filter/toughfilter/Expression$Keyword")] 9

/-- com/example/tough_filter/toughfilter/Expression -/
def k10 : Class := { plain "com/example/tough_filter/toughfilter/Expression" (some 0) with
  accessFlags := 1536
  interfaces := #[]
  cf := some (fileOf pool10 1 #[.nestMembers #[27, 29, 31, 33, 35, 37, 39]] #[] 1536 3 #[] #[{ accessFlags := 25, nameIndex := 5, descriptorIndex := 6, attributes := #[] }])
  fields := #[{ name := "NO_SPAN", type := .int, accessFlags := 25, slot := 0, constantValue := 0 }]
  methods := #[]
  instanceTypes := #[]
  staticTypes := #[.int]
  resolved := Array.replicate 50 none
  statics := none }

def pool11 : Array CpInfo := pool [(1, .methodref 2 3), (0, .class_ 4), (0, .nameAndType 5 6), (0, u "java/lang/Record"), (0, u "<init>"), (0, u "()V"), (0, .fieldref 8 9), (0, .class_ 10), (0, .nameAndType 11 12), (0, u "com/example/tough_filter/toughfilter/Expression$Keyword"), (0, u "word"), (0, u "Ljava/lang/String;"), (0, .fieldref 8 14), (0, .nameAndType 15 16), (0, u "pinyin"), (0, u "Z"), (0, .methodref 18 19), (0, .class_ 20), (0, .nameAndType 21 22), (0, u "java/lang/String"), (0, u "equals"), (0, u "(Ljava/lang/Object;)Z"), (28, .class_ 52), (0, u "com/example/tough_filter/toughfilter/Expression"), (12, u "(Ljava/lang/String;Z)V")] 45

def k11c0 : Code := { maxStack := 2, maxLocals := 3, code := prog_7_method_1_code, exceptionTable := #[], attributes := #[] }
def k11m0 : Method := { name := "<init>", desc := "(Ljava/lang/String;Z)V", sig := { parameters := [(.object "java/lang/String"), .boolean], returnType := none }, accessFlags := 1, code := some k11c0 }
def k11c1 : Code := { maxStack := 2, maxLocals := 3, code := prog_7_method_2_code, exceptionTable := #[], attributes := #[] }
def k11m1 : Method := { name := "equals", desc := "(Ljava/lang/Object;)Z", sig := { parameters := [(.object "java/lang/Object")], returnType := some .boolean }, accessFlags := 1, code := some k11c1 }
/-- com/example/tough_filter/toughfilter/Expression$Keyword -/
def k11 : Class := { plain "com/example/tough_filter/toughfilter/Expression$Keyword" (some 9) with
  accessFlags := 49
  interfaces := #[10]
  cf := some (fileOf pool11 8 #[.nestHost 51] #[{ accessFlags := 1, nameIndex := 5, descriptorIndex := 65, attributes := #[] }, { accessFlags := 1, nameIndex := 21, descriptorIndex := 22, attributes := #[] }] 49 2 #[51] #[{ accessFlags := 18, nameIndex := 11, descriptorIndex := 12, attributes := #[] }, { accessFlags := 18, nameIndex := 15, descriptorIndex := 16, attributes := #[] }])
  fields := #[{ name := "word", type := (.object "java/lang/String"), accessFlags := 18, slot := 0, constantValue := 0 }, { name := "pinyin", type := .boolean, accessFlags := 18, slot := 1, constantValue := 0 }]
  methods := #[k11m0, k11m1]
  instanceTypes := #[(.object "java/lang/String"), .boolean]
  staticTypes := #[]
  resolved := Array.replicate 111 none
  statics := none }

def pool12 : Array CpInfo := pool [(4, .class_ 6), (1, u "java/lang/Object"), (0, u "<init>"), (0, u "()V"), (5, .class_ 16), (1, u "java/lang/StringLatin1"), (104, u "$assertionsDisabled"), (0, u "Z"), (98, .class_ 223), (1, u "java/lang/StringLatin1$LinesSpliterator"), (57, u "equals"), (0, u "([B[B)Z"), (107, .class_ 391), (0, u "java/lang/StringLatin1$CharsSpliterator")] 3

def k12m0 : Method := { name := "<init>", desc := "()V", sig := { parameters := [], returnType := none }, accessFlags := 0, code := none }
def k12c1 : Code := { maxStack := 3, maxLocals := 3, code := jdk_43_method_13_code, exceptionTable := #[], attributes := #[] }
def k12m1 : Method := { name := "equals", desc := "([B[B)Z", sig := { parameters := [(.array .byte), (.array .byte)], returnType := some .boolean }, accessFlags := 9, code := some k12c1 }
/-- java/lang/StringLatin1 -/
def k12 : Class := { plain "java/lang/StringLatin1" (some 0) with
  accessFlags := 48
  interfaces := #[]
  cf := some (fileOf pool12 14 #[.nestMembers #[390, 221]] #[{ accessFlags := 0, nameIndex := 7, descriptorIndex := 8, attributes := #[] }, { accessFlags := 9, nameIndex := 281, descriptorIndex := 282, attributes := #[] }] 48 4 #[] #[{ accessFlags := 4120, nameIndex := 121, descriptorIndex := 122, attributes := #[] }])
  fields := #[{ name := "$assertionsDisabled", type := .boolean, accessFlags := 4120, slot := 0, constantValue := 0 }]
  methods := #[k12m0, k12m1]
  instanceTypes := #[]
  staticTypes := #[.boolean]
  resolved := Array.replicate 395 none
  statics := none }

def pool13 : Array CpInfo := pool [(2, .class_ 4), (1, u "java/lang/Object"), (0, u "<init>"), (0, u "()V"), (17, .class_ 26), (1, u "jdk/internal/util/Preconditions"), (28, .class_ 56), (0, u "jdk/internal/util/Preconditions$4"), (57, .class_ 115), (0, u "jdk/internal/util/Preconditions$1"), (7, u "SIOOBE_FORMATTER"), (0, u "Ljava/util/function/BiFunction;"), (0, .class_ 126), (0, u "jdk/internal/util/Preconditions$2"), (3, u "AIOOBE_FORMATTER"), (0, .class_ 132), (0, u "jdk/internal/util/Preconditions$3"), (3, u "IOOBE_FORMATTER")] 57

def k13m0 : Method := { name := "<init>", desc := "()V", sig := { parameters := [], returnType := none }, accessFlags := 1, code := none }
/-- jdk/internal/util/Preconditions -/
def k13 : Class := { plain "jdk/internal/util/Preconditions" (some 0) with
  accessFlags := 33
  interfaces := #[]
  cf := some (fileOf pool13 24 #[.nestMembers #[55, 131, 125, 114]] #[{ accessFlags := 1, nameIndex := 5, descriptorIndex := 6, attributes := #[] }] 33 2 #[] #[{ accessFlags := 25, nameIndex := 123, descriptorIndex := 124, attributes := #[] }, { accessFlags := 25, nameIndex := 130, descriptorIndex := 124, attributes := #[] }, { accessFlags := 25, nameIndex := 136, descriptorIndex := 124, attributes := #[] }])
  fields := #[{ name := "SIOOBE_FORMATTER", type := (.object "java/util/function/BiFunction"), accessFlags := 25, slot := 0, constantValue := 0 }, { name := "AIOOBE_FORMATTER", type := (.object "java/util/function/BiFunction"), accessFlags := 25, slot := 1, constantValue := 0 }, { name := "IOOBE_FORMATTER", type := (.object "java/util/function/BiFunction"), accessFlags := 25, slot := 2, constantValue := 0 }]
  methods := #[k13m0]
  instanceTypes := #[]
  staticTypes := #[(.object "java/util/function/BiFunction"), (.object "java/util/function/BiFunction"), (.object "java/util/function/BiFunction")]
  resolved := Array.replicate 194 none
  statics := some 1 }

def pool14 : Array CpInfo := pool [(9, u "<init>"), (6, .class_ 18), (1, u "java/lang/Object"), (0, u "()V"), (1, .class_ 23), (1, u "jdk/internal/util/ArraysSupport"), (0, u "LOG2_ARRAY_LONG_INDEX_SCALE"), (0, u "I"), (2, u "U"), (0, u "Ljdk/internal/misc/Unsafe;"), (8, u "BIG_ENDIAN"), (0, u "Z"), (8, u "LOG2_BYTE_BIT_SIZE"), (4, u "LOG2_ARRAY_INT_INDEX_SCALE"), (54, u "JLA"), (0, u "Ljdk/internal/access/JavaLangAccess;"), (11, u "LOG2_ARRAY_BOOLEAN_INDEX_SCALE"), (9, u "LOG2_ARRAY_BYTE_INDEX_SCALE"), (5, u "LOG2_ARRAY_CHAR_INDEX_SCALE"), (5, u "LOG2_ARRAY_SHORT_INDEX_SCALE"), (18, u "LOG2_ARRAY_FLOAT_INDEX_SCALE"), (24, u "LOG2_ARRAY_DOUBLE_INDEX_SCALE"), (89, u "T_BOOLEAN"), (2, u "T_CHAR"), (1, u "T_FLOAT"), (1, u "T_DOUBLE"), (1, u "T_BYTE"), (1, u "T_SHORT"), (1, u "T_INT"), (1, u "T_LONG"), (1, u "SOFT_MAX_ARRAY_LENGTH")] 83

def k14m0 : Method := { name := "<init>", desc := "()V", sig := { parameters := [], returnType := none }, accessFlags := 2, code := none }
/-- jdk/internal/util/ArraysSupport -/
def k14 : Class := { plain "jdk/internal/util/ArraysSupport" (some 0) with
  accessFlags := 33
  interfaces := #[]
  cf := some (fileOf pool14 21 #[] #[{ accessFlags := 2, nameIndex := 9, descriptorIndex := 19, attributes := #[] }] 33 16 #[] #[{ accessFlags := 24, nameIndex := 28, descriptorIndex := 29, attributes := #[] }, { accessFlags := 26, nameIndex := 38, descriptorIndex := 39, attributes := #[] }, { accessFlags := 25, nameIndex := 121, descriptorIndex := 25, attributes := #[] }, { accessFlags := 25, nameIndex := 131, descriptorIndex := 25, attributes := #[] }, { accessFlags := 25, nameIndex := 137, descriptorIndex := 25, attributes := #[] }, { accessFlags := 25, nameIndex := 143, descriptorIndex := 25, attributes := #[] }, { accessFlags := 25, nameIndex := 53, descriptorIndex := 25, attributes := #[] }, { accessFlags := 25, nameIndex := 24, descriptorIndex := 25, attributes := #[] }, { accessFlags := 25, nameIndex := 162, descriptorIndex := 25, attributes := #[] }, { accessFlags := 25, nameIndex := 187, descriptorIndex := 25, attributes := #[] }, { accessFlags := 26, nameIndex := 48, descriptorIndex := 25, attributes := #[] }, { accessFlags := 25, nameIndex := 277, descriptorIndex := 25, attributes := #[] }, { accessFlags := 25, nameIndex := 280, descriptorIndex := 25, attributes := #[] }, { accessFlags := 25, nameIndex := 282, descriptorIndex := 25, attributes := #[] }, { accessFlags := 25, nameIndex := 284, descriptorIndex := 25, attributes := #[] }, { accessFlags := 25, nameIndex := 286, descriptorIndex := 25, attributes := #[] }, { accessFlags := 25, nameIndex := 288, descriptorIndex := 25, attributes := #[] }, { accessFlags := 25, nameIndex := 290, descriptorIndex := 25, attributes := #[] }, { accessFlags := 25, nameIndex := 292, descriptorIndex := 25, attributes := #[] }, { accessFlags := 26, nameIndex := 108, descriptorIndex := 109, attributes := #[] }, { accessFlags := 25, nameIndex := 294, descriptorIndex := 25, attributes := #[] }])
  fields := #[{ name := "U", type := (.object "jdk/internal/misc/Unsafe"), accessFlags := 24, slot := 0, constantValue := 0 }, { name := "BIG_ENDIAN", type := .boolean, accessFlags := 26, slot := 1, constantValue := 0 }, { name := "LOG2_ARRAY_BOOLEAN_INDEX_SCALE", type := .int, accessFlags := 25, slot := 2, constantValue := 0 }, { name := "LOG2_ARRAY_BYTE_INDEX_SCALE", type := .int, accessFlags := 25, slot := 3, constantValue := 0 }, { name := "LOG2_ARRAY_CHAR_INDEX_SCALE", type := .int, accessFlags := 25, slot := 4, constantValue := 0 }, { name := "LOG2_ARRAY_SHORT_INDEX_SCALE", type := .int, accessFlags := 25, slot := 5, constantValue := 0 }, { name := "LOG2_ARRAY_INT_INDEX_SCALE", type := .int, accessFlags := 25, slot := 6, constantValue := 0 }, { name := "LOG2_ARRAY_LONG_INDEX_SCALE", type := .int, accessFlags := 25, slot := 7, constantValue := 0 }, { name := "LOG2_ARRAY_FLOAT_INDEX_SCALE", type := .int, accessFlags := 25, slot := 8, constantValue := 0 }, { name := "LOG2_ARRAY_DOUBLE_INDEX_SCALE", type := .int, accessFlags := 25, slot := 9, constantValue := 0 }, { name := "LOG2_BYTE_BIT_SIZE", type := .int, accessFlags := 26, slot := 10, constantValue := 0 }, { name := "T_BOOLEAN", type := .int, accessFlags := 25, slot := 11, constantValue := 0 }, { name := "T_CHAR", type := .int, accessFlags := 25, slot := 12, constantValue := 0 }, { name := "T_FLOAT", type := .int, accessFlags := 25, slot := 13, constantValue := 0 }, { name := "T_DOUBLE", type := .int, accessFlags := 25, slot := 14, constantValue := 0 }, { name := "T_BYTE", type := .int, accessFlags := 25, slot := 15, constantValue := 0 }, { name := "T_SHORT", type := .int, accessFlags := 25, slot := 16, constantValue := 0 }, { name := "T_INT", type := .int, accessFlags := 25, slot := 17, constantValue := 0 }, { name := "T_LONG", type := .int, accessFlags := 25, slot := 18, constantValue := 0 }, { name := "JLA", type := (.object "jdk/internal/access/JavaLangAccess"), accessFlags := 26, slot := 19, constantValue := 0 }, { name := "SOFT_MAX_ARRAY_LENGTH", type := .int, accessFlags := 25, slot := 20, constantValue := 0 }]
  methods := #[k14m0]
  instanceTypes := #[]
  staticTypes := #[(.object "jdk/internal/misc/Unsafe"), .boolean, .int, .int, .int, .int, .int, .int, .int, .int, .int, .int, .int, .int, .int, .int, .int, .int, .int, (.object "jdk/internal/access/JavaLangAccess"), .int]
  resolved := Array.replicate 378 none
  statics := none }

def pool15 : Array CpInfo := pool [(1, u "java/lang/Cloneable"), (0, .class_ 1), (0, u "java/lang/Object"), (0, .class_ 3)] 3

/-- java/lang/Cloneable -/
def k15 : Class := { plain "java/lang/Cloneable" (some 0) with
  accessFlags := 1537
  interfaces := #[]
  cf := some (fileOf pool15 2 #[] #[] 1537 4 #[] #[])
  fields := #[]
  methods := #[]
  instanceTypes := #[]
  staticTypes := #[]
  resolved := Array.replicate 8 none
  statics := none }

/-- the primitive byte -/
def k16 : Class := { plain "byte" none with kind := .primitive 'B', accessFlags := 0x411 }
/-- [B -/
def k17 : Class := { plain "[B" (some 0) with kind := .array 16 .byte, interfaces := #[15, 2], accessFlags := 1041 }

/-- the primitive char -/
def k18 : Class := { plain "char" none with kind := .primitive 'C', accessFlags := 0x411 }
/-- [C -/
def k19 : Class := { plain "[C" (some 0) with kind := .array 18 .char, interfaces := #[15, 2], accessFlags := 1041 }

/-- the primitive int -/
def k20 : Class := { plain "int" none with kind := .primitive 'I', accessFlags := 0x411 }
/-- [I -/
def k21 : Class := { plain "[I" (some 0) with kind := .array 20 .int, interfaces := #[15, 2], accessFlags := 1041 }

def heap : Heap := #[{ cls := 7, slots := #[.long 0, .int 1, .null, .int 0, .null, .int 0, .int 0], vm := .statics 7 },
  { cls := 13, slots := #[.null, .null, .null], vm := .statics 13 }]
def classes : Array Class := #[k0, k1, k2, k3, k4, k5, k6, k7, k8, k9, k10, k11, k12, k13, k14, k15, k16, k17, k18, k19, k20, k21]
def interned : List (Array UInt16 × Addr) := []
def slotsUsed : Nat := 10
def theMethod : MethodId := ⟨1, 2⟩
def args0 : Array Value := #[.int 5, .int 5, .int 5]
def aboutOver (below : List Frame) : State where
  vm := { classes := classes, interned := interned.toArray }
  heap := heap
  slotsUsed := slotsUsed
  threads := #[{ frames := .invoking theMethod args0 :: below }]
def below0 : List Frame := [.native { method := ⟨0, 0⟩, args := #[] }]
def about1 : State := aboutOver below0
def p0 : Program := .bare "" "" ""
def e0 : Env := launch0.env 0 0 0
theorem w_frames : about1.frames = Frame.invoking theMethod args0 :: below0 := rfl
set_option maxRecDepth 65536 in
theorem w_args : argsFit about1.vm theMethod args0 = true := by decide +kernel
set_option maxRecDepth 65536 in
theorem w_heap : heapFits about1 = true := by decide +kernel
set_option maxRecDepth 65536 in
theorem w_runnable : about1.curStatus? = some .runnable := by decide +kernel
set_option maxRecDepth 65536 in
theorem w_alone : about1.alone = true := by decide +kernel
set_option maxRecDepth 65536 in
theorem w_named : about1.methodNamed? x = some theMethod := by decide +kernel
set_option maxRecDepth 65536 in
theorem w_hears : about1.hears theMethod below0 = true := by decide +kernel
set_option maxRecDepth 65536 in
theorem w_ripe : about1.ripe theMethod args0 below0 = true := by decide +kernel
theorem w_running : about1.status = .running := rfl
set_option maxRecDepth 65536 in
theorem w_room : about1.hasRoom e0.platform room_1 = true :=
  launch0.hasRoom_least _ room_1 (by decide +kernel) (by decide +kernel) (by decide +kernel) (by decide +kernel) (by decide +kernel) (by decide +kernel)
theorem allAtoms_all (ts : List Jvm.Cond) (a : Array Jvm.Value) (st : Jvm.State) : (allAtoms ts).before a st = ts.all (fun c => c.before a st) := by
  induction ts with
  | nil => rfl
  | cons c t ih =>
    show (Jvm.Cond.and c (allAtoms t)).before a st = _
    rw [Jvm.Cond.before_and, ih, List.all_cons]
def words1 : List Jvm.Cond := Jvm.Cond.code x code maxLocals ret :: tables_1
/-- a 'code' word, met by the world's own term for the bytes: nothing is compared byte by byte -/
theorem code_word {y : MethodName} {bytes : ByteArray} {mx : Nat} {rt : Option FieldType} {a : Array Value} {s : State} {m : MethodId} {meth : Method} {c : Code} (h1 : s.methodNamed? y = some m) (h2 : s.vm.method? m = some meth) (h3 : meth.code = some c) (h4 : c.code = bytes)
    (h5 : (c.maxLocals == mx && c.exceptionTable.isEmpty && decide (c.maxStack ≤ mostOperands) && decide (meth.sig.returnType = rt) && !meth.locks && decide (parseMethodDescriptor y.desc = some meth.sig)) = true) : (Jvm.Cond.code y bytes mx rt).before a s = true := by
  simp only [Bool.and_eq_true, beq_iff_eq, Bool.not_eq_true', decide_eq_true_eq] at h5
  obtain ⟨⟨⟨⟨⟨g1, g2⟩, g3⟩, g4⟩, g5⟩, g6⟩ := h5
  simp [Cond.before, Cond.holds, Cond.value, h1, h2, h3, h4, g1, g2, g3, g4, g5, g6]
def isCode : Jvm.Cond → Bool
  | .code _ _ _ _ => true
  | _ => false
theorem all_split {L : List Jvm.Cond} {P : Jvm.Cond → Bool} (h1 : L.all (fun c => isCode c || P c) = true) (h2 : ∀ c ∈ L.filter isCode, P c = true) : L.all P = true := by
  refine List.all_eq_true.mpr fun c hc => ?_
  have h := List.all_eq_true.mp h1 c hc
  rcases Bool.eq_false_or_eq_true (isCode c) with hi | hi
  · exact h2 c (List.mem_filter.mpr ⟨hc, hi⟩)
  · simpa [hi] using h
set_option maxRecDepth 65536 in
theorem w_c0 : (Jvm.Cond.code x code maxLocals ret).before args0 about1 = true := code_word (m := ⟨1, 2⟩) (meth := k1m2) (c := k1c2) (by decide +kernel) rfl rfl rfl (by decide +kernel)
set_option maxRecDepth 65536 in
theorem w_c1 : (Jvm.Cond.code ({ cls := "com/example/tough_filter/toughfilter/KeywordEqualsPinLaw", name := "word", desc := "(ICC)Ljava/lang/String;" } : Jvm.MethodName) method_2_code (3 : Nat) (Option.some (Jvm.ClassFile.FieldType.object "java/lang/String"))).before args0 about1 = true := code_word (m := ⟨1, 1⟩) (meth := k1m1) (c := k1c1) (by decide +kernel) rfl rfl rfl (by decide +kernel)
set_option maxRecDepth 65536 in
theorem w_c2 : (Jvm.Cond.code ({ cls := "java/lang/String", name := "<init>", desc := "([C)V" } : Jvm.MethodName) jdk_42_method_3_code (2 : Nat) (Option.none : Option Jvm.ClassFile.FieldType)).before args0 about1 = true := code_word (m := ⟨7, 1⟩) (meth := k7m1) (c := k7c1) (by decide +kernel) rfl rfl rfl (by decide +kernel)
set_option maxRecDepth 65536 in
theorem w_c3 : (Jvm.Cond.code ({ cls := "java/lang/String", name := "<init>", desc := "([CIILjava/lang/Void;)V" } : Jvm.MethodName) jdk_42_method_149_code (6 : Nat) (Option.none : Option Jvm.ClassFile.FieldType)).before args0 about1 = true := code_word (m := ⟨7, 3⟩) (meth := k7m3) (c := k7c3) (by decide +kernel) rfl rfl rfl (by decide +kernel)
set_option maxRecDepth 65536 in
theorem w_c4 : (Jvm.Cond.code ({ cls := "java/lang/Object", name := "<init>", desc := "()V" } : Jvm.MethodName) object_method_1_code (1 : Nat) (Option.none : Option Jvm.ClassFile.FieldType)).before args0 about1 = true := code_word (m := ⟨0, 0⟩) (meth := k0m0) (c := k0c0) (by decide +kernel) rfl rfl rfl (by decide +kernel)
set_option maxRecDepth 65536 in
theorem w_c5 : (Jvm.Cond.code ({ cls := "java/lang/StringUTF16", name := "compress", desc := "([CII)[B" } : Jvm.MethodName) jdk_52_method_16_code (6 : Nat) (Option.some (Jvm.ClassFile.FieldType.array Jvm.ClassFile.FieldType.byte))).before args0 about1 = true := code_word (m := ⟨8, 2⟩) (meth := k8m2) (c := k8c2) (by decide +kernel) rfl rfl rfl (by decide +kernel)
set_option maxRecDepth 65536 in
theorem w_c6 : (Jvm.Cond.code ({ cls := "java/lang/StringUTF16", name := "compress", desc := "([CI[BII)I" } : Jvm.MethodName) jdk_52_method_21_code (7 : Nat) (Option.some Jvm.ClassFile.FieldType.int)).before args0 about1 = true := code_word (m := ⟨8, 3⟩) (meth := k8m3) (c := k8c3) (by decide +kernel) rfl rfl rfl (by decide +kernel)
set_option maxRecDepth 65536 in
theorem w_c7 : (Jvm.Cond.code ({ cls := "java/lang/StringUTF16", name := "coderFromArrayLen", desc := "([BI)B" } : Jvm.MethodName) jdk_52_method_15_code (2 : Nat) (Option.some Jvm.ClassFile.FieldType.byte)).before args0 about1 = true := code_word (m := ⟨8, 1⟩) (meth := k8m1) (c := k8c1) (by decide +kernel) rfl rfl rfl (by decide +kernel)
set_option maxRecDepth 65536 in
theorem w_c8 : (Jvm.Cond.code ({ cls := "com/example/tough_filter/toughfilter/Expression$Keyword", name := "<init>", desc := "(Ljava/lang/String;Z)V" } : Jvm.MethodName) prog_7_method_1_code (3 : Nat) (Option.none : Option Jvm.ClassFile.FieldType)).before args0 about1 = true := code_word (m := ⟨11, 0⟩) (meth := k11m0) (c := k11c0) (by decide +kernel) rfl rfl rfl (by decide +kernel)
set_option maxRecDepth 65536 in
theorem w_c9 : (Jvm.Cond.code ({ cls := "java/lang/Record", name := "<init>", desc := "()V" } : Jvm.MethodName) jdk_30_method_1_code (1 : Nat) (Option.none : Option Jvm.ClassFile.FieldType)).before args0 about1 = true := code_word (m := ⟨9, 0⟩) (meth := k9m0) (c := k9c0) (by decide +kernel) rfl rfl rfl (by decide +kernel)
set_option maxRecDepth 65536 in
theorem w_c10 : (Jvm.Cond.code ({ cls := "com/example/tough_filter/toughfilter/Expression$Keyword", name := "equals", desc := "(Ljava/lang/Object;)Z" } : Jvm.MethodName) prog_7_method_2_code (3 : Nat) (Option.some Jvm.ClassFile.FieldType.boolean)).before args0 about1 = true := code_word (m := ⟨11, 1⟩) (meth := k11m1) (c := k11c1) (by decide +kernel) rfl rfl rfl (by decide +kernel)
set_option maxRecDepth 65536 in
theorem w_c11 : (Jvm.Cond.code ({ cls := "java/lang/String", name := "equals", desc := "(Ljava/lang/Object;)Z" } : Jvm.MethodName) jdk_42_method_66_code (3 : Nat) (Option.some Jvm.ClassFile.FieldType.boolean)).before args0 about1 = true := code_word (m := ⟨7, 2⟩) (meth := k7m2) (c := k7c2) (by decide +kernel) rfl rfl rfl (by decide +kernel)
set_option maxRecDepth 65536 in
theorem w_c12 : (Jvm.Cond.code ({ cls := "java/lang/StringLatin1", name := "equals", desc := "([B[B)Z" } : Jvm.MethodName) jdk_43_method_13_code (3 : Nat) (Option.some Jvm.ClassFile.FieldType.boolean)).before args0 about1 = true := code_word (m := ⟨12, 1⟩) (meth := k12m1) (c := k12c1) (by decide +kernel) rfl rfl rfl (by decide +kernel)
def codes1 : List Jvm.Cond := [Jvm.Cond.code x code maxLocals ret, Jvm.Cond.code ({ cls := "com/example/tough_filter/toughfilter/KeywordEqualsPinLaw", name := "word", desc := "(ICC)Ljava/lang/String;" } : Jvm.MethodName) method_2_code (3 : Nat) (Option.some (Jvm.ClassFile.FieldType.object "java/lang/String")), Jvm.Cond.code ({ cls := "java/lang/String", name := "<init>", desc := "([C)V" } : Jvm.MethodName) jdk_42_method_3_code (2 : Nat) (Option.none : Option Jvm.ClassFile.FieldType), Jvm.Cond.code ({ cls := "java/lang/String", name := "<init>", desc := "([CIILjava/lang/Void;)V" } : Jvm.MethodName) jdk_42_method_149_code (6 : Nat) (Option.none : Option Jvm.ClassFile.FieldType), Jvm.Cond.code ({ cls := "java/lang/Object", name := "<init>", desc := "()V" } : Jvm.MethodName) object_method_1_code (1 : Nat) (Option.none : Option Jvm.ClassFile.FieldType), Jvm.Cond.code ({ cls := "java/lang/StringUTF16", name := "compress", desc := "([CII)[B" } : Jvm.MethodName) jdk_52_method_16_code (6 : Nat) (Option.some (Jvm.ClassFile.FieldType.array Jvm.ClassFile.FieldType.byte)), Jvm.Cond.code ({ cls := "java/lang/StringUTF16", name := "compress", desc := "([CI[BII)I" } : Jvm.MethodName) jdk_52_method_21_code (7 : Nat) (Option.some Jvm.ClassFile.FieldType.int), Jvm.Cond.code ({ cls := "java/lang/StringUTF16", name := "coderFromArrayLen", desc := "([BI)B" } : Jvm.MethodName) jdk_52_method_15_code (2 : Nat) (Option.some Jvm.ClassFile.FieldType.byte), Jvm.Cond.code ({ cls := "com/example/tough_filter/toughfilter/Expression$Keyword", name := "<init>", desc := "(Ljava/lang/String;Z)V" } : Jvm.MethodName) prog_7_method_1_code (3 : Nat) (Option.none : Option Jvm.ClassFile.FieldType), Jvm.Cond.code ({ cls := "java/lang/Record", name := "<init>", desc := "()V" } : Jvm.MethodName) jdk_30_method_1_code (1 : Nat) (Option.none : Option Jvm.ClassFile.FieldType), Jvm.Cond.code ({ cls := "com/example/tough_filter/toughfilter/Expression$Keyword", name := "equals", desc := "(Ljava/lang/Object;)Z" } : Jvm.MethodName) prog_7_method_2_code (3 : Nat) (Option.some Jvm.ClassFile.FieldType.boolean), Jvm.Cond.code ({ cls := "java/lang/String", name := "equals", desc := "(Ljava/lang/Object;)Z" } : Jvm.MethodName) jdk_42_method_66_code (3 : Nat) (Option.some Jvm.ClassFile.FieldType.boolean), Jvm.Cond.code ({ cls := "java/lang/StringLatin1", name := "equals", desc := "([B[B)Z" } : Jvm.MethodName) jdk_43_method_13_code (3 : Nat) (Option.some Jvm.ClassFile.FieldType.boolean)]
set_option maxRecDepth 65536 in
theorem codes_eq : words1.filter isCode = codes1 := rfl
theorem w_codes : ∀ c ∈ words1.filter isCode, c.before args0 about1 = true := by
  rw [codes_eq]
  intro c hc
  simp only [codes1, List.mem_cons, List.not_mem_nil, or_false] at hc
  rcases hc with rfl | rfl | rfl | rfl | rfl | rfl | rfl | rfl | rfl | rfl | rfl | rfl | rfl
  · exact w_c0
  · exact w_c1
  · exact w_c2
  · exact w_c3
  · exact w_c4
  · exact w_c5
  · exact w_c6
  · exact w_c7
  · exact w_c8
  · exact w_c9
  · exact w_c10
  · exact w_c11
  · exact w_c12
set_option maxRecDepth 65536 in
theorem w_t1 : (words1.take 24).all (fun c => isCode c || c.before args0 about1) = true := by decide +kernel
set_option maxRecDepth 65536 in
theorem w_t2 : ((words1.drop 24).take 24).all (fun c => isCode c || c.before args0 about1) = true := by decide +kernel
set_option maxRecDepth 65536 in
theorem w_t3 : (((words1.drop 24).drop 24).take 24).all (fun c => isCode c || c.before args0 about1) = true := by decide +kernel
set_option maxRecDepth 65536 in
theorem w_t4 : (((words1.drop 24).drop 24).drop 24).all (fun c => isCode c || c.before args0 about1) = true := by decide +kernel
theorem w_tables : (allAtoms (Jvm.Cond.code x code maxLocals ret :: tables_1)).before args0 about1 = true := by
  rw [allAtoms_all]
  show words1.all (fun c => c.before args0 about1) = true
  refine all_split ?_ w_codes
  rw [← List.take_append_drop 24 words1, List.all_append, w_t1, ← List.take_append_drop 24 (words1.drop 24), List.all_append, w_t2, ← List.take_append_drop 24 ((words1.drop 24).drop 24), List.all_append, w_t3, w_t4]
  rfl
set_option maxRecDepth 65536 in
theorem w_rest : rest_1_c.before args0 about1 = true := by decide +kernel
set_option maxRecDepth 65536 in
theorem w_case : (Jvm.Cond.and given_1 narrow_1).before args0 about1 = true := by decide +kernel
set_option maxRecDepth 65536 in
theorem w_consts : constsHeld consts_1 about1 := Jvm.Lit.constsHeldB_iff.mp (by decide +kernel)
theorem w_applies : (headSpec (Jvm.Cond.code x code maxLocals ret :: tables_1) room_1).applies x e0.platform about1 = true :=
  (Spec.applies_iff w_frames).mpr ⟨w_running, w_runnable, w_alone, w_named, w_hears, w_ripe, w_room, w_tables⟩
theorem atStart : AtStart classFile x code maxLocals ret World_1 tables_1 room_1 Calls_1 rest_1 Pre_1 launch0 p0 e0 about1 theMethod args0 below0 :=
  ⟨lists_1, trivial, launch0.admits_env _ _ _, launch0.least_env, fairChoices_fair.cas, fairChoices_fair.clock, w_frames, w_args, w_heap, w_applies, ⟨w_consts, trivial⟩, w_rest, w_case⟩
end start1
theorem witness_1 : WitnessClaimed_1 := ⟨start1.p0, start1.e0, start1.about1, start1.theMethod, start1.args0, start1.below0, start1.atStart⟩
end Jvm.Pilot.@@N@@
