
import JvmDerived
import JvmDerived.Pilot.@@N@@Statement
import JvmDerived.Pilot.@@N@@Code
set_option linter.unusedVariables false
set_option linter.unusedSimpArgs false
namespace Jvm.RoadKit
open Sem ClassFile Op Lib Jvm.Stand Jvm.Free Jvm.LawKit
section OwnGo
variable {p : Program} {l : Launch} {e : Env} {R : Room} {s : State} {m : MethodId} {args : Array Value} {below : List Frame} {meth : Method} {c : Code} {T : State} {locs : List Loc} {cells slots kc ks : Nat} {Z : State} {a0 : Array Value} {h : Heap} {Q : Option Value → Heap → List Loc → Prop} {F0 : State → Outcome → Prop}
/-- what is left of a run from T: it ends, and F0 holds of its end -/
def Go (p : Program) (e : Env) (below : List Frame) (F0 : State → Outcome → Prop) (T : State) : Prop :=
  ∃ (U : State) (o : Outcome), Steps p.tables e below T U ∧ U.status = .running ∧ Ended U below o ∧ F0 U o
def EndN (s : State) (Q : Option Value → Heap → List Loc → Prop) (kc ks : Nat) (U : State) (o : Outcome) : Prop := ∃ v L, o = .returned v ∧ Q v U.heap L ∧ FrameEnd s o U L kc ks
theorem Go.step {T' : State} (g : ∀ t, Steps p.tables e below T' t → Steps p.tables e below T t) (k : Go p e below F0 T') : Go p e below F0 T := by
  obtain ⟨U, o, h1, r⟩ := k
  exact ⟨U, o, g _ h1, r⟩
theorem Go.cast {g g' : JFrame} (q : g = g') (k : Go p e below F0 (T.setTop g')) : Go p e below F0 (T.setTop g) := by rw [q]; exact k
/-- a body's contract: from these arguments and this heap it returns, and Q holds -/
def Ctr (l : Launch) (Z : State) (y : MethodName) (bytes : ByteArray) (maxL : Nat) (ret : Option FieldType) (rm : Room) (as : Array Value) (h : Heap) (Q : Option Value → Heap → List Loc → Prop) : Prop :=
  ∀ ws : List Jvm.Cond, MetFree l y (head1 (Jvm.Cond.code y bytes maxL ret :: ws) rm) (fun a U => a = as ∧ Z.Warmed39 U.vm ∧ U.heap = h) (fun _ _ _ _ _ => True) (fun _ U o U' => ∃ v L, o = .returned v ∧ Q v U'.heap L ∧ FrameEnd U o U' L rm.cells rm.slots)
theorem Ctr.of {y : MethodName} {bytes : ByteArray} {maxL : Nat} {ret : Option FieldType} {rm : Room} {as : Array Value} (hp : plainFor y = true)
    (body : ∀ (p : Program) (e : Env) (s : State) (m : MethodId) (below : List Frame) (meth : Method) (c : Code) (T : State), p.tables.exec = Jvm.exec → Z.Warmed39 s.vm → c.code = bytes → c.maxLocals = maxL → s.vm.findClass y.cls = some m.cls → meth.name = y.name → meth.sig.returnType = ret → meth.locks = false → T.heap = h → s.heap = h → Stand p l e rm s m as below meth c T [] 0 0 →
      Go p e below (EndN s Q rm.cells rm.slots) (T.setTop (entryFrame m as maxL))) : Ctr l Z y bytes maxL ret rm as h Q := by
  intro ws
  refine MetFree.of_bodySF hp hisR ?_
  intro p e s m args below meth c s₁ Bd hml0 hP hK
  obtain ⟨rfl, hZ, hh⟩ := hP
  exact body p e s m below meth c s₁ Bd.exec hZ Bd.bytes hml0 (findClass_of_methodNamed Bd.named) (name_of_methodNamed Bd.named Bd.method).1 Bd.returns Bd.notSynchronized (by rw [← hh, Bd.state]; rfl) hh (Stand.of_body Bd)
theorem Go.ret0 (X : Stand p l e R s m args below meth c T locs cells slots) (hx : p.tables.exec = Jvm.exec) (hlk : meth.locks = false) (hret : meth.sig.returnType = none) {pc : Nat} {Ls : Array Slot} (hd : decode c.code pc = .ok (.return_, 1)) (hc : cells ≤ kc) (hs : slots ≤ ks) (q : Q none T.heap locs) : Go p e below (EndN s Q kc ks) (T.setTop (mkF m pc Ls [])) := by
  obtain ⟨fs, hr, hrun, hended, hW, hsame⟩ := X.leave (v := none) (fun _ => rfl) hlk
  exact ⟨_, _, X.returnOut hx hret hd hr, hrun, hended, _, _, rfl, q, ⟨_, rfl⟩, hW, hsame.mono hc hs⟩
theorem Go.retV (X : Stand p l e R s m args below meth c T locs cells slots) (hx : p.tables.exec = Jvm.exec) (hlk : meth.locks = false) {t : FieldType} (hret : meth.sig.returnType = some t) {pc : Nat} {Ls : Array Slot} {v : Value} {i : Instr} {rest : List Value} (hn : narrow t v = v)
    (hi : (i = .ireturn ∧ (t = .int ∨ t = .boolean ∨ t = .byte ∨ t = .char ∨ t = .short) ∧ ∃ z, v = .int z) ∨ (i = .lreturn ∧ t = .long ∧ ∃ z, v = .long z) ∨ (i = .dreturn ∧ t = .double ∧ ∃ z, v = .double z) ∨ (i = .freturn ∧ t = .float ∧ ∃ z, v = .float z) ∨ (i = .areturn ∧ t.isReference = true ∧ v.isRef = true))
    (hd : decode c.code pc = .ok (i, 1)) (hc : cells ≤ kc) (hs : slots ≤ ks) (q : Q (some v) T.heap locs) : Go p e below (EndN s Q kc ks) (T.setTop (mkF m pc Ls (v :: rest))) := by
  obtain ⟨fs, hr, hrun, hended, hW, hsame⟩ := X.leave (v := some v) (fun h => by rw [hret] at h; cases h) hlk
  exact ⟨_, _, retOut X hx hret hn hi hd hr, hrun, hended, _, _, rfl, q, ⟨_, rfl⟩, hW, hsame.mono hc hs⟩
theorem Go.retI (X : Stand p l e R s m args below meth c T locs cells slots) (hx : p.tables.exec = Jvm.exec) (hlk : meth.locks = false) (hret : meth.sig.returnType = some .int) {pc : Nat} {Ls : Array Slot} {z : Int32} {rest : List Value} (hd : decode c.code pc = .ok (.ireturn, 1)) (hc : cells ≤ kc) (hs : slots ≤ ks) (q : Q (some (.int z)) T.heap locs) : Go p e below (EndN s Q kc ks) (T.setTop (mkF m pc Ls (.int z :: rest))) :=
  Go.retV X hx hlk hret rfl (Or.inl ⟨rfl, Or.inl rfl, _, rfl⟩) hd hc hs q
theorem Go.retR (X : Stand p l e R s m args below meth c T locs cells slots) (hx : p.tables.exec = Jvm.exec) (hlk : meth.locks = false) {t : FieldType} (hret : meth.sig.returnType = some t) (ht : t.isReference = true) {pc : Nat} {Ls : Array Slot} {v : Value} (hv : v.isRef = true) {rest : List Value} (hd : decode c.code pc = .ok (.areturn, 1)) (hc : cells ≤ kc) (hs : slots ≤ ks) (q : Q (some v) T.heap locs) : Go p e below (EndN s Q kc ks) (T.setTop (mkF m pc Ls (v :: rest))) :=
  Go.retV X hx hlk hret (by rcases ref_cases hv with rfl | ⟨z, rfl⟩ <;> cases t <;> simp [FieldType.isReference] at ht <;> rfl) (Or.inr (Or.inr (Or.inr (Or.inr ⟨rfl, ht, hv⟩)))) hd hc hs q
theorem Go.retN (X : Stand p l e R s m args below meth c T locs cells slots) (hx : p.tables.exec = Jvm.exec) (hlk : meth.locks = false) {t : FieldType} (hret : meth.sig.returnType = some t) (ht : t = .boolean ∨ t = .byte ∨ t = .char ∨ t = .short) {pc : Nat} {Ls : Array Slot} {z : Int32} {rest : List Value} (hd : decode c.code pc = .ok (.ireturn, 1)) (hc : cells ≤ kc) (hs : slots ≤ ks) (q : Q (some (.int (nar t z))) T.heap locs) : Go p e below (EndN s Q kc ks) (T.setTop (mkF m pc Ls (.int z :: rest))) := by
  obtain ⟨fs, hr, hrun, hended, hW, hsame⟩ := X.leave (v := some (.int (nar t z))) (fun h => by rw [hret] at h; cases h) hlk
  exact ⟨_, _, Jvm.RoadKit.retN X hx hret ht hd hr, hrun, hended, _, _, rfl, q, ⟨_, rfl⟩, hW, hsame.mono hc hs⟩
theorem Go.iloadN (X : Stand p l e R s m args below meth c T locs cells slots) (hx : p.tables.exec = Jvm.exec) {pc : Nat} (pc' : Nat) {Ls : Array Slot} {st : List Value} {k : Fin 4} {v : Int32} (hp : pc' = pc + 1) (hd : decode c.code pc = .ok (.iload_n k, 1)) (hl : Ls[k.val]? = some (.val (.int v))) (k : Go p e below F0 (T.setTop (mkF m pc' Ls (.int v :: st)))) : Go p e below F0 (T.setTop (mkF m pc Ls st)) := by
  subst hp
  exact Go.step (fun t kt => XS.iloadN X.here hx (g := mkF m pc Ls _) rfl hd hl kt) k
theorem Go.iload (X : Stand p l e R s m args below meth c T locs cells slots) (hx : p.tables.exec = Jvm.exec) {pc : Nat} (pc' : Nat) {Ls : Array Slot} {st : List Value} {k : Nat} {v : Int32} (hp : pc' = pc + 2) (hd : decode c.code pc = .ok (.iload k, 2)) (hl : Ls[k]? = some (.val (.int v))) (k : Go p e below F0 (T.setTop (mkF m pc' Ls (.int v :: st)))) : Go p e below F0 (T.setTop (mkF m pc Ls st)) := by
  subst hp
  exact Go.step (fun t kt => XS.iload X.here hx (g := mkF m pc Ls _) rfl hd hl kt) k
theorem Go.aloadN (X : Stand p l e R s m args below meth c T locs cells slots) (hx : p.tables.exec = Jvm.exec) {pc : Nat} (pc' : Nat) {Ls : Array Slot} {st : List Value} {k : Fin 4} {v : Value} (hp : pc' = pc + 1) (hd : decode c.code pc = .ok (.aload_n k, 1)) (hl : Ls[k.val]? = some (.val v)) (hv : v.isRef = true) (k : Go p e below F0 (T.setTop (mkF m pc' Ls (v :: st)))) : Go p e below F0 (T.setTop (mkF m pc Ls st)) := by
  subst hp
  exact Go.step (fun t kt => XS.aloadN X.here hx (g := mkF m pc Ls _) rfl hd hl hv kt) k
theorem Go.aload (X : Stand p l e R s m args below meth c T locs cells slots) (hx : p.tables.exec = Jvm.exec) {pc : Nat} (pc' : Nat) {Ls : Array Slot} {st : List Value} {k : Nat} {v : Value} (hp : pc' = pc + 2) (hd : decode c.code pc = .ok (.aload k, 2)) (hl : Ls[k]? = some (.val v)) (hv : v.isRef = true) (k : Go p e below F0 (T.setTop (mkF m pc' Ls (v :: st)))) : Go p e below F0 (T.setTop (mkF m pc Ls st)) := by
  subst hp
  exact Go.step (fun t kt => XS.aload X.here hx (g := mkF m pc Ls _) rfl hd hl hv kt) k
theorem Go.iconst (X : Stand p l e R s m args below meth c T locs cells slots) (hx : p.tables.exec = Jvm.exec) {pc : Nat} (pc' : Nat) {Ls : Array Slot} {st : List Value} {i : Int} {v : Int32} (hp : pc' = pc + 1) (hd : decode c.code pc = .ok (.iconst i, 1)) (hv : Int32.ofInt i = v) (k : Go p e below F0 (T.setTop (mkF m pc' Ls (.int v :: st)))) : Go p e below F0 (T.setTop (mkF m pc Ls st)) := by
  subst hp
  exact Go.step (fun t kt => XS.iconst X.here hx (g := mkF m pc Ls _) rfl hd (by rw [hv]; exact kt)) k
theorem Go.bipush (X : Stand p l e R s m args below meth c T locs cells slots) (hx : p.tables.exec = Jvm.exec) {pc : Nat} (pc' : Nat) {Ls : Array Slot} {st : List Value} {i : Int} {v : Int32} (hp : pc' = pc + 2) (hd : decode c.code pc = .ok (.bipush i, 2)) (hv : (Int8.ofInt i).toInt32 = v) (k : Go p e below F0 (T.setTop (mkF m pc' Ls (.int v :: st)))) : Go p e below F0 (T.setTop (mkF m pc Ls st)) := by
  subst hp
  exact Go.step (fun t kt => XS.bipush X.here hx (g := mkF m pc Ls _) rfl hd (by rw [hv]; exact kt)) k
theorem Go.sipush (X : Stand p l e R s m args below meth c T locs cells slots) (hx : p.tables.exec = Jvm.exec) {pc : Nat} (pc' : Nat) {Ls : Array Slot} {st : List Value} {i : Int} {v : Int32} (hp : pc' = pc + 3) (hd : decode c.code pc = .ok (.sipush i, 3)) (hv : (Int16.ofInt i).toInt32 = v) (k : Go p e below F0 (T.setTop (mkF m pc' Ls (.int v :: st)))) : Go p e below F0 (T.setTop (mkF m pc Ls st)) := by
  subst hp
  exact Go.step (fun t kt => XS.sipush X.here hx (g := mkF m pc Ls _) rfl hd (by rw [hv]; exact kt)) k
theorem Go.iand (X : Stand p l e R s m args below meth c T locs cells slots) (hx : p.tables.exec = Jvm.exec) {pc : Nat} (pc' : Nat) {Ls : Array Slot} {x y : Int32} {rest : List Value} (hp : pc' = pc + 1) (hd : decode c.code pc = .ok (.iand, 1))  (k : Go p e below F0 (T.setTop (mkF m pc' Ls (.int (x &&& y) :: rest)))) : Go p e below F0 (T.setTop (mkF m pc Ls (.int y :: .int x :: rest))) := by
  subst hp
  exact Go.step (fun t kt => XS.iand X.here hx (g := mkF m pc Ls _) rfl hd rfl kt) k
theorem Go.ior (X : Stand p l e R s m args below meth c T locs cells slots) (hx : p.tables.exec = Jvm.exec) {pc : Nat} (pc' : Nat) {Ls : Array Slot} {x y : Int32} {rest : List Value} (hp : pc' = pc + 1) (hd : decode c.code pc = .ok (.ior, 1))  (k : Go p e below F0 (T.setTop (mkF m pc' Ls (.int (x ||| y) :: rest)))) : Go p e below F0 (T.setTop (mkF m pc Ls (.int y :: .int x :: rest))) := by
  subst hp
  exact Go.step (fun t kt => XT.ior X.here hx (g := mkF m pc Ls _) rfl hd rfl kt) k
theorem Go.iushr (X : Stand p l e R s m args below meth c T locs cells slots) (hx : p.tables.exec = Jvm.exec) {pc : Nat} (pc' : Nat) {Ls : Array Slot} {x y : Int32} {rest : List Value} (hp : pc' = pc + 1) (hd : decode c.code pc = .ok (.iushr, 1))  (k : Go p e below F0 (T.setTop (mkF m pc' Ls (.int ((x.toUInt32 >>> (y &&& 31).toUInt32).toInt32) :: rest)))) : Go p e below F0 (T.setTop (mkF m pc Ls (.int y :: .int x :: rest))) := by
  subst hp
  exact Go.step (fun t kt => XT.iushr X.here hx (g := mkF m pc Ls _) rfl hd rfl kt) k
theorem Go.irem (X : Stand p l e R s m args below meth c T locs cells slots) (hx : p.tables.exec = Jvm.exec) {pc : Nat} (pc' : Nat) {Ls : Array Slot} {x y : Int32} {rest : List Value} (hp : pc' = pc + 1) (hd : decode c.code pc = .ok (.irem, 1)) (hy : y ≠ 0) (k : Go p e below F0 (T.setTop (mkF m pc' Ls (.int (x % y) :: rest)))) : Go p e below F0 (T.setTop (mkF m pc Ls (.int y :: .int x :: rest))) := by
  subst hp
  exact Go.step (fun t kt => iremM X hx (g := mkF m pc Ls _) rfl hd rfl hy kt) k
theorem Go.dup (X : Stand p l e R s m args below meth c T locs cells slots) (hx : p.tables.exec = Jvm.exec) {pc : Nat} (pc' : Nat) {Ls : Array Slot} {x : Value} {rest : List Value} (hp : pc' = pc + 1) (hd : decode c.code pc = .ok (.dup, 1)) (hc : x.category = 1) (k : Go p e below F0 (T.setTop (mkF m pc' Ls (x :: x :: rest)))) : Go p e below F0 (T.setTop (mkF m pc Ls (x :: rest))) := by
  subst hp
  exact Go.step (fun t kt => XS.dup X.here hx (g := mkF m pc Ls _) rfl hd rfl hc kt) k
theorem Go.istoreN (X : Stand p l e R s m args below meth c T locs cells slots) (hx : p.tables.exec = Jvm.exec) {pc : Nat} (pc' : Nat) {Ls : Array Slot} {k : Fin 4} {x : Int32} {rest : List Value} {Ls' : Array Slot} (hp : pc' = pc + 1) (hd : decode c.code pc = .ok (.istore_n k, 1)) (hl : storeLocals Ls k.val (.int x) = some Ls') (k : Go p e below F0 (T.setTop (mkF m pc' Ls' rest))) : Go p e below F0 (T.setTop (mkF m pc Ls (.int x :: rest))) := by
  subst hp
  exact Go.step (fun t kt => XS.istoreN X.here hx (g := mkF m pc Ls _) rfl hd rfl hl kt) k
theorem Go.istore (X : Stand p l e R s m args below meth c T locs cells slots) (hx : p.tables.exec = Jvm.exec) {pc : Nat} (pc' : Nat) {Ls : Array Slot} {k : Nat} {x : Int32} {rest : List Value} {Ls' : Array Slot} (hp : pc' = pc + 2) (hd : decode c.code pc = .ok (.istore k, 2)) (hl : storeLocals Ls k (.int x) = some Ls') (k : Go p e below F0 (T.setTop (mkF m pc' Ls' rest))) : Go p e below F0 (T.setTop (mkF m pc Ls (.int x :: rest))) := by
  subst hp
  exact Go.step (fun t kt => XS.istore X.here hx (g := mkF m pc Ls _) rfl hd rfl hl kt) k
theorem Go.astore (X : Stand p l e R s m args below meth c T locs cells slots) (hx : p.tables.exec = Jvm.exec) {pc : Nat} (pc' : Nat) {Ls : Array Slot} {k : Nat} {x : Value} {rest : List Value} {Ls' : Array Slot} (hp : pc' = pc + 2) (hd : decode c.code pc = .ok (.astore k, 2)) (hv : x.isRef = true) (hl : storeLocals Ls k x = some Ls') (k : Go p e below F0 (T.setTop (mkF m pc' Ls' rest))) : Go p e below F0 (T.setTop (mkF m pc Ls (x :: rest))) := by
  subst hp
  exact Go.step (fun t kt => XS.astore X.here hx (g := mkF m pc Ls _) rfl hd rfl hv hl kt) k
theorem Go.iinc (X : Stand p l e R s m args below meth c T locs cells slots) (hx : p.tables.exec = Jvm.exec) {pc : Nat} (pc' : Nat) {Ls : Array Slot} {st : List Value} {k : Nat} {cst : Int} {x y : Int32} {Ls' : Array Slot} (hp : pc' = pc + 3) (hd : decode c.code pc = .ok (.iinc k cst, 3)) (hl : Ls[k]? = some (.val (.int x))) (hy : x + Int32.ofInt cst = y) (hl' : storeLocals Ls k (.int y) = some Ls') (k : Go p e below F0 (T.setTop (mkF m pc' Ls' st))) : Go p e below F0 (T.setTop (mkF m pc Ls st)) := by
  subst hp
  exact Go.step (fun t kt => XS.iinc X.here hx (g := mkF m pc Ls _) rfl hd hl (by rw [hy]; exact hl') kt) k
theorem Go.goto (X : Stand p l e R s m args below meth c T locs cells slots) (hx : p.tables.exec = Jvm.exec) {pc : Nat} (pc' : Nat) {Ls : Array Slot} {o : Int} {st : List Value} (hd : decode c.code pc = .ok (.goto o, 3))  (ho : 0 ≤ (pc : Int) + o) (hp : ((pc : Int) + o).toNat = pc') (k : Go p e below F0 (T.setTop (mkF m pc' Ls st))) : Go p e below F0 (T.setTop (mkF m pc Ls st)) :=
  Go.step (fun t kt => XS.goto X.here hx (g := mkF m pc Ls _) rfl rfl hd ho hp kt) k
theorem Go.ifYes (X : Stand p l e R s m args below meth c T locs cells slots) (hx : p.tables.exec = Jvm.exec) {pc : Nat} (pc' : Nat) {Ls : Array Slot} {o : Int} {cd : ClassFile.Cond} {x : Int32} {rest : List Value} (hd : decode c.code pc = .ok (.ifCond cd o, 3)) (hc : if_icmp.holds cd x 0 = true) (ho : 0 ≤ (pc : Int) + o) (hp : ((pc : Int) + o).toNat = pc') (k : Go p e below F0 (T.setTop (mkF m pc' Ls rest))) : Go p e below F0 (T.setTop (mkF m pc Ls (.int x :: rest))) :=
  Go.step (fun t kt => XS.ifYes X.here hx (g := mkF m pc Ls _) rfl rfl hd rfl ((if0 _ _).trans hc) ho hp kt) k
theorem Go.icmpYes (X : Stand p l e R s m args below meth c T locs cells slots) (hx : p.tables.exec = Jvm.exec) {pc : Nat} (pc' : Nat) {Ls : Array Slot} {o : Int} {cd : ClassFile.Cond} {x y : Int32} {rest : List Value} (hd : decode c.code pc = .ok (.if_icmp cd o, 3)) (hc : if_icmp.holds cd x y = true) (ho : 0 ≤ (pc : Int) + o) (hp : ((pc : Int) + o).toNat = pc') (k : Go p e below F0 (T.setTop (mkF m pc' Ls rest))) : Go p e below F0 (T.setTop (mkF m pc Ls (.int y :: .int x :: rest))) :=
  Go.step (fun t kt => XS.icmpYes X.here hx (g := mkF m pc Ls _) rfl rfl hd rfl hc ho hp kt) k
theorem Go.ifNo (X : Stand p l e R s m args below meth c T locs cells slots) (hx : p.tables.exec = Jvm.exec) {pc : Nat} (pc' : Nat) {Ls : Array Slot} {o : Int} {cd : ClassFile.Cond} {x : Int32} {rest : List Value} (hp : pc' = pc + 3) (hd : decode c.code pc = .ok (.ifCond cd o, 3)) (hc : if_icmp.holds cd x 0 = false) (k : Go p e below F0 (T.setTop (mkF m pc' Ls rest))) : Go p e below F0 (T.setTop (mkF m pc Ls (.int x :: rest))) := by
  subst hp
  exact Go.step (fun t kt => XS.ifNo X.here hx (g := mkF m pc Ls _) rfl hd rfl ((if0 _ _).trans hc) kt) k
theorem Go.icmpNo (X : Stand p l e R s m args below meth c T locs cells slots) (hx : p.tables.exec = Jvm.exec) {pc : Nat} (pc' : Nat) {Ls : Array Slot} {o : Int} {cd : ClassFile.Cond} {x y : Int32} {rest : List Value} (hp : pc' = pc + 3) (hd : decode c.code pc = .ok (.if_icmp cd o, 3)) (hc : if_icmp.holds cd x y = false) (k : Go p e below F0 (T.setTop (mkF m pc' Ls rest))) : Go p e below F0 (T.setTop (mkF m pc Ls (.int y :: .int x :: rest))) := by
  subst hp
  exact Go.step (fun t kt => XS.icmpNo X.here hx (g := mkF m pc Ls _) rfl hd rfl hc kt) k
theorem Go.acmp (X : Stand p l e R s m args below meth c T locs cells slots) (hx : p.tables.exec = Jvm.exec) {pc : Nat} (pc' : Nat) {Ls : Array Slot} {cd : ACond} {x y : Value} {rest : List Value} {o : Int} {same : Bool} (hd : decode c.code pc = .ok (.if_acmp cd o, 3)) (h1 : x.isRef = true) (h2 : y.isRef = true) (hq : decide (x = y) = same) (ho : 0 ≤ (pc : Int) + o) (hp : pc' = if acV cd same = true then ((pc : Int) + o).toNat else pc + 3) (k : Go p e below F0 (T.setTop (mkF m pc' Ls rest))) : Go p e below F0 (T.setTop (mkF m pc Ls (y :: x :: rest))) :=
  Go.step (fun t kt => Jvm.RoadKit.acmp (g := mkF m pc Ls _) X hx rfl h1 h2 rfl hd rfl hq ho hp kt) k
theorem Go.getF (X : Stand p l e R s m args below meth c T locs cells slots) (hx : p.tables.exec = Jvm.exec) (hZ : Z.Warmed39 s.vm) {own : String} {index : Nat} (hown : s.vm.findClass own = some m.cls) {R0 O n d host : String} (wl : (Jvm.Cond.fieldLink own index R0 n d).before a0 Z = true ∨ (Jvm.Cond.fieldLinkNest own index R0 n d host).before a0 Z = true) (via : Via Z R0 O n d) (eT : T.heap = h) {a : Addr} {v : Value} (F : Fld Z h a O n d v) {pc : Nat} (pc' : Nat) {Ls : Array Slot} {rest : List Value} (hp : pc' = pc + 3) (hd : decode c.code pc = .ok (.getfield index, 3))
    (k : ∀ T', T'.heap = h → Stand p l e R s m args below meth c T' locs cells slots → Go p e below F0 (T'.setTop (mkF m pc' Ls (v :: rest)))) : Go p e below F0 (T.setTop (mkF m pc Ls (.ref a :: rest))) := by
  subst hp
  obtain ⟨T', X', e', st⟩ := Jvm.RoadKit.getF X hx hZ hown wl via eT F (g := mkF m pc Ls (.ref a :: rest)) rfl rfl hd
  exact Go.step st (k T' e' X')
theorem Go.getS (X : Stand p l e R s m args below meth c T locs cells slots) (hx : p.tables.exec = Jvm.exec) (hZ : Z.Warmed39 s.vm) {own : String} {index : Nat} (hown : s.vm.findClass own = some m.cls) {R0 O n d host : String} (wl : (Jvm.Cond.fieldLink own index R0 n d).before a0 Z = true ∨ (Jvm.Cond.fieldLinkNest own index R0 n d host).before a0 Z = true) (via : Via Z R0 O n d) (eT : T.heap = h) {v : Value} (F : Sta Z h O n d v) {pc : Nat} (pc' : Nat) {Ls : Array Slot} {rest : List Value} (hp : pc' = pc + 3) (hd : decode c.code pc = .ok (.getstatic index, 3))
    (k : ∀ T', T'.heap = h → Stand p l e R s m args below meth c T' locs cells slots → Go p e below F0 (T'.setTop (mkF m pc' Ls (v :: rest)))) : Go p e below F0 (T.setTop (mkF m pc Ls rest)) := by
  subst hp
  obtain ⟨T', X', e', st⟩ := Jvm.RoadKit.getS2 X hx hZ hown wl via eT F (g := mkF m pc Ls rest) rfl hd
  exact Go.step st (k T' e' X')
theorem Go.putF (X : Stand p l e R s m args below meth c T locs cells slots) (hx : p.tables.exec = Jvm.exec) (hZ : Z.Warmed39 s.vm) {own : String} {index : Nat} (hown : s.vm.findClass own = some m.cls) {R0 O n d host C : String} {kk : Nat} {ty : FieldType} (wl : (Jvm.Cond.fieldLink own index R0 n d).before a0 Z = true ∨ (Jvm.Cond.fieldLinkNest own index R0 n d host).before a0 Z = true) (via : Via Z R0 O n d) (eT : T.heap = h) {a : Addr} {v old : Value} (F : Fld Z h a O n d old) (E : Exa Z h a C) (L : (Jvm.Cond.lays C O n d).before a0 Z = true ∨ ((Jvm.Cond.laysFinal C O n d).before a0 Z = true ∧ own = O ∧ meth.name = "<init>")) (wi : (Jvm.Cond.instantiable C kk).before a0 Z = true) (hty : parseFieldDescriptor d = some ty) (hn : narrow ty v = v) (hf : fits ty v = true) {pc : Nat} (pc' : Nat) {Ls : Array Slot} {rest : List Value} (hp : pc' = pc + 3) (hd : decode c.code pc = .ok (.putfield index, 3))
    (k : ∀ T' h', T'.heap = h' → Wr h h' a (slotOf Z O n d) v → Fld Z h' a O n d v → Stand p l e R s m args below meth c T' (locs ++ [⟨a, slotOf Z O n d⟩]) cells slots → Go p e below F0 (T'.setTop (mkF m pc' Ls rest))) : Go p e below F0 (T.setTop (mkF m pc Ls (v :: .ref a :: rest))) := by
  subst hp
  obtain ⟨T', h', X', e', W, st⟩ := Jvm.RoadKit.putF X hx hZ hown wl via eT F E L wi hty hn hf (g := mkF m pc Ls (v :: .ref a :: rest)) rfl rfl hd
  exact Go.step st (k T' h' e' W (F.same W) X')
theorem Go.new (X : Stand p l e R s m args below meth c T locs cells slots) (hx : p.tables.exec = Jvm.exec) (hZ : Z.Warmed39 s.vm) {own : String} {index : Nat} (hown : s.vm.findClass own = some m.cls) {C : String} {n : Nat} (wl : (Jvm.Cond.classLink own index C).before a0 Z = true) (wi : (Jvm.Cond.instantiable C n).before a0 Z = true) (wz : (Jvm.Cond.initialized C).before a0 Z = true) (eT : T.heap = h) (hc : cells + 1 ≤ R.cells) (hl : slots + n ≤ R.slots) {pc : Nat} (pc' : Nat) {Ls : Array Slot} {rest : List Value} (hp : pc' = pc + 3) (hd : decode c.code pc = .ok (.new index, 3))
    (k : ∀ T' h' a, T'.heap = h' → Ext h h' → a = h.size → Exa Z h' a C → (∀ {O nm d : String} {ty : FieldType}, Laid Z a0 C O nm d → parseFieldDescriptor d = some ty → Fld Z h' a O nm d (defaultValue ty)) → Stand p l e R s m args below meth c T' locs (cells + 1) (slots + n) → Go p e below F0 (T'.setTop (mkF m pc' Ls (.ref a :: rest)))) : Go p e below F0 (T.setTop (mkF m pc Ls rest)) := by
  subst hp
  obtain ⟨T', h', X', e', E, A, D, -, st⟩ := newO X hx hZ hown wl wi wz eT (g := mkF m pc Ls rest) rfl hd hc hl
  exact Go.step st (k T' h' h.size e' E rfl A D X')
theorem Go.newarray (X : Stand p l e R s m args below meth c T locs cells slots) (hx : p.tables.exec = Jvm.exec) (hZ : Z.Warmed39 s.vm) {aty : ArrayType} {ty : FieldType} (hty : newarray.typeOf aty = ty) (wa : (Jvm.Cond.arrayClass ty).before a0 Z = true) (eT : T.heap = h) {n : Int32} (hn : ¬ n < 0) {cap : Nat} (hcap : n.toNatClampNeg ≤ cap) (hb : cap * 8 ≤ 536870912) (hc : cells + 1 ≤ R.cells) (hl : slots + cap ≤ R.slots) {ad : String} (had : "[" ++ ty.toString = ad) (N : Nat) {pc : Nat} (pc' : Nat) {Ls : Array Slot} {rest : List Value} (hp : pc' = pc + 2) (hd : decode c.code pc = .ok (.newarray aty, 2))
    (k : ∀ T' h' a kk, T'.heap = h' → Ext h h' → a = h.size → Arv Z h' a kk ty n (List.replicate N (defaultValue ty)) (defaultValue ty) → Exa Z h' a ad → Stand p l e R s m args below meth c T' locs (cells + 1) (slots + cap) → Go p e below F0 (T'.setTop (mkF m pc' Ls (.ref a :: rest)))) : Go p e below F0 (T.setTop (mkF m pc Ls (.int n :: rest))) := by
  subst hp hty
  obtain ⟨T', h', cA, X', e', E, A, Ex, st⟩ := newPE X hx hZ wa eT (g := mkF m pc Ls (.int n :: rest)) rfl hd rfl hn hcap hb hc hl had
  exact Go.step st (k T' h' h.size cA e' E rfl ((Arv.new A hn).pad (pad_rep [] _ N)) Ex X')
theorem Go.anewarray (X : Stand p l e R s m args below meth c T locs cells slots) (hx : p.tables.exec = Jvm.exec) (hZ : Z.Warmed39 s.vm) {own : String} {index : Nat} (hown : s.vm.findClass own = some m.cls) {C : String} (wl : (Jvm.Cond.classLink own index C).before a0 Z = true) (wa : (Jvm.Cond.arrayOver (.object C)).before a0 Z = true) (eT : T.heap = h) {n : Int32} (hn : ¬ n < 0) {cap : Nat} (hcap : n.toNatClampNeg ≤ cap) (hb : cap * 8 ≤ 536870912) (hc : cells + 1 ≤ R.cells) (hl : slots + cap ≤ R.slots) {ad : String} (had : "[" ++ (FieldType.object C).toString = ad) (N : Nat) {pc : Nat} (pc' : Nat) {Ls : Array Slot} {rest : List Value} (hp : pc' = pc + 3) (hd : decode c.code pc = .ok (.anewarray index, 3))
    (k : ∀ T' h' a kk, T'.heap = h' → Ext h h' → a = h.size → Arv Z h' a kk (.object C) n (List.replicate N .null) .null → Exa Z h' a ad → Ovr Z kk C → Stand p l e R s m args below meth c T' locs (cells + 1) (slots + cap) → Go p e below F0 (T'.setTop (mkF m pc' Ls (.ref a :: rest)))) : Go p e below F0 (T.setTop (mkF m pc Ls (.int n :: rest))) := by
  subst hp
  obtain ⟨T', h', cA, X', e', E, A, Ex, O, st⟩ := newRE X hx hZ hown wl wa eT (g := mkF m pc Ls (.int n :: rest)) rfl hd rfl hn hcap hb hc hl had
  exact Go.step st (k T' h' h.size cA e' E rfl ((Arv.new A hn).pad (pad_rep [] _ N)) Ex O X')
theorem Go.iastore (X : Stand p l e R s m args below meth c T locs cells slots) (hx : p.tables.exec = Jvm.exec) (hZ : Z.Warmed39 s.vm) (eT : T.heap = h) {a : Addr} {kk : ClassId} {z : Int32} {vs : List Value} {dv : Value} (V : Arv Z h a kk .int z vs dv) {j : Int32} {x : Int32} (hj : ¬ j < 0 ∧ j < z) (i : Nat) (hi : j.toNatClampNeg = i) (hl : i < vs.length) {pc : Nat} (pc' : Nat) {Ls : Array Slot} {rest : List Value} (hp : pc' = pc + 1) (hd : decode c.code pc = .ok (.iastore, 1))
    (k : ∀ T' h', T'.heap = h' → Wr h h' a j.toNatClampNeg (.int x) → Arv Z h' a kk .int z (vs.set i (.int x)) dv → Stand p l e R s m args below meth c T' (locs ++ [⟨a, j.toNatClampNeg⟩]) cells slots → Go p e below F0 (T'.setTop (mkF m pc' Ls rest))) : Go p e below F0 (T.setTop (mkF m pc Ls (.int x :: .int j :: .ref a :: rest))) := by
  subst hp
  obtain ⟨cl, A, q1, S, q3, H, G⟩ := V
  obtain ⟨T', h', X', e', W, st⟩ := stI X hx hZ eT A (j := j) (x := x) (inb_of S hj) (g := mkF m pc Ls (.int x :: .int j :: .ref a :: rest)) rfl rfl hd
  exact Go.step st (k T' h' e' W (Arv.set A q1 S q3 H G rfl W i hi hl) X')
theorem Go.aastore (X : Stand p l e R s m args below meth c T locs cells slots) (hx : p.tables.exec = Jvm.exec) (hZ : Z.Warmed39 s.vm) (eT : T.heap = h) {a : Addr} {kk : ClassId} {ty : FieldType} {z : Int32} {vs : List Value} {dv : Value} (V : Arv Z h a kk ty z vs dv) (hty : ty.isReference = true) {j : Int32} {v : Value} (F : Sto Z h a v) (hv : fits ty v = true) (hj : ¬ j < 0 ∧ j < z) (i : Nat) (hi : j.toNatClampNeg = i) (hl : i < vs.length) {pc : Nat} (pc' : Nat) {Ls : Array Slot} {rest : List Value} (hp : pc' = pc + 1) (hd : decode c.code pc = .ok (.aastore, 1))
    (k : ∀ T' h', T'.heap = h' → Wr h h' a j.toNatClampNeg v → Arv Z h' a kk ty z (vs.set i v) dv → Stand p l e R s m args below meth c T' (locs ++ [⟨a, j.toNatClampNeg⟩]) cells slots → Go p e below F0 (T'.setTop (mkF m pc' Ls rest))) : Go p e below F0 (T.setTop (mkF m pc Ls (v :: .int j :: .ref a :: rest))) := by
  subst hp
  obtain ⟨cl, A, q1, S, q3, H, G⟩ := V
  obtain ⟨T', h', X', e', W, st⟩ := stR X hx hZ eT A (j := j) (v := v) (inb_of S hj) hty F (g := mkF m pc Ls (v :: .int j :: .ref a :: rest)) rfl rfl hd
  exact Go.step st (k T' h' e' W (Arv.set A q1 S q3 H G hv W i hi hl) X')
theorem Go.iaload (X : Stand p l e R s m args below meth c T locs cells slots) (hx : p.tables.exec = Jvm.exec) (hZ : Z.Warmed39 s.vm) (eT : T.heap = h) {a : Addr} {kk : ClassId} {z : Int32} {vs : List Value} {dv : Value} (V : Arv Z h a kk .int z vs dv) {j : Int32} {v : Value} (hj : ¬ j < 0 ∧ j < z) (hv : vs.getD j.toNatClampNeg dv = v) {pc : Nat} (pc' : Nat) {Ls : Array Slot} {rest : List Value} (hp : pc' = pc + 1) (hd : decode c.code pc = .ok (.iaload, 1)) (k : Go p e below F0 (T.setTop (mkF m pc' Ls (v :: rest)))) : Go p e below F0 (T.setTop (mkF m pc Ls (.int j :: .ref a :: rest))) := by
  subst hp
  obtain ⟨cl, A, q1, S, q3, H, G⟩ := V
  exact Go.step (fun t kt => X.iaload hx (j := j) (v := v) (by rw [eT]; exact A.1) (State.isArrayOf_alike hZ.alike A.2.1) A.2.2 (inb_of S hj) (H.at (inb_of S hj) hv) (g := mkF m pc Ls (.int j :: .ref a :: rest)) rfl rfl hd t kt) k
theorem Go.aaload (X : Stand p l e R s m args below meth c T locs cells slots) (hx : p.tables.exec = Jvm.exec) (hZ : Z.Warmed39 s.vm) (eT : T.heap = h) {a : Addr} {kk : ClassId} {z : Int32} {vs : List Value} {dv : Value} {ty : FieldType} (hty : ty.isReference = true) (V : Arv Z h a kk ty z vs dv) {j : Int32} {v : Value} (hj : ¬ j < 0 ∧ j < z) (hv : vs.getD j.toNatClampNeg dv = v) {pc : Nat} (pc' : Nat) {Ls : Array Slot} {rest : List Value} (hp : pc' = pc + 1) (hd : decode c.code pc = .ok (.aaload, 1)) (k : Go p e below F0 (T.setTop (mkF m pc' Ls (v :: rest)))) : Go p e below F0 (T.setTop (mkF m pc Ls (.int j :: .ref a :: rest))) := by
  subst hp
  obtain ⟨cl, A, q1, S, q3, H, G⟩ := V
  exact Go.step (fun t kt => X.aaload hx (j := j) (v := v) (by rw [eT]; exact A.1) (State.isArrayOf_alike hZ.alike A.2.1) hty A.2.2 (inb_of S hj) (H.at (inb_of S hj) hv) (g := mkF m pc Ls (.int j :: .ref a :: rest)) rfl rfl hd t kt) k
theorem Go.arraylength (X : Stand p l e R s m args below meth c T locs cells slots) (hx : p.tables.exec = Jvm.exec) (hZ : Z.Warmed39 s.vm) (eT : T.heap = h) {a : Addr} {kk : ClassId} {ty : FieldType} {z : Int32} {vs : List Value} {dv : Value} (V : Arv Z h a kk ty z vs dv) {pc : Nat} (pc' : Nat) {Ls : Array Slot} {rest : List Value} (hp : pc' = pc + 1) (hd : decode c.code pc = .ok (.arraylength, 1)) (k : Go p e below F0 (T.setTop (mkF m pc' Ls (.int z :: rest)))) : Go p e below F0 (T.setTop (mkF m pc Ls (.ref a :: rest))) := by
  subst hp
  obtain ⟨cl, A, q1, S, q3, H, G⟩ := V
  refine Go.step (fun t kt => X.arraylength hx (by rw [eT]; exact A.1) (State.isArrayOf_alike hZ.alike A.2.1) (g := mkF m pc Ls (.ref a :: rest)) rfl rfl hd t kt) ?_
  rw [len_of S q3]
  exact k
theorem Go.initO (X : Stand p l e R s m args below meth c T locs cells slots) (hx : p.tables.exec = Jvm.exec) (hZ : Z.Warmed39 s.vm) {own : String} {index : Nat} (hown : s.vm.findClass own = some m.cls) (w1 : (Jvm.Cond.methodLink own index Lib.objectInit).before a0 Z = true) (w2 : (Jvm.Cond.instanceMethod Lib.objectInit).before a0 Z = true) (w3 : (Jvm.Cond.code Lib.objectInit ⟨#[0xb1]⟩ 1 none).before a0 Z = true) (eT : T.heap = h) {a : Addr} (hf : 1 ≤ R.frames) {W : Nat} {pc : Nat} (pc' : Nat) {Ls : Array Slot} {rest : List Value} (hsz : Ls.size = c.maxLocals) (hW : (rest.map fun v => v.category).sum ≤ W) (hl : W + 12 ≤ R.locals) (hp : pc' = pc + 3) (hd : decode c.code pc = .ok (.invokespecial index, 3))
    (k : ∀ T', T'.heap = h → Stand p l e R s m args below meth c T' locs cells slots → Go p e below F0 (T'.setTop (mkF m pc' Ls rest))) : Go p e below F0 (T.setTop (mkF m pc Ls (.ref a :: rest))) := by
  subst hp
  obtain ⟨T', X', e', st⟩ := Jvm.RoadKit.initO X hx hZ hown w1 w2 w3 eT (g := mkF m pc Ls (.ref a :: rest)) rfl hsz rfl hd hf (W := W) (by show 2 * 0 + _ ≤ _; rw [Nat.mul_zero, Nat.zero_add]; exact hW) hl
  exact Go.step st (k T' e' X')
theorem Go.ldcI (X : Stand p l e R s m args below meth c T locs cells slots) (hx : p.tables.exec = Jvm.exec) (hZ : Z.Warmed39 s.vm) {own : String} {index : Nat} (hown : s.vm.findClass own = some m.cls) {v : Int32} (wl : (Jvm.Cond.constant own index v).before a0 Z = true) {pc : Nat} (pc' : Nat) {Ls : Array Slot} {rest : List Value} (hp : pc' = pc + 2) (hd : decode c.code pc = .ok (.ldc index, 2)) (k : Go p e below F0 (T.setTop (mkF m pc' Ls (.int v :: rest)))) : Go p e below F0 (T.setTop (mkF m pc Ls rest)) := by
  subst hp
  exact Go.step (fun t kt => X.ldcInt hx hown (mvT hZ wl) (g := mkF m pc Ls rest) rfl hd t kt) k
theorem Go.callSB (X : Stand p l e R s m args below meth c T locs cells slots) (hx : p.tables.exec = Jvm.exec) (hZ : Z.Warmed39 s.vm) {own : String} {index : Nat} (hown : s.vm.findClass own = some m.cls) {y : MethodName} {bytes : ByteArray} {maxL : Nat} {ret : Option FieldType} (w1 : (Jvm.Cond.methodLink own index y).before a0 Z = true) (w2 : (Jvm.Cond.static y).before a0 Z = true) (w3 : (Jvm.Cond.initialized y.cls).before a0 Z = true) (w4 : (Jvm.Cond.code y bytes maxL ret).before a0 Z = true) (hy : y.cls ≠ "java/lang/invoke/MethodHandle" ∧ y.cls ≠ "java/lang/invoke/VarHandle") {W : Nat} {Pre : Pt → Array Value → Prop} {Post : Pt → Array Value → Option Value → Pt → Prop} (hK : Back l R p e below s args y 3 W Pre Post) (eT : T.heap = h)  {pc : Nat} (pc' : Nat) {Ls : Array Slot} {stk argsL rest : List Value} (hp : pc' = pc + 3) (hsz : Ls.size = c.maxLocals) (hlen : ∀ sig, parseMethodDescriptor y.desc = some sig → argsL.length = sig.parameters.length) (hst : stk = argsL.reverse ++ rest) (hW : (rest.map fun v => v.category).sum ≤ W) (hd : decode c.code pc = .ok (.invokestatic index, 3)) (hpre : ∀ vm₁, s.WarmedH vm₁ → Pre ⟨T.setVm vm₁, locs, cells, slots⟩ argsL.toArray)
    (k : ∀ (v : Option Value) (vm₁ : Vm) (T' : State) (locs' : List Loc) (cells' slots' : Nat), Stand p l e R s m args below meth c T' locs' cells' slots' → Post ⟨T.setVm vm₁, locs, cells, slots⟩ argsL.toArray v ⟨T', locs', cells', slots'⟩ → Go p e below F0 (T'.setTop (mkF m pc' Ls (v.toList ++ rest)))) : Go p e below F0 (T.setTop (mkF m pc Ls stk)) := by
  subst hp
  obtain ⟨v, vm₁, ⟨T', L', c', n'⟩, -, X', hP, st⟩ := Jvm.LawKit.callS X hx hown (mvT hZ w1) (mvT hZ w2) (mvT hZ w3) (mvT hZ w4) hy hK (g := mkF m pc Ls stk) rfl hsz hlen hst (by show 2 * 0 + _ ≤ _; rw [Nat.mul_zero, Nat.zero_add]; exact hW) hd hpre
  exact Go.step st (k v vm₁ T' L' c' n' X' hP)
theorem Go.callS (X : Stand p l e R s m args below meth c T locs cells slots) (hx : p.tables.exec = Jvm.exec) (hZ : Z.Warmed39 s.vm) {own : String} {index : Nat} (hown : s.vm.findClass own = some m.cls) {y : MethodName} {bytes : ByteArray} {maxL : Nat} {ret : Option FieldType} (w1 : (Jvm.Cond.methodLink own index y).before a0 Z = true) (w2 : (Jvm.Cond.static y).before a0 Z = true) (w3 : (Jvm.Cond.initialized y.cls).before a0 Z = true) (w4 : (Jvm.Cond.code y bytes maxL ret).before a0 Z = true) (hy : y.cls ≠ "java/lang/invoke/MethodHandle" ∧ y.cls ≠ "java/lang/invoke/VarHandle") {rm : Room} {Qc : Option Value → Heap → List Loc → Prop}  (wc : (Jvm.Cond.code y bytes maxL ret).before a0 Z = true) (wz : (Jvm.Cond.initialized y.cls).before a0 Z = true) {as : Array Value} (hC : Ctr l Z y bytes maxL ret rm as h Qc) (eT : T.heap = h)  {pc : Nat} (pc' : Nat) {Ls : Array Slot} {stk argsL rest : List Value} (hp : pc' = pc + 3) (hsz : Ls.size = c.maxLocals) (hlen : ∀ sig, parseMethodDescriptor y.desc = some sig → argsL.length = sig.parameters.length) (hst : stk = argsL.reverse ++ rest) (has : argsL.toArray = as) {W : Nat} (hW : (rest.map fun v => v.category).sum ≤ W) (hf : rm.frames + 1 ≤ R.frames) (hl : W + (maxL + 11) + rm.locals ≤ R.locals) (hc : cells + rm.cells ≤ R.cells) (hs : slots + rm.slots ≤ R.slots) (hd : decode c.code pc = .ok (.invokestatic index, 3))
    (k : ∀ (v : Option Value) (T' : State) (L : List Loc), Qc v T'.heap L → Stand p l e R s m args below meth c T' (locs ++ L) (cells + rm.cells) (slots + rm.slots) → Go p e below F0 (T'.setTop (mkF m pc' Ls (v.toList ++ rest)))) : Go p e below F0 (T.setTop (mkF m pc Ls stk)) :=
  Go.callSB X hx hZ hown w1 w2 w3 w4 hy (backOf (W := W) (hC []) hZ wc wz hf hl) eT  pc' hp hsz hlen hst hW hd (fun _ _ => ⟨has, eT, hc, hs⟩) (fun v vm₁ T' locs' cells' slots' X' ⟨L, hq, h1, h2, h3⟩ => by
    try dsimp only at h1 h2 h3
    subst h1 h2 h3
    exact k v T' L hq X')
theorem Go.callVB (X : Stand p l e R s m args below meth c T locs cells slots) (hx : p.tables.exec = Jvm.exec) (hZ : Z.Warmed39 s.vm) {own : String} {index : Nat} (hown : s.vm.findClass own = some m.cls) {x y : MethodName} {C : String} (w1 : (Jvm.Cond.methodLink own index x).before a0 Z = true) (w2 : (Jvm.Cond.declares x).before a0 Z = true) (nf : NotFace s x) (w3 : (Jvm.Cond.selects C x y).before a0 Z = true) (w4 : (Jvm.Cond.instanceMethod y).before a0 Z = true) (hy : x.cls ≠ "java/lang/invoke/MethodHandle" ∧ x.cls ≠ "java/lang/invoke/VarHandle") {W : Nat} {Pre : Pt → Array Value → Prop} {Post : Pt → Array Value → Option Value → Pt → Prop} (hK : Back l R p e below s args y 3 W Pre Post) (eT : T.heap = h) {a : Addr} (F : Exa Z h a C) {pc : Nat} (pc' : Nat) {Ls : Array Slot} {stk argsL rest : List Value} (hp : pc' = pc + 3) (hsz : Ls.size = c.maxLocals) (hlen : ∀ sig, parseMethodDescriptor x.desc = some sig → argsL.length = sig.parameters.length) (hst : stk = argsL.reverse ++ .ref a :: rest) (hW : (rest.map fun v => v.category).sum ≤ W) (hd : decode c.code pc = .ok (.invokevirtual index, 3)) (hpre : ∀ vm₁, s.WarmedH vm₁ → Pre ⟨T.setVm vm₁, locs, cells, slots⟩ (.ref a :: argsL).toArray)
    (k : ∀ (v : Option Value) (vm₁ : Vm) (T' : State) (locs' : List Loc) (cells' slots' : Nat), Stand p l e R s m args below meth c T' locs' cells' slots' → Post ⟨T.setVm vm₁, locs, cells, slots⟩ (.ref a :: argsL).toArray v ⟨T', locs', cells', slots'⟩ → Go p e below F0 (T'.setTop (mkF m pc' Ls (v.toList ++ rest)))) : Go p e below F0 (T.setTop (mkF m pc Ls stk)) := by
  subst hp
  obtain ⟨cB, kB, q1, q2, q3⟩ := isOf hZ eT F
  obtain ⟨v, vm₁, ⟨T', L', c', n'⟩, -, X', hP, st⟩ := X.virtualBack hx (y := x) (z := y) hown (mvT hZ w1) (mvT hZ w2) nf (mvT hZ w3) (mvT hZ w4) hy hK q1 q3 (g := mkF m pc Ls stk) rfl hsz (Steps.refl _) hlen hst (by show 2 * 0 + _ ≤ _; rw [Nat.mul_zero, Nat.zero_add]; exact hW) hd hpre
  exact Go.step (fun t kt => st.trans kt) (k v vm₁ T' L' c' n' X' hP)
theorem Go.callV (X : Stand p l e R s m args below meth c T locs cells slots) (hx : p.tables.exec = Jvm.exec) (hZ : Z.Warmed39 s.vm) {own : String} {index : Nat} (hown : s.vm.findClass own = some m.cls) {x y : MethodName} {C : String} (w1 : (Jvm.Cond.methodLink own index x).before a0 Z = true) (w2 : (Jvm.Cond.declares x).before a0 Z = true) (nf : NotFace s x) (w3 : (Jvm.Cond.selects C x y).before a0 Z = true) (w4 : (Jvm.Cond.instanceMethod y).before a0 Z = true) (hy : x.cls ≠ "java/lang/invoke/MethodHandle" ∧ x.cls ≠ "java/lang/invoke/VarHandle") {bytes : ByteArray} {maxL : Nat} {ret : Option FieldType} {rm : Room} {Qc : Option Value → Heap → List Loc → Prop}  (wc : (Jvm.Cond.code y bytes maxL ret).before a0 Z = true) (wz : (Jvm.Cond.initialized y.cls).before a0 Z = true) {as : Array Value} (hC : Ctr l Z y bytes maxL ret rm as h Qc) (eT : T.heap = h) {a : Addr} (F : Exa Z h a C) {pc : Nat} (pc' : Nat) {Ls : Array Slot} {stk argsL rest : List Value} (hp : pc' = pc + 3) (hsz : Ls.size = c.maxLocals) (hlen : ∀ sig, parseMethodDescriptor x.desc = some sig → argsL.length = sig.parameters.length) (hst : stk = argsL.reverse ++ .ref a :: rest) (has : (.ref a :: argsL).toArray = as) {W : Nat} (hW : (rest.map fun v => v.category).sum ≤ W) (hf : rm.frames + 1 ≤ R.frames) (hl : W + (maxL + 11) + rm.locals ≤ R.locals) (hc : cells + rm.cells ≤ R.cells) (hs : slots + rm.slots ≤ R.slots) (hd : decode c.code pc = .ok (.invokevirtual index, 3))
    (k : ∀ (v : Option Value) (T' : State) (L : List Loc), Qc v T'.heap L → Stand p l e R s m args below meth c T' (locs ++ L) (cells + rm.cells) (slots + rm.slots) → Go p e below F0 (T'.setTop (mkF m pc' Ls (v.toList ++ rest)))) : Go p e below F0 (T.setTop (mkF m pc Ls stk)) :=
  Go.callVB X hx hZ hown w1 w2 nf w3 w4 hy (backOf (W := W) (hC []) hZ wc wz hf hl) eT F pc' hp hsz hlen hst hW hd (fun _ _ => ⟨has, eT, hc, hs⟩) (fun v vm₁ T' locs' cells' slots' X' ⟨L, hq, h1, h2, h3⟩ => by
    try dsimp only at h1 h2 h3
    subst h1 h2 h3
    exact k v T' L hq X')
theorem Go.callNB (X : Stand p l e R s m args below meth c T locs cells slots) (hx : p.tables.exec = Jvm.exec) (hZ : Z.Warmed39 s.vm) {own : String} {index : Nat} (hown : s.vm.findClass own = some m.cls) {y : MethodName} {bytes : ByteArray} {maxL : Nat} (hn : y.name = "<init>") (w1 : (Jvm.Cond.methodLink own index y).before a0 Z = true) (w2 : (Jvm.Cond.instanceMethod y).before a0 Z = true) (w4 : (Jvm.Cond.code y bytes maxL none).before a0 Z = true) (hy : y.cls ≠ "java/lang/invoke/MethodHandle" ∧ y.cls ≠ "java/lang/invoke/VarHandle") {W : Nat} {Pre : Pt → Array Value → Prop} {Post : Pt → Array Value → Option Value → Pt → Prop} (hK : Back l R p e below s args y 3 W Pre Post) (eT : T.heap = h) {a : Addr} {pc : Nat} (pc' : Nat) {Ls : Array Slot} {stk argsL rest : List Value} (hp : pc' = pc + 3) (hsz : Ls.size = c.maxLocals) (hlen : ∀ sig, parseMethodDescriptor y.desc = some sig → argsL.length = sig.parameters.length) (hst : stk = argsL.reverse ++ .ref a :: rest) (hW : (rest.map fun v => v.category).sum ≤ W) (hd : decode c.code pc = .ok (.invokespecial index, 3)) (hpre : ∀ vm₁, s.WarmedH vm₁ → Pre ⟨T.setVm vm₁, locs, cells, slots⟩ (.ref a :: argsL).toArray)
    (k : ∀ (v : Option Value) (vm₁ : Vm) (T' : State) (locs' : List Loc) (cells' slots' : Nat), Stand p l e R s m args below meth c T' locs' cells' slots' → Post ⟨T.setVm vm₁, locs, cells, slots⟩ (.ref a :: argsL).toArray v ⟨T', locs', cells', slots'⟩ → Go p e below F0 (T'.setTop (mkF m pc' Ls (v.toList ++ rest)))) : Go p e below F0 (T.setTop (mkF m pc Ls stk)) := by
  subst hp
  obtain ⟨v, vm₁, ⟨T', L', c', n'⟩, -, X', hP, st⟩ := X.specialBack hx (y := y) hn hown (mvT hZ w1) (mvT hZ w2) (mvT hZ w4) hy hK (g := mkF m pc Ls stk) rfl hsz (Steps.refl _) (a := a) hlen hst (by show 2 * 0 + _ ≤ _; rw [Nat.mul_zero, Nat.zero_add]; exact hW) hd hpre
  exact Go.step (fun t kt => st.trans kt) (k v vm₁ T' L' c' n' X' hP)
theorem Go.callN (X : Stand p l e R s m args below meth c T locs cells slots) (hx : p.tables.exec = Jvm.exec) (hZ : Z.Warmed39 s.vm) {own : String} {index : Nat} (hown : s.vm.findClass own = some m.cls) {y : MethodName} {bytes : ByteArray} {maxL : Nat} (hn : y.name = "<init>") (w1 : (Jvm.Cond.methodLink own index y).before a0 Z = true) (w2 : (Jvm.Cond.instanceMethod y).before a0 Z = true) (w4 : (Jvm.Cond.code y bytes maxL none).before a0 Z = true) (hy : y.cls ≠ "java/lang/invoke/MethodHandle" ∧ y.cls ≠ "java/lang/invoke/VarHandle") {rm : Room} {Qc : Option Value → Heap → List Loc → Prop}  (wc : (Jvm.Cond.code y bytes maxL none).before a0 Z = true) (wz : (Jvm.Cond.initialized y.cls).before a0 Z = true) {as : Array Value} (hC : Ctr l Z y bytes maxL none rm as h Qc) (eT : T.heap = h) {a : Addr} {pc : Nat} (pc' : Nat) {Ls : Array Slot} {stk argsL rest : List Value} (hp : pc' = pc + 3) (hsz : Ls.size = c.maxLocals) (hlen : ∀ sig, parseMethodDescriptor y.desc = some sig → argsL.length = sig.parameters.length) (hst : stk = argsL.reverse ++ .ref a :: rest) (has : (.ref a :: argsL).toArray = as) {W : Nat} (hW : (rest.map fun v => v.category).sum ≤ W) (hf : rm.frames + 1 ≤ R.frames) (hl : W + (maxL + 11) + rm.locals ≤ R.locals) (hc : cells + rm.cells ≤ R.cells) (hs : slots + rm.slots ≤ R.slots) (hd : decode c.code pc = .ok (.invokespecial index, 3))
    (k : ∀ (v : Option Value) (T' : State) (L : List Loc), Qc v T'.heap L → Stand p l e R s m args below meth c T' (locs ++ L) (cells + rm.cells) (slots + rm.slots) → Go p e below F0 (T'.setTop (mkF m pc' Ls (v.toList ++ rest)))) : Go p e below F0 (T.setTop (mkF m pc Ls stk)) :=
  Go.callNB X hx hZ hown hn w1 w2 w4 hy (backOf (W := W) (hC []) hZ wc wz hf hl) eT  pc' hp hsz hlen hst hW hd (fun _ _ => ⟨has, eT, hc, hs⟩) (fun v vm₁ T' locs' cells' slots' X' ⟨L, hq, h1, h2, h3⟩ => by
    try dsimp only at h1 h2 h3
    subst h1 h2 h3
    exact k v T' L hq X')
theorem Go.callNNB (X : Stand p l e R s m args below meth c T locs cells slots) (hx : p.tables.exec = Jvm.exec) (hZ : Z.Warmed39 s.vm) {own : String} {index : Nat} (hown : s.vm.findClass own = some m.cls) {host : String} {y : MethodName} {bytes : ByteArray} {maxL : Nat} (hn : y.name = "<init>") (w1 : (Jvm.Cond.methodLinkNest own index y host).before a0 Z = true) (w2 : (Jvm.Cond.instanceMethod y).before a0 Z = true) (w4 : (Jvm.Cond.code y bytes maxL none).before a0 Z = true) (hy : y.cls ≠ "java/lang/invoke/MethodHandle" ∧ y.cls ≠ "java/lang/invoke/VarHandle") {W : Nat} {Pre : Pt → Array Value → Prop} {Post : Pt → Array Value → Option Value → Pt → Prop} (hK : Back l R p e below s args y 3 W Pre Post) (eT : T.heap = h) {a : Addr} {pc : Nat} (pc' : Nat) {Ls : Array Slot} {stk argsL rest : List Value} (hp : pc' = pc + 3) (hsz : Ls.size = c.maxLocals) (hlen : ∀ sig, parseMethodDescriptor y.desc = some sig → argsL.length = sig.parameters.length) (hst : stk = argsL.reverse ++ .ref a :: rest) (hW : (rest.map fun v => v.category).sum ≤ W) (hd : decode c.code pc = .ok (.invokespecial index, 3)) (hpre : ∀ vm₁, s.WarmedH vm₁ → Pre ⟨T.setVm vm₁, locs, cells, slots⟩ (.ref a :: argsL).toArray)
    (k : ∀ (v : Option Value) (vm₁ : Vm) (T' : State) (locs' : List Loc) (cells' slots' : Nat), Stand p l e R s m args below meth c T' locs' cells' slots' → Post ⟨T.setVm vm₁, locs, cells, slots⟩ (.ref a :: argsL).toArray v ⟨T', locs', cells', slots'⟩ → Go p e below F0 (T'.setTop (mkF m pc' Ls (v.toList ++ rest)))) : Go p e below F0 (T.setTop (mkF m pc Ls stk)) := by
  subst hp
  obtain ⟨v, vm₁, ⟨T', L', c', n'⟩, -, X', hP, st⟩ := X.specialBackNest hx (y := y) hn hown (Cond.methodLinkNest_wide hZ w1 :) (mvT hZ w2) (mvT hZ w4) hy hK (g := mkF m pc Ls stk) rfl hsz (Steps.refl _) (a := a) hlen hst (by show 2 * 0 + _ ≤ _; rw [Nat.mul_zero, Nat.zero_add]; exact hW) hd hpre
  exact Go.step (fun t kt => st.trans kt) (k v vm₁ T' L' c' n' X' hP)
theorem Go.callNN (X : Stand p l e R s m args below meth c T locs cells slots) (hx : p.tables.exec = Jvm.exec) (hZ : Z.Warmed39 s.vm) {own : String} {index : Nat} (hown : s.vm.findClass own = some m.cls) {host : String} {y : MethodName} {bytes : ByteArray} {maxL : Nat} (hn : y.name = "<init>") (w1 : (Jvm.Cond.methodLinkNest own index y host).before a0 Z = true) (w2 : (Jvm.Cond.instanceMethod y).before a0 Z = true) (w4 : (Jvm.Cond.code y bytes maxL none).before a0 Z = true) (hy : y.cls ≠ "java/lang/invoke/MethodHandle" ∧ y.cls ≠ "java/lang/invoke/VarHandle") {rm : Room} {Qc : Option Value → Heap → List Loc → Prop}  (wc : (Jvm.Cond.code y bytes maxL none).before a0 Z = true) (wz : (Jvm.Cond.initialized y.cls).before a0 Z = true) {as : Array Value} (hC : Ctr l Z y bytes maxL none rm as h Qc) (eT : T.heap = h) {a : Addr} {pc : Nat} (pc' : Nat) {Ls : Array Slot} {stk argsL rest : List Value} (hp : pc' = pc + 3) (hsz : Ls.size = c.maxLocals) (hlen : ∀ sig, parseMethodDescriptor y.desc = some sig → argsL.length = sig.parameters.length) (hst : stk = argsL.reverse ++ .ref a :: rest) (has : (.ref a :: argsL).toArray = as) {W : Nat} (hW : (rest.map fun v => v.category).sum ≤ W) (hf : rm.frames + 1 ≤ R.frames) (hl : W + (maxL + 11) + rm.locals ≤ R.locals) (hc : cells + rm.cells ≤ R.cells) (hs : slots + rm.slots ≤ R.slots) (hd : decode c.code pc = .ok (.invokespecial index, 3))
    (k : ∀ (v : Option Value) (T' : State) (L : List Loc), Qc v T'.heap L → Stand p l e R s m args below meth c T' (locs ++ L) (cells + rm.cells) (slots + rm.slots) → Go p e below F0 (T'.setTop (mkF m pc' Ls (v.toList ++ rest)))) : Go p e below F0 (T.setTop (mkF m pc Ls stk)) :=
  Go.callNNB X hx hZ hown hn w1 w2 w4 hy (backOf (W := W) (hC []) hZ wc wz hf hl) eT  pc' hp hsz hlen hst hW hd (fun _ _ => ⟨has, eT, hc, hs⟩) (fun v vm₁ T' locs' cells' slots' X' ⟨L, hq, h1, h2, h3⟩ => by
    try dsimp only at h1 h2 h3
    subst h1 h2 h3
    exact k v T' L hq X')
end OwnGo
end Jvm.RoadKit
namespace Jvm.Pilot.@@N@@
open Jvm Jvm.ClassFile Sem Op Lib Jvm.Free Jvm.Stand Jvm.LawKit Jvm.RoadKit Bundle Jvm.Pilot.@@N@@.Jvm.D
theorem tw_0 {Z : State} {a0 : Array Value} (hw : ∀ d ∈ tables_1, d.before a0 Z = true) : (Jvm.Cond.methodLink "com/example/tough_filter/toughfilter/CodePointTableSetPinLaw" (9 : Nat) ({ cls := "com/example/tough_filter/toughfilter/CodePointTableSetPinLaw", name := "cp", desc := "(I)I" } : Jvm.MethodName)).before a0 Z = true := hw _ (List.mem_of_getElem? (i := 0) rfl)
theorem tw_1 {Z : State} {a0 : Array Value} (hw : ∀ d ∈ tables_1, d.before a0 Z = true) : (Jvm.Cond.static ({ cls := "com/example/tough_filter/toughfilter/CodePointTableSetPinLaw", name := "cp", desc := "(I)I" } : Jvm.MethodName)).before a0 Z = true := hw _ (List.mem_of_getElem? (i := 1) rfl)
theorem tw_2 {Z : State} {a0 : Array Value} (hw : ∀ d ∈ tables_1, d.before a0 Z = true) : (Jvm.Cond.initialized "com/example/tough_filter/toughfilter/CodePointTableSetPinLaw").before a0 Z = true := hw _ (List.mem_of_getElem? (i := 2) rfl)
theorem tw_3 {Z : State} {a0 : Array Value} (hw : ∀ d ∈ tables_1, d.before a0 Z = true) : (Jvm.Cond.code ({ cls := "com/example/tough_filter/toughfilter/CodePointTableSetPinLaw", name := "cp", desc := "(I)I" } : Jvm.MethodName) method_2_code (1 : Nat) (Option.some Jvm.ClassFile.FieldType.int)).before a0 Z = true := hw _ (List.mem_of_getElem? (i := 3) rfl)
theorem tw_4 {Z : State} {a0 : Array Value} (hw : ∀ d ∈ tables_1, d.before a0 Z = true) : (Jvm.Cond.constant "com/example/tough_filter/toughfilter/CodePointTableSetPinLaw" (7 : Nat) (2147483647 : Int32)).before a0 Z = true := hw _ (List.mem_of_getElem? (i := 4) rfl)
theorem tw_5 {Z : State} {a0 : Array Value} (hw : ∀ d ∈ tables_1, d.before a0 Z = true) : (Jvm.Cond.constant "com/example/tough_filter/toughfilter/CodePointTableSetPinLaw" (8 : Nat) (1114112 : Int32)).before a0 Z = true := hw _ (List.mem_of_getElem? (i := 5) rfl)
theorem tw_6 {Z : State} {a0 : Array Value} (hw : ∀ d ∈ tables_1, d.before a0 Z = true) : (Jvm.Cond.classLink "com/example/tough_filter/toughfilter/CodePointTableSetPinLaw" (15 : Nat) "com/example/tough_filter/toughfilter/CodePointTable$Builder").before a0 Z = true := hw _ (List.mem_of_getElem? (i := 6) rfl)
theorem tw_7 {Z : State} {a0 : Array Value} (hw : ∀ d ∈ tables_1, d.before a0 Z = true) : (Jvm.Cond.instantiable "com/example/tough_filter/toughfilter/CodePointTable$Builder" (1 : Nat)).before a0 Z = true := hw _ (List.mem_of_getElem? (i := 7) rfl)
theorem tw_8 {Z : State} {a0 : Array Value} (hw : ∀ d ∈ tables_1, d.before a0 Z = true) : (Jvm.Cond.initialized "com/example/tough_filter/toughfilter/CodePointTable$Builder").before a0 Z = true := hw _ (List.mem_of_getElem? (i := 8) rfl)
theorem tw_9 {Z : State} {a0 : Array Value} (hw : ∀ d ∈ tables_1, d.before a0 Z = true) : (Jvm.Cond.methodLink "com/example/tough_filter/toughfilter/CodePointTableSetPinLaw" (17 : Nat) ({ cls := "com/example/tough_filter/toughfilter/CodePointTable$Builder", name := "<init>", desc := "()V" } : Jvm.MethodName)).before a0 Z = true := hw _ (List.mem_of_getElem? (i := 9) rfl)
theorem tw_10 {Z : State} {a0 : Array Value} (hw : ∀ d ∈ tables_1, d.before a0 Z = true) : (Jvm.Cond.instanceMethod ({ cls := "com/example/tough_filter/toughfilter/CodePointTable$Builder", name := "<init>", desc := "()V" } : Jvm.MethodName)).before a0 Z = true := hw _ (List.mem_of_getElem? (i := 10) rfl)
theorem tw_11 {Z : State} {a0 : Array Value} (hw : ∀ d ∈ tables_1, d.before a0 Z = true) : (Jvm.Cond.code ({ cls := "com/example/tough_filter/toughfilter/CodePointTable$Builder", name := "<init>", desc := "()V" } : Jvm.MethodName) prog_3_method_1_code (1 : Nat) (Option.none : Option Jvm.ClassFile.FieldType)).before a0 Z = true := hw _ (List.mem_of_getElem? (i := 11) rfl)
theorem tw_12 {Z : State} {a0 : Array Value} (hw : ∀ d ∈ tables_1, d.before a0 Z = true) : (Jvm.Cond.methodLink "com/example/tough_filter/toughfilter/CodePointTable$Builder" (3 : Nat) ({ cls := "java/lang/Object", name := "<init>", desc := "()V" } : Jvm.MethodName)).before a0 Z = true := hw _ (List.mem_of_getElem? (i := 12) rfl)
theorem tw_13 {Z : State} {a0 : Array Value} (hw : ∀ d ∈ tables_1, d.before a0 Z = true) : (Jvm.Cond.instanceMethod ({ cls := "java/lang/Object", name := "<init>", desc := "()V" } : Jvm.MethodName)).before a0 Z = true := hw _ (List.mem_of_getElem? (i := 13) rfl)
theorem tw_14 {Z : State} {a0 : Array Value} (hw : ∀ d ∈ tables_1, d.before a0 Z = true) : (Jvm.Cond.code ({ cls := "java/lang/Object", name := "<init>", desc := "()V" } : Jvm.MethodName) object_method_1_code (1 : Nat) (Option.none : Option Jvm.ClassFile.FieldType)).before a0 Z = true := hw _ (List.mem_of_getElem? (i := 14) rfl)
theorem tw_15 {Z : State} {a0 : Array Value} (hw : ∀ d ∈ tables_1, d.before a0 Z = true) : (Jvm.Cond.classLink "com/example/tough_filter/toughfilter/CodePointTable$Builder" (9 : Nat) "[I").before a0 Z = true := hw _ (List.mem_of_getElem? (i := 15) rfl)
theorem tw_16 {Z : State} {a0 : Array Value} (hw : ∀ d ∈ tables_1, d.before a0 Z = true) : (Jvm.Cond.arrayOver (Jvm.ClassFile.FieldType.array Jvm.ClassFile.FieldType.int)).before a0 Z = true := hw _ (List.mem_of_getElem? (i := 16) rfl)
theorem tw_17 {Z : State} {a0 : Array Value} (hw : ∀ d ∈ tables_1, d.before a0 Z = true) : (Jvm.Cond.fieldLink "com/example/tough_filter/toughfilter/CodePointTable$Builder" (11 : Nat) "com/example/tough_filter/toughfilter/CodePointTable$Builder" "pages" "[[I").before a0 Z = true := hw _ (List.mem_of_getElem? (i := 17) rfl)
theorem tw_18 {Z : State} {a0 : Array Value} (hw : ∀ d ∈ tables_1, d.before a0 Z = true) : (Jvm.Cond.laysFinal "com/example/tough_filter/toughfilter/CodePointTable$Builder" "com/example/tough_filter/toughfilter/CodePointTable$Builder" "pages" "[[I").before a0 Z = true := hw _ (List.mem_of_getElem? (i := 18) rfl)
theorem tw_19 {Z : State} {a0 : Array Value} (hw : ∀ d ∈ tables_1, d.before a0 Z = true) : (Jvm.Cond.fieldLinkNest "com/example/tough_filter/toughfilter/CodePointTable$Builder" (17 : Nat) "com/example/tough_filter/toughfilter/CodePointTable" "EMPTY_PAGE" "[I" "com/example/tough_filter/toughfilter/CodePointTable").before a0 Z = true := hw _ (List.mem_of_getElem? (i := 19) rfl)
theorem tw_20 {Z : State} {a0 : Array Value} (hw : ∀ d ∈ tables_1, d.before a0 Z = true) : (Jvm.Cond.initialized "com/example/tough_filter/toughfilter/CodePointTable").before a0 Z = true := hw _ (List.mem_of_getElem? (i := 20) rfl)
theorem tw_21 {Z : State} {a0 : Array Value} (hw : ∀ d ∈ tables_1, d.before a0 Z = true) : (Jvm.Cond.laysStatic "com/example/tough_filter/toughfilter/CodePointTable" "EMPTY_PAGE" "[I").before a0 Z = true := hw _ (List.mem_of_getElem? (i := 21) rfl)
theorem tw_22 {Z : State} {a0 : Array Value} (hw : ∀ d ∈ tables_1, d.before a0 Z = true) : (Jvm.Cond.methodLink "com/example/tough_filter/toughfilter/CodePointTable$Builder" (20 : Nat) ({ cls := "java/util/Arrays", name := "fill", desc := "([Ljava/lang/Object;Ljava/lang/Object;)V" } : Jvm.MethodName)).before a0 Z = true := hw _ (List.mem_of_getElem? (i := 22) rfl)
theorem tw_23 {Z : State} {a0 : Array Value} (hw : ∀ d ∈ tables_1, d.before a0 Z = true) : (Jvm.Cond.static ({ cls := "java/util/Arrays", name := "fill", desc := "([Ljava/lang/Object;Ljava/lang/Object;)V" } : Jvm.MethodName)).before a0 Z = true := hw _ (List.mem_of_getElem? (i := 23) rfl)
theorem tw_24 {Z : State} {a0 : Array Value} (hw : ∀ d ∈ tables_1, d.before a0 Z = true) : (Jvm.Cond.initialized "java/util/Arrays").before a0 Z = true := hw _ (List.mem_of_getElem? (i := 24) rfl)
theorem tw_25 {Z : State} {a0 : Array Value} (hw : ∀ d ∈ tables_1, d.before a0 Z = true) : (Jvm.Cond.code ({ cls := "java/util/Arrays", name := "fill", desc := "([Ljava/lang/Object;Ljava/lang/Object;)V" } : Jvm.MethodName) jdk_65_method_117_code (4 : Nat) (Option.none : Option Jvm.ClassFile.FieldType)).before a0 Z = true := hw _ (List.mem_of_getElem? (i := 25) rfl)
theorem tw_27 {Z : State} {a0 : Array Value} (hw : ∀ d ∈ tables_1, d.before a0 Z = true) : (Jvm.Cond.methodLink "com/example/tough_filter/toughfilter/CodePointTableSetPinLaw" (18 : Nat) ({ cls := "com/example/tough_filter/toughfilter/CodePointTable$Builder", name := "set", desc := "(II)Lcom/example/tough_filter/toughfilter/CodePointTable$Builder;" } : Jvm.MethodName)).before a0 Z = true := hw _ (List.mem_of_getElem? (i := 27) rfl)
theorem tw_28 {Z : State} {a0 : Array Value} (hw : ∀ d ∈ tables_1, d.before a0 Z = true) : (Jvm.Cond.declares ({ cls := "com/example/tough_filter/toughfilter/CodePointTable$Builder", name := "set", desc := "(II)Lcom/example/tough_filter/toughfilter/CodePointTable$Builder;" } : Jvm.MethodName)).before a0 Z = true := hw _ (List.mem_of_getElem? (i := 28) rfl)
theorem tw_29 {Z : State} {a0 : Array Value} (hw : ∀ d ∈ tables_1, d.before a0 Z = true) : (Jvm.Cond.instanceMethod ({ cls := "com/example/tough_filter/toughfilter/CodePointTable$Builder", name := "set", desc := "(II)Lcom/example/tough_filter/toughfilter/CodePointTable$Builder;" } : Jvm.MethodName)).before a0 Z = true := hw _ (List.mem_of_getElem? (i := 29) rfl)
theorem tw_30 {Z : State} {a0 : Array Value} (hw : ∀ d ∈ tables_1, d.before a0 Z = true) : (Jvm.Cond.selects "com/example/tough_filter/toughfilter/CodePointTable$Builder" ({ cls := "com/example/tough_filter/toughfilter/CodePointTable$Builder", name := "set", desc := "(II)Lcom/example/tough_filter/toughfilter/CodePointTable$Builder;" } : Jvm.MethodName) ({ cls := "com/example/tough_filter/toughfilter/CodePointTable$Builder", name := "set", desc := "(II)Lcom/example/tough_filter/toughfilter/CodePointTable$Builder;" } : Jvm.MethodName)).before a0 Z = true := hw _ (List.mem_of_getElem? (i := 30) rfl)
theorem tw_31 {Z : State} {a0 : Array Value} (hw : ∀ d ∈ tables_1, d.before a0 Z = true) : (Jvm.Cond.code ({ cls := "com/example/tough_filter/toughfilter/CodePointTable$Builder", name := "set", desc := "(II)Lcom/example/tough_filter/toughfilter/CodePointTable$Builder;" } : Jvm.MethodName) prog_3_method_2_code (4 : Nat) (Option.some (Jvm.ClassFile.FieldType.object "com/example/tough_filter/toughfilter/CodePointTable$Builder"))).before a0 Z = true := hw _ (List.mem_of_getElem? (i := 31) rfl)
theorem tw_32 {Z : State} {a0 : Array Value} (hw : ∀ d ∈ tables_1, d.before a0 Z = true) : (Jvm.Cond.arrayClass Jvm.ClassFile.FieldType.int).before a0 Z = true := hw _ (List.mem_of_getElem? (i := 32) rfl)
theorem tw_33 {Z : State} {a0 : Array Value} (hw : ∀ d ∈ tables_1, d.before a0 Z = true) : (Jvm.Cond.methodLink "com/example/tough_filter/toughfilter/CodePointTableSetPinLaw" (22 : Nat) ({ cls := "com/example/tough_filter/toughfilter/CodePointTable$Builder", name := "build", desc := "()Lcom/example/tough_filter/toughfilter/CodePointTable;" } : Jvm.MethodName)).before a0 Z = true := hw _ (List.mem_of_getElem? (i := 33) rfl)
theorem tw_34 {Z : State} {a0 : Array Value} (hw : ∀ d ∈ tables_1, d.before a0 Z = true) : (Jvm.Cond.declares ({ cls := "com/example/tough_filter/toughfilter/CodePointTable$Builder", name := "build", desc := "()Lcom/example/tough_filter/toughfilter/CodePointTable;" } : Jvm.MethodName)).before a0 Z = true := hw _ (List.mem_of_getElem? (i := 34) rfl)
theorem tw_35 {Z : State} {a0 : Array Value} (hw : ∀ d ∈ tables_1, d.before a0 Z = true) : (Jvm.Cond.instanceMethod ({ cls := "com/example/tough_filter/toughfilter/CodePointTable$Builder", name := "build", desc := "()Lcom/example/tough_filter/toughfilter/CodePointTable;" } : Jvm.MethodName)).before a0 Z = true := hw _ (List.mem_of_getElem? (i := 35) rfl)
theorem tw_36 {Z : State} {a0 : Array Value} (hw : ∀ d ∈ tables_1, d.before a0 Z = true) : (Jvm.Cond.selects "com/example/tough_filter/toughfilter/CodePointTable$Builder" ({ cls := "com/example/tough_filter/toughfilter/CodePointTable$Builder", name := "build", desc := "()Lcom/example/tough_filter/toughfilter/CodePointTable;" } : Jvm.MethodName) ({ cls := "com/example/tough_filter/toughfilter/CodePointTable$Builder", name := "build", desc := "()Lcom/example/tough_filter/toughfilter/CodePointTable;" } : Jvm.MethodName)).before a0 Z = true := hw _ (List.mem_of_getElem? (i := 36) rfl)
theorem tw_37 {Z : State} {a0 : Array Value} (hw : ∀ d ∈ tables_1, d.before a0 Z = true) : (Jvm.Cond.code ({ cls := "com/example/tough_filter/toughfilter/CodePointTable$Builder", name := "build", desc := "()Lcom/example/tough_filter/toughfilter/CodePointTable;" } : Jvm.MethodName) prog_3_method_3_code (1 : Nat) (Option.some (Jvm.ClassFile.FieldType.object "com/example/tough_filter/toughfilter/CodePointTable"))).before a0 Z = true := hw _ (List.mem_of_getElem? (i := 37) rfl)
theorem tw_38 {Z : State} {a0 : Array Value} (hw : ∀ d ∈ tables_1, d.before a0 Z = true) : (Jvm.Cond.classLink "com/example/tough_filter/toughfilter/CodePointTable$Builder" (1 : Nat) "com/example/tough_filter/toughfilter/CodePointTable").before a0 Z = true := hw _ (List.mem_of_getElem? (i := 38) rfl)
theorem tw_39 {Z : State} {a0 : Array Value} (hw : ∀ d ∈ tables_1, d.before a0 Z = true) : (Jvm.Cond.instantiable "com/example/tough_filter/toughfilter/CodePointTable" (1 : Nat)).before a0 Z = true := hw _ (List.mem_of_getElem? (i := 39) rfl)
theorem tw_40 {Z : State} {a0 : Array Value} (hw : ∀ d ∈ tables_1, d.before a0 Z = true) : (Jvm.Cond.methodLinkNest "com/example/tough_filter/toughfilter/CodePointTable$Builder" (26 : Nat) ({ cls := "com/example/tough_filter/toughfilter/CodePointTable", name := "<init>", desc := "([[I)V" } : Jvm.MethodName) "com/example/tough_filter/toughfilter/CodePointTable").before a0 Z = true := hw _ (List.mem_of_getElem? (i := 40) rfl)
theorem tw_41 {Z : State} {a0 : Array Value} (hw : ∀ d ∈ tables_1, d.before a0 Z = true) : (Jvm.Cond.instanceMethod ({ cls := "com/example/tough_filter/toughfilter/CodePointTable", name := "<init>", desc := "([[I)V" } : Jvm.MethodName)).before a0 Z = true := hw _ (List.mem_of_getElem? (i := 41) rfl)
theorem tw_42 {Z : State} {a0 : Array Value} (hw : ∀ d ∈ tables_1, d.before a0 Z = true) : (Jvm.Cond.code ({ cls := "com/example/tough_filter/toughfilter/CodePointTable", name := "<init>", desc := "([[I)V" } : Jvm.MethodName) prog_2_method_1_code (2 : Nat) (Option.none : Option Jvm.ClassFile.FieldType)).before a0 Z = true := hw _ (List.mem_of_getElem? (i := 42) rfl)
theorem tw_43 {Z : State} {a0 : Array Value} (hw : ∀ d ∈ tables_1, d.before a0 Z = true) : (Jvm.Cond.methodLink "com/example/tough_filter/toughfilter/CodePointTable" (5 : Nat) ({ cls := "java/lang/Object", name := "<init>", desc := "()V" } : Jvm.MethodName)).before a0 Z = true := hw _ (List.mem_of_getElem? (i := 43) rfl)
theorem tw_44 {Z : State} {a0 : Array Value} (hw : ∀ d ∈ tables_1, d.before a0 Z = true) : (Jvm.Cond.fieldLink "com/example/tough_filter/toughfilter/CodePointTable" (11 : Nat) "com/example/tough_filter/toughfilter/CodePointTable" "pages" "[[I").before a0 Z = true := hw _ (List.mem_of_getElem? (i := 44) rfl)
theorem tw_45 {Z : State} {a0 : Array Value} (hw : ∀ d ∈ tables_1, d.before a0 Z = true) : (Jvm.Cond.laysFinal "com/example/tough_filter/toughfilter/CodePointTable" "com/example/tough_filter/toughfilter/CodePointTable" "pages" "[[I").before a0 Z = true := hw _ (List.mem_of_getElem? (i := 45) rfl)
theorem tw_46 {Z : State} {a0 : Array Value} (hw : ∀ d ∈ tables_1, d.before a0 Z = true) : (Jvm.Cond.methodLink "com/example/tough_filter/toughfilter/CodePointTableSetPinLaw" (26 : Nat) ({ cls := "com/example/tough_filter/toughfilter/CodePointTable", name := "get", desc := "(I)I" } : Jvm.MethodName)).before a0 Z = true := hw _ (List.mem_of_getElem? (i := 46) rfl)
theorem tw_47 {Z : State} {a0 : Array Value} (hw : ∀ d ∈ tables_1, d.before a0 Z = true) : (Jvm.Cond.declares ({ cls := "com/example/tough_filter/toughfilter/CodePointTable", name := "get", desc := "(I)I" } : Jvm.MethodName)).before a0 Z = true := hw _ (List.mem_of_getElem? (i := 47) rfl)
theorem tw_48 {Z : State} {a0 : Array Value} (hw : ∀ d ∈ tables_1, d.before a0 Z = true) : (Jvm.Cond.instanceMethod ({ cls := "com/example/tough_filter/toughfilter/CodePointTable", name := "get", desc := "(I)I" } : Jvm.MethodName)).before a0 Z = true := hw _ (List.mem_of_getElem? (i := 48) rfl)
theorem tw_49 {Z : State} {a0 : Array Value} (hw : ∀ d ∈ tables_1, d.before a0 Z = true) : (Jvm.Cond.selects "com/example/tough_filter/toughfilter/CodePointTable" ({ cls := "com/example/tough_filter/toughfilter/CodePointTable", name := "get", desc := "(I)I" } : Jvm.MethodName) ({ cls := "com/example/tough_filter/toughfilter/CodePointTable", name := "get", desc := "(I)I" } : Jvm.MethodName)).before a0 Z = true := hw _ (List.mem_of_getElem? (i := 49) rfl)
theorem tw_50 {Z : State} {a0 : Array Value} (hw : ∀ d ∈ tables_1, d.before a0 Z = true) : (Jvm.Cond.code ({ cls := "com/example/tough_filter/toughfilter/CodePointTable", name := "get", desc := "(I)I" } : Jvm.MethodName) prog_2_method_2_code (2 : Nat) (Option.some Jvm.ClassFile.FieldType.int)).before a0 Z = true := hw _ (List.mem_of_getElem? (i := 50) rfl)
theorem tw_51 {Z : State} {a0 : Array Value} (hw : ∀ d ∈ tables_1, d.before a0 Z = true) : (Jvm.Cond.methodLink "com/example/tough_filter/toughfilter/CodePointTableSetPinLaw" (31 : Nat) ({ cls := "com/example/tough_filter/toughfilter/CodePointTableSetPinLaw", name := "expected", desc := "(IIIII)I" } : Jvm.MethodName)).before a0 Z = true := hw _ (List.mem_of_getElem? (i := 51) rfl)
theorem tw_52 {Z : State} {a0 : Array Value} (hw : ∀ d ∈ tables_1, d.before a0 Z = true) : (Jvm.Cond.static ({ cls := "com/example/tough_filter/toughfilter/CodePointTableSetPinLaw", name := "expected", desc := "(IIIII)I" } : Jvm.MethodName)).before a0 Z = true := hw _ (List.mem_of_getElem? (i := 52) rfl)
theorem tw_53 {Z : State} {a0 : Array Value} (hw : ∀ d ∈ tables_1, d.before a0 Z = true) : (Jvm.Cond.code ({ cls := "com/example/tough_filter/toughfilter/CodePointTableSetPinLaw", name := "expected", desc := "(IIIII)I" } : Jvm.MethodName) method_3_code (5 : Nat) (Option.some Jvm.ClassFile.FieldType.int)).before a0 Z = true := hw _ (List.mem_of_getElem? (i := 53) rfl)
section OwnStart
variable {args : Array Value} {first s : State} {o : Option Outcome} {idx : List Nat} {t : Term}
theorem own_eqI {k : Int32} (h : (Jvm.Cond.eq t (Term.int k)).value args first o s idx = some true) : t.eval args first o idx s = some (.int k) := by
  cases ht : t.eval args first o idx s with
  | none => simp [Cond.value, ht] at h
  | some x => cases x <;> simp [Cond.value, ht, Term.eval] at h; subst h; rfl
theorem own_len {a : Addr} {cl : Cell} {ty : FieldType} {n : Int32} (ev : t.eval args s none [] s = some (.ref a)) (A : Arr s s.heap a cl ty) (h : (Jvm.Cond.eq (.length t) (Term.int n)).value args s none s [] = some true) : cl.slots.size < 2 ^ 31 ∧ cl.slots.size.toInt32 = n := by
  have h1 := own_eqI h
  have h2 : s.arrayAt? a = some cl := Arr.fin (Vm.Alike.refl _) A
  simp only [Term.eval, ev, Bind.bind, Option.bind, h2, Pure.pure] at h1
  split at h1
  · exact ⟨by assumption, by simpa using h1⟩
  · simp at h1
theorem own_all {q : Jvm.Cond} {a : Addr} {cl : Cell} {ty : FieldType} (ev : t.eval args s none [] s = some (.ref a)) (A : Arr s s.heap a cl ty) (h : (Jvm.Cond.all t q).value args s none s [] = some true) : ∀ i, i < cl.slots.size → q.value args s none s [i] = some true := by
  intro j hj
  have hc : s.arrayAt? a = some cl := Arr.fin (Vm.Alike.refl _) A
  simp only [Cond.value, ev, hc] at h
  exact Jvm.Example.SumArray.foldl_all _ _ (fun _ => rfl) (fun x _ hx => by
    cases x with
    | none => rfl
    | some b => cases b <;> first | rfl | exact absurd rfl hx) cl.slots.size h j hj
end OwnStart

section OwnAuto
theorem own_rw {x : Int32} {a b c d : Int} (h : a ≤ x.toInt ∧ x.toInt ≤ b) (h1 : c ≤ a) (h2 : b ≤ d) : c ≤ x.toInt ∧ x.toInt ≤ d := by omega
theorem own_rand {x m z : Int32} {k : Int} (h : (x &&& m) = z) (hm : 0 ≤ m.toInt ∧ m.toInt = k) : 0 ≤ z.toInt ∧ z.toInt ≤ k := by subst h; have := c_and x m hm.1; omega
theorem own_rushr {x q z : Int32} {k : Nat} {B : Int} (h : ((x.toUInt32 >>> (q &&& 31).toUInt32).toInt32) = z) (hk : q.toBitVec.toNat % 32 = k) (h0 : 0 < k) (hB : (4294967295 : Int) / ((2 ^ k : Nat) : Int) ≤ B) : 0 ≤ z.toInt ∧ z.toInt ≤ B := by
  subst h
  rw [c_iushr x q k hk h0]
  have h1 : 0 ≤ x.toInt % 4294967296 := Int.emod_nonneg _ (by decide)
  have h2 : x.toInt % 4294967296 ≤ 4294967295 := by have := Int.emod_lt_of_pos x.toInt (by decide : (0 : Int) < 4294967296); omega
  have hp : (0 : Int) < ((2 ^ k : Nat) : Int) := Int.ofNat_lt.mpr (Nat.two_pow_pos k)
  exact ⟨Int.ediv_nonneg h1 (Int.le_of_lt hp), Int.le_trans (Int.ediv_le_ediv hp h2) hB⟩
theorem own_rrem {x y z : Int32} {d a b B : Int} (h : (x % y) = z) (hy : y.toInt = d) (hd : 0 < d) (hr : a ≤ x.toInt ∧ x.toInt ≤ b) (ha : 0 ≤ a) (hB : d = B + 1) : 0 ≤ z.toInt ∧ z.toInt ≤ B := by
  subst h
  have e := (c_irem x y d hy).1 (by omega)
  rw [e]
  have h1 := Int.emod_nonneg x.toInt (by omega : d ≠ 0)
  have h2 := Int.emod_lt_of_pos x.toInt hd
  omega
theorem own_and_id {x m : Int32} {a b : Int} {k : Nat} (hr : a ≤ x.toInt ∧ x.toInt ≤ b) (hk : k ≤ 31) (hm : m.toBitVec.toNat = 2 ^ k - 1) (ha : 0 ≤ a) (hb : b < ((2 ^ k : Nat) : Int)) : (x &&& m) = x := by
  apply Int32.toInt_inj.mp
  rw [c_mask x m k hk hm]
  exact Int.emod_eq_of_lt (by omega) (by omega)
end OwnAuto

def Glob (Z : State) (ga1 : Addr) (gkp : ClassId) : Prop := Sta Z Z.heap "com/example/tough_filter/toughfilter/CodePointTable" "EMPTY_PAGE" "[I" (.ref ga1) ∧ Exa Z Z.heap ga1 "[I" ∧ Arv Z Z.heap ga1 gkp .int (256 : Int32) (List.replicate 256 (.int 0)) (.int 0)
theorem own_ofN {i : Nat} (h : i < 2 ^ 31) : (Int32.ofNat i).toInt = i := Int32.toInt_ofNat_of_lt h
theorem own_ofN0 {i : Nat} (h : i < 2 ^ 31) : ¬ Int32.ofNat i < 0 := by rw [Int32.lt_iff_toInt_lt, own_ofN h]; show ¬ (i : Int) < 0; omega
theorem own_ofNc {i : Nat} (h : i < 2 ^ 31) : (Int32.ofNat i).toNatClampNeg = i := by
  have q := nat_of (own_ofN0 h); rw [own_ofN h] at q; omega
theorem own_ofNlt {i : Nat} {z : Int32} (h : i < 2 ^ 31) (q : (i : Int) < z.toInt) : Int32.ofNat i < z := by rw [Int32.lt_iff_toInt_lt, own_ofN h]; exact q
theorem own_ofNge {i : Nat} {z : Int32} (h : i < 2 ^ 31) (q : z.toInt ≤ (i : Int)) : ¬ Int32.ofNat i < z := by rw [Int32.lt_iff_toInt_lt, own_ofN h]; omega
theorem own_ofNs (i : Nat) : Int32.ofNat i + Int32.ofInt 1 = Int32.ofNat (i + 1) := by rw [Int32.ofNat_add]; rfl
theorem own_ltN {z : Int32} {n : Nat} (h : z.toInt = n) : n < 2 ^ 31 := by have := rng32 z; omega
theorem own_setR (us : List Value) (k : Nat) (v d : Value) : (us ++ List.replicate (k + 1) d).set us.length v = (us ++ [v]) ++ List.replicate k d := by
  rw [List.set_append_right _ _ (Nat.le_refl _), Nat.sub_self, List.replicate_succ, List.set_cons_zero, List.append_assoc]; rfl
theorem Go.anewarrayA {p : Program} {l : Launch} {e : Env} {R : Room} {s : State} {m : MethodId} {args : Array Value} {below : List Frame} {meth : Method} {c : Code} {T : State} {locs : List Loc} {cells slots : Nat} {Z : State} {a0 : Array Value} {h : Heap} {F0 : State → Outcome → Prop} (X : Stand p l e R s m args below meth c T locs cells slots) (hx : p.tables.exec = Jvm.exec) (hZ : Z.Warmed39 s.vm) {own C : String} {ty : FieldType} {index : Nat} (hown : s.vm.findClass own = some m.cls) (hC : (FieldType.array ty).toString = C) (wl : (Jvm.Cond.classLink own index C).before a0 Z = true) (wa : (Jvm.Cond.arrayOver (.array ty)).before a0 Z = true) (eT : T.heap = h) {n : Int32} (hn : ¬ n < 0) {cap : Nat} (hcap : n.toNatClampNeg ≤ cap) (hb : cap * 8 ≤ 536870912) (hc : cells + 1 ≤ R.cells) (hl : slots + cap ≤ R.slots) {ad : String} (had : "[" ++ C = ad) (N : Nat) {pc : Nat} (pc' : Nat) {Ls : Array Slot} {rest : List Value} (hp : pc' = pc + 3) (hd : decode c.code pc = .ok (.anewarray index, 3))
    (k : ∀ T' h' a kk, T'.heap = h' → Ext h h' → a = h.size → Arv Z h' a kk (.array ty) n (List.replicate N .null) .null → Exa Z h' a ad → OvrA Z kk ty C → Stand p l e R s m args below meth c T' locs (cells + 1) (slots + cap) → Go p e below F0 (T'.setTop (mkF m pc' Ls (.ref a :: rest)))) : Go p e below F0 (T.setTop (mkF m pc Ls (.int n :: rest))) := by
  subst hp
  obtain ⟨T', h', cA, X', e', E, A, Ex, O, st⟩ := newRA X hx hZ hown hC wl wa eT (g := mkF m pc Ls (.int n :: rest)) rfl hd rfl hn hcap hb hc hl had
  exact Go.step st (k T' h' h.size cA e' E rfl ((Arv.new A hn).pad (pad_rep [] _ N)) Ex O X')
theorem Sto.ofArvA {Z : State} {h : Heap} {a y : Addr} {kk : ClassId} {ty t0 : FieldType} {z : Int32} {vs : List Value} {dv : Value} {C : String} (V : Arv Z h a kk t0 z vs dv) (O : OvrA Z kk ty C) (I : Ins Z h y C true) : Sto Z h a (.ref y) := by
  obtain ⟨cl, A, q1, -⟩ := V
  exact Sto.ofVA A q1 O I
theorem own_shr8 {c z : Int32} (h : ((c.toUInt32 >>> ((8 : Int32) &&& 31).toUInt32).toInt32) = z) (r : 0 ≤ c.toInt ∧ c.toInt ≤ 1114111) : z.toInt = c.toInt / 256 := by
  subst h
  rw [c_iushr c 8 8 (by decide) (by decide)]
  have e2 : ((2 ^ 8 : Nat) : Int) = 256 := by decide
  rw [e2]; omega
theorem own_rpg {c z : Int32} (h : ((c.toUInt32 >>> ((8 : Int32) &&& 31).toUInt32).toInt32) = z) (r : 0 ≤ c.toInt ∧ c.toInt ≤ 1114111) : 0 ≤ z.toInt ∧ z.toInt ≤ 4351 := by
  have e := own_shr8 h r; omega
theorem own_low {c z : Int32} (h : (c &&& (255 : Int32)) = z) : z.toInt = c.toInt % 256 := by
  subst h
  rw [c_mask c (255 : Int32) 8 (by decide) (by decide)]; rfl
theorem own_cp_eq {c d i j i' j' : Int32} (h1 : ((c.toUInt32 >>> ((8 : Int32) &&& 31).toUInt32).toInt32) = i) (h2 : (c &&& (255 : Int32)) = j) (h3 : ((d.toUInt32 >>> ((8 : Int32) &&& 31).toUInt32).toInt32) = i') (h4 : (d &&& (255 : Int32)) = j') (rc : 0 ≤ c.toInt ∧ c.toInt ≤ 1114111) (rd : 0 ≤ d.toInt ∧ d.toInt ≤ 1114111) (ei : i = i') (ej : j = j') : c = d := by
  have a1 := own_shr8 h1 rc
  have a2 := own_low h2
  have a3 := own_shr8 h3 rd
  have a4 := own_low h4
  subst ei ej
  exact Int32.toInt_inj.mp (by omega)
theorem own_hi {c z : Int32} (h : (c &&& (-256 : Int32)) = z) (r : 0 ≤ c.toInt ∧ c.toInt ≤ 1114111) : z.toInt = c.toInt - c.toInt % 256 := by
  subst h
  have e : (c &&& (-256 : Int32)) + (c &&& (255 : Int32)) = c := by
    apply Int32.toBitVec_inj.mp
    show (c.toBitVec &&& 0xFFFFFF00#32) + (c.toBitVec &&& 0x000000FF#32) = c.toBitVec
    rw [BitVec.add_eq_or_of_and_eq_zero]
    · rw [← BitVec.and_or_distrib_left]
      show c.toBitVec &&& 0xFFFFFFFF#32 = c.toBitVec
      exact BitVec.and_allOnes
    · rw [BitVec.and_assoc, ← BitVec.and_assoc (0xFFFFFF00#32), BitVec.and_comm (0xFFFFFF00#32) c.toBitVec, BitVec.and_assoc]
      show c.toBitVec &&& (c.toBitVec &&& 0#32) = 0#32
      rw [BitVec.and_zero, BitVec.and_zero]
  have e1 := c_iadd (c &&& (-256 : Int32)) (c &&& (255 : Int32))
  rw [e] at e1
  have e2 := own_low (c := c) rfl
  have r1 := rng32 (c &&& (-256 : Int32))
  omega
theorem own_rpage {c z : Int32} (h : (c &&& (-256 : Int32)) = z) (r : 0 ≤ c.toInt ∧ c.toInt ≤ 1114111) : 0 ≤ z.toInt ∧ z.toInt ≤ 1113856 := by
  have e := own_hi h r; omega
theorem own_rpor {c z1 z2 z3 : Int32} (h : (z1 ||| z2) = z3) (h1 : (c &&& (-256 : Int32)) = z1) (rc : 0 ≤ c.toInt ∧ c.toInt ≤ 1114111) (r2 : 0 ≤ z2.toInt ∧ z2.toInt ≤ 255) : 0 ≤ z3.toInt ∧ z3.toInt ≤ 1114111 := by
  have e0 : (z2 &&& (255 : Int32)) = z2 := own_and_id r2 (k := 8) (by decide) (by decide) (by decide) (by decide)
  have e : z1 + z2 = z3 := by
    rw [← h, ← h1, ← e0]
    apply Int32.toBitVec_inj.mp
    show (c.toBitVec &&& 0xFFFFFF00#32) + (z2.toBitVec &&& 0x000000FF#32) = (c.toBitVec &&& 0xFFFFFF00#32) ||| (z2.toBitVec &&& 0x000000FF#32)
    rw [BitVec.add_eq_or_of_and_eq_zero]
    rw [BitVec.and_assoc, ← BitVec.and_assoc (0xFFFFFF00#32), BitVec.and_comm (0xFFFFFF00#32) z2.toBitVec, BitVec.and_assoc]
    show c.toBitVec &&& (z2.toBitVec &&& 0#32) = 0#32
    rw [BitVec.and_zero, BitVec.and_zero]
  have a1 := own_hi h1 rc
  have a2 := c_iadd z1 z2
  rw [e] at a2
  have a3 := rng32 z3
  omega
theorem own_inI {z : Int32} {N : Int32} {n : Int} (r : 0 ≤ z.toInt ∧ z.toInt ≤ n) (h : n < N.toInt) : ¬ z < 0 ∧ z < N := by
  rw [Int32.lt_iff_toInt_lt, Int32.lt_iff_toInt_lt]
  exact ⟨by show ¬ z.toInt < 0; omega, by omega⟩
theorem own_clamp {z : Int32} {n : Int} (r : 0 ≤ z.toInt ∧ z.toInt ≤ n) : (z.toNatClampNeg : Int) = z.toInt := (nat_of (by rw [Int32.lt_iff_toInt_lt]; show ¬ z.toInt < 0; omega)).symm
theorem own_clampne {z y : Int32} {n : Int} (r : 0 ≤ z.toInt ∧ z.toInt ≤ n) (q : 0 ≤ y.toInt ∧ y.toInt ≤ n) (h : ¬ z = y) : ¬ z.toNatClampNeg = y.toNatClampNeg := fun e => h (Int32.toInt_inj.mp (by have a := own_clamp r; have b := own_clamp q; omega))
theorem own_getSet {l : List Value} {i : Nat} {v d : Value} (h : i < l.length) : (l.set i v).getD i d = v := by simp [List.getD_eq_getElem?_getD, h]
theorem own_getSetN {l : List Value} {i j : Nat} {v d : Value} (h : ¬ i = j) : (l.set i v).getD j d = l.getD j d := by simp [List.getD_eq_getElem?_getD, List.getElem?_set_ne h]
theorem own_getRep {n i : Nat} {v d : Value} (h : i < n) : (List.replicate n v).getD i d = v := by simp [List.getD_eq_getElem?_getD, h]
theorem own_hasRep {c : Cell} {v : Value} : ∀ (n off : Nat), (∀ i, i < n → c.slots[off + i]? = some v) → HasL c off (List.replicate n v)
  | 0, _, _ => trivial
  | n + 1, off, h => ⟨h 0 (Nat.succ_pos n), own_hasRep n (off + 1) (fun i hi => by have := h (i + 1) (by omega); rw [← this]; congr 1; omega)⟩

theorem own_size {n : Nat} {k : Int32} (h : n < 2 ^ 31) (e : n.toInt32 = k) : (n : Int) = k.toInt := by
  subst e
  rw [Int32.toInt_ofNat_of_lt h] <;> rfl
theorem own_zero {args : Array Value} {s : State} {t : Term} {a : Addr} {cl : Cell} (ev : ∀ idx, t.eval args s none idx s = some (.ref a)) (A : Arr s s.heap a cl .int) (hz : cl.slots.size = 256) (h : ∀ i, i < cl.slots.size → (Jvm.Cond.eq (.elem t (.index 0)) (.int 0)).value args s none s [i] = some true) : ∀ i : Nat, i < 256 → cl.slots[0 + i]? = some (.int 0) := by
  intro i hi
  have q := h i (by omega)
  have e := eqv_i (Term.int_eval 0) q
  have hix : (Term.index 0).eval args s none [i] s = some (.int i.toInt32) := rfl
  have hel := (elem_in e (ev [i]) hix A.1).2
  have hi2 : i.toInt32.toNatClampNeg = i := own_ofNc (i := i) (by omega)
  rw [hi2] at hel
  rw [Nat.zero_add]; exact hel
theorem own_cp_ne1 {c d i i' : Int32} (h1 : ((c.toUInt32 >>> ((8 : Int32) &&& 31).toUInt32).toInt32) = i) (h3 : ((d.toUInt32 >>> ((8 : Int32) &&& 31).toUInt32).toInt32) = i') (hn : ¬ i = i') : ¬ c = d := fun q => hn (by rw [← h1, ← h3, q])
theorem own_cp_ne2 {c d j j' : Int32} (h2 : (c &&& (255 : Int32)) = j) (h4 : (d &&& (255 : Int32)) = j') (hn : ¬ j = j') : ¬ c = d := fun q => hn (by rw [← h2, ← h4, q])
theorem ef_5_RII (m : MethodId) (x0 : Addr) (x1 : Int32) (x2 : Int32) : entryFrame m #[(.ref x0), (.int x1), (.int x2)] 4 = mkF m 0 #[.val (.ref x0), .val (.int x1), .val (.int x2), .unset] [] := by first | (simp [entryFrame, mkF, argsToLocals, Value.category]; done) | rfl
theorem pn_c0 : plainName "com/example/tough_filter/toughfilter/CodePointTable$Builder" = true := by first | (simp [plainName, overriddenIn]; done) | decide +kernel
theorem d5_0 : decode prog_3_method_2_code 0 = .ok (.iload_n 1, 1) := by decide +kernel
theorem d5_1 : decode prog_3_method_2_code 1 = .ok (.bipush 8, 2) := by decide +kernel
theorem d5_3 : decode prog_3_method_2_code 3 = .ok (.iushr, 1) := by decide +kernel
theorem d5_4 : decode prog_3_method_2_code 4 = .ok (.istore_n 3, 1) := by decide +kernel
theorem d5_5 : decode prog_3_method_2_code 5 = .ok (.aload_n 0, 1) := by decide +kernel
theorem d5_6 : decode prog_3_method_2_code 6 = .ok (.getfield 11, 3) := by decide +kernel
theorem d5_9 : decode prog_3_method_2_code 9 = .ok (.iload_n 3, 1) := by decide +kernel
theorem d5_10 : decode prog_3_method_2_code 10 = .ok (.aaload, 1) := by decide +kernel
theorem d5_11 : decode prog_3_method_2_code 11 = .ok (.getstatic 17, 3) := by decide +kernel
theorem d5_14 : decode prog_3_method_2_code 14 = .ok (.if_acmp .ne 14, 3) := by decide +kernel
theorem d5_17 : decode prog_3_method_2_code 17 = .ok (.aload_n 0, 1) := by decide +kernel
theorem d5_18 : decode prog_3_method_2_code 18 = .ok (.getfield 11, 3) := by decide +kernel
theorem d5_21 : decode prog_3_method_2_code 21 = .ok (.iload_n 3, 1) := by decide +kernel
theorem d5_22 : decode prog_3_method_2_code 22 = .ok (.sipush 256, 3) := by decide +kernel
theorem d5_25 : decode prog_3_method_2_code 25 = .ok (.newarray .int, 2) := by decide +kernel
theorem d5_27 : decode prog_3_method_2_code 27 = .ok (.aastore, 1) := by decide +kernel
theorem d5_28 : decode prog_3_method_2_code 28 = .ok (.aload_n 0, 1) := by decide +kernel
theorem d5_29 : decode prog_3_method_2_code 29 = .ok (.getfield 11, 3) := by decide +kernel
theorem d5_32 : decode prog_3_method_2_code 32 = .ok (.iload_n 3, 1) := by decide +kernel
theorem d5_33 : decode prog_3_method_2_code 33 = .ok (.aaload, 1) := by decide +kernel
theorem d5_34 : decode prog_3_method_2_code 34 = .ok (.iload_n 1, 1) := by decide +kernel
theorem d5_35 : decode prog_3_method_2_code 35 = .ok (.sipush 255, 3) := by decide +kernel
theorem d5_38 : decode prog_3_method_2_code 38 = .ok (.iand, 1) := by decide +kernel
theorem d5_39 : decode prog_3_method_2_code 39 = .ok (.iload_n 2, 1) := by decide +kernel
theorem d5_40 : decode prog_3_method_2_code 40 = .ok (.iastore, 1) := by decide +kernel
theorem d5_41 : decode prog_3_method_2_code 41 = .ok (.aload_n 0, 1) := by decide +kernel
theorem d5_42 : decode prog_3_method_2_code 42 = .ok (.areturn, 1) := by decide +kernel
set_option maxRecDepth 65536 in
set_option maxHeartbeats 4000000 in
theorem st_fresh (l : Launch) (Z : State) (a0 : Array Value) (hw : ∀ d ∈ tables_1, d.before a0 Z = true) (x0 x1 ga : Addr) (k1 : ClassId) (cp vv zi zj : Int32) (ls : List Value) (h0 : Heap) (n0 : Nat) (Z0 : n0 ≤ h0.size) (PF : Fld Z h0 x0 "com/example/tough_filter/toughfilter/CodePointTable$Builder" "pages" "[[I" (.ref x1)) (PA : Arv Z h0 x1 k1 (.array .int) (4352 : Int32) ls .null) (PS : Sta Z h0 "com/example/tough_filter/toughfilter/CodePointTable" "EMPTY_PAGE" "[I" (.ref ga)) (OV : OvrA Z k1 .int "[I") (hln : ls.length = 4352) (hI : ((cp.toUInt32 >>> ((8 : Int32) &&& 31).toUInt32).toInt32) = zi) (hJ : (cp &&& (255 : Int32)) = zj) (rI : 0 ≤ zi.toInt ∧ zi.toInt ≤ 4351) (rJ : 0 ≤ zj.toInt ∧ zj.toInt ≤ 255) (hg : ls.getD zi.toNatClampNeg .null = .ref ga) (gx : n0 ≤ x1) (nx : x0 ≠ x1) :
    Ctr l Z (⟨"com/example/tough_filter/toughfilter/CodePointTable$Builder", "set", "(II)Lcom/example/tough_filter/toughfilter/CodePointTable$Builder;"⟩ : MethodName) prog_3_method_2_code 4 (some (.object "com/example/tough_filter/toughfilter/CodePointTable$Builder")) ({ frames := 0, cells := 1, slots := 256, locals := 0 } : Room) #[(.ref x0), (.int cp), (.int vv)] h0 (fun v h L => v = some (.ref x0) ∧ Fr n0 L ∧ Keep h0 h [x1] ∧ ∃ (q : Addr) (k2 : ClassId), h0.size ≤ q ∧ Arv Z h x1 k1 (.array .int) (4352 : Int32) (ls.set zi.toNatClampNeg (.ref q)) .null ∧ Arv Z h q k2 .int (256 : Int32) ((List.replicate 256 (.int 0)).set zj.toNatClampNeg (.int vv)) (.int 0)) := by
  refine Ctr.of (plainFor_of_name pn_c0) ?_
  intro p e s m below meth c T0 hx hZ hby hml hown hnm hret hlk e0 es X0
  refine Go.cast (ef_5_RII m x0 cp vv) ?_
  refine Go.iloadN X0 hx (pc' := 1) rfl (hb hby d5_0) rfl ?_
  refine Go.bipush X0 hx (pc' := 3) rfl (hb hby d5_1) (v := (8 : Int32)) (by decide) ?_
  refine Go.iushr X0 hx (pc' := 4) rfl (hb hby d5_3) ?_
  rw [hI]
  refine Go.istoreN X0 hx (pc' := 5) rfl (hb hby d5_4) (Ls' := #[.val (.ref x0), .val (.int cp), .val (.int vv), .val (.int zi)]) rfl ?_
  refine Go.aloadN X0 hx (pc' := 6) rfl (hb hby d5_5) rfl rfl ?_
  refine Go.getF X0 hx hZ hown (host := "") (Or.inl (tw_17 hw)) Via.refl e0 PF (pc' := 9) rfl (hb hby d5_6) ?_
  intro T1 e1 X1
  refine Go.iloadN X1 hx (pc' := 10) rfl (hb hby d5_9) rfl ?_
  refine Go.aaload X1 hx hZ e1 rfl PA (v := (.ref ga)) (own_inI rI (by decide)) hg (pc' := 11) rfl (hb hby d5_10) ?_
  refine Go.getS X1 hx hZ hown (Or.inr (tw_19 hw)) Via.refl e1 PS (pc' := 14) rfl (hb hby d5_11) ?_
  intro T2 e2 X2
  refine Go.acmp X2 hx (pc' := 17) (same := true) (hb hby d5_14) rfl rfl (decide_eq_true rfl) (by decide) (by decide) ?_
  refine Go.aloadN X2 hx (pc' := 18) rfl (hb hby d5_17) rfl rfl ?_
  refine Go.getF X2 hx hZ hown (host := "") (Or.inl (tw_17 hw)) Via.refl e2 PF (pc' := 21) rfl (hb hby d5_18) ?_
  intro T3 e3 X3
  refine Go.iloadN X3 hx (pc' := 22) rfl (hb hby d5_21) rfl ?_
  refine Go.sipush X3 hx (pc' := 25) rfl (hb hby d5_22) (v := (256 : Int32)) (by decide) ?_
  refine Go.newarray X3 hx hZ (ty := .int) rfl (tw_32 hw) e3 (by decide) (cap := 256) (by decide) (by decide) (by decide) (by decide) (ad := "[I") (by decide) 256 (pc' := 27) rfl (hb hby d5_25) ?_
  intro T4 h4 b4 k4 e4 E4 g4 V4 A4 X4
  have V4' : Arv Z h4 b4 k4 .int (256 : Int32) (List.replicate 256 (.int 0)) (.int 0) := V4
  have fk5 := (PA.ext E4)
  refine Go.aastore X4 hx hZ e4 fk5 rfl (Sto.ofArvA fk5 OV (Ins.self A4)) rfl (own_inI rI (by decide)) zi.toNatClampNeg rfl (by rw [hln]; have := own_clamp rI; omega) (pc' := 28) rfl (hb hby d5_27) ?_
  intro T6 h6 e6 W6 V6 X6
  have N6 := Fr.snoc X6 (Fr.nil n0) gx
  refine Go.aloadN X6 hx (pc' := 29) rfl (hb hby d5_28) rfl rfl ?_
  have fk7 : Fld Z h6 x0 "com/example/tough_filter/toughfilter/CodePointTable$Builder" "pages" "[[I" (.ref x1) := ((PF.ext E4).other W6 (Or.inl nx))
  refine Go.getF X6 hx hZ hown (host := "") (Or.inl (tw_17 hw)) Via.refl e6 fk7 (pc' := 32) rfl (hb hby d5_29) ?_
  intro T8 e8 X8
  refine Go.iloadN X8 hx (pc' := 33) rfl (hb hby d5_32) rfl ?_
  refine Go.aaload X8 hx hZ e8 rfl V6 (v := (.ref b4)) (own_inI rI (by decide)) (own_getSet (by rw [hln]; have := own_clamp rI; omega)) (pc' := 34) rfl (hb hby d5_33) ?_
  refine Go.iloadN X8 hx (pc' := 35) rfl (hb hby d5_34) rfl ?_
  refine Go.sipush X8 hx (pc' := 38) rfl (hb hby d5_35) (v := (255 : Int32)) (by decide) ?_
  refine Go.iand X8 hx (pc' := 39) rfl (hb hby d5_38) ?_
  rw [hJ]
  refine Go.iloadN X8 hx (pc' := 40) rfl (hb hby d5_39) rfl ?_
  have ne9 : x1 ≠ b4 := Nat.ne_of_lt (Nat.lt_of_lt_of_le PA.lt (Nat.le_of_eq g4.symm))
  have fk10 := (V4'.other W6 (Ne.symm ne9))
  have sz12 : h0.size ≤ b4 := Nat.le_trans (Keep.refl h0 [x1]).1 (Nat.le_of_eq g4.symm)
  have ge11 : n0 ≤ b4 := Nat.le_trans Z0 sz12
  refine Go.iastore X8 hx hZ e8 fk10 (own_inI rJ (by decide)) zj.toNatClampNeg rfl (by rw [List.length_replicate]; have := own_clamp rJ; omega) (pc' := 41) rfl (hb hby d5_40) ?_
  intro T13 h13 e13 W13 V13 X13
  have N13 := Fr.snoc X13 N6 ge11
  refine Go.aloadN X13 hx (pc' := 42) rfl (hb hby d5_41) rfl rfl ?_
  refine Go.retR X13 hx hlk (t := (.object "com/example/tough_filter/toughfilter/CodePointTable$Builder")) hret rfl rfl (hb hby d5_42) (by decide) (by decide) ?_
  try rw [e13]
  have Kp14 : Keep h0 h4 [x1] := ((Keep.refl h0 [x1]).ext E4)
  have Kp15 : Keep h0 h6 [x1] := (Kp14.wr W6 (Or.inl (List.mem_of_getElem? (i := 0) rfl)))
  have Kp16 : Keep h0 h13 [x1] := (Kp15.wr W13 (Or.inr sz12))
  have fk17 := (V6.other W13 ne9)
  exact ⟨rfl, N13, Kp16, b4, k4, sz12, fk17, V13⟩
set_option maxRecDepth 65536 in
set_option maxHeartbeats 4000000 in
theorem st_there (l : Launch) (Z : State) (a0 : Array Value) (hw : ∀ d ∈ tables_1, d.before a0 Z = true) (x0 x1 ga : Addr) (k1 : ClassId) (cp vv zi zj : Int32) (ls : List Value) (x2 : Addr) (k2 : ClassId) (ms : List Value) (h0 : Heap) (n0 : Nat) (Z0 : n0 ≤ h0.size) (PF : Fld Z h0 x0 "com/example/tough_filter/toughfilter/CodePointTable$Builder" "pages" "[[I" (.ref x1)) (PA : Arv Z h0 x1 k1 (.array .int) (4352 : Int32) ls .null) (PS : Sta Z h0 "com/example/tough_filter/toughfilter/CodePointTable" "EMPTY_PAGE" "[I" (.ref ga)) (PM : Arv Z h0 x2 k2 .int (256 : Int32) ms (.int 0)) (hlm : ms.length = 256) (n2 : x2 ≠ ga) (n12 : x1 ≠ x2) (hI : ((cp.toUInt32 >>> ((8 : Int32) &&& 31).toUInt32).toInt32) = zi) (hJ : (cp &&& (255 : Int32)) = zj) (rI : 0 ≤ zi.toInt ∧ zi.toInt ≤ 4351) (rJ : 0 ≤ zj.toInt ∧ zj.toInt ≤ 255) (hg : ls.getD zi.toNatClampNeg .null = .ref x2) (gx : n0 ≤ x2) (nx : x0 ≠ x2) :
    Ctr l Z (⟨"com/example/tough_filter/toughfilter/CodePointTable$Builder", "set", "(II)Lcom/example/tough_filter/toughfilter/CodePointTable$Builder;"⟩ : MethodName) prog_3_method_2_code 4 (some (.object "com/example/tough_filter/toughfilter/CodePointTable$Builder")) ({ frames := 0, cells := 0, slots := 0, locals := 0 } : Room) #[(.ref x0), (.int cp), (.int vv)] h0 (fun v h L => v = some (.ref x0) ∧ Fr n0 L ∧ Keep h0 h [x2] ∧ Arv Z h x2 k2 .int (256 : Int32) (ms.set zj.toNatClampNeg (.int vv)) (.int 0)) := by
  refine Ctr.of (plainFor_of_name pn_c0) ?_
  intro p e s m below meth c T0 hx hZ hby hml hown hnm hret hlk e0 es X0
  refine Go.cast (ef_5_RII m x0 cp vv) ?_
  refine Go.iloadN X0 hx (pc' := 1) rfl (hb hby d5_0) rfl ?_
  refine Go.bipush X0 hx (pc' := 3) rfl (hb hby d5_1) (v := (8 : Int32)) (by decide) ?_
  refine Go.iushr X0 hx (pc' := 4) rfl (hb hby d5_3) ?_
  rw [hI]
  refine Go.istoreN X0 hx (pc' := 5) rfl (hb hby d5_4) (Ls' := #[.val (.ref x0), .val (.int cp), .val (.int vv), .val (.int zi)]) rfl ?_
  refine Go.aloadN X0 hx (pc' := 6) rfl (hb hby d5_5) rfl rfl ?_
  refine Go.getF X0 hx hZ hown (host := "") (Or.inl (tw_17 hw)) Via.refl e0 PF (pc' := 9) rfl (hb hby d5_6) ?_
  intro T1 e1 X1
  refine Go.iloadN X1 hx (pc' := 10) rfl (hb hby d5_9) rfl ?_
  refine Go.aaload X1 hx hZ e1 rfl PA (v := (.ref x2)) (own_inI rI (by decide)) hg (pc' := 11) rfl (hb hby d5_10) ?_
  refine Go.getS X1 hx hZ hown (Or.inr (tw_19 hw)) Via.refl e1 PS (pc' := 14) rfl (hb hby d5_11) ?_
  intro T2 e2 X2
  refine Go.acmp X2 hx (pc' := 28) (same := false) (hb hby d5_14) rfl rfl (decide_eq_false (fun q => n2 (Value.ref.inj q))) (by decide) (by decide) ?_
  refine Go.aloadN X2 hx (pc' := 29) rfl (hb hby d5_28) rfl rfl ?_
  refine Go.getF X2 hx hZ hown (host := "") (Or.inl (tw_17 hw)) Via.refl e2 PF (pc' := 32) rfl (hb hby d5_29) ?_
  intro T3 e3 X3
  refine Go.iloadN X3 hx (pc' := 33) rfl (hb hby d5_32) rfl ?_
  refine Go.aaload X3 hx hZ e3 rfl PA (v := (.ref x2)) (own_inI rI (by decide)) hg (pc' := 34) rfl (hb hby d5_33) ?_
  refine Go.iloadN X3 hx (pc' := 35) rfl (hb hby d5_34) rfl ?_
  refine Go.sipush X3 hx (pc' := 38) rfl (hb hby d5_35) (v := (255 : Int32)) (by decide) ?_
  refine Go.iand X3 hx (pc' := 39) rfl (hb hby d5_38) ?_
  rw [hJ]
  refine Go.iloadN X3 hx (pc' := 40) rfl (hb hby d5_39) rfl ?_
  refine Go.iastore X3 hx hZ e3 PM (own_inI rJ (by decide)) zj.toNatClampNeg rfl (by rw [hlm]; have := own_clamp rJ; omega) (pc' := 41) rfl (hb hby d5_40) ?_
  intro T4 h4 e4 W4 V4 X4
  have N4 := Fr.snoc X4 (Fr.nil n0) gx
  refine Go.aloadN X4 hx (pc' := 42) rfl (hb hby d5_41) rfl rfl ?_
  refine Go.retR X4 hx hlk (t := (.object "com/example/tough_filter/toughfilter/CodePointTable$Builder")) hret rfl rfl (hb hby d5_42) (by decide) (by decide) ?_
  try rw [e4]
  have Kp5 : Keep h0 h4 [x2] := ((Keep.refl h0 [x2]).wr W4 (Or.inl (List.mem_of_getElem? (i := 0) rfl)))
  exact ⟨rfl, N4, Kp5, V4⟩
theorem ef_8_RI (m : MethodId) (x0 : Addr) (x1 : Int32) : entryFrame m #[(.ref x0), (.int x1)] 2 = mkF m 0 #[.val (.ref x0), .val (.int x1)] [] := by first | (simp [entryFrame, mkF, argsToLocals, Value.category]; done) | rfl
theorem pn_c1 : plainName "com/example/tough_filter/toughfilter/CodePointTable" = true := by first | (simp [plainName, overriddenIn]; done) | decide +kernel
theorem d8_0 : decode prog_2_method_2_code 0 = .ok (.aload_n 0, 1) := by decide +kernel
theorem d8_1 : decode prog_2_method_2_code 1 = .ok (.getfield 11, 3) := by decide +kernel
theorem d8_4 : decode prog_2_method_2_code 4 = .ok (.iload_n 1, 1) := by decide +kernel
theorem d8_5 : decode prog_2_method_2_code 5 = .ok (.bipush 8, 2) := by decide +kernel
theorem d8_7 : decode prog_2_method_2_code 7 = .ok (.iushr, 1) := by decide +kernel
theorem d8_8 : decode prog_2_method_2_code 8 = .ok (.aaload, 1) := by decide +kernel
theorem d8_9 : decode prog_2_method_2_code 9 = .ok (.iload_n 1, 1) := by decide +kernel
theorem d8_10 : decode prog_2_method_2_code 10 = .ok (.sipush 255, 3) := by decide +kernel
theorem d8_13 : decode prog_2_method_2_code 13 = .ok (.iand, 1) := by decide +kernel
theorem d8_14 : decode prog_2_method_2_code 14 = .ok (.iaload, 1) := by decide +kernel
theorem d8_15 : decode prog_2_method_2_code 15 = .ok (.ireturn, 1) := by decide +kernel
set_option maxRecDepth 65536 in
set_option maxHeartbeats 4000000 in
theorem gt_there (l : Launch) (Z : State) (a0 : Array Value) (hw : ∀ d ∈ tables_1, d.before a0 Z = true) (x0 x1 x2 : Addr) (k1 k2 : ClassId) (cp zi zj rr : Int32) (ls ms : List Value) (h0 : Heap) (n0 : Nat) (Z0 : n0 ≤ h0.size) (PF : Fld Z h0 x0 "com/example/tough_filter/toughfilter/CodePointTable" "pages" "[[I" (.ref x1)) (PA : Arv Z h0 x1 k1 (.array .int) (4352 : Int32) ls .null) (PM : Arv Z h0 x2 k2 .int (256 : Int32) ms (.int 0)) (hI : ((cp.toUInt32 >>> ((8 : Int32) &&& 31).toUInt32).toInt32) = zi) (hJ : (cp &&& (255 : Int32)) = zj) (rI : 0 ≤ zi.toInt ∧ zi.toInt ≤ 4351) (rJ : 0 ≤ zj.toInt ∧ zj.toInt ≤ 255) (hg : ls.getD zi.toNatClampNeg .null = .ref x2) (hr : ms.getD zj.toNatClampNeg (.int 0) = .int rr) :
    Ctr l Z (⟨"com/example/tough_filter/toughfilter/CodePointTable", "get", "(I)I"⟩ : MethodName) prog_2_method_2_code 2 (some .int) ({ frames := 0, cells := 0, slots := 0, locals := 0 } : Room) #[(.ref x0), (.int cp)] h0 (fun v h L => v = some (.int rr) ∧ L = [] ∧ h = h0) := by
  refine Ctr.of (plainFor_of_name pn_c1) ?_
  intro p e s m below meth c T0 hx hZ hby hml hown hnm hret hlk e0 es X0
  refine Go.cast (ef_8_RI m x0 cp) ?_
  refine Go.aloadN X0 hx (pc' := 1) rfl (hb hby d8_0) rfl rfl ?_
  refine Go.getF X0 hx hZ hown (host := "") (Or.inl (tw_44 hw)) Via.refl e0 PF (pc' := 4) rfl (hb hby d8_1) ?_
  intro T1 e1 X1
  refine Go.iloadN X1 hx (pc' := 5) rfl (hb hby d8_4) rfl ?_
  refine Go.bipush X1 hx (pc' := 7) rfl (hb hby d8_5) (v := (8 : Int32)) (by decide) ?_
  refine Go.iushr X1 hx (pc' := 8) rfl (hb hby d8_7) ?_
  rw [hI]
  refine Go.aaload X1 hx hZ e1 rfl PA (v := (.ref x2)) (own_inI rI (by decide)) hg (pc' := 9) rfl (hb hby d8_8) ?_
  refine Go.iloadN X1 hx (pc' := 10) rfl (hb hby d8_9) rfl ?_
  refine Go.sipush X1 hx (pc' := 13) rfl (hb hby d8_10) (v := (255 : Int32)) (by decide) ?_
  refine Go.iand X1 hx (pc' := 14) rfl (hb hby d8_13) ?_
  rw [hJ]
  refine Go.iaload X1 hx hZ e1 PM (v := (.int rr)) (own_inI rJ (by decide)) hr (pc' := 15) rfl (hb hby d8_14) ?_
  refine Go.retI X1 hx hlk hret (hb hby d8_15) (by decide) (by decide) ?_
  try rw [e1]
  exact ⟨rfl, rfl, rfl⟩
theorem d1_0 : decode method_2_code 0 = .ok (.iload_n 0, 1) := by decide +kernel
theorem d1_1 : decode method_2_code 1 = .ok (.ldc 7, 2) := by decide +kernel
theorem d1_3 : decode method_2_code 3 = .ok (.iand, 1) := by decide +kernel
theorem d1_4 : decode method_2_code 4 = .ok (.ldc 8, 2) := by decide +kernel
theorem d1_6 : decode method_2_code 6 = .ok (.irem, 1) := by decide +kernel
theorem d1_7 : decode method_2_code 7 = .ok (.ireturn, 1) := by decide +kernel
theorem ef_1_I (m : MethodId) (x0 : Int32) : entryFrame m #[(.int x0)] 1 = mkF m 0 #[.val (.int x0)] [] := by first | (simp [entryFrame, mkF, argsToLocals, Value.category]; done) | rfl
theorem pn_c2 : plainName "com/example/tough_filter/toughfilter/CodePointTableSetPinLaw" = true := by first | (simp [plainName, overriddenIn]; done) | decide +kernel
-- com/example/tough_filter/toughfilter/CodePointTableSetPinLaw.cp
set_option maxRecDepth 65536 in
set_option maxHeartbeats 4000000 in
theorem au_1 (l : Launch) (Z : State) (a0 : Array Value) (hw : ∀ d ∈ tables_1, d.before a0 Z = true) (p0 : Int32) (h0 : Heap) (n0 : Nat) (Z0 : n0 ≤ h0.size) :
    Ctr l Z (⟨"com/example/tough_filter/toughfilter/CodePointTableSetPinLaw", "cp", "(I)I"⟩ : MethodName) method_2_code 1 (some .int) ({ frames := 0, cells := 0, slots := 0, locals := 0 } : Room) #[(.int p0)] h0 (fun v h L => ∃ (y0 : Int32) (y1 : Int32), (p0 &&& (2147483647 : Int32)) = y1 ∧ (y1 % (1114112 : Int32)) = y0 ∧ v = some (.int y0) ∧ Fr n0 L ∧ h = h0) := by
  refine Ctr.of (plainFor_of_name pn_c2) ?_
  intro p e s m below meth c T0 hx hZ hby hml hown hnm hret hlk e0 es X0
  refine Go.cast (ef_1_I m p0) ?_
  generalize hFF : EndN s _ _ _ = FF
  refine Go.iloadN X0 hx (pc' := 1) rfl (hb hby d1_0) rfl ?_
  refine Go.ldcI X0 hx hZ hown (tw_4 hw) (pc' := 3) rfl (hb hby d1_1) ?_
  refine Go.iand X0 hx (pc' := 4) rfl (hb hby d1_3) ?_
  generalize hz1 : (p0 &&& (2147483647 : Int32)) = z1
  refine Go.ldcI X0 hx hZ hown (tw_5 hw) (pc' := 6) rfl (hb hby d1_4) ?_
  refine Go.irem X0 hx (pc' := 7) rfl (hb hby d1_6) (by decide) ?_
  have r2 : 0 ≤ z1.toInt ∧ z1.toInt ≤ 2147483647 := own_rand hz1 (by decide)
  generalize hz3 : (z1 % (1114112 : Int32)) = z3
  subst hFF
  refine Go.retI X0 hx hlk hret (hb hby d1_7) (by decide) (by decide) ?_
  rw [e0]
  exact ⟨z3, z1, hz1, hz3, rfl, (Fr.nil n0), rfl⟩
theorem pd_0 : parseMethodDescriptor "(I)I" = some ⟨[.int], some .int⟩ := by decide +kernel
theorem d2_0 : decode prog_3_method_1_code 0 = .ok (.aload_n 0, 1) := by decide +kernel
theorem d2_1 : decode prog_3_method_1_code 1 = .ok (.invokespecial 3, 3) := by decide +kernel
theorem d2_4 : decode prog_3_method_1_code 4 = .ok (.aload_n 0, 1) := by decide +kernel
theorem d2_5 : decode prog_3_method_1_code 5 = .ok (.sipush 4352, 3) := by decide +kernel
theorem d2_8 : decode prog_3_method_1_code 8 = .ok (.anewarray 9, 3) := by decide +kernel
theorem d2_11 : decode prog_3_method_1_code 11 = .ok (.putfield 11, 3) := by decide +kernel
theorem d2_14 : decode prog_3_method_1_code 14 = .ok (.aload_n 0, 1) := by decide +kernel
theorem d2_15 : decode prog_3_method_1_code 15 = .ok (.getfield 11, 3) := by decide +kernel
theorem d2_18 : decode prog_3_method_1_code 18 = .ok (.getstatic 17, 3) := by decide +kernel
theorem ef_4_RR (m : MethodId) (x0 : Addr) (x1 : Addr) : entryFrame m #[(.ref x0), (.ref x1)] 4 = mkF m 0 #[.val (.ref x0), .val (.ref x1), .unset, .unset] [] := by first | (simp [entryFrame, mkF, argsToLocals, Value.category]; done) | rfl
theorem pn_c3 : plainName "java/util/Arrays" = true := by first | (simp [plainName, overriddenIn]; done) | decide +kernel
theorem d4_0 : decode jdk_65_method_117_code 0 = .ok (.iconst 0, 1) := by decide +kernel
theorem d4_1 : decode jdk_65_method_117_code 1 = .ok (.istore_n 2, 1) := by decide +kernel
theorem d4_2 : decode jdk_65_method_117_code 2 = .ok (.aload_n 0, 1) := by decide +kernel
theorem d4_3 : decode jdk_65_method_117_code 3 = .ok (.arraylength, 1) := by decide +kernel
theorem d4_4 : decode jdk_65_method_117_code 4 = .ok (.istore_n 3, 1) := by decide +kernel
theorem d4_5 : decode jdk_65_method_117_code 5 = .ok (.iload_n 2, 1) := by decide +kernel
theorem d4_6 : decode jdk_65_method_117_code 6 = .ok (.iload_n 3, 1) := by decide +kernel
theorem d4_7 : decode jdk_65_method_117_code 7 = .ok (.if_icmp .ge 13, 3) := by decide +kernel
theorem d4_20 : decode jdk_65_method_117_code 20 = .ok (.return_, 1) := by decide +kernel
theorem d4_10 : decode jdk_65_method_117_code 10 = .ok (.aload_n 0, 1) := by decide +kernel
theorem d4_11 : decode jdk_65_method_117_code 11 = .ok (.iload_n 2, 1) := by decide +kernel
theorem d4_12 : decode jdk_65_method_117_code 12 = .ok (.aload_n 1, 1) := by decide +kernel
theorem d4_13 : decode jdk_65_method_117_code 13 = .ok (.aastore, 1) := by decide +kernel
theorem d4_14 : decode jdk_65_method_117_code 14 = .ok (.iinc 2 1, 3) := by decide +kernel
theorem d4_17 : decode jdk_65_method_117_code 17 = .ok (.goto (-12), 3) := by decide +kernel
set_option maxRecDepth 65536 in
set_option maxHeartbeats 4000000 in
theorem gl_fill (l : Launch) (Z : State) (a0 : Array Value) (hw : ∀ d ∈ tables_1, d.before a0 Z = true) (x0 x1 : Addr) (k0 : ClassId) (z : Int32) (N : Nat) (h0 : Heap) (n0 : Nat) (P0 : Arv Z h0 x0 k0 (.array .int) z (List.replicate N .null) .null) (P1 : Exa Z h0 x1 "[I") (O : OvrA Z k0 .int "[I") (ha : z.toInt = N) (ge : n0 ≤ x0) :
    Ctr l Z (⟨"java/util/Arrays", "fill", "([Ljava/lang/Object;Ljava/lang/Object;)V"⟩ : MethodName) jdk_65_method_117_code 4 none ({ frames := 0, cells := 0, slots := 0, locals := 0 } : Room) #[(.ref x0), (.ref x1)] h0 (fun v h L => v = none ∧ Fr n0 L ∧ Keep h0 h [x0] ∧ Arv Z h x0 k0 (.array .int) z (List.replicate N (.ref x1)) .null) := by
  refine Ctr.of (plainFor_of_name pn_c3) ?_
  intro p e s m below meth c T0 hx hZ hby hml hown hnm hret hlk e0 es X0
  refine Go.cast (ef_4_RR m x0 x1) ?_
  generalize hFF : EndN s _ _ _ = FF
  have hN := own_ltN ha
  refine Go.iconst X0 hx (pc' := 1) rfl (hb hby d4_0) (v := (0 : Int32)) rfl ?_
  refine Go.istoreN X0 hx (pc' := 2) rfl (hb hby d4_1) (Ls' := #[.val (.ref x0), .val (.ref x1), .val (.int 0), .unset]) rfl ?_
  refine Go.aloadN X0 hx (pc' := 3) rfl (hb hby d4_2) rfl rfl ?_
  refine Go.arraylength X0 hx hZ e0 P0 (pc' := 4) rfl (hb hby d4_3) ?_
  refine Go.istoreN X0 hx (pc' := 5) rfl (hb hby d4_4) (Ls' := #[.val (.ref x0), .val (.ref x1), .val (.int (Int32.ofNat 0)), .val (.int z)]) rfl ?_
  have loop : ∀ (k i : Nat) (T : State) (h : Heap) (L : List Loc), i + k = N → T.heap = h → Stand p l e ({ frames := 0, cells := 0, slots := 0, locals := 0 } : Room) s m #[(.ref x0), (.ref x1)] below meth c T L 0 0 → Fr n0 L → Keep h0 h [x0] → Exa Z h x1 "[I" → Arv Z h x0 k0 (.array .int) z (List.replicate i (.ref x1) ++ List.replicate k .null) .null → Go p e below FF (T.setTop (mkF m 5 #[.val (.ref x0), .val (.ref x1), .val (.int (Int32.ofNat i)), .val (.int z)] [])) := by
    intro k
    induction k with
    | zero =>
      intro i T h L hi eT X N' K E1 Q0
      have ei : i = N := by omega
      subst ei
      rw [List.replicate_zero, List.append_nil] at Q0
      refine Go.iloadN X hx (pc' := 6) rfl (hb hby d4_5) rfl ?_
      refine Go.iloadN X hx (pc' := 7) rfl (hb hby d4_6) rfl ?_
      refine Go.icmpYes X hx (pc' := 20) (hb hby d4_7) (flt (own_ofNge (by omega) (by omega))).2.1 (by decide) (by decide) ?_
      subst hFF
      refine Go.ret0 X hx hlk hret (hb hby d4_20) (by decide) (by decide) ?_
      rw [eT]
      exact ⟨rfl, N', K, Q0⟩
    | succ k ih =>
      intro i T h L hi eT X N' K E1 Q0
      have hj : ¬ Int32.ofNat i < 0 ∧ Int32.ofNat i < z := ⟨own_ofN0 (by omega), own_ofNlt (by omega) (by omega)⟩
      have hc := own_ofNc (i := i) (by omega)
      refine Go.iloadN X hx (pc' := 6) rfl (hb hby d4_5) rfl ?_
      refine Go.iloadN X hx (pc' := 7) rfl (hb hby d4_6) rfl ?_
      refine Go.icmpNo X hx (pc' := 10) rfl (hb hby d4_7) (tlt hj.2).2.1 ?_
      refine Go.aloadN X hx (pc' := 11) rfl (hb hby d4_10) rfl rfl ?_
      refine Go.iloadN X hx (pc' := 12) rfl (hb hby d4_11) rfl ?_
      refine Go.aloadN X hx (pc' := 13) rfl (hb hby d4_12) rfl rfl ?_
      refine Go.aastore X hx hZ eT Q0 rfl (Sto.ofArvA Q0 O (Ins.self E1)) rfl hj i hc (by simp only [List.length_append, List.length_replicate]; omega) (pc' := 14) rfl (hb hby d4_13) ?_
      intro T' h' e' W V X'
      have V' : Arv Z h' x0 k0 (.array .int) z (List.replicate (i + 1) (.ref x1) ++ List.replicate k .null) .null := by
        have q := own_setR (List.replicate i (.ref x1)) k (.ref x1) .null
        rw [List.length_replicate] at q
        rw [q] at V
        rw [List.replicate_succ']; exact V
      refine Go.iinc X' hx (pc' := 17) rfl (hb hby d4_14) rfl (y := Int32.ofNat (i + 1)) (own_ofNs i) (Ls' := #[.val (.ref x0), .val (.ref x1), .val (.int (Int32.ofNat (i + 1))), .val (.int z)]) rfl ?_
      refine Go.goto X' hx (pc' := 5) (hb hby d4_17) (by decide) (by decide) ?_
      exact ih (i + 1) T' h' _ (by omega) e' X' (Fr.snoc X' N' ge) (K.wr W (Or.inl (List.mem_of_getElem? (i := 0) rfl))) (E1.wr W) V'
  exact loop N 0 T0 h0 [] (by omega) e0 X0 (Fr.nil n0) (Keep.refl h0 [x0]) P1 (by simpa using P0)
theorem pd_1 : parseMethodDescriptor "([Ljava/lang/Object;Ljava/lang/Object;)V" = some ⟨[(.array (.object "java/lang/Object")), (.object "java/lang/Object")], none⟩ := by decide +kernel
theorem d2_21 : decode prog_3_method_1_code 21 = .ok (.invokestatic 20, 3) := by decide +kernel
theorem d2_24 : decode prog_3_method_1_code 24 = .ok (.return_, 1) := by decide +kernel
theorem ef_2_R (m : MethodId) (x0 : Addr) : entryFrame m #[(.ref x0)] 1 = mkF m 0 #[.val (.ref x0)] [] := by first | (simp [entryFrame, mkF, argsToLocals, Value.category]; done) | rfl
-- com/example/tough_filter/toughfilter/CodePointTable$Builder.init
set_option maxRecDepth 65536 in
set_option maxHeartbeats 4000000 in
theorem au_2 (l : Launch) (Z : State) (a0 : Array Value) (hw : ∀ d ∈ tables_1, d.before a0 Z = true) (x0 : Addr) (ga1 : Addr) (gkp : ClassId) (h0 : Heap) (n0 : Nat) (Z0 : n0 ≤ h0.size) (O0 : Old Z n0 h0) (G : Glob Z ga1 gkp) (P0 : Exa Z h0 x0 "com/example/tough_filter/toughfilter/CodePointTable$Builder") (P1 : Fld Z h0 x0 "com/example/tough_filter/toughfilter/CodePointTable$Builder" "pages" "[[I" .null) (g_x0 : n0 ≤ x0) :
    Ctr l Z (⟨"com/example/tough_filter/toughfilter/CodePointTable$Builder", "<init>", "()V"⟩ : MethodName) prog_3_method_1_code 1 none ({ frames := 1, cells := 1, slots := 4352, locals := 15 } : Room) #[(.ref x0)] h0 (fun v h L => ∃ (y0 : Addr) (y1 : ClassId), OvrA Z y1 .int "[I" ∧ v = none ∧ Fr n0 L ∧ Keep h0 h [x0] ∧ h0.size ≤ y0 ∧ Exa Z h x0 "com/example/tough_filter/toughfilter/CodePointTable$Builder" ∧ Fld Z h x0 "com/example/tough_filter/toughfilter/CodePointTable$Builder" "pages" "[[I" (.ref y0) ∧ Arv Z h y0 y1 (.array .int) (4352 : Int32) (List.replicate 4352 (.ref ga1)) .null ∧ Exa Z h y0 "[[I") := by
  refine Ctr.of (plainFor_of_name pn_c0) ?_
  intro p e s m below meth c T0 hx hZ hby hml hown hnm hret hlk e0 es X0
  have G' := G
  obtain ⟨G0, G1, -⟩ := G'
  refine Go.cast (ef_2_R m x0) ?_
  generalize hFF : EndN s _ _ _ = FF
  refine Go.aloadN X0 hx (pc' := 1) rfl (hb hby d2_0) rfl rfl ?_
  refine Go.initO X0 hx hZ hown (tw_12 hw) (tw_13 hw) (tw_14 hw) e0 (by decide) (W := 0) (by rw [hml]; rfl) (Nat.le_of_eq rfl) (by decide) (pc' := 4) rfl (hb hby d2_1) ?_
  intro T1 e1 X1
  refine Go.aloadN X1 hx (pc' := 5) rfl (hb hby d2_4) rfl rfl ?_
  refine Go.sipush X1 hx (pc' := 8) rfl (hb hby d2_5) (v := (4352 : Int32)) (by decide) ?_
  refine Go.anewarrayA X1 hx hZ (ty := .int) hown (by decide) (tw_15 hw) (tw_16 hw) e1 (by decide) (cap := 4352) (by decide) (by decide) (by decide) (by decide) (ad := "[[I") (by decide) 4352 (pc' := 11) rfl (hb hby d2_8) ?_
  intro T2 h2 b2 k2 e2 E2 g2 V2 A2 O2 X2
  have fk3 : Fld Z h2 x0 "com/example/tough_filter/toughfilter/CodePointTable$Builder" "pages" "[[I" .null := (P1.ext E2)
  have fk4 : Exa Z h2 x0 "com/example/tough_filter/toughfilter/CodePointTable$Builder" := (P0.ext E2)
  refine Go.putF X2 hx hZ hown (host := "") (Or.inl (tw_17 hw)) Via.refl e2 fk3 fk4 (Or.inr ⟨(tw_18 hw), rfl, hnm⟩) (tw_7 hw) (ty := (.array (.array .int))) (by decide) rfl rfl (pc' := 14) rfl (hb hby d2_11) ?_
  intro T5 h5 e5 W5 F5 X5
  have N5 := Fr.snoc X5 (Fr.nil n0) g_x0
  refine Go.aloadN X5 hx (pc' := 15) rfl (hb hby d2_14) rfl rfl ?_
  refine Go.getF X5 hx hZ hown (host := "") (Or.inl (tw_17 hw)) Via.refl e5 F5 (pc' := 18) rfl (hb hby d2_15) ?_
  intro T6 e6 X6
  have O8 := (O0.ext E2)
  have O9 := (O8.wr W5 g_x0)
  have fk7 : Sta Z h5 "com/example/tough_filter/toughfilter/CodePointTable" "EMPTY_PAGE" "[I" (.ref ga1) := G0.ext O9.2
  refine Go.getS X6 hx hZ hown (Or.inr (tw_19 hw)) Via.refl e6 fk7 (pc' := 21) rfl (hb hby d2_18) ?_
  intro T10 e10 X10
  have ne11 : x0 ≠ b2 := Nat.ne_of_lt (Nat.lt_of_lt_of_le P0.lt (Nat.le_of_eq g2.symm))
  have fk12 := (V2.other W5 (Ne.symm ne11))
  have fk13 : Exa Z h5 ga1 "[I" := G1.ext O9.2
  have sz15 : h0.size ≤ b2 := Nat.le_trans (Keep.refl h0 [x0]).1 (Nat.le_of_eq g2.symm)
  have ge14 : n0 ≤ b2 := Nat.le_trans Z0 sz15
  refine Go.callS X10 hx hZ hown (tw_22 hw) (tw_23 hw) (tw_24 hw) (tw_25 hw) (by decide) (tw_25 hw) (tw_24 hw) (gl_fill l Z a0 hw b2 ga1 k2 (4352 : Int32) 4352 h5 n0 fk12 fk13 O2 rfl ge14) e10 (argsL := [(.ref b2), (.ref ga1)]) (rest := []) (pc' := 24) rfl (by rw [hml]; rfl) (lenOf pd_1 rfl) rfl rfl (W := 0) (Nat.le_of_eq rfl) (by decide) (by decide) (by decide) (by decide) (hb hby d2_21) ?_
  intro v16 T16 L16 q16 X16
  obtain ⟨h16, e16⟩ : ∃ z, T16.heap = z := ⟨_, rfl⟩
  rw [e16] at q16
  obtain ⟨rfl, N16, K16, V16a⟩ := q16
  show Go _ _ _ _ (T16.setTop (mkF m 24 #[.val (.ref x0)] []))
  subst hFF
  refine Go.ret0 X16 hx hlk hret (hb hby d2_24) (by decide) (by decide) ?_
  rw [e16]
  have fk17 : Exa Z h16 x0 "com/example/tough_filter/toughfilter/CodePointTable$Builder" := ((fk4.wr W5).keep K16)
  have fk18 : Fld Z h16 x0 "com/example/tough_filter/toughfilter/CodePointTable$Builder" "pages" "[[I" (.ref b2) := (F5.keep K16 (ninS ne11 nin0))
  have fk19 : Exa Z h16 b2 "[[I" := ((A2.wr W5).keep K16)
  have Kp20 : Keep h0 h2 [x0] := ((Keep.refl h0 [x0]).ext E2)
  have Kp21 : Keep h0 h5 [x0] := (Kp20.wr W5 (Or.inl (List.mem_of_getElem? (i := 0) rfl)))
  have Kp22 : Keep h0 h16 [x0] := (Kp21.trans K16 (allS (Or.inr sz15) all0))
  exact ⟨b2, k2, O2, rfl, (Fr.app N5 N16), Kp22, sz15, fk17, fk18, V16a, fk19⟩
theorem pd_2 : parseMethodDescriptor "()V" = some ⟨[], none⟩ := by decide +kernel
theorem pd_3 : parseMethodDescriptor "(II)Lcom/example/tough_filter/toughfilter/CodePointTable$Builder;" = some ⟨[.int, .int], some (.object "com/example/tough_filter/toughfilter/CodePointTable$Builder")⟩ := by decide +kernel
theorem d6_0 : decode prog_3_method_3_code 0 = .ok (.new 1, 3) := by decide +kernel
theorem d6_3 : decode prog_3_method_3_code 3 = .ok (.dup, 1) := by decide +kernel
theorem d6_4 : decode prog_3_method_3_code 4 = .ok (.aload_n 0, 1) := by decide +kernel
theorem d6_5 : decode prog_3_method_3_code 5 = .ok (.getfield 11, 3) := by decide +kernel
theorem d7_0 : decode prog_2_method_1_code 0 = .ok (.aload_n 0, 1) := by decide +kernel
theorem d7_1 : decode prog_2_method_1_code 1 = .ok (.invokespecial 5, 3) := by decide +kernel
theorem d7_4 : decode prog_2_method_1_code 4 = .ok (.aload_n 0, 1) := by decide +kernel
theorem d7_5 : decode prog_2_method_1_code 5 = .ok (.aload_n 1, 1) := by decide +kernel
theorem d7_6 : decode prog_2_method_1_code 6 = .ok (.putfield 11, 3) := by decide +kernel
theorem d7_9 : decode prog_2_method_1_code 9 = .ok (.return_, 1) := by decide +kernel
theorem ef_7_RR (m : MethodId) (x0 : Addr) (x1 : Addr) : entryFrame m #[(.ref x0), (.ref x1)] 2 = mkF m 0 #[.val (.ref x0), .val (.ref x1)] [] := by first | (simp [entryFrame, mkF, argsToLocals, Value.category]; done) | rfl
-- com/example/tough_filter/toughfilter/CodePointTable.init
set_option maxRecDepth 65536 in
set_option maxHeartbeats 4000000 in
theorem au_4 (l : Launch) (Z : State) (a0 : Array Value) (hw : ∀ d ∈ tables_1, d.before a0 Z = true) (x0 : Addr) (x1 : Addr) (h0 : Heap) (n0 : Nat) (Z0 : n0 ≤ h0.size) (P0 : Exa Z h0 x0 "com/example/tough_filter/toughfilter/CodePointTable") (P1 : Fld Z h0 x0 "com/example/tough_filter/toughfilter/CodePointTable" "pages" "[[I" .null) (g_x0 : n0 ≤ x0) :
    Ctr l Z (⟨"com/example/tough_filter/toughfilter/CodePointTable", "<init>", "([[I)V"⟩ : MethodName) prog_2_method_1_code 2 none ({ frames := 1, cells := 0, slots := 0, locals := 12 } : Room) #[(.ref x0), (.ref x1)] h0 (fun v h L => v = none ∧ Fr n0 L ∧ Keep h0 h [x0] ∧ Exa Z h x0 "com/example/tough_filter/toughfilter/CodePointTable" ∧ Fld Z h x0 "com/example/tough_filter/toughfilter/CodePointTable" "pages" "[[I" (.ref x1)) := by
  refine Ctr.of (plainFor_of_name pn_c1) ?_
  intro p e s m below meth c T0 hx hZ hby hml hown hnm hret hlk e0 es X0
  refine Go.cast (ef_7_RR m x0 x1) ?_
  generalize hFF : EndN s _ _ _ = FF
  refine Go.aloadN X0 hx (pc' := 1) rfl (hb hby d7_0) rfl rfl ?_
  refine Go.initO X0 hx hZ hown (tw_43 hw) (tw_13 hw) (tw_14 hw) e0 (by decide) (W := 0) (by rw [hml]; rfl) (Nat.le_of_eq rfl) (by decide) (pc' := 4) rfl (hb hby d7_1) ?_
  intro T1 e1 X1
  refine Go.aloadN X1 hx (pc' := 5) rfl (hb hby d7_4) rfl rfl ?_
  refine Go.aloadN X1 hx (pc' := 6) rfl (hb hby d7_5) rfl rfl ?_
  refine Go.putF X1 hx hZ hown (host := "") (Or.inl (tw_44 hw)) Via.refl e1 P1 P0 (Or.inr ⟨(tw_45 hw), rfl, hnm⟩) (tw_39 hw) (ty := (.array (.array .int))) (by decide) rfl rfl (pc' := 9) rfl (hb hby d7_6) ?_
  intro T2 h2 e2 W2 F2 X2
  have N2 := Fr.snoc X2 (Fr.nil n0) g_x0
  subst hFF
  refine Go.ret0 X2 hx hlk hret (hb hby d7_9) (by decide) (by decide) ?_
  rw [e2]
  have fk3 : Exa Z h2 x0 "com/example/tough_filter/toughfilter/CodePointTable" := (P0.wr W2)
  have Kp4 : Keep h0 h2 [x0] := ((Keep.refl h0 [x0]).wr W2 (Or.inl (List.mem_of_getElem? (i := 0) rfl)))
  exact ⟨rfl, N2, Kp4, fk3, F2⟩
theorem pd_4 : parseMethodDescriptor "([[I)V" = some ⟨[(.array (.array .int))], none⟩ := by decide +kernel
theorem d6_8 : decode prog_3_method_3_code 8 = .ok (.invokespecial 26, 3) := by decide +kernel
theorem d6_11 : decode prog_3_method_3_code 11 = .ok (.areturn, 1) := by decide +kernel
theorem ef_6_R (m : MethodId) (x0 : Addr) : entryFrame m #[(.ref x0)] 1 = mkF m 0 #[.val (.ref x0)] [] := by first | (simp [entryFrame, mkF, argsToLocals, Value.category]; done) | rfl
-- com/example/tough_filter/toughfilter/CodePointTable$Builder.build
set_option maxRecDepth 65536 in
set_option maxHeartbeats 4000000 in
theorem au_3 (l : Launch) (Z : State) (a0 : Array Value) (hw : ∀ d ∈ tables_1, d.before a0 Z = true) (x0 : Addr) (x1 : Addr) (h0 : Heap) (n0 : Nat) (Z0 : n0 ≤ h0.size) (P1 : Fld Z h0 x0 "com/example/tough_filter/toughfilter/CodePointTable$Builder" "pages" "[[I" (.ref x1)) :
    Ctr l Z (⟨"com/example/tough_filter/toughfilter/CodePointTable$Builder", "build", "()Lcom/example/tough_filter/toughfilter/CodePointTable;"⟩ : MethodName) prog_3_method_3_code 1 (some (.object "com/example/tough_filter/toughfilter/CodePointTable")) ({ frames := 2, cells := 1, slots := 1, locals := 26 } : Room) #[(.ref x0)] h0 (fun v h L => ∃ (y0 : Addr), v = some (.ref y0) ∧ Fr n0 L ∧ Keep h0 h [] ∧ h0.size ≤ y0 ∧ Exa Z h y0 "com/example/tough_filter/toughfilter/CodePointTable" ∧ Fld Z h y0 "com/example/tough_filter/toughfilter/CodePointTable" "pages" "[[I" (.ref x1)) := by
  refine Ctr.of (plainFor_of_name pn_c0) ?_
  intro p e s m below meth c T0 hx hZ hby hml hown hnm hret hlk e0 es X0
  refine Go.cast (ef_6_R m x0) ?_
  generalize hFF : EndN s _ _ _ = FF
  refine Go.new X0 hx hZ hown (tw_38 hw) (tw_39 hw) (tw_20 hw) e0 (by decide) (by decide) (pc' := 3) rfl (hb hby d6_0) ?_
  intro T1 h1 b1 e1 E1 g1 A1 D1 X1
  have b1_pages : Fld Z h1 b1 "com/example/tough_filter/toughfilter/CodePointTable" "pages" "[[I" .null := D1 (Or.inr (tw_45 hw)) (ty := (.array (.array .int))) (by decide)
  refine Go.dup X1 hx (pc' := 4) rfl (hb hby d6_3) rfl ?_
  refine Go.aloadN X1 hx (pc' := 5) rfl (hb hby d6_4) rfl rfl ?_
  have fk2 : Fld Z h1 x0 "com/example/tough_filter/toughfilter/CodePointTable$Builder" "pages" "[[I" (.ref x1) := (P1.ext E1)
  refine Go.getF X1 hx hZ hown (host := "") (Or.inl (tw_17 hw)) Via.refl e1 fk2 (pc' := 8) rfl (hb hby d6_5) ?_
  intro T3 e3 X3
  have Kp5 : Keep h0 h1 [] := ((Keep.refl h0 []).ext E1)
  have Zn4 : n0 ≤ h1.size := Nat.le_trans Z0 Kp5.1
  have sz7 : h0.size ≤ b1 := Nat.le_trans (Keep.refl h0 []).1 (Nat.le_of_eq g1.symm)
  have ge6 : n0 ≤ b1 := Nat.le_trans Z0 sz7
  refine Go.callNN X3 hx hZ hown rfl (tw_40 hw) (tw_41 hw) (tw_42 hw) (by decide) (tw_42 hw) (tw_20 hw) (au_4 l Z a0 hw b1 x1 h1 n0 Zn4 A1 b1_pages ge6) e3 (a := b1) (argsL := [(.ref x1)]) (rest := [(.ref b1)]) (pc' := 11) rfl (by rw [hml]; rfl) (lenOf pd_4 rfl) rfl rfl (W := 1) (Nat.le_of_eq rfl) (by decide) (by decide) (by decide) (by decide) (hb hby d6_8) ?_
  intro v8 T8 L8 q8 X8
  obtain ⟨h8, e8⟩ : ∃ z, T8.heap = z := ⟨_, rfl⟩
  rw [e8] at q8
  obtain ⟨rfl, N8, K8, F8_0, F8_1⟩ := q8
  show Go _ _ _ _ (T8.setTop (mkF m 11 #[.val (.ref x0)] [(.ref b1)]))
  subst hFF
  refine Go.retR X8 hx hlk (t := (.object "com/example/tough_filter/toughfilter/CodePointTable")) hret rfl rfl (hb hby d6_11) (by decide) (by decide) ?_
  rw [e8]
  have Kp9 : Keep h0 h8 [] := (Kp5.trans K8 (allS (Or.inr sz7) all0))
  exact ⟨b1, rfl, (Fr.app (Fr.nil n0) N8), Kp9, sz7, F8_0, F8_1⟩
theorem pd_5 : parseMethodDescriptor "()Lcom/example/tough_filter/toughfilter/CodePointTable;" = some ⟨[], some (.object "com/example/tough_filter/toughfilter/CodePointTable")⟩ := by decide +kernel
theorem d9_0 : decode method_3_code 0 = .ok (.iload_n 0, 1) := by decide +kernel
theorem d9_1 : decode method_3_code 1 = .ok (.iload_n 3, 1) := by decide +kernel
theorem d9_2 : decode method_3_code 2 = .ok (.if_icmp .ne 6, 3) := by decide +kernel
theorem d9_5 : decode method_3_code 5 = .ok (.iload 4, 2) := by decide +kernel
theorem d9_7 : decode method_3_code 7 = .ok (.ireturn, 1) := by decide +kernel
theorem d9_8 : decode method_3_code 8 = .ok (.iload_n 0, 1) := by decide +kernel
theorem d9_9 : decode method_3_code 9 = .ok (.iload_n 1, 1) := by decide +kernel
theorem d9_10 : decode method_3_code 10 = .ok (.if_icmp .ne 5, 3) := by decide +kernel
theorem d9_13 : decode method_3_code 13 = .ok (.iload_n 2, 1) := by decide +kernel
theorem d9_14 : decode method_3_code 14 = .ok (.ireturn, 1) := by decide +kernel
theorem ef_9_IIIII (m : MethodId) (x0 : Int32) (x1 : Int32) (x2 : Int32) (x3 : Int32) (x4 : Int32) : entryFrame m #[(.int x0), (.int x1), (.int x2), (.int x3), (.int x4)] 5 = mkF m 0 #[.val (.int x0), .val (.int x1), .val (.int x2), .val (.int x3), .val (.int x4)] [] := by first | (simp [entryFrame, mkF, argsToLocals, Value.category]; done) | rfl
-- com/example/tough_filter/toughfilter/CodePointTableSetPinLaw.expected
set_option maxRecDepth 65536 in
set_option maxHeartbeats 4000000 in
theorem au_5 (l : Launch) (Z : State) (a0 : Array Value) (hw : ∀ d ∈ tables_1, d.before a0 Z = true) (p0 : Int32) (p1 : Int32) (p2 : Int32) (p3 : Int32) (h0 : Heap) (n0 : Nat) (Z0 : n0 ≤ h0.size) :
    Ctr l Z (⟨"com/example/tough_filter/toughfilter/CodePointTableSetPinLaw", "expected", "(IIIII)I"⟩ : MethodName) method_3_code 5 (some .int) ({ frames := 0, cells := 0, slots := 0, locals := 0 } : Room) #[(.int p0), (.int p0), (.int p1), (.int p2), (.int p3)] h0 (fun v h L => (p0 = p2 ∧ v = some (.int p3) ∧ Fr n0 L ∧ h = h0) ∨ (¬ (p0 = p2) ∧ v = some (.int p1) ∧ Fr n0 L ∧ h = h0)) := by
  refine Ctr.of (plainFor_of_name pn_c2) ?_
  intro p e s m below meth c T0 hx hZ hby hml hown hnm hret hlk e0 es X0
  refine Go.cast (ef_9_IIIII m p0 p0 p1 p2 p3) ?_
  generalize hFF : EndN s _ _ _ = FF
  refine Go.iloadN X0 hx (pc' := 1) rfl (hb hby d9_0) rfl ?_
  refine Go.iloadN X0 hx (pc' := 2) rfl (hb hby d9_1) rfl ?_
  by_cases hc1 : p0 = p2
  · refine Go.icmpNo X0 hx (pc' := 5) rfl (hb hby d9_2) (teq hc1).2 ?_
    refine Go.iload X0 hx (pc' := 7) rfl (hb hby d9_5) rfl ?_
    subst hFF
    refine Go.retI X0 hx hlk hret (hb hby d9_7) (by decide) (by decide) ?_
    rw [e0]
    exact Or.inl ⟨hc1, rfl, (Fr.nil n0), rfl⟩
  · refine Go.icmpYes X0 hx (pc' := 8) (hb hby d9_2) (feq hc1).2 (by decide) (by decide) ?_
    refine Go.iloadN X0 hx (pc' := 9) rfl (hb hby d9_8) rfl ?_
    refine Go.iloadN X0 hx (pc' := 10) rfl (hb hby d9_9) rfl ?_
    refine Go.icmpNo X0 hx (pc' := 13) rfl (hb hby d9_10) (teq rfl).2 ?_
    refine Go.iloadN X0 hx (pc' := 14) rfl (hb hby d9_13) rfl ?_
    subst hFF
    refine Go.retI X0 hx hlk hret (hb hby d9_14) (by decide) (by decide) ?_
    rw [e0]
    exact Or.inr (⟨hc1, rfl, (Fr.nil n0), rfl⟩)
theorem pd_6 : parseMethodDescriptor "(IIIII)I" = some ⟨[.int, .int, .int, .int, .int], some .int⟩ := by decide +kernel
theorem d9_15 : decode method_3_code 15 = .ok (.iconst 0, 1) := by decide +kernel
theorem d9_16 : decode method_3_code 16 = .ok (.ireturn, 1) := by decide +kernel
-- com/example/tough_filter/toughfilter/CodePointTableSetPinLaw.expected
set_option maxRecDepth 65536 in
set_option maxHeartbeats 4000000 in
theorem au_6 (l : Launch) (Z : State) (a0 : Array Value) (hw : ∀ d ∈ tables_1, d.before a0 Z = true) (p0 : Int32) (p1 : Int32) (p2 : Int32) (p3 : Int32) (p4 : Int32) (h0 : Heap) (n0 : Nat) (Z0 : n0 ≤ h0.size) :
    Ctr l Z (⟨"com/example/tough_filter/toughfilter/CodePointTableSetPinLaw", "expected", "(IIIII)I"⟩ : MethodName) method_3_code 5 (some .int) ({ frames := 0, cells := 0, slots := 0, locals := 0 } : Room) #[(.int p0), (.int p1), (.int p2), (.int p3), (.int p4)] h0 (fun v h L => (p0 = p3 ∧ v = some (.int p4) ∧ Fr n0 L ∧ h = h0) ∨ (¬ (p0 = p3) ∧ p0 = p1 ∧ v = some (.int p2) ∧ Fr n0 L ∧ h = h0) ∨ (¬ (p0 = p3) ∧ ¬ (p0 = p1) ∧ v = some (.int 0) ∧ Fr n0 L ∧ h = h0)) := by
  refine Ctr.of (plainFor_of_name pn_c2) ?_
  intro p e s m below meth c T0 hx hZ hby hml hown hnm hret hlk e0 es X0
  refine Go.cast (ef_9_IIIII m p0 p1 p2 p3 p4) ?_
  generalize hFF : EndN s _ _ _ = FF
  refine Go.iloadN X0 hx (pc' := 1) rfl (hb hby d9_0) rfl ?_
  refine Go.iloadN X0 hx (pc' := 2) rfl (hb hby d9_1) rfl ?_
  by_cases hc1 : p0 = p3
  · refine Go.icmpNo X0 hx (pc' := 5) rfl (hb hby d9_2) (teq hc1).2 ?_
    refine Go.iload X0 hx (pc' := 7) rfl (hb hby d9_5) rfl ?_
    subst hFF
    refine Go.retI X0 hx hlk hret (hb hby d9_7) (by decide) (by decide) ?_
    rw [e0]
    exact Or.inl ⟨hc1, rfl, (Fr.nil n0), rfl⟩
  · refine Go.icmpYes X0 hx (pc' := 8) (hb hby d9_2) (feq hc1).2 (by decide) (by decide) ?_
    refine Go.iloadN X0 hx (pc' := 9) rfl (hb hby d9_8) rfl ?_
    refine Go.iloadN X0 hx (pc' := 10) rfl (hb hby d9_9) rfl ?_
    by_cases hc2 : p0 = p1
    · refine Go.icmpNo X0 hx (pc' := 13) rfl (hb hby d9_10) (teq hc2).2 ?_
      refine Go.iloadN X0 hx (pc' := 14) rfl (hb hby d9_13) rfl ?_
      subst hFF
      refine Go.retI X0 hx hlk hret (hb hby d9_14) (by decide) (by decide) ?_
      rw [e0]
      exact Or.inr (Or.inl ⟨hc1, hc2, rfl, (Fr.nil n0), rfl⟩)
    · refine Go.icmpYes X0 hx (pc' := 15) (hb hby d9_10) (feq hc2).2 (by decide) (by decide) ?_
      refine Go.iconst X0 hx (pc' := 16) rfl (hb hby d9_15) (v := (0 : Int32)) rfl ?_
      subst hFF
      refine Go.retI X0 hx hlk hret (hb hby d9_16) (by decide) (by decide) ?_
      rw [e0]
      exact Or.inr (Or.inr (⟨hc1, hc2, rfl, (Fr.nil n0), rfl⟩))
theorem ef_0_IIIIII (m : MethodId) (x0 : Int32) (x1 : Int32) (x2 : Int32) (x3 : Int32) (x4 : Int32) (x5 : Int32) : entryFrame m #[(.int x0), (.int x1), (.int x2), (.int x3), (.int x4), (.int x5)] maxLocals = mkF m 0 #[.val (.int x0), .val (.int x1), .val (.int x2), .val (.int x3), .val (.int x4), .val (.int x5), .unset, .unset, .unset, .unset, .unset, .unset, .unset, .unset, .unset, .unset] [] := by first | (simp [entryFrame, mkF, argsToLocals, Value.category, maxLocals]; done) | rfl
set_option maxRecDepth 65536 in
set_option maxHeartbeats 40000000 in
theorem rm0 (l : Launch) (Z : State) (a0 : Array Value) (hw : ∀ d ∈ tables_1, d.before a0 Z = true) (p0 : Int32) (p1 : Int32) (p2 : Int32) (p3 : Int32) (p4 : Int32) (p5 : Int32) (ga1 : Addr) (gkp : ClassId) (h0 : Heap) (n0 : Nat) (Z0 : n0 ≤ h0.size) (O0 : Old Z n0 h0) (G : Glob Z ga1 gkp) :
    Ctr l Z x code maxLocals ret room_1 #[(.int p0), (.int p1), (.int p2), (.int p3), (.int p4), (.int p5)] h0 (fun v h L => v = some (.int (1 : Int32)) ∧ Fr n0 L) := by
  refine Ctr.of (plainFor_of_name pn_c2) ?_
  intro p e s m below meth c T0 hx hZ hby hml hown hnm hret hlk e0 es X0
  refine Go.cast (ef_0_IIIIII m p0 p1 p2 p3 p4 p5) ?_
  have G' := G
  obtain ⟨G0, G1, G2⟩ := G'
  refine Go.iloadN X0 hx (pc' := 1) rfl (hb hby at_0) rfl ?_
  refine Go.callS X0 hx hZ hown (tw_0 hw) (tw_1 hw) (tw_2 hw) (tw_3 hw) (by decide) (tw_3 hw) (tw_2 hw) (au_1 l Z a0 hw p0 h0 n0 Z0) e0 (argsL := [(.int p0)]) (rest := []) (pc' := 4) rfl (by rw [hml]; rfl) (lenOf pd_0 rfl) rfl rfl (W := 0) (Nat.le_of_eq rfl) (by decide) (by decide) (by decide) (by decide) (hb hby at_1) ?_
  intro v1 T1 L1 q1 X1
  obtain ⟨z1_0, z1_1, d1_0, d1_1, rfl, N1, e1⟩ := q1
  show Go _ _ _ _ (T1.setTop (mkF m 4 #[.val (.int p0), .val (.int p1), .val (.int p2), .val (.int p3), .val (.int p4), .val (.int p5), .unset, .unset, .unset, .unset, .unset, .unset, .unset, .unset, .unset, .unset] [(.int z1_0)]))
  refine Go.istore X1 hx (pc' := 6) rfl (hb hby at_4) (Ls' := #[.val (.int p0), .val (.int p1), .val (.int p2), .val (.int p3), .val (.int p4), .val (.int p5), .val (.int z1_0), .unset, .unset, .unset, .unset, .unset, .unset, .unset, .unset, .unset]) rfl ?_
  refine Go.iload X1 hx (pc' := 8) rfl (hb hby at_6) rfl ?_
  refine Go.iconst X1 hx (pc' := 9) rfl (hb hby at_8) (v := (3 : Int32)) rfl ?_
  refine Go.iand X1 hx (pc' := 10) rfl (hb hby at_9) ?_
  generalize hz2 : (p5 &&& (3 : Int32)) = z2
  refine Go.istore X1 hx (pc' := 12) rfl (hb hby at_10) (Ls' := #[.val (.int p0), .val (.int p1), .val (.int p2), .val (.int p3), .val (.int p4), .val (.int p5), .val (.int z1_0), .val (.int z2), .unset, .unset, .unset, .unset, .unset, .unset, .unset, .unset]) rfl ?_
  have J3 : ∀ (Tj3 : State) (Lj3 : List Loc) (jv3_8 : Int32), (0 ≤ jv3_8.toInt ∧ jv3_8.toInt ≤ 1114111) → Stand p l e room_1 s m #[(.int p0), (.int p1), (.int p2), (.int p3), (.int p4), (.int p5)] below meth c Tj3 Lj3 0 0 → Tj3.heap = h0 → Fr n0 Lj3 → Go p e below (EndN s (fun v h L => v = some (.int (1 : Int32)) ∧ Fr n0 L) room_1.cells room_1.slots) (Tj3.setTop (mkF m 53 #[.val (.int p0), .val (.int p1), .val (.int p2), .val (.int p3), .val (.int p4), .val (.int p5), .val (.int z1_0), .val (.int z2), .val (.int jv3_8), .unset, .unset, .unset, .unset, .unset, .unset, .unset] [])) := by
    intro Tj3 Lj3 jv3_8 jr3_8 Xj3 ej3 Nj3
    refine Go.iload Xj3 hx (pc' := 55) rfl (hb hby at_53) rfl ?_
    refine Go.iconst Xj3 hx (pc' := 56) rfl (hb hby at_55) (v := (2 : Int32)) rfl ?_
    refine Go.iushr Xj3 hx (pc' := 57) rfl (hb hby at_56) ?_
    generalize hz4 : ((p5.toUInt32 >>> ((2 : Int32) &&& 31).toUInt32).toInt32) = z4
    refine Go.iconst Xj3 hx (pc' := 58) rfl (hb hby at_57) (v := (3 : Int32)) rfl ?_
    refine Go.iand Xj3 hx (pc' := 59) rfl (hb hby at_58) ?_
    have r5 : 0 ≤ z4.toInt ∧ z4.toInt ≤ 1073741823 := own_rushr hz4 (k := 2) (by decide) (by decide) (by decide)
    generalize hz6 : (z4 &&& (3 : Int32)) = z6
    refine Go.istore Xj3 hx (pc' := 61) rfl (hb hby at_59) (Ls' := #[.val (.int p0), .val (.int p1), .val (.int p2), .val (.int p3), .val (.int p4), .val (.int p5), .val (.int z1_0), .val (.int z2), .val (.int jv3_8), .val (.int z6), .unset, .unset, .unset, .unset, .unset, .unset]) rfl ?_
    have J7 : ∀ (Tj7 : State) (Lj7 : List Loc) (jv7_10 : Int32), (0 ≤ jv7_10.toInt ∧ jv7_10.toInt ≤ 1114111) → Stand p l e room_1 s m #[(.int p0), (.int p1), (.int p2), (.int p3), (.int p4), (.int p5)] below meth c Tj7 Lj7 0 0 → Tj7.heap = h0 → Fr n0 Lj7 → Go p e below (EndN s (fun v h L => v = some (.int (1 : Int32)) ∧ Fr n0 L) room_1.cells room_1.slots) (Tj7.setTop (mkF m 115 #[.val (.int p0), .val (.int p1), .val (.int p2), .val (.int p3), .val (.int p4), .val (.int p5), .val (.int z1_0), .val (.int z2), .val (.int jv3_8), .val (.int z6), .val (.int jv7_10), .unset, .unset, .unset, .unset, .unset] [])) := by
      intro Tj7 Lj7 jv7_10 jr7_10 Xj7 ej7 Nj7
      refine Go.new Xj7 hx hZ hown (tw_6 hw) (tw_7 hw) (tw_8 hw) ej7 (by decide) (by decide) (pc' := 118) rfl (hb hby at_115) ?_
      intro T8 h8 b8 e8 E8 g8 A8 D8 X8
      have b8_pages : Fld Z h8 b8 "com/example/tough_filter/toughfilter/CodePointTable$Builder" "pages" "[[I" .null := D8 (Or.inr (tw_18 hw)) (ty := (.array (.array .int))) (by decide)
      refine Go.dup X8 hx (pc' := 119) rfl (hb hby at_118) rfl ?_
      have Kp10 : Keep h0 h8 [] := ((Keep.refl h0 []).ext E8)
      have Zn9 : n0 ≤ h8.size := Nat.le_trans Z0 Kp10.1
      have O11 := (O0.ext E8)
      have sz13 : h0.size ≤ b8 := Nat.le_trans (Keep.refl h0 []).1 (Nat.le_of_eq g8.symm)
      have ge12 : n0 ≤ b8 := Nat.le_trans Z0 sz13
      refine Go.callN X8 hx hZ hown rfl (tw_9 hw) (tw_10 hw) (tw_11 hw) (by decide) (tw_11 hw) (tw_8 hw) (au_2 l Z a0 hw b8 ga1 gkp h8 n0 Zn9 O11 G A8 b8_pages ge12) e8 (a := b8) (argsL := []) (rest := [(.ref b8)]) (pc' := 122) rfl (by rw [hml]; rfl) (lenOf pd_2 rfl) rfl rfl (W := 1) (Nat.le_of_eq rfl) (by decide) (by decide) (by decide) (by decide) (hb hby at_119) ?_
      intro v14 T14 L14 q14 X14
      obtain ⟨h14, e14⟩ : ∃ z, T14.heap = z := ⟨_, rfl⟩
      rw [e14] at q14
      obtain ⟨b14_0, k14_0, c14_0, rfl, N14, K14, s14_0, F14_0, F14_1, F14_2, F14_3⟩ := q14
      show Go _ _ _ _ (T14.setTop (mkF m 122 #[.val (.int p0), .val (.int p1), .val (.int p2), .val (.int p3), .val (.int p4), .val (.int p5), .val (.int z1_0), .val (.int z2), .val (.int jv3_8), .val (.int z6), .val (.int jv7_10), .unset, .unset, .unset, .unset, .unset] [(.ref b8)]))
      refine Go.astore X14 hx (pc' := 124) rfl (hb hby at_122) (Ls' := #[.val (.int p0), .val (.int p1), .val (.int p2), .val (.int p3), .val (.int p4), .val (.int p5), .val (.int z1_0), .val (.int z2), .val (.int jv3_8), .val (.int z6), .val (.int jv7_10), .val (.ref b8), .unset, .unset, .unset, .unset]) rfl rfl ?_
      refine Go.aload X14 hx (pc' := 126) rfl (hb hby at_124) rfl rfl ?_
      refine Go.iload X14 hx (pc' := 128) rfl (hb hby at_126) rfl ?_
      refine Go.iloadN X14 hx (pc' := 129) rfl (hb hby at_128) rfl ?_
      obtain ⟨z15, hz15⟩ : ∃ y, ((z1_0.toUInt32 >>> ((8 : Int32) &&& 31).toUInt32).toInt32) = y := ⟨_, rfl⟩
      obtain ⟨z16, hz16⟩ : ∃ y, (z1_0 &&& (255 : Int32)) = y := ⟨_, rfl⟩
      have r17 : 0 ≤ z1_1.toInt ∧ z1_1.toInt ≤ 2147483647 := own_rand d1_0 (by decide)
      have r18 : 0 ≤ z1_0.toInt ∧ z1_0.toInt ≤ 1114111 := own_rrem d1_1 (d := 1114112) (by decide) (by decide) r17 (by decide) (by decide)
      have r19 : 0 ≤ z15.toInt ∧ z15.toInt ≤ 4351 := own_rpg hz15 (own_rw r18 (by decide) (by decide))
      have r20 : 0 ≤ z16.toInt ∧ z16.toInt ≤ 255 := own_rand hz16 (by decide)
      have Kp22 : Keep h0 h14 [] := (Kp10.trans K14 (allS (Or.inr sz13) all0))
      have Zn21 : n0 ≤ h14.size := Nat.le_trans Z0 Kp22.1
      have O24 := (O11.keep K14 (allS ge12 all0))
      have fk23 : Sta Z h14 "com/example/tough_filter/toughfilter/CodePointTable" "EMPTY_PAGE" "[I" (.ref ga1) := G0.ext O24.2
      have sz26 : h0.size ≤ b14_0 := Nat.le_trans Kp10.1 s14_0
      have ge25 : n0 ≤ b14_0 := Nat.le_trans Z0 sz26
      have ne27 : b8 ≠ b14_0 := Nat.ne_of_lt (Nat.lt_of_lt_of_le A8.lt s14_0)
      refine Go.callV X14 hx hZ hown (tw_27 hw) (tw_28 hw) (notFace_of_selects (args := #[]) (mvT hZ (tw_30 hw))) (tw_30 hw) (tw_29 hw) (by decide) (tw_31 hw) (tw_8 hw) (st_fresh l Z a0 hw b8 b14_0 ga1 k14_0 z1_0 p3 z15 z16 (List.replicate 4352 (.ref ga1)) h14 n0 Zn21 F14_1 F14_2 fk23 c14_0 (by simp) hz15 hz16 r19 r20 (own_getRep (by have := own_clamp r19; omega)) ge25 ne27) e14 F14_0 (argsL := [(.int z1_0), (.int p3)]) (rest := []) (pc' := 132) rfl (by rw [hml]; rfl) (lenOf pd_3 rfl) rfl rfl (W := 0) (Nat.le_of_eq rfl) (by decide) (by decide) (by decide) (by decide) (hb hby at_129) ?_
      intro v28 T28 L28 q28 X28
      obtain ⟨h28, e28⟩ : ∃ z, T28.heap = z := ⟨_, rfl⟩
      rw [e28] at q28
      obtain ⟨rfl, N28, K28, q28a, k28a, sz28a, V28a, M28a⟩ := q28
      show Go _ _ _ _ (T28.setTop (mkF m 132 #[.val (.int p0), .val (.int p1), .val (.int p2), .val (.int p3), .val (.int p4), .val (.int p5), .val (.int z1_0), .val (.int z2), .val (.int jv3_8), .val (.int z6), .val (.int jv7_10), .val (.ref b8), .unset, .unset, .unset, .unset] [(.ref b8)]))
      refine Go.astore X28 hx (pc' := 134) rfl (hb hby at_132) (Ls' := #[.val (.int p0), .val (.int p1), .val (.int p2), .val (.int p3), .val (.int p4), .val (.int p5), .val (.int z1_0), .val (.int z2), .val (.int jv3_8), .val (.int z6), .val (.int jv7_10), .val (.ref b8), .val (.ref b8), .unset, .unset, .unset]) rfl rfl ?_
      refine Go.aload X28 hx (pc' := 136) rfl (hb hby at_134) rfl rfl ?_
      refine Go.iload X28 hx (pc' := 138) rfl (hb hby at_136) rfl ?_
      refine Go.iload X28 hx (pc' := 140) rfl (hb hby at_138) rfl ?_
      obtain ⟨z29, hz29⟩ : ∃ y, ((jv3_8.toUInt32 >>> ((8 : Int32) &&& 31).toUInt32).toInt32) = y := ⟨_, rfl⟩
      obtain ⟨z30, hz30⟩ : ∃ y, (jv3_8 &&& (255 : Int32)) = y := ⟨_, rfl⟩
      have r31 : 0 ≤ z29.toInt ∧ z29.toInt ≤ 4351 := own_rpg hz29 (own_rw jr3_8 (by decide) (by decide))
      have r32 : 0 ≤ z30.toInt ∧ z30.toInt ≤ 255 := own_rand hz30 (by decide)
      by_cases hc33 : z15 = z29
      · have Kp35 : Keep h0 h28 [] := (Kp22.trans K28 (allS (Or.inr sz26) all0))
        have Zn34 : n0 ≤ h28.size := Nat.le_trans Z0 Kp35.1
        have fk36 : Fld Z h28 b8 "com/example/tough_filter/toughfilter/CodePointTable$Builder" "pages" "[[I" (.ref b14_0) := (F14_1.keep K28 (ninS ne27 nin0))
        have O38 := (O24.keep K28 (allS ge25 all0))
        have fk37 : Sta Z h28 "com/example/tough_filter/toughfilter/CodePointTable" "EMPTY_PAGE" "[I" (.ref ga1) := G0.ext O38.2
        have sz40 : h0.size ≤ q28a := Nat.le_trans Kp22.1 sz28a
        have ge39 : n0 ≤ q28a := Nat.le_trans Z0 sz40
        have ne41 : b14_0 ≠ q28a := Nat.ne_of_lt (Nat.lt_of_lt_of_le F14_3.lt sz28a)
        have ne42 : b8 ≠ q28a := Nat.ne_of_lt (Nat.lt_of_lt_of_le F14_0.lt sz28a)
        have fk43 : Exa Z h28 b8 "com/example/tough_filter/toughfilter/CodePointTable$Builder" := (F14_0.keep K28)
        refine Go.callV X28 hx hZ hown (tw_27 hw) (tw_28 hw) (notFace_of_selects (args := #[]) (mvT hZ (tw_30 hw))) (tw_30 hw) (tw_29 hw) (by decide) (tw_31 hw) (tw_8 hw) (st_there l Z a0 hw b8 b14_0 ga1 k14_0 jv3_8 p4 z29 z30 ((List.replicate 4352 (.ref ga1)).set z15.toNatClampNeg (.ref q28a)) q28a k28a ((List.replicate 256 (.int 0)).set z16.toNatClampNeg (.int p3)) h28 n0 Zn34 fk36 V28a fk37 M28a (by simp) (Ne.symm (O0.ne G1.lt ge39)) ne41 hz29 hz30 r31 r32 (by rw [← hc33]; exact own_getSet (by simp only [List.length_set, List.length_replicate]; have := own_clamp r19; omega)) ge39 ne42) e28 fk43 (argsL := [(.int jv3_8), (.int p4)]) (rest := []) (pc' := 143) rfl (by rw [hml]; rfl) (lenOf pd_3 rfl) rfl rfl (W := 0) (Nat.le_of_eq rfl) (by decide) (by decide) (by decide) (by decide) (hb hby at_140) ?_
        intro v44 T44 L44 q44 X44
        obtain ⟨h44, e44⟩ : ∃ z, T44.heap = z := ⟨_, rfl⟩
        rw [e44] at q44
        obtain ⟨rfl, N44, K44, M44a⟩ := q44
        show Go _ _ _ _ (T44.setTop (mkF m 143 #[.val (.int p0), .val (.int p1), .val (.int p2), .val (.int p3), .val (.int p4), .val (.int p5), .val (.int z1_0), .val (.int z2), .val (.int jv3_8), .val (.int z6), .val (.int jv7_10), .val (.ref b8), .val (.ref b8), .unset, .unset, .unset] [(.ref b8)]))
        refine Go.astore X44 hx (pc' := 145) rfl (hb hby at_143) (Ls' := #[.val (.int p0), .val (.int p1), .val (.int p2), .val (.int p3), .val (.int p4), .val (.int p5), .val (.int z1_0), .val (.int z2), .val (.int jv3_8), .val (.int z6), .val (.int jv7_10), .val (.ref b8), .val (.ref b8), .val (.ref b8), .unset, .unset]) rfl rfl ?_
        refine Go.aload X44 hx (pc' := 147) rfl (hb hby at_145) rfl rfl ?_
        have Kp46 : Keep h0 h44 [] := (Kp35.trans K44 (allS (Or.inr sz40) all0))
        have Zn45 : n0 ≤ h44.size := Nat.le_trans Z0 Kp46.1
        have fk47 : Fld Z h44 b8 "com/example/tough_filter/toughfilter/CodePointTable$Builder" "pages" "[[I" (.ref b14_0) := (fk36.keep K44 (ninS ne42 nin0))
        have fk48 : Exa Z h44 b8 "com/example/tough_filter/toughfilter/CodePointTable$Builder" := (fk43.keep K44)
        refine Go.callV X44 hx hZ hown (tw_33 hw) (tw_34 hw) (notFace_of_selects (args := #[]) (mvT hZ (tw_36 hw))) (tw_36 hw) (tw_35 hw) (by decide) (tw_37 hw) (tw_8 hw) (au_3 l Z a0 hw b8 b14_0 h44 n0 Zn45 fk47) e44 fk48 (argsL := []) (rest := []) (pc' := 150) rfl (by rw [hml]; rfl) (lenOf pd_5 rfl) rfl rfl (W := 0) (Nat.le_of_eq rfl) (by decide) (by decide) (by decide) (by decide) (hb hby at_147) ?_
        intro v49 T49 L49 q49 X49
        obtain ⟨h49, e49⟩ : ∃ z, T49.heap = z := ⟨_, rfl⟩
        rw [e49] at q49
        obtain ⟨b49_0, rfl, N49, K49, s49_0, F49_0, F49_1⟩ := q49
        show Go _ _ _ _ (T49.setTop (mkF m 150 #[.val (.int p0), .val (.int p1), .val (.int p2), .val (.int p3), .val (.int p4), .val (.int p5), .val (.int z1_0), .val (.int z2), .val (.int jv3_8), .val (.int z6), .val (.int jv7_10), .val (.ref b8), .val (.ref b8), .val (.ref b8), .unset, .unset] [(.ref b49_0)]))
        refine Go.astore X49 hx (pc' := 152) rfl (hb hby at_150) (Ls' := #[.val (.int p0), .val (.int p1), .val (.int p2), .val (.int p3), .val (.int p4), .val (.int p5), .val (.int z1_0), .val (.int z2), .val (.int jv3_8), .val (.int z6), .val (.int jv7_10), .val (.ref b8), .val (.ref b8), .val (.ref b8), .val (.ref b49_0), .unset]) rfl rfl ?_
        refine Go.aload X49 hx (pc' := 154) rfl (hb hby at_152) rfl rfl ?_
        refine Go.aload X49 hx (pc' := 156) rfl (hb hby at_154) rfl rfl ?_
        refine Go.acmp X49 hx (pc' := 159) (same := true) (hb hby at_156) rfl rfl (decide_eq_true rfl) (by decide) (by decide) ?_
        refine Go.aload X49 hx (pc' := 161) rfl (hb hby at_159) rfl rfl ?_
        refine Go.aload X49 hx (pc' := 163) rfl (hb hby at_161) rfl rfl ?_
        refine Go.acmp X49 hx (pc' := 166) (same := true) (hb hby at_163) rfl rfl (decide_eq_true rfl) (by decide) (by decide) ?_
        refine Go.iconst X49 hx (pc' := 167) rfl (hb hby at_166) (v := (1 : Int32)) rfl ?_
        refine Go.goto X49 hx (pc' := 171) (hb hby at_167) (by decide) (by decide) ?_
        refine Go.istore X49 hx (pc' := 173) rfl (hb hby at_171) (Ls' := #[.val (.int p0), .val (.int p1), .val (.int p2), .val (.int p3), .val (.int p4), .val (.int p5), .val (.int z1_0), .val (.int z2), .val (.int jv3_8), .val (.int z6), .val (.int jv7_10), .val (.ref b8), .val (.ref b8), .val (.ref b8), .val (.ref b49_0), .val (.int 1)]) rfl ?_
        refine Go.iload X49 hx (pc' := 175) rfl (hb hby at_173) rfl ?_
        refine Go.ifNo X49 hx (pc' := 178) rfl (hb hby at_175) (by decide) ?_
        refine Go.aload X49 hx (pc' := 180) rfl (hb hby at_178) rfl rfl ?_
        refine Go.iload X49 hx (pc' := 182) rfl (hb hby at_180) rfl ?_
        by_cases hc50 : z30 = z16
        · have Kp52 : Keep h0 h49 [] := (Kp46.trans K49 all0)
          have Zn51 : n0 ≤ h49.size := Nat.le_trans Z0 Kp52.1
          have fk53 := ((V28a.keep K44 (ninS ne41 nin0)).keep K49 nin0)
          have fk54 := (M44a.keep K49 nin0)
          refine Go.callV X49 hx hZ hown (tw_46 hw) (tw_47 hw) (notFace_of_selects (args := #[]) (mvT hZ (tw_49 hw))) (tw_49 hw) (tw_48 hw) (by decide) (tw_50 hw) (tw_20 hw) (gt_there l Z a0 hw b49_0 b14_0 q28a k14_0 k28a z1_0 z15 z16 p4 ((List.replicate 4352 (.ref ga1)).set z15.toNatClampNeg (.ref q28a)) (((List.replicate 256 (.int 0)).set z16.toNatClampNeg (.int p3)).set z30.toNatClampNeg (.int p4)) h49 n0 Zn51 F49_1 fk53 fk54 hz15 hz16 r19 r20 (own_getSet (by simp only [List.length_set, List.length_replicate]; have := own_clamp r19; omega)) (by rw [← hc50]; exact own_getSet (by simp only [List.length_set, List.length_replicate]; have := own_clamp r32; omega))) e49 F49_0 (argsL := [(.int z1_0)]) (rest := []) (pc' := 185) rfl (by rw [hml]; rfl) (lenOf pd_0 rfl) rfl rfl (W := 0) (Nat.le_of_eq rfl) (by decide) (by decide) (by decide) (by decide) (hb hby at_182) ?_
          intro v55 T55 L55 q55 X55
          obtain ⟨rfl, rfl, e55⟩ := q55
          show Go _ _ _ _ (T55.setTop (mkF m 185 #[.val (.int p0), .val (.int p1), .val (.int p2), .val (.int p3), .val (.int p4), .val (.int p5), .val (.int z1_0), .val (.int z2), .val (.int jv3_8), .val (.int z6), .val (.int jv7_10), .val (.ref b8), .val (.ref b8), .val (.ref b8), .val (.ref b49_0), .val (.int 1)] [(.int p4)]))
          refine Go.iload X55 hx (pc' := 187) rfl (hb hby at_185) rfl ?_
          refine Go.iload X55 hx (pc' := 189) rfl (hb hby at_187) rfl ?_
          refine Go.iloadN X55 hx (pc' := 190) rfl (hb hby at_189) rfl ?_
          refine Go.iload X55 hx (pc' := 192) rfl (hb hby at_190) rfl ?_
          refine Go.iload X55 hx (pc' := 194) rfl (hb hby at_192) rfl ?_
          refine Go.callS X55 hx hZ hown (tw_51 hw) (tw_52 hw) (tw_2 hw) (tw_53 hw) (by decide) (tw_53 hw) (tw_2 hw) (au_5 l Z a0 hw z1_0 p3 jv3_8 p4 h49 n0 Zn51) e55 (argsL := [(.int z1_0), (.int z1_0), (.int p3), (.int jv3_8), (.int p4)]) (rest := [(.int p4)]) (pc' := 197) rfl (by rw [hml]; rfl) (lenOf pd_6 rfl) rfl rfl (W := 1) (Nat.le_of_eq rfl) (by decide) (by decide) (by decide) (by decide) (hb hby at_194) ?_
          intro v56 T56 L56 q56 X56
          rcases q56 with ⟨c56_0_0, rfl, N56_0, e56_0⟩ | ⟨c56_1_0, rfl, N56_1, e56_1⟩
          · show Go _ _ _ _ (T56.setTop (mkF m 197 #[.val (.int p0), .val (.int p1), .val (.int p2), .val (.int p3), .val (.int p4), .val (.int p5), .val (.int z1_0), .val (.int z2), .val (.int jv3_8), .val (.int z6), .val (.int jv7_10), .val (.ref b8), .val (.ref b8), .val (.ref b8), .val (.ref b49_0), .val (.int 1)] [(.int p4), (.int p4)]))
            refine Go.icmpNo X56 hx (pc' := 200) rfl (hb hby at_197) (teq rfl).2 ?_
            refine Go.iconst X56 hx (pc' := 201) rfl (hb hby at_200) (v := (1 : Int32)) rfl ?_
            refine Go.goto X56 hx (pc' := 205) (hb hby at_201) (by decide) (by decide) ?_
            refine Go.istore X56 hx (pc' := 207) rfl (hb hby at_205) (Ls' := #[.val (.int p0), .val (.int p1), .val (.int p2), .val (.int p3), .val (.int p4), .val (.int p5), .val (.int z1_0), .val (.int z2), .val (.int jv3_8), .val (.int z6), .val (.int jv7_10), .val (.ref b8), .val (.ref b8), .val (.ref b8), .val (.ref b49_0), .val (.int 1)]) rfl ?_
            refine Go.iload X56 hx (pc' := 209) rfl (hb hby at_207) rfl ?_
            refine Go.ifNo X56 hx (pc' := 212) rfl (hb hby at_209) (by decide) ?_
            refine Go.aload X56 hx (pc' := 214) rfl (hb hby at_212) rfl rfl ?_
            refine Go.iload X56 hx (pc' := 216) rfl (hb hby at_214) rfl ?_
            refine Go.callV X56 hx hZ hown (tw_46 hw) (tw_47 hw) (notFace_of_selects (args := #[]) (mvT hZ (tw_49 hw))) (tw_49 hw) (tw_48 hw) (by decide) (tw_50 hw) (tw_20 hw) (gt_there l Z a0 hw b49_0 b14_0 q28a k14_0 k28a jv3_8 z29 z30 p4 ((List.replicate 4352 (.ref ga1)).set z15.toNatClampNeg (.ref q28a)) (((List.replicate 256 (.int 0)).set z16.toNatClampNeg (.int p3)).set z30.toNatClampNeg (.int p4)) h49 n0 Zn51 F49_1 fk53 fk54 hz29 hz30 r31 r32 (by rw [← hc33]; exact own_getSet (by simp only [List.length_set, List.length_replicate]; have := own_clamp r19; omega)) (own_getSet (by simp only [List.length_set, List.length_replicate]; have := own_clamp r32; omega))) e56_0 F49_0 (argsL := [(.int jv3_8)]) (rest := []) (pc' := 219) rfl (by rw [hml]; rfl) (lenOf pd_0 rfl) rfl rfl (W := 0) (Nat.le_of_eq rfl) (by decide) (by decide) (by decide) (by decide) (hb hby at_216) ?_
            intro v57 T57 L57 q57 X57
            obtain ⟨rfl, rfl, e57⟩ := q57
            show Go _ _ _ _ (T57.setTop (mkF m 219 #[.val (.int p0), .val (.int p1), .val (.int p2), .val (.int p3), .val (.int p4), .val (.int p5), .val (.int z1_0), .val (.int z2), .val (.int jv3_8), .val (.int z6), .val (.int jv7_10), .val (.ref b8), .val (.ref b8), .val (.ref b8), .val (.ref b49_0), .val (.int 1)] [(.int p4)]))
            refine Go.iload X57 hx (pc' := 221) rfl (hb hby at_219) rfl ?_
            refine Go.icmpNo X57 hx (pc' := 224) rfl (hb hby at_221) (teq rfl).2 ?_
            refine Go.iconst X57 hx (pc' := 225) rfl (hb hby at_224) (v := (1 : Int32)) rfl ?_
            refine Go.goto X57 hx (pc' := 229) (hb hby at_225) (by decide) (by decide) ?_
            refine Go.istore X57 hx (pc' := 231) rfl (hb hby at_229) (Ls' := #[.val (.int p0), .val (.int p1), .val (.int p2), .val (.int p3), .val (.int p4), .val (.int p5), .val (.int z1_0), .val (.int z2), .val (.int jv3_8), .val (.int z6), .val (.int jv7_10), .val (.ref b8), .val (.ref b8), .val (.ref b8), .val (.ref b49_0), .val (.int 1)]) rfl ?_
            refine Go.iload X57 hx (pc' := 233) rfl (hb hby at_231) rfl ?_
            refine Go.ifNo X57 hx (pc' := 236) rfl (hb hby at_233) (by decide) ?_
            refine Go.aload X57 hx (pc' := 238) rfl (hb hby at_236) rfl rfl ?_
            refine Go.iload X57 hx (pc' := 240) rfl (hb hby at_238) rfl ?_
            obtain ⟨z58, hz58⟩ : ∃ y, ((jv7_10.toUInt32 >>> ((8 : Int32) &&& 31).toUInt32).toInt32) = y := ⟨_, rfl⟩
            obtain ⟨z59, hz59⟩ : ∃ y, (jv7_10 &&& (255 : Int32)) = y := ⟨_, rfl⟩
            have r60 : 0 ≤ z58.toInt ∧ z58.toInt ≤ 4351 := own_rpg hz58 (own_rw jr7_10 (by decide) (by decide))
            have r61 : 0 ≤ z59.toInt ∧ z59.toInt ≤ 255 := own_rand hz59 (by decide)
            by_cases hc62 : z15 = z58
            · by_cases hc63 : z30 = z59
              · refine Go.callV X57 hx hZ hown (tw_46 hw) (tw_47 hw) (notFace_of_selects (args := #[]) (mvT hZ (tw_49 hw))) (tw_49 hw) (tw_48 hw) (by decide) (tw_50 hw) (tw_20 hw) (gt_there l Z a0 hw b49_0 b14_0 q28a k14_0 k28a jv7_10 z58 z59 p4 ((List.replicate 4352 (.ref ga1)).set z15.toNatClampNeg (.ref q28a)) (((List.replicate 256 (.int 0)).set z16.toNatClampNeg (.int p3)).set z30.toNatClampNeg (.int p4)) h49 n0 Zn51 F49_1 fk53 fk54 hz58 hz59 r60 r61 (by rw [← hc62]; exact own_getSet (by simp only [List.length_set, List.length_replicate]; have := own_clamp r19; omega)) (by rw [← hc63]; exact own_getSet (by simp only [List.length_set, List.length_replicate]; have := own_clamp r32; omega))) e57 F49_0 (argsL := [(.int jv7_10)]) (rest := []) (pc' := 243) rfl (by rw [hml]; rfl) (lenOf pd_0 rfl) rfl rfl (W := 0) (Nat.le_of_eq rfl) (by decide) (by decide) (by decide) (by decide) (hb hby at_240) ?_
                intro v64 T64 L64 q64 X64
                obtain ⟨rfl, rfl, e64⟩ := q64
                show Go _ _ _ _ (T64.setTop (mkF m 243 #[.val (.int p0), .val (.int p1), .val (.int p2), .val (.int p3), .val (.int p4), .val (.int p5), .val (.int z1_0), .val (.int z2), .val (.int jv3_8), .val (.int z6), .val (.int jv7_10), .val (.ref b8), .val (.ref b8), .val (.ref b8), .val (.ref b49_0), .val (.int 1)] [(.int p4)]))
                refine Go.iload X64 hx (pc' := 245) rfl (hb hby at_243) rfl ?_
                refine Go.iload X64 hx (pc' := 247) rfl (hb hby at_245) rfl ?_
                refine Go.iloadN X64 hx (pc' := 248) rfl (hb hby at_247) rfl ?_
                refine Go.iload X64 hx (pc' := 250) rfl (hb hby at_248) rfl ?_
                refine Go.iload X64 hx (pc' := 252) rfl (hb hby at_250) rfl ?_
                refine Go.callS X64 hx hZ hown (tw_51 hw) (tw_52 hw) (tw_2 hw) (tw_53 hw) (by decide) (tw_53 hw) (tw_2 hw) (au_6 l Z a0 hw jv7_10 z1_0 p3 jv3_8 p4 h49 n0 Zn51) e64 (argsL := [(.int jv7_10), (.int z1_0), (.int p3), (.int jv3_8), (.int p4)]) (rest := [(.int p4)]) (pc' := 255) rfl (by rw [hml]; rfl) (lenOf pd_6 rfl) rfl rfl (W := 1) (Nat.le_of_eq rfl) (by decide) (by decide) (by decide) (by decide) (hb hby at_252) ?_
                intro v65 T65 L65 q65 X65
                rcases q65 with ⟨c65_0_0, rfl, N65_0, e65_0⟩ | ⟨c65_1_0, c65_1_1, rfl, N65_1, e65_1⟩ | ⟨c65_2_0, c65_2_1, rfl, N65_2, e65_2⟩
                · show Go _ _ _ _ (T65.setTop (mkF m 255 #[.val (.int p0), .val (.int p1), .val (.int p2), .val (.int p3), .val (.int p4), .val (.int p5), .val (.int z1_0), .val (.int z2), .val (.int jv3_8), .val (.int z6), .val (.int jv7_10), .val (.ref b8), .val (.ref b8), .val (.ref b8), .val (.ref b49_0), .val (.int 1)] [(.int p4), (.int p4)]))
                  refine Go.icmpNo X65 hx (pc' := 258) rfl (hb hby at_255) (teq rfl).2 ?_
                  refine Go.iconst X65 hx (pc' := 259) rfl (hb hby at_258) (v := (1 : Int32)) rfl ?_
                  refine Go.goto X65 hx (pc' := 263) (hb hby at_259) (by decide) (by decide) ?_
                  refine Go.istore X65 hx (pc' := 265) rfl (hb hby at_263) (Ls' := #[.val (.int p0), .val (.int p1), .val (.int p2), .val (.int p3), .val (.int p4), .val (.int p5), .val (.int z1_0), .val (.int z2), .val (.int jv3_8), .val (.int z6), .val (.int jv7_10), .val (.ref b8), .val (.ref b8), .val (.ref b8), .val (.ref b49_0), .val (.int 1)]) rfl ?_
                  refine Go.iload X65 hx (pc' := 267) rfl (hb hby at_265) rfl ?_
                  refine Go.retN X65 hx hlk (t := .boolean) hret (by simp) (hb hby at_267) (by decide) (by decide) ?_
                  exact ⟨rfl, (Fr.app (Fr.app (Fr.app (Fr.app (Fr.app (Fr.app (Fr.app (Fr.app (Fr.app Nj7 N14) N28) N44) N49) (Fr.nil n0)) N56_0) (Fr.nil n0)) (Fr.nil n0)) N65_0)⟩
                · exact absurd (own_cp_eq hz58 hz59 hz29 hz30 (own_rw jr7_10 (by decide) (by decide)) (own_rw jr3_8 (by decide) (by decide)) (hc62.symm.trans hc33) hc63.symm) c65_1_0
                · exact absurd (own_cp_eq hz58 hz59 hz29 hz30 (own_rw jr7_10 (by decide) (by decide)) (own_rw jr3_8 (by decide) (by decide)) (hc62.symm.trans hc33) hc63.symm) c65_2_0
              · refine Go.callV X57 hx hZ hown (tw_46 hw) (tw_47 hw) (notFace_of_selects (args := #[]) (mvT hZ (tw_49 hw))) (tw_49 hw) (tw_48 hw) (by decide) (tw_50 hw) (tw_20 hw) (gt_there l Z a0 hw b49_0 b14_0 q28a k14_0 k28a jv7_10 z58 z59 (0 : Int32) ((List.replicate 4352 (.ref ga1)).set z15.toNatClampNeg (.ref q28a)) (((List.replicate 256 (.int 0)).set z16.toNatClampNeg (.int p3)).set z30.toNatClampNeg (.int p4)) h49 n0 Zn51 F49_1 fk53 fk54 hz58 hz59 r60 r61 (by rw [← hc62]; exact own_getSet (by simp only [List.length_set, List.length_replicate]; have := own_clamp r19; omega)) (((own_getSetN (own_clampne r32 r61 hc63)).trans (own_getSetN (own_clampne r20 r61 (fun q => hc63 (Eq.trans (Eq.symm hc50.symm) (Eq.trans q rfl)))))).trans (own_getRep (by have := own_clamp r61; omega)))) e57 F49_0 (argsL := [(.int jv7_10)]) (rest := []) (pc' := 243) rfl (by rw [hml]; rfl) (lenOf pd_0 rfl) rfl rfl (W := 0) (Nat.le_of_eq rfl) (by decide) (by decide) (by decide) (by decide) (hb hby at_240) ?_
                intro v66 T66 L66 q66 X66
                obtain ⟨rfl, rfl, e66⟩ := q66
                show Go _ _ _ _ (T66.setTop (mkF m 243 #[.val (.int p0), .val (.int p1), .val (.int p2), .val (.int p3), .val (.int p4), .val (.int p5), .val (.int z1_0), .val (.int z2), .val (.int jv3_8), .val (.int z6), .val (.int jv7_10), .val (.ref b8), .val (.ref b8), .val (.ref b8), .val (.ref b49_0), .val (.int 1)] [(.int 0)]))
                refine Go.iload X66 hx (pc' := 245) rfl (hb hby at_243) rfl ?_
                refine Go.iload X66 hx (pc' := 247) rfl (hb hby at_245) rfl ?_
                refine Go.iloadN X66 hx (pc' := 248) rfl (hb hby at_247) rfl ?_
                refine Go.iload X66 hx (pc' := 250) rfl (hb hby at_248) rfl ?_
                refine Go.iload X66 hx (pc' := 252) rfl (hb hby at_250) rfl ?_
                refine Go.callS X66 hx hZ hown (tw_51 hw) (tw_52 hw) (tw_2 hw) (tw_53 hw) (by decide) (tw_53 hw) (tw_2 hw) (au_6 l Z a0 hw jv7_10 z1_0 p3 jv3_8 p4 h49 n0 Zn51) e66 (argsL := [(.int jv7_10), (.int z1_0), (.int p3), (.int jv3_8), (.int p4)]) (rest := [(.int 0)]) (pc' := 255) rfl (by rw [hml]; rfl) (lenOf pd_6 rfl) rfl rfl (W := 1) (Nat.le_of_eq rfl) (by decide) (by decide) (by decide) (by decide) (hb hby at_252) ?_
                intro v67 T67 L67 q67 X67
                rcases q67 with ⟨c67_0_0, rfl, N67_0, e67_0⟩ | ⟨c67_1_0, c67_1_1, rfl, N67_1, e67_1⟩ | ⟨c67_2_0, c67_2_1, rfl, N67_2, e67_2⟩
                · exact absurd c67_0_0 (own_cp_ne2 hz59 hz30 (Ne.symm hc63))
                · exact absurd c67_1_1 (own_cp_ne2 hz59 hz16 (fun q => (Ne.symm hc63) (Eq.trans (Eq.symm rfl) (Eq.trans q hc50.symm))))
                · show Go _ _ _ _ (T67.setTop (mkF m 255 #[.val (.int p0), .val (.int p1), .val (.int p2), .val (.int p3), .val (.int p4), .val (.int p5), .val (.int z1_0), .val (.int z2), .val (.int jv3_8), .val (.int z6), .val (.int jv7_10), .val (.ref b8), .val (.ref b8), .val (.ref b8), .val (.ref b49_0), .val (.int 1)] [(.int 0), (.int 0)]))
                  refine Go.icmpNo X67 hx (pc' := 258) rfl (hb hby at_255) (by decide) ?_
                  refine Go.iconst X67 hx (pc' := 259) rfl (hb hby at_258) (v := (1 : Int32)) rfl ?_
                  refine Go.goto X67 hx (pc' := 263) (hb hby at_259) (by decide) (by decide) ?_
                  refine Go.istore X67 hx (pc' := 265) rfl (hb hby at_263) (Ls' := #[.val (.int p0), .val (.int p1), .val (.int p2), .val (.int p3), .val (.int p4), .val (.int p5), .val (.int z1_0), .val (.int z2), .val (.int jv3_8), .val (.int z6), .val (.int jv7_10), .val (.ref b8), .val (.ref b8), .val (.ref b8), .val (.ref b49_0), .val (.int 1)]) rfl ?_
                  refine Go.iload X67 hx (pc' := 267) rfl (hb hby at_265) rfl ?_
                  refine Go.retN X67 hx hlk (t := .boolean) hret (by simp) (hb hby at_267) (by decide) (by decide) ?_
                  exact ⟨rfl, (Fr.app (Fr.app (Fr.app (Fr.app (Fr.app (Fr.app (Fr.app (Fr.app (Fr.app Nj7 N14) N28) N44) N49) (Fr.nil n0)) N56_0) (Fr.nil n0)) (Fr.nil n0)) N67_2)⟩
            · have O69 := (O38.keep K44 (allS ge39 all0))
              have O70 := (O69.keep K49 all0)
              have fk68 : Arv Z h49 ga1 gkp .int (256 : Int32) (List.replicate 256 (.int 0)) (.int 0) := G2.ext O70.2
              refine Go.callV X57 hx hZ hown (tw_46 hw) (tw_47 hw) (notFace_of_selects (args := #[]) (mvT hZ (tw_49 hw))) (tw_49 hw) (tw_48 hw) (by decide) (tw_50 hw) (tw_20 hw) (gt_there l Z a0 hw b49_0 b14_0 ga1 k14_0 gkp jv7_10 z58 z59 (0 : Int32) ((List.replicate 4352 (.ref ga1)).set z15.toNatClampNeg (.ref q28a)) (List.replicate 256 (.int 0)) h49 n0 Zn51 F49_1 fk53 fk68 hz58 hz59 r60 r61 ((own_getSetN (own_clampne r19 r60 hc62)).trans (own_getRep (by have := own_clamp r60; omega))) (own_getRep (by have := own_clamp r61; omega))) e57 F49_0 (argsL := [(.int jv7_10)]) (rest := []) (pc' := 243) rfl (by rw [hml]; rfl) (lenOf pd_0 rfl) rfl rfl (W := 0) (Nat.le_of_eq rfl) (by decide) (by decide) (by decide) (by decide) (hb hby at_240) ?_
              intro v71 T71 L71 q71 X71
              obtain ⟨rfl, rfl, e71⟩ := q71
              show Go _ _ _ _ (T71.setTop (mkF m 243 #[.val (.int p0), .val (.int p1), .val (.int p2), .val (.int p3), .val (.int p4), .val (.int p5), .val (.int z1_0), .val (.int z2), .val (.int jv3_8), .val (.int z6), .val (.int jv7_10), .val (.ref b8), .val (.ref b8), .val (.ref b8), .val (.ref b49_0), .val (.int 1)] [(.int 0)]))
              refine Go.iload X71 hx (pc' := 245) rfl (hb hby at_243) rfl ?_
              refine Go.iload X71 hx (pc' := 247) rfl (hb hby at_245) rfl ?_
              refine Go.iloadN X71 hx (pc' := 248) rfl (hb hby at_247) rfl ?_
              refine Go.iload X71 hx (pc' := 250) rfl (hb hby at_248) rfl ?_
              refine Go.iload X71 hx (pc' := 252) rfl (hb hby at_250) rfl ?_
              refine Go.callS X71 hx hZ hown (tw_51 hw) (tw_52 hw) (tw_2 hw) (tw_53 hw) (by decide) (tw_53 hw) (tw_2 hw) (au_6 l Z a0 hw jv7_10 z1_0 p3 jv3_8 p4 h49 n0 Zn51) e71 (argsL := [(.int jv7_10), (.int z1_0), (.int p3), (.int jv3_8), (.int p4)]) (rest := [(.int 0)]) (pc' := 255) rfl (by rw [hml]; rfl) (lenOf pd_6 rfl) rfl rfl (W := 1) (Nat.le_of_eq rfl) (by decide) (by decide) (by decide) (by decide) (hb hby at_252) ?_
              intro v72 T72 L72 q72 X72
              rcases q72 with ⟨c72_0_0, rfl, N72_0, e72_0⟩ | ⟨c72_1_0, c72_1_1, rfl, N72_1, e72_1⟩ | ⟨c72_2_0, c72_2_1, rfl, N72_2, e72_2⟩
              · exact absurd c72_0_0 (own_cp_ne1 hz58 hz29 (fun q => (Ne.symm hc62) (Eq.trans (Eq.symm rfl) (Eq.trans q hc33.symm))))
              · exact absurd c72_1_1 (own_cp_ne1 hz58 hz15 (Ne.symm hc62))
              · show Go _ _ _ _ (T72.setTop (mkF m 255 #[.val (.int p0), .val (.int p1), .val (.int p2), .val (.int p3), .val (.int p4), .val (.int p5), .val (.int z1_0), .val (.int z2), .val (.int jv3_8), .val (.int z6), .val (.int jv7_10), .val (.ref b8), .val (.ref b8), .val (.ref b8), .val (.ref b49_0), .val (.int 1)] [(.int 0), (.int 0)]))
                refine Go.icmpNo X72 hx (pc' := 258) rfl (hb hby at_255) (by decide) ?_
                refine Go.iconst X72 hx (pc' := 259) rfl (hb hby at_258) (v := (1 : Int32)) rfl ?_
                refine Go.goto X72 hx (pc' := 263) (hb hby at_259) (by decide) (by decide) ?_
                refine Go.istore X72 hx (pc' := 265) rfl (hb hby at_263) (Ls' := #[.val (.int p0), .val (.int p1), .val (.int p2), .val (.int p3), .val (.int p4), .val (.int p5), .val (.int z1_0), .val (.int z2), .val (.int jv3_8), .val (.int z6), .val (.int jv7_10), .val (.ref b8), .val (.ref b8), .val (.ref b8), .val (.ref b49_0), .val (.int 1)]) rfl ?_
                refine Go.iload X72 hx (pc' := 267) rfl (hb hby at_265) rfl ?_
                refine Go.retN X72 hx hlk (t := .boolean) hret (by simp) (hb hby at_267) (by decide) (by decide) ?_
                exact ⟨rfl, (Fr.app (Fr.app (Fr.app (Fr.app (Fr.app (Fr.app (Fr.app (Fr.app (Fr.app Nj7 N14) N28) N44) N49) (Fr.nil n0)) N56_0) (Fr.nil n0)) (Fr.nil n0)) N72_2)⟩
          · exact absurd (own_cp_eq hz15 hz16 hz29 hz30 (own_rw r18 (by decide) (by decide)) (own_rw jr3_8 (by decide) (by decide)) hc33 hc50.symm) c56_1_0
        · have Kp74 : Keep h0 h49 [] := (Kp46.trans K49 all0)
          have Zn73 : n0 ≤ h49.size := Nat.le_trans Z0 Kp74.1
          have fk75 := ((V28a.keep K44 (ninS ne41 nin0)).keep K49 nin0)
          have fk76 := (M44a.keep K49 nin0)
          refine Go.callV X49 hx hZ hown (tw_46 hw) (tw_47 hw) (notFace_of_selects (args := #[]) (mvT hZ (tw_49 hw))) (tw_49 hw) (tw_48 hw) (by decide) (tw_50 hw) (tw_20 hw) (gt_there l Z a0 hw b49_0 b14_0 q28a k14_0 k28a z1_0 z15 z16 p3 ((List.replicate 4352 (.ref ga1)).set z15.toNatClampNeg (.ref q28a)) (((List.replicate 256 (.int 0)).set z16.toNatClampNeg (.int p3)).set z30.toNatClampNeg (.int p4)) h49 n0 Zn73 F49_1 fk75 fk76 hz15 hz16 r19 r20 (own_getSet (by simp only [List.length_set, List.length_replicate]; have := own_clamp r19; omega)) ((own_getSetN (own_clampne r32 r20 hc50)).trans (own_getSet (by simp only [List.length_set, List.length_replicate]; have := own_clamp r20; omega)))) e49 F49_0 (argsL := [(.int z1_0)]) (rest := []) (pc' := 185) rfl (by rw [hml]; rfl) (lenOf pd_0 rfl) rfl rfl (W := 0) (Nat.le_of_eq rfl) (by decide) (by decide) (by decide) (by decide) (hb hby at_182) ?_
          intro v77 T77 L77 q77 X77
          obtain ⟨rfl, rfl, e77⟩ := q77
          show Go _ _ _ _ (T77.setTop (mkF m 185 #[.val (.int p0), .val (.int p1), .val (.int p2), .val (.int p3), .val (.int p4), .val (.int p5), .val (.int z1_0), .val (.int z2), .val (.int jv3_8), .val (.int z6), .val (.int jv7_10), .val (.ref b8), .val (.ref b8), .val (.ref b8), .val (.ref b49_0), .val (.int 1)] [(.int p3)]))
          refine Go.iload X77 hx (pc' := 187) rfl (hb hby at_185) rfl ?_
          refine Go.iload X77 hx (pc' := 189) rfl (hb hby at_187) rfl ?_
          refine Go.iloadN X77 hx (pc' := 190) rfl (hb hby at_189) rfl ?_
          refine Go.iload X77 hx (pc' := 192) rfl (hb hby at_190) rfl ?_
          refine Go.iload X77 hx (pc' := 194) rfl (hb hby at_192) rfl ?_
          refine Go.callS X77 hx hZ hown (tw_51 hw) (tw_52 hw) (tw_2 hw) (tw_53 hw) (by decide) (tw_53 hw) (tw_2 hw) (au_5 l Z a0 hw z1_0 p3 jv3_8 p4 h49 n0 Zn73) e77 (argsL := [(.int z1_0), (.int z1_0), (.int p3), (.int jv3_8), (.int p4)]) (rest := [(.int p3)]) (pc' := 197) rfl (by rw [hml]; rfl) (lenOf pd_6 rfl) rfl rfl (W := 1) (Nat.le_of_eq rfl) (by decide) (by decide) (by decide) (by decide) (hb hby at_194) ?_
          intro v78 T78 L78 q78 X78
          rcases q78 with ⟨c78_0_0, rfl, N78_0, e78_0⟩ | ⟨c78_1_0, rfl, N78_1, e78_1⟩
          · exact absurd c78_0_0 (own_cp_ne2 hz16 hz30 (Ne.symm hc50))
          · show Go _ _ _ _ (T78.setTop (mkF m 197 #[.val (.int p0), .val (.int p1), .val (.int p2), .val (.int p3), .val (.int p4), .val (.int p5), .val (.int z1_0), .val (.int z2), .val (.int jv3_8), .val (.int z6), .val (.int jv7_10), .val (.ref b8), .val (.ref b8), .val (.ref b8), .val (.ref b49_0), .val (.int 1)] [(.int p3), (.int p3)]))
            refine Go.icmpNo X78 hx (pc' := 200) rfl (hb hby at_197) (teq rfl).2 ?_
            refine Go.iconst X78 hx (pc' := 201) rfl (hb hby at_200) (v := (1 : Int32)) rfl ?_
            refine Go.goto X78 hx (pc' := 205) (hb hby at_201) (by decide) (by decide) ?_
            refine Go.istore X78 hx (pc' := 207) rfl (hb hby at_205) (Ls' := #[.val (.int p0), .val (.int p1), .val (.int p2), .val (.int p3), .val (.int p4), .val (.int p5), .val (.int z1_0), .val (.int z2), .val (.int jv3_8), .val (.int z6), .val (.int jv7_10), .val (.ref b8), .val (.ref b8), .val (.ref b8), .val (.ref b49_0), .val (.int 1)]) rfl ?_
            refine Go.iload X78 hx (pc' := 209) rfl (hb hby at_207) rfl ?_
            refine Go.ifNo X78 hx (pc' := 212) rfl (hb hby at_209) (by decide) ?_
            refine Go.aload X78 hx (pc' := 214) rfl (hb hby at_212) rfl rfl ?_
            refine Go.iload X78 hx (pc' := 216) rfl (hb hby at_214) rfl ?_
            refine Go.callV X78 hx hZ hown (tw_46 hw) (tw_47 hw) (notFace_of_selects (args := #[]) (mvT hZ (tw_49 hw))) (tw_49 hw) (tw_48 hw) (by decide) (tw_50 hw) (tw_20 hw) (gt_there l Z a0 hw b49_0 b14_0 q28a k14_0 k28a jv3_8 z29 z30 p4 ((List.replicate 4352 (.ref ga1)).set z15.toNatClampNeg (.ref q28a)) (((List.replicate 256 (.int 0)).set z16.toNatClampNeg (.int p3)).set z30.toNatClampNeg (.int p4)) h49 n0 Zn73 F49_1 fk75 fk76 hz29 hz30 r31 r32 (by rw [← hc33]; exact own_getSet (by simp only [List.length_set, List.length_replicate]; have := own_clamp r19; omega)) (own_getSet (by simp only [List.length_set, List.length_replicate]; have := own_clamp r32; omega))) e78_1 F49_0 (argsL := [(.int jv3_8)]) (rest := []) (pc' := 219) rfl (by rw [hml]; rfl) (lenOf pd_0 rfl) rfl rfl (W := 0) (Nat.le_of_eq rfl) (by decide) (by decide) (by decide) (by decide) (hb hby at_216) ?_
            intro v79 T79 L79 q79 X79
            obtain ⟨rfl, rfl, e79⟩ := q79
            show Go _ _ _ _ (T79.setTop (mkF m 219 #[.val (.int p0), .val (.int p1), .val (.int p2), .val (.int p3), .val (.int p4), .val (.int p5), .val (.int z1_0), .val (.int z2), .val (.int jv3_8), .val (.int z6), .val (.int jv7_10), .val (.ref b8), .val (.ref b8), .val (.ref b8), .val (.ref b49_0), .val (.int 1)] [(.int p4)]))
            refine Go.iload X79 hx (pc' := 221) rfl (hb hby at_219) rfl ?_
            refine Go.icmpNo X79 hx (pc' := 224) rfl (hb hby at_221) (teq rfl).2 ?_
            refine Go.iconst X79 hx (pc' := 225) rfl (hb hby at_224) (v := (1 : Int32)) rfl ?_
            refine Go.goto X79 hx (pc' := 229) (hb hby at_225) (by decide) (by decide) ?_
            refine Go.istore X79 hx (pc' := 231) rfl (hb hby at_229) (Ls' := #[.val (.int p0), .val (.int p1), .val (.int p2), .val (.int p3), .val (.int p4), .val (.int p5), .val (.int z1_0), .val (.int z2), .val (.int jv3_8), .val (.int z6), .val (.int jv7_10), .val (.ref b8), .val (.ref b8), .val (.ref b8), .val (.ref b49_0), .val (.int 1)]) rfl ?_
            refine Go.iload X79 hx (pc' := 233) rfl (hb hby at_231) rfl ?_
            refine Go.ifNo X79 hx (pc' := 236) rfl (hb hby at_233) (by decide) ?_
            refine Go.aload X79 hx (pc' := 238) rfl (hb hby at_236) rfl rfl ?_
            refine Go.iload X79 hx (pc' := 240) rfl (hb hby at_238) rfl ?_
            obtain ⟨z80, hz80⟩ : ∃ y, ((jv7_10.toUInt32 >>> ((8 : Int32) &&& 31).toUInt32).toInt32) = y := ⟨_, rfl⟩
            obtain ⟨z81, hz81⟩ : ∃ y, (jv7_10 &&& (255 : Int32)) = y := ⟨_, rfl⟩
            have r82 : 0 ≤ z80.toInt ∧ z80.toInt ≤ 4351 := own_rpg hz80 (own_rw jr7_10 (by decide) (by decide))
            have r83 : 0 ≤ z81.toInt ∧ z81.toInt ≤ 255 := own_rand hz81 (by decide)
            by_cases hc84 : z15 = z80
            · by_cases hc85 : z30 = z81
              · refine Go.callV X79 hx hZ hown (tw_46 hw) (tw_47 hw) (notFace_of_selects (args := #[]) (mvT hZ (tw_49 hw))) (tw_49 hw) (tw_48 hw) (by decide) (tw_50 hw) (tw_20 hw) (gt_there l Z a0 hw b49_0 b14_0 q28a k14_0 k28a jv7_10 z80 z81 p4 ((List.replicate 4352 (.ref ga1)).set z15.toNatClampNeg (.ref q28a)) (((List.replicate 256 (.int 0)).set z16.toNatClampNeg (.int p3)).set z30.toNatClampNeg (.int p4)) h49 n0 Zn73 F49_1 fk75 fk76 hz80 hz81 r82 r83 (by rw [← hc84]; exact own_getSet (by simp only [List.length_set, List.length_replicate]; have := own_clamp r19; omega)) (by rw [← hc85]; exact own_getSet (by simp only [List.length_set, List.length_replicate]; have := own_clamp r32; omega))) e79 F49_0 (argsL := [(.int jv7_10)]) (rest := []) (pc' := 243) rfl (by rw [hml]; rfl) (lenOf pd_0 rfl) rfl rfl (W := 0) (Nat.le_of_eq rfl) (by decide) (by decide) (by decide) (by decide) (hb hby at_240) ?_
                intro v86 T86 L86 q86 X86
                obtain ⟨rfl, rfl, e86⟩ := q86
                show Go _ _ _ _ (T86.setTop (mkF m 243 #[.val (.int p0), .val (.int p1), .val (.int p2), .val (.int p3), .val (.int p4), .val (.int p5), .val (.int z1_0), .val (.int z2), .val (.int jv3_8), .val (.int z6), .val (.int jv7_10), .val (.ref b8), .val (.ref b8), .val (.ref b8), .val (.ref b49_0), .val (.int 1)] [(.int p4)]))
                refine Go.iload X86 hx (pc' := 245) rfl (hb hby at_243) rfl ?_
                refine Go.iload X86 hx (pc' := 247) rfl (hb hby at_245) rfl ?_
                refine Go.iloadN X86 hx (pc' := 248) rfl (hb hby at_247) rfl ?_
                refine Go.iload X86 hx (pc' := 250) rfl (hb hby at_248) rfl ?_
                refine Go.iload X86 hx (pc' := 252) rfl (hb hby at_250) rfl ?_
                refine Go.callS X86 hx hZ hown (tw_51 hw) (tw_52 hw) (tw_2 hw) (tw_53 hw) (by decide) (tw_53 hw) (tw_2 hw) (au_6 l Z a0 hw jv7_10 z1_0 p3 jv3_8 p4 h49 n0 Zn73) e86 (argsL := [(.int jv7_10), (.int z1_0), (.int p3), (.int jv3_8), (.int p4)]) (rest := [(.int p4)]) (pc' := 255) rfl (by rw [hml]; rfl) (lenOf pd_6 rfl) rfl rfl (W := 1) (Nat.le_of_eq rfl) (by decide) (by decide) (by decide) (by decide) (hb hby at_252) ?_
                intro v87 T87 L87 q87 X87
                rcases q87 with ⟨c87_0_0, rfl, N87_0, e87_0⟩ | ⟨c87_1_0, c87_1_1, rfl, N87_1, e87_1⟩ | ⟨c87_2_0, c87_2_1, rfl, N87_2, e87_2⟩
                · show Go _ _ _ _ (T87.setTop (mkF m 255 #[.val (.int p0), .val (.int p1), .val (.int p2), .val (.int p3), .val (.int p4), .val (.int p5), .val (.int z1_0), .val (.int z2), .val (.int jv3_8), .val (.int z6), .val (.int jv7_10), .val (.ref b8), .val (.ref b8), .val (.ref b8), .val (.ref b49_0), .val (.int 1)] [(.int p4), (.int p4)]))
                  refine Go.icmpNo X87 hx (pc' := 258) rfl (hb hby at_255) (teq rfl).2 ?_
                  refine Go.iconst X87 hx (pc' := 259) rfl (hb hby at_258) (v := (1 : Int32)) rfl ?_
                  refine Go.goto X87 hx (pc' := 263) (hb hby at_259) (by decide) (by decide) ?_
                  refine Go.istore X87 hx (pc' := 265) rfl (hb hby at_263) (Ls' := #[.val (.int p0), .val (.int p1), .val (.int p2), .val (.int p3), .val (.int p4), .val (.int p5), .val (.int z1_0), .val (.int z2), .val (.int jv3_8), .val (.int z6), .val (.int jv7_10), .val (.ref b8), .val (.ref b8), .val (.ref b8), .val (.ref b49_0), .val (.int 1)]) rfl ?_
                  refine Go.iload X87 hx (pc' := 267) rfl (hb hby at_265) rfl ?_
                  refine Go.retN X87 hx hlk (t := .boolean) hret (by simp) (hb hby at_267) (by decide) (by decide) ?_
                  exact ⟨rfl, (Fr.app (Fr.app (Fr.app (Fr.app (Fr.app (Fr.app (Fr.app (Fr.app (Fr.app Nj7 N14) N28) N44) N49) (Fr.nil n0)) N78_1) (Fr.nil n0)) (Fr.nil n0)) N87_0)⟩
                · exact absurd (own_cp_eq hz80 hz81 hz29 hz30 (own_rw jr7_10 (by decide) (by decide)) (own_rw jr3_8 (by decide) (by decide)) (hc84.symm.trans hc33) hc85.symm) c87_1_0
                · exact absurd (own_cp_eq hz80 hz81 hz29 hz30 (own_rw jr7_10 (by decide) (by decide)) (own_rw jr3_8 (by decide) (by decide)) (hc84.symm.trans hc33) hc85.symm) c87_2_0
              · by_cases hc88 : z16 = z81
                · refine Go.callV X79 hx hZ hown (tw_46 hw) (tw_47 hw) (notFace_of_selects (args := #[]) (mvT hZ (tw_49 hw))) (tw_49 hw) (tw_48 hw) (by decide) (tw_50 hw) (tw_20 hw) (gt_there l Z a0 hw b49_0 b14_0 q28a k14_0 k28a jv7_10 z80 z81 p3 ((List.replicate 4352 (.ref ga1)).set z15.toNatClampNeg (.ref q28a)) (((List.replicate 256 (.int 0)).set z16.toNatClampNeg (.int p3)).set z30.toNatClampNeg (.int p4)) h49 n0 Zn73 F49_1 fk75 fk76 hz80 hz81 r82 r83 (by rw [← hc84]; exact own_getSet (by simp only [List.length_set, List.length_replicate]; have := own_clamp r19; omega)) ((own_getSetN (own_clampne r32 r83 hc85)).trans (by rw [← hc88]; exact own_getSet (by simp only [List.length_set, List.length_replicate]; have := own_clamp r20; omega)))) e79 F49_0 (argsL := [(.int jv7_10)]) (rest := []) (pc' := 243) rfl (by rw [hml]; rfl) (lenOf pd_0 rfl) rfl rfl (W := 0) (Nat.le_of_eq rfl) (by decide) (by decide) (by decide) (by decide) (hb hby at_240) ?_
                  intro v89 T89 L89 q89 X89
                  obtain ⟨rfl, rfl, e89⟩ := q89
                  show Go _ _ _ _ (T89.setTop (mkF m 243 #[.val (.int p0), .val (.int p1), .val (.int p2), .val (.int p3), .val (.int p4), .val (.int p5), .val (.int z1_0), .val (.int z2), .val (.int jv3_8), .val (.int z6), .val (.int jv7_10), .val (.ref b8), .val (.ref b8), .val (.ref b8), .val (.ref b49_0), .val (.int 1)] [(.int p3)]))
                  refine Go.iload X89 hx (pc' := 245) rfl (hb hby at_243) rfl ?_
                  refine Go.iload X89 hx (pc' := 247) rfl (hb hby at_245) rfl ?_
                  refine Go.iloadN X89 hx (pc' := 248) rfl (hb hby at_247) rfl ?_
                  refine Go.iload X89 hx (pc' := 250) rfl (hb hby at_248) rfl ?_
                  refine Go.iload X89 hx (pc' := 252) rfl (hb hby at_250) rfl ?_
                  refine Go.callS X89 hx hZ hown (tw_51 hw) (tw_52 hw) (tw_2 hw) (tw_53 hw) (by decide) (tw_53 hw) (tw_2 hw) (au_6 l Z a0 hw jv7_10 z1_0 p3 jv3_8 p4 h49 n0 Zn73) e89 (argsL := [(.int jv7_10), (.int z1_0), (.int p3), (.int jv3_8), (.int p4)]) (rest := [(.int p3)]) (pc' := 255) rfl (by rw [hml]; rfl) (lenOf pd_6 rfl) rfl rfl (W := 1) (Nat.le_of_eq rfl) (by decide) (by decide) (by decide) (by decide) (hb hby at_252) ?_
                  intro v90 T90 L90 q90 X90
                  rcases q90 with ⟨c90_0_0, rfl, N90_0, e90_0⟩ | ⟨c90_1_0, c90_1_1, rfl, N90_1, e90_1⟩ | ⟨c90_2_0, c90_2_1, rfl, N90_2, e90_2⟩
                  · exact absurd c90_0_0 (own_cp_ne2 hz81 hz30 (fun q => (Ne.symm hc50) (Eq.trans (Eq.symm hc88.symm) (Eq.trans q rfl))))
                  · show Go _ _ _ _ (T90.setTop (mkF m 255 #[.val (.int p0), .val (.int p1), .val (.int p2), .val (.int p3), .val (.int p4), .val (.int p5), .val (.int z1_0), .val (.int z2), .val (.int jv3_8), .val (.int z6), .val (.int jv7_10), .val (.ref b8), .val (.ref b8), .val (.ref b8), .val (.ref b49_0), .val (.int 1)] [(.int p3), (.int p3)]))
                    refine Go.icmpNo X90 hx (pc' := 258) rfl (hb hby at_255) (teq rfl).2 ?_
                    refine Go.iconst X90 hx (pc' := 259) rfl (hb hby at_258) (v := (1 : Int32)) rfl ?_
                    refine Go.goto X90 hx (pc' := 263) (hb hby at_259) (by decide) (by decide) ?_
                    refine Go.istore X90 hx (pc' := 265) rfl (hb hby at_263) (Ls' := #[.val (.int p0), .val (.int p1), .val (.int p2), .val (.int p3), .val (.int p4), .val (.int p5), .val (.int z1_0), .val (.int z2), .val (.int jv3_8), .val (.int z6), .val (.int jv7_10), .val (.ref b8), .val (.ref b8), .val (.ref b8), .val (.ref b49_0), .val (.int 1)]) rfl ?_
                    refine Go.iload X90 hx (pc' := 267) rfl (hb hby at_265) rfl ?_
                    refine Go.retN X90 hx hlk (t := .boolean) hret (by simp) (hb hby at_267) (by decide) (by decide) ?_
                    exact ⟨rfl, (Fr.app (Fr.app (Fr.app (Fr.app (Fr.app (Fr.app (Fr.app (Fr.app (Fr.app Nj7 N14) N28) N44) N49) (Fr.nil n0)) N78_1) (Fr.nil n0)) (Fr.nil n0)) N90_1)⟩
                  · exact absurd (own_cp_eq hz80 hz81 hz15 hz16 (own_rw jr7_10 (by decide) (by decide)) (own_rw r18 (by decide) (by decide)) hc84.symm hc88.symm) c90_2_1
                · refine Go.callV X79 hx hZ hown (tw_46 hw) (tw_47 hw) (notFace_of_selects (args := #[]) (mvT hZ (tw_49 hw))) (tw_49 hw) (tw_48 hw) (by decide) (tw_50 hw) (tw_20 hw) (gt_there l Z a0 hw b49_0 b14_0 q28a k14_0 k28a jv7_10 z80 z81 (0 : Int32) ((List.replicate 4352 (.ref ga1)).set z15.toNatClampNeg (.ref q28a)) (((List.replicate 256 (.int 0)).set z16.toNatClampNeg (.int p3)).set z30.toNatClampNeg (.int p4)) h49 n0 Zn73 F49_1 fk75 fk76 hz80 hz81 r82 r83 (by rw [← hc84]; exact own_getSet (by simp only [List.length_set, List.length_replicate]; have := own_clamp r19; omega)) (((own_getSetN (own_clampne r32 r83 hc85)).trans (own_getSetN (own_clampne r20 r83 hc88))).trans (own_getRep (by have := own_clamp r83; omega)))) e79 F49_0 (argsL := [(.int jv7_10)]) (rest := []) (pc' := 243) rfl (by rw [hml]; rfl) (lenOf pd_0 rfl) rfl rfl (W := 0) (Nat.le_of_eq rfl) (by decide) (by decide) (by decide) (by decide) (hb hby at_240) ?_
                  intro v91 T91 L91 q91 X91
                  obtain ⟨rfl, rfl, e91⟩ := q91
                  show Go _ _ _ _ (T91.setTop (mkF m 243 #[.val (.int p0), .val (.int p1), .val (.int p2), .val (.int p3), .val (.int p4), .val (.int p5), .val (.int z1_0), .val (.int z2), .val (.int jv3_8), .val (.int z6), .val (.int jv7_10), .val (.ref b8), .val (.ref b8), .val (.ref b8), .val (.ref b49_0), .val (.int 1)] [(.int 0)]))
                  refine Go.iload X91 hx (pc' := 245) rfl (hb hby at_243) rfl ?_
                  refine Go.iload X91 hx (pc' := 247) rfl (hb hby at_245) rfl ?_
                  refine Go.iloadN X91 hx (pc' := 248) rfl (hb hby at_247) rfl ?_
                  refine Go.iload X91 hx (pc' := 250) rfl (hb hby at_248) rfl ?_
                  refine Go.iload X91 hx (pc' := 252) rfl (hb hby at_250) rfl ?_
                  refine Go.callS X91 hx hZ hown (tw_51 hw) (tw_52 hw) (tw_2 hw) (tw_53 hw) (by decide) (tw_53 hw) (tw_2 hw) (au_6 l Z a0 hw jv7_10 z1_0 p3 jv3_8 p4 h49 n0 Zn73) e91 (argsL := [(.int jv7_10), (.int z1_0), (.int p3), (.int jv3_8), (.int p4)]) (rest := [(.int 0)]) (pc' := 255) rfl (by rw [hml]; rfl) (lenOf pd_6 rfl) rfl rfl (W := 1) (Nat.le_of_eq rfl) (by decide) (by decide) (by decide) (by decide) (hb hby at_252) ?_
                  intro v92 T92 L92 q92 X92
                  rcases q92 with ⟨c92_0_0, rfl, N92_0, e92_0⟩ | ⟨c92_1_0, c92_1_1, rfl, N92_1, e92_1⟩ | ⟨c92_2_0, c92_2_1, rfl, N92_2, e92_2⟩
                  · exact absurd c92_0_0 (own_cp_ne2 hz81 hz30 (Ne.symm hc85))
                  · exact absurd c92_1_1 (own_cp_ne2 hz81 hz16 (Ne.symm hc88))
                  · show Go _ _ _ _ (T92.setTop (mkF m 255 #[.val (.int p0), .val (.int p1), .val (.int p2), .val (.int p3), .val (.int p4), .val (.int p5), .val (.int z1_0), .val (.int z2), .val (.int jv3_8), .val (.int z6), .val (.int jv7_10), .val (.ref b8), .val (.ref b8), .val (.ref b8), .val (.ref b49_0), .val (.int 1)] [(.int 0), (.int 0)]))
                    refine Go.icmpNo X92 hx (pc' := 258) rfl (hb hby at_255) (by decide) ?_
                    refine Go.iconst X92 hx (pc' := 259) rfl (hb hby at_258) (v := (1 : Int32)) rfl ?_
                    refine Go.goto X92 hx (pc' := 263) (hb hby at_259) (by decide) (by decide) ?_
                    refine Go.istore X92 hx (pc' := 265) rfl (hb hby at_263) (Ls' := #[.val (.int p0), .val (.int p1), .val (.int p2), .val (.int p3), .val (.int p4), .val (.int p5), .val (.int z1_0), .val (.int z2), .val (.int jv3_8), .val (.int z6), .val (.int jv7_10), .val (.ref b8), .val (.ref b8), .val (.ref b8), .val (.ref b49_0), .val (.int 1)]) rfl ?_
                    refine Go.iload X92 hx (pc' := 267) rfl (hb hby at_265) rfl ?_
                    refine Go.retN X92 hx hlk (t := .boolean) hret (by simp) (hb hby at_267) (by decide) (by decide) ?_
                    exact ⟨rfl, (Fr.app (Fr.app (Fr.app (Fr.app (Fr.app (Fr.app (Fr.app (Fr.app (Fr.app Nj7 N14) N28) N44) N49) (Fr.nil n0)) N78_1) (Fr.nil n0)) (Fr.nil n0)) N92_2)⟩
            · have O94 := (O38.keep K44 (allS ge39 all0))
              have O95 := (O94.keep K49 all0)
              have fk93 : Arv Z h49 ga1 gkp .int (256 : Int32) (List.replicate 256 (.int 0)) (.int 0) := G2.ext O95.2
              refine Go.callV X79 hx hZ hown (tw_46 hw) (tw_47 hw) (notFace_of_selects (args := #[]) (mvT hZ (tw_49 hw))) (tw_49 hw) (tw_48 hw) (by decide) (tw_50 hw) (tw_20 hw) (gt_there l Z a0 hw b49_0 b14_0 ga1 k14_0 gkp jv7_10 z80 z81 (0 : Int32) ((List.replicate 4352 (.ref ga1)).set z15.toNatClampNeg (.ref q28a)) (List.replicate 256 (.int 0)) h49 n0 Zn73 F49_1 fk75 fk93 hz80 hz81 r82 r83 ((own_getSetN (own_clampne r19 r82 hc84)).trans (own_getRep (by have := own_clamp r82; omega))) (own_getRep (by have := own_clamp r83; omega))) e79 F49_0 (argsL := [(.int jv7_10)]) (rest := []) (pc' := 243) rfl (by rw [hml]; rfl) (lenOf pd_0 rfl) rfl rfl (W := 0) (Nat.le_of_eq rfl) (by decide) (by decide) (by decide) (by decide) (hb hby at_240) ?_
              intro v96 T96 L96 q96 X96
              obtain ⟨rfl, rfl, e96⟩ := q96
              show Go _ _ _ _ (T96.setTop (mkF m 243 #[.val (.int p0), .val (.int p1), .val (.int p2), .val (.int p3), .val (.int p4), .val (.int p5), .val (.int z1_0), .val (.int z2), .val (.int jv3_8), .val (.int z6), .val (.int jv7_10), .val (.ref b8), .val (.ref b8), .val (.ref b8), .val (.ref b49_0), .val (.int 1)] [(.int 0)]))
              refine Go.iload X96 hx (pc' := 245) rfl (hb hby at_243) rfl ?_
              refine Go.iload X96 hx (pc' := 247) rfl (hb hby at_245) rfl ?_
              refine Go.iloadN X96 hx (pc' := 248) rfl (hb hby at_247) rfl ?_
              refine Go.iload X96 hx (pc' := 250) rfl (hb hby at_248) rfl ?_
              refine Go.iload X96 hx (pc' := 252) rfl (hb hby at_250) rfl ?_
              refine Go.callS X96 hx hZ hown (tw_51 hw) (tw_52 hw) (tw_2 hw) (tw_53 hw) (by decide) (tw_53 hw) (tw_2 hw) (au_6 l Z a0 hw jv7_10 z1_0 p3 jv3_8 p4 h49 n0 Zn73) e96 (argsL := [(.int jv7_10), (.int z1_0), (.int p3), (.int jv3_8), (.int p4)]) (rest := [(.int 0)]) (pc' := 255) rfl (by rw [hml]; rfl) (lenOf pd_6 rfl) rfl rfl (W := 1) (Nat.le_of_eq rfl) (by decide) (by decide) (by decide) (by decide) (hb hby at_252) ?_
              intro v97 T97 L97 q97 X97
              rcases q97 with ⟨c97_0_0, rfl, N97_0, e97_0⟩ | ⟨c97_1_0, c97_1_1, rfl, N97_1, e97_1⟩ | ⟨c97_2_0, c97_2_1, rfl, N97_2, e97_2⟩
              · exact absurd c97_0_0 (own_cp_ne1 hz80 hz29 (fun q => (Ne.symm hc84) (Eq.trans (Eq.symm rfl) (Eq.trans q hc33.symm))))
              · exact absurd c97_1_1 (own_cp_ne1 hz80 hz15 (Ne.symm hc84))
              · show Go _ _ _ _ (T97.setTop (mkF m 255 #[.val (.int p0), .val (.int p1), .val (.int p2), .val (.int p3), .val (.int p4), .val (.int p5), .val (.int z1_0), .val (.int z2), .val (.int jv3_8), .val (.int z6), .val (.int jv7_10), .val (.ref b8), .val (.ref b8), .val (.ref b8), .val (.ref b49_0), .val (.int 1)] [(.int 0), (.int 0)]))
                refine Go.icmpNo X97 hx (pc' := 258) rfl (hb hby at_255) (by decide) ?_
                refine Go.iconst X97 hx (pc' := 259) rfl (hb hby at_258) (v := (1 : Int32)) rfl ?_
                refine Go.goto X97 hx (pc' := 263) (hb hby at_259) (by decide) (by decide) ?_
                refine Go.istore X97 hx (pc' := 265) rfl (hb hby at_263) (Ls' := #[.val (.int p0), .val (.int p1), .val (.int p2), .val (.int p3), .val (.int p4), .val (.int p5), .val (.int z1_0), .val (.int z2), .val (.int jv3_8), .val (.int z6), .val (.int jv7_10), .val (.ref b8), .val (.ref b8), .val (.ref b8), .val (.ref b49_0), .val (.int 1)]) rfl ?_
                refine Go.iload X97 hx (pc' := 267) rfl (hb hby at_265) rfl ?_
                refine Go.retN X97 hx hlk (t := .boolean) hret (by simp) (hb hby at_267) (by decide) (by decide) ?_
                exact ⟨rfl, (Fr.app (Fr.app (Fr.app (Fr.app (Fr.app (Fr.app (Fr.app (Fr.app (Fr.app Nj7 N14) N28) N44) N49) (Fr.nil n0)) N78_1) (Fr.nil n0)) (Fr.nil n0)) N97_2)⟩
      · have Kp99 : Keep h0 h28 [] := (Kp22.trans K28 (allS (Or.inr sz26) all0))
        have Zn98 : n0 ≤ h28.size := Nat.le_trans Z0 Kp99.1
        have fk100 : Fld Z h28 b8 "com/example/tough_filter/toughfilter/CodePointTable$Builder" "pages" "[[I" (.ref b14_0) := (F14_1.keep K28 (ninS ne27 nin0))
        have O102 := (O24.keep K28 (allS ge25 all0))
        have fk101 : Sta Z h28 "com/example/tough_filter/toughfilter/CodePointTable" "EMPTY_PAGE" "[I" (.ref ga1) := G0.ext O102.2
        have fk103 : Exa Z h28 b8 "com/example/tough_filter/toughfilter/CodePointTable$Builder" := (F14_0.keep K28)
        refine Go.callV X28 hx hZ hown (tw_27 hw) (tw_28 hw) (notFace_of_selects (args := #[]) (mvT hZ (tw_30 hw))) (tw_30 hw) (tw_29 hw) (by decide) (tw_31 hw) (tw_8 hw) (st_fresh l Z a0 hw b8 b14_0 ga1 k14_0 jv3_8 p4 z29 z30 ((List.replicate 4352 (.ref ga1)).set z15.toNatClampNeg (.ref q28a)) h28 n0 Zn98 fk100 V28a fk101 c14_0 (by simp) hz29 hz30 r31 r32 ((own_getSetN (own_clampne r19 r31 hc33)).trans (own_getRep (by have := own_clamp r31; omega))) ge25 ne27) e28 fk103 (argsL := [(.int jv3_8), (.int p4)]) (rest := []) (pc' := 143) rfl (by rw [hml]; rfl) (lenOf pd_3 rfl) rfl rfl (W := 0) (Nat.le_of_eq rfl) (by decide) (by decide) (by decide) (by decide) (hb hby at_140) ?_
        intro v104 T104 L104 q104 X104
        obtain ⟨h104, e104⟩ : ∃ z, T104.heap = z := ⟨_, rfl⟩
        rw [e104] at q104
        obtain ⟨rfl, N104, K104, q104a, k104a, sz104a, V104a, M104a⟩ := q104
        show Go _ _ _ _ (T104.setTop (mkF m 143 #[.val (.int p0), .val (.int p1), .val (.int p2), .val (.int p3), .val (.int p4), .val (.int p5), .val (.int z1_0), .val (.int z2), .val (.int jv3_8), .val (.int z6), .val (.int jv7_10), .val (.ref b8), .val (.ref b8), .unset, .unset, .unset] [(.ref b8)]))
        refine Go.astore X104 hx (pc' := 145) rfl (hb hby at_143) (Ls' := #[.val (.int p0), .val (.int p1), .val (.int p2), .val (.int p3), .val (.int p4), .val (.int p5), .val (.int z1_0), .val (.int z2), .val (.int jv3_8), .val (.int z6), .val (.int jv7_10), .val (.ref b8), .val (.ref b8), .val (.ref b8), .unset, .unset]) rfl rfl ?_
        refine Go.aload X104 hx (pc' := 147) rfl (hb hby at_145) rfl rfl ?_
        have Kp106 : Keep h0 h104 [] := (Kp99.trans K104 (allS (Or.inr sz26) all0))
        have Zn105 : n0 ≤ h104.size := Nat.le_trans Z0 Kp106.1
        have fk107 : Fld Z h104 b8 "com/example/tough_filter/toughfilter/CodePointTable$Builder" "pages" "[[I" (.ref b14_0) := (fk100.keep K104 (ninS ne27 nin0))
        have fk108 : Exa Z h104 b8 "com/example/tough_filter/toughfilter/CodePointTable$Builder" := (fk103.keep K104)
        refine Go.callV X104 hx hZ hown (tw_33 hw) (tw_34 hw) (notFace_of_selects (args := #[]) (mvT hZ (tw_36 hw))) (tw_36 hw) (tw_35 hw) (by decide) (tw_37 hw) (tw_8 hw) (au_3 l Z a0 hw b8 b14_0 h104 n0 Zn105 fk107) e104 fk108 (argsL := []) (rest := []) (pc' := 150) rfl (by rw [hml]; rfl) (lenOf pd_5 rfl) rfl rfl (W := 0) (Nat.le_of_eq rfl) (by decide) (by decide) (by decide) (by decide) (hb hby at_147) ?_
        intro v109 T109 L109 q109 X109
        obtain ⟨h109, e109⟩ : ∃ z, T109.heap = z := ⟨_, rfl⟩
        rw [e109] at q109
        obtain ⟨b109_0, rfl, N109, K109, s109_0, F109_0, F109_1⟩ := q109
        show Go _ _ _ _ (T109.setTop (mkF m 150 #[.val (.int p0), .val (.int p1), .val (.int p2), .val (.int p3), .val (.int p4), .val (.int p5), .val (.int z1_0), .val (.int z2), .val (.int jv3_8), .val (.int z6), .val (.int jv7_10), .val (.ref b8), .val (.ref b8), .val (.ref b8), .unset, .unset] [(.ref b109_0)]))
        refine Go.astore X109 hx (pc' := 152) rfl (hb hby at_150) (Ls' := #[.val (.int p0), .val (.int p1), .val (.int p2), .val (.int p3), .val (.int p4), .val (.int p5), .val (.int z1_0), .val (.int z2), .val (.int jv3_8), .val (.int z6), .val (.int jv7_10), .val (.ref b8), .val (.ref b8), .val (.ref b8), .val (.ref b109_0), .unset]) rfl rfl ?_
        refine Go.aload X109 hx (pc' := 154) rfl (hb hby at_152) rfl rfl ?_
        refine Go.aload X109 hx (pc' := 156) rfl (hb hby at_154) rfl rfl ?_
        refine Go.acmp X109 hx (pc' := 159) (same := true) (hb hby at_156) rfl rfl (decide_eq_true rfl) (by decide) (by decide) ?_
        refine Go.aload X109 hx (pc' := 161) rfl (hb hby at_159) rfl rfl ?_
        refine Go.aload X109 hx (pc' := 163) rfl (hb hby at_161) rfl rfl ?_
        refine Go.acmp X109 hx (pc' := 166) (same := true) (hb hby at_163) rfl rfl (decide_eq_true rfl) (by decide) (by decide) ?_
        refine Go.iconst X109 hx (pc' := 167) rfl (hb hby at_166) (v := (1 : Int32)) rfl ?_
        refine Go.goto X109 hx (pc' := 171) (hb hby at_167) (by decide) (by decide) ?_
        refine Go.istore X109 hx (pc' := 173) rfl (hb hby at_171) (Ls' := #[.val (.int p0), .val (.int p1), .val (.int p2), .val (.int p3), .val (.int p4), .val (.int p5), .val (.int z1_0), .val (.int z2), .val (.int jv3_8), .val (.int z6), .val (.int jv7_10), .val (.ref b8), .val (.ref b8), .val (.ref b8), .val (.ref b109_0), .val (.int 1)]) rfl ?_
        refine Go.iload X109 hx (pc' := 175) rfl (hb hby at_173) rfl ?_
        refine Go.ifNo X109 hx (pc' := 178) rfl (hb hby at_175) (by decide) ?_
        refine Go.aload X109 hx (pc' := 180) rfl (hb hby at_178) rfl rfl ?_
        refine Go.iload X109 hx (pc' := 182) rfl (hb hby at_180) rfl ?_
        have Kp111 : Keep h0 h109 [] := (Kp106.trans K109 all0)
        have Zn110 : n0 ≤ h109.size := Nat.le_trans Z0 Kp111.1
        have fk112 := (V104a.keep K109 nin0)
        have ne113 : b14_0 ≠ q28a := Nat.ne_of_lt (Nat.lt_of_lt_of_le F14_3.lt sz28a)
        have fk114 := ((M28a.keep K104 (ninS (Ne.symm ne113) nin0)).keep K109 nin0)
        refine Go.callV X109 hx hZ hown (tw_46 hw) (tw_47 hw) (notFace_of_selects (args := #[]) (mvT hZ (tw_49 hw))) (tw_49 hw) (tw_48 hw) (by decide) (tw_50 hw) (tw_20 hw) (gt_there l Z a0 hw b109_0 b14_0 q28a k14_0 k28a z1_0 z15 z16 p3 (((List.replicate 4352 (.ref ga1)).set z15.toNatClampNeg (.ref q28a)).set z29.toNatClampNeg (.ref q104a)) ((List.replicate 256 (.int 0)).set z16.toNatClampNeg (.int p3)) h109 n0 Zn110 F109_1 fk112 fk114 hz15 hz16 r19 r20 ((own_getSetN (own_clampne r31 r19 (Ne.symm hc33))).trans (own_getSet (by simp only [List.length_set, List.length_replicate]; have := own_clamp r19; omega))) (own_getSet (by simp only [List.length_set, List.length_replicate]; have := own_clamp r20; omega))) e109 F109_0 (argsL := [(.int z1_0)]) (rest := []) (pc' := 185) rfl (by rw [hml]; rfl) (lenOf pd_0 rfl) rfl rfl (W := 0) (Nat.le_of_eq rfl) (by decide) (by decide) (by decide) (by decide) (hb hby at_182) ?_
        intro v115 T115 L115 q115 X115
        obtain ⟨rfl, rfl, e115⟩ := q115
        show Go _ _ _ _ (T115.setTop (mkF m 185 #[.val (.int p0), .val (.int p1), .val (.int p2), .val (.int p3), .val (.int p4), .val (.int p5), .val (.int z1_0), .val (.int z2), .val (.int jv3_8), .val (.int z6), .val (.int jv7_10), .val (.ref b8), .val (.ref b8), .val (.ref b8), .val (.ref b109_0), .val (.int 1)] [(.int p3)]))
        refine Go.iload X115 hx (pc' := 187) rfl (hb hby at_185) rfl ?_
        refine Go.iload X115 hx (pc' := 189) rfl (hb hby at_187) rfl ?_
        refine Go.iloadN X115 hx (pc' := 190) rfl (hb hby at_189) rfl ?_
        refine Go.iload X115 hx (pc' := 192) rfl (hb hby at_190) rfl ?_
        refine Go.iload X115 hx (pc' := 194) rfl (hb hby at_192) rfl ?_
        refine Go.callS X115 hx hZ hown (tw_51 hw) (tw_52 hw) (tw_2 hw) (tw_53 hw) (by decide) (tw_53 hw) (tw_2 hw) (au_5 l Z a0 hw z1_0 p3 jv3_8 p4 h109 n0 Zn110) e115 (argsL := [(.int z1_0), (.int z1_0), (.int p3), (.int jv3_8), (.int p4)]) (rest := [(.int p3)]) (pc' := 197) rfl (by rw [hml]; rfl) (lenOf pd_6 rfl) rfl rfl (W := 1) (Nat.le_of_eq rfl) (by decide) (by decide) (by decide) (by decide) (hb hby at_194) ?_
        intro v116 T116 L116 q116 X116
        rcases q116 with ⟨c116_0_0, rfl, N116_0, e116_0⟩ | ⟨c116_1_0, rfl, N116_1, e116_1⟩
        · exact absurd c116_0_0 (own_cp_ne1 hz15 hz29 hc33)
        · show Go _ _ _ _ (T116.setTop (mkF m 197 #[.val (.int p0), .val (.int p1), .val (.int p2), .val (.int p3), .val (.int p4), .val (.int p5), .val (.int z1_0), .val (.int z2), .val (.int jv3_8), .val (.int z6), .val (.int jv7_10), .val (.ref b8), .val (.ref b8), .val (.ref b8), .val (.ref b109_0), .val (.int 1)] [(.int p3), (.int p3)]))
          refine Go.icmpNo X116 hx (pc' := 200) rfl (hb hby at_197) (teq rfl).2 ?_
          refine Go.iconst X116 hx (pc' := 201) rfl (hb hby at_200) (v := (1 : Int32)) rfl ?_
          refine Go.goto X116 hx (pc' := 205) (hb hby at_201) (by decide) (by decide) ?_
          refine Go.istore X116 hx (pc' := 207) rfl (hb hby at_205) (Ls' := #[.val (.int p0), .val (.int p1), .val (.int p2), .val (.int p3), .val (.int p4), .val (.int p5), .val (.int z1_0), .val (.int z2), .val (.int jv3_8), .val (.int z6), .val (.int jv7_10), .val (.ref b8), .val (.ref b8), .val (.ref b8), .val (.ref b109_0), .val (.int 1)]) rfl ?_
          refine Go.iload X116 hx (pc' := 209) rfl (hb hby at_207) rfl ?_
          refine Go.ifNo X116 hx (pc' := 212) rfl (hb hby at_209) (by decide) ?_
          refine Go.aload X116 hx (pc' := 214) rfl (hb hby at_212) rfl rfl ?_
          refine Go.iload X116 hx (pc' := 216) rfl (hb hby at_214) rfl ?_
          have fk117 := (M104a.keep K109 nin0)
          refine Go.callV X116 hx hZ hown (tw_46 hw) (tw_47 hw) (notFace_of_selects (args := #[]) (mvT hZ (tw_49 hw))) (tw_49 hw) (tw_48 hw) (by decide) (tw_50 hw) (tw_20 hw) (gt_there l Z a0 hw b109_0 b14_0 q104a k14_0 k104a jv3_8 z29 z30 p4 (((List.replicate 4352 (.ref ga1)).set z15.toNatClampNeg (.ref q28a)).set z29.toNatClampNeg (.ref q104a)) ((List.replicate 256 (.int 0)).set z30.toNatClampNeg (.int p4)) h109 n0 Zn110 F109_1 fk112 fk117 hz29 hz30 r31 r32 (own_getSet (by simp only [List.length_set, List.length_replicate]; have := own_clamp r31; omega)) (own_getSet (by simp only [List.length_set, List.length_replicate]; have := own_clamp r32; omega))) e116_1 F109_0 (argsL := [(.int jv3_8)]) (rest := []) (pc' := 219) rfl (by rw [hml]; rfl) (lenOf pd_0 rfl) rfl rfl (W := 0) (Nat.le_of_eq rfl) (by decide) (by decide) (by decide) (by decide) (hb hby at_216) ?_
          intro v118 T118 L118 q118 X118
          obtain ⟨rfl, rfl, e118⟩ := q118
          show Go _ _ _ _ (T118.setTop (mkF m 219 #[.val (.int p0), .val (.int p1), .val (.int p2), .val (.int p3), .val (.int p4), .val (.int p5), .val (.int z1_0), .val (.int z2), .val (.int jv3_8), .val (.int z6), .val (.int jv7_10), .val (.ref b8), .val (.ref b8), .val (.ref b8), .val (.ref b109_0), .val (.int 1)] [(.int p4)]))
          refine Go.iload X118 hx (pc' := 221) rfl (hb hby at_219) rfl ?_
          refine Go.icmpNo X118 hx (pc' := 224) rfl (hb hby at_221) (teq rfl).2 ?_
          refine Go.iconst X118 hx (pc' := 225) rfl (hb hby at_224) (v := (1 : Int32)) rfl ?_
          refine Go.goto X118 hx (pc' := 229) (hb hby at_225) (by decide) (by decide) ?_
          refine Go.istore X118 hx (pc' := 231) rfl (hb hby at_229) (Ls' := #[.val (.int p0), .val (.int p1), .val (.int p2), .val (.int p3), .val (.int p4), .val (.int p5), .val (.int z1_0), .val (.int z2), .val (.int jv3_8), .val (.int z6), .val (.int jv7_10), .val (.ref b8), .val (.ref b8), .val (.ref b8), .val (.ref b109_0), .val (.int 1)]) rfl ?_
          refine Go.iload X118 hx (pc' := 233) rfl (hb hby at_231) rfl ?_
          refine Go.ifNo X118 hx (pc' := 236) rfl (hb hby at_233) (by decide) ?_
          refine Go.aload X118 hx (pc' := 238) rfl (hb hby at_236) rfl rfl ?_
          refine Go.iload X118 hx (pc' := 240) rfl (hb hby at_238) rfl ?_
          obtain ⟨z119, hz119⟩ : ∃ y, ((jv7_10.toUInt32 >>> ((8 : Int32) &&& 31).toUInt32).toInt32) = y := ⟨_, rfl⟩
          obtain ⟨z120, hz120⟩ : ∃ y, (jv7_10 &&& (255 : Int32)) = y := ⟨_, rfl⟩
          have r121 : 0 ≤ z119.toInt ∧ z119.toInt ≤ 4351 := own_rpg hz119 (own_rw jr7_10 (by decide) (by decide))
          have r122 : 0 ≤ z120.toInt ∧ z120.toInt ≤ 255 := own_rand hz120 (by decide)
          by_cases hc123 : z29 = z119
          · by_cases hc124 : z30 = z120
            · refine Go.callV X118 hx hZ hown (tw_46 hw) (tw_47 hw) (notFace_of_selects (args := #[]) (mvT hZ (tw_49 hw))) (tw_49 hw) (tw_48 hw) (by decide) (tw_50 hw) (tw_20 hw) (gt_there l Z a0 hw b109_0 b14_0 q104a k14_0 k104a jv7_10 z119 z120 p4 (((List.replicate 4352 (.ref ga1)).set z15.toNatClampNeg (.ref q28a)).set z29.toNatClampNeg (.ref q104a)) ((List.replicate 256 (.int 0)).set z30.toNatClampNeg (.int p4)) h109 n0 Zn110 F109_1 fk112 fk117 hz119 hz120 r121 r122 (by rw [← hc123]; exact own_getSet (by simp only [List.length_set, List.length_replicate]; have := own_clamp r31; omega)) (by rw [← hc124]; exact own_getSet (by simp only [List.length_set, List.length_replicate]; have := own_clamp r32; omega))) e118 F109_0 (argsL := [(.int jv7_10)]) (rest := []) (pc' := 243) rfl (by rw [hml]; rfl) (lenOf pd_0 rfl) rfl rfl (W := 0) (Nat.le_of_eq rfl) (by decide) (by decide) (by decide) (by decide) (hb hby at_240) ?_
              intro v125 T125 L125 q125 X125
              obtain ⟨rfl, rfl, e125⟩ := q125
              show Go _ _ _ _ (T125.setTop (mkF m 243 #[.val (.int p0), .val (.int p1), .val (.int p2), .val (.int p3), .val (.int p4), .val (.int p5), .val (.int z1_0), .val (.int z2), .val (.int jv3_8), .val (.int z6), .val (.int jv7_10), .val (.ref b8), .val (.ref b8), .val (.ref b8), .val (.ref b109_0), .val (.int 1)] [(.int p4)]))
              refine Go.iload X125 hx (pc' := 245) rfl (hb hby at_243) rfl ?_
              refine Go.iload X125 hx (pc' := 247) rfl (hb hby at_245) rfl ?_
              refine Go.iloadN X125 hx (pc' := 248) rfl (hb hby at_247) rfl ?_
              refine Go.iload X125 hx (pc' := 250) rfl (hb hby at_248) rfl ?_
              refine Go.iload X125 hx (pc' := 252) rfl (hb hby at_250) rfl ?_
              refine Go.callS X125 hx hZ hown (tw_51 hw) (tw_52 hw) (tw_2 hw) (tw_53 hw) (by decide) (tw_53 hw) (tw_2 hw) (au_6 l Z a0 hw jv7_10 z1_0 p3 jv3_8 p4 h109 n0 Zn110) e125 (argsL := [(.int jv7_10), (.int z1_0), (.int p3), (.int jv3_8), (.int p4)]) (rest := [(.int p4)]) (pc' := 255) rfl (by rw [hml]; rfl) (lenOf pd_6 rfl) rfl rfl (W := 1) (Nat.le_of_eq rfl) (by decide) (by decide) (by decide) (by decide) (hb hby at_252) ?_
              intro v126 T126 L126 q126 X126
              rcases q126 with ⟨c126_0_0, rfl, N126_0, e126_0⟩ | ⟨c126_1_0, c126_1_1, rfl, N126_1, e126_1⟩ | ⟨c126_2_0, c126_2_1, rfl, N126_2, e126_2⟩
              · show Go _ _ _ _ (T126.setTop (mkF m 255 #[.val (.int p0), .val (.int p1), .val (.int p2), .val (.int p3), .val (.int p4), .val (.int p5), .val (.int z1_0), .val (.int z2), .val (.int jv3_8), .val (.int z6), .val (.int jv7_10), .val (.ref b8), .val (.ref b8), .val (.ref b8), .val (.ref b109_0), .val (.int 1)] [(.int p4), (.int p4)]))
                refine Go.icmpNo X126 hx (pc' := 258) rfl (hb hby at_255) (teq rfl).2 ?_
                refine Go.iconst X126 hx (pc' := 259) rfl (hb hby at_258) (v := (1 : Int32)) rfl ?_
                refine Go.goto X126 hx (pc' := 263) (hb hby at_259) (by decide) (by decide) ?_
                refine Go.istore X126 hx (pc' := 265) rfl (hb hby at_263) (Ls' := #[.val (.int p0), .val (.int p1), .val (.int p2), .val (.int p3), .val (.int p4), .val (.int p5), .val (.int z1_0), .val (.int z2), .val (.int jv3_8), .val (.int z6), .val (.int jv7_10), .val (.ref b8), .val (.ref b8), .val (.ref b8), .val (.ref b109_0), .val (.int 1)]) rfl ?_
                refine Go.iload X126 hx (pc' := 267) rfl (hb hby at_265) rfl ?_
                refine Go.retN X126 hx hlk (t := .boolean) hret (by simp) (hb hby at_267) (by decide) (by decide) ?_
                exact ⟨rfl, (Fr.app (Fr.app (Fr.app (Fr.app (Fr.app (Fr.app (Fr.app (Fr.app (Fr.app Nj7 N14) N28) N104) N109) (Fr.nil n0)) N116_1) (Fr.nil n0)) (Fr.nil n0)) N126_0)⟩
              · exact absurd (own_cp_eq hz119 hz120 hz29 hz30 (own_rw jr7_10 (by decide) (by decide)) (own_rw jr3_8 (by decide) (by decide)) hc123.symm hc124.symm) c126_1_0
              · exact absurd (own_cp_eq hz119 hz120 hz29 hz30 (own_rw jr7_10 (by decide) (by decide)) (own_rw jr3_8 (by decide) (by decide)) hc123.symm hc124.symm) c126_2_0
            · refine Go.callV X118 hx hZ hown (tw_46 hw) (tw_47 hw) (notFace_of_selects (args := #[]) (mvT hZ (tw_49 hw))) (tw_49 hw) (tw_48 hw) (by decide) (tw_50 hw) (tw_20 hw) (gt_there l Z a0 hw b109_0 b14_0 q104a k14_0 k104a jv7_10 z119 z120 (0 : Int32) (((List.replicate 4352 (.ref ga1)).set z15.toNatClampNeg (.ref q28a)).set z29.toNatClampNeg (.ref q104a)) ((List.replicate 256 (.int 0)).set z30.toNatClampNeg (.int p4)) h109 n0 Zn110 F109_1 fk112 fk117 hz119 hz120 r121 r122 (by rw [← hc123]; exact own_getSet (by simp only [List.length_set, List.length_replicate]; have := own_clamp r31; omega)) ((own_getSetN (own_clampne r32 r122 hc124)).trans (own_getRep (by have := own_clamp r122; omega)))) e118 F109_0 (argsL := [(.int jv7_10)]) (rest := []) (pc' := 243) rfl (by rw [hml]; rfl) (lenOf pd_0 rfl) rfl rfl (W := 0) (Nat.le_of_eq rfl) (by decide) (by decide) (by decide) (by decide) (hb hby at_240) ?_
              intro v127 T127 L127 q127 X127
              obtain ⟨rfl, rfl, e127⟩ := q127
              show Go _ _ _ _ (T127.setTop (mkF m 243 #[.val (.int p0), .val (.int p1), .val (.int p2), .val (.int p3), .val (.int p4), .val (.int p5), .val (.int z1_0), .val (.int z2), .val (.int jv3_8), .val (.int z6), .val (.int jv7_10), .val (.ref b8), .val (.ref b8), .val (.ref b8), .val (.ref b109_0), .val (.int 1)] [(.int 0)]))
              refine Go.iload X127 hx (pc' := 245) rfl (hb hby at_243) rfl ?_
              refine Go.iload X127 hx (pc' := 247) rfl (hb hby at_245) rfl ?_
              refine Go.iloadN X127 hx (pc' := 248) rfl (hb hby at_247) rfl ?_
              refine Go.iload X127 hx (pc' := 250) rfl (hb hby at_248) rfl ?_
              refine Go.iload X127 hx (pc' := 252) rfl (hb hby at_250) rfl ?_
              refine Go.callS X127 hx hZ hown (tw_51 hw) (tw_52 hw) (tw_2 hw) (tw_53 hw) (by decide) (tw_53 hw) (tw_2 hw) (au_6 l Z a0 hw jv7_10 z1_0 p3 jv3_8 p4 h109 n0 Zn110) e127 (argsL := [(.int jv7_10), (.int z1_0), (.int p3), (.int jv3_8), (.int p4)]) (rest := [(.int 0)]) (pc' := 255) rfl (by rw [hml]; rfl) (lenOf pd_6 rfl) rfl rfl (W := 1) (Nat.le_of_eq rfl) (by decide) (by decide) (by decide) (by decide) (hb hby at_252) ?_
              intro v128 T128 L128 q128 X128
              rcases q128 with ⟨c128_0_0, rfl, N128_0, e128_0⟩ | ⟨c128_1_0, c128_1_1, rfl, N128_1, e128_1⟩ | ⟨c128_2_0, c128_2_1, rfl, N128_2, e128_2⟩
              · exact absurd c128_0_0 (own_cp_ne2 hz120 hz30 (Ne.symm hc124))
              · exact absurd c128_1_1 (own_cp_ne1 hz119 hz15 (fun q => (Ne.symm hc33) (Eq.trans (Eq.symm hc123.symm) (Eq.trans q rfl))))
              · show Go _ _ _ _ (T128.setTop (mkF m 255 #[.val (.int p0), .val (.int p1), .val (.int p2), .val (.int p3), .val (.int p4), .val (.int p5), .val (.int z1_0), .val (.int z2), .val (.int jv3_8), .val (.int z6), .val (.int jv7_10), .val (.ref b8), .val (.ref b8), .val (.ref b8), .val (.ref b109_0), .val (.int 1)] [(.int 0), (.int 0)]))
                refine Go.icmpNo X128 hx (pc' := 258) rfl (hb hby at_255) (by decide) ?_
                refine Go.iconst X128 hx (pc' := 259) rfl (hb hby at_258) (v := (1 : Int32)) rfl ?_
                refine Go.goto X128 hx (pc' := 263) (hb hby at_259) (by decide) (by decide) ?_
                refine Go.istore X128 hx (pc' := 265) rfl (hb hby at_263) (Ls' := #[.val (.int p0), .val (.int p1), .val (.int p2), .val (.int p3), .val (.int p4), .val (.int p5), .val (.int z1_0), .val (.int z2), .val (.int jv3_8), .val (.int z6), .val (.int jv7_10), .val (.ref b8), .val (.ref b8), .val (.ref b8), .val (.ref b109_0), .val (.int 1)]) rfl ?_
                refine Go.iload X128 hx (pc' := 267) rfl (hb hby at_265) rfl ?_
                refine Go.retN X128 hx hlk (t := .boolean) hret (by simp) (hb hby at_267) (by decide) (by decide) ?_
                exact ⟨rfl, (Fr.app (Fr.app (Fr.app (Fr.app (Fr.app (Fr.app (Fr.app (Fr.app (Fr.app Nj7 N14) N28) N104) N109) (Fr.nil n0)) N116_1) (Fr.nil n0)) (Fr.nil n0)) N128_2)⟩
          · by_cases hc129 : z15 = z119
            · by_cases hc130 : z16 = z120
              · refine Go.callV X118 hx hZ hown (tw_46 hw) (tw_47 hw) (notFace_of_selects (args := #[]) (mvT hZ (tw_49 hw))) (tw_49 hw) (tw_48 hw) (by decide) (tw_50 hw) (tw_20 hw) (gt_there l Z a0 hw b109_0 b14_0 q28a k14_0 k28a jv7_10 z119 z120 p3 (((List.replicate 4352 (.ref ga1)).set z15.toNatClampNeg (.ref q28a)).set z29.toNatClampNeg (.ref q104a)) ((List.replicate 256 (.int 0)).set z16.toNatClampNeg (.int p3)) h109 n0 Zn110 F109_1 fk112 fk114 hz119 hz120 r121 r122 ((own_getSetN (own_clampne r31 r121 hc123)).trans (by rw [← hc129]; exact own_getSet (by simp only [List.length_set, List.length_replicate]; have := own_clamp r19; omega))) (by rw [← hc130]; exact own_getSet (by simp only [List.length_set, List.length_replicate]; have := own_clamp r20; omega))) e118 F109_0 (argsL := [(.int jv7_10)]) (rest := []) (pc' := 243) rfl (by rw [hml]; rfl) (lenOf pd_0 rfl) rfl rfl (W := 0) (Nat.le_of_eq rfl) (by decide) (by decide) (by decide) (by decide) (hb hby at_240) ?_
                intro v131 T131 L131 q131 X131
                obtain ⟨rfl, rfl, e131⟩ := q131
                show Go _ _ _ _ (T131.setTop (mkF m 243 #[.val (.int p0), .val (.int p1), .val (.int p2), .val (.int p3), .val (.int p4), .val (.int p5), .val (.int z1_0), .val (.int z2), .val (.int jv3_8), .val (.int z6), .val (.int jv7_10), .val (.ref b8), .val (.ref b8), .val (.ref b8), .val (.ref b109_0), .val (.int 1)] [(.int p3)]))
                refine Go.iload X131 hx (pc' := 245) rfl (hb hby at_243) rfl ?_
                refine Go.iload X131 hx (pc' := 247) rfl (hb hby at_245) rfl ?_
                refine Go.iloadN X131 hx (pc' := 248) rfl (hb hby at_247) rfl ?_
                refine Go.iload X131 hx (pc' := 250) rfl (hb hby at_248) rfl ?_
                refine Go.iload X131 hx (pc' := 252) rfl (hb hby at_250) rfl ?_
                refine Go.callS X131 hx hZ hown (tw_51 hw) (tw_52 hw) (tw_2 hw) (tw_53 hw) (by decide) (tw_53 hw) (tw_2 hw) (au_6 l Z a0 hw jv7_10 z1_0 p3 jv3_8 p4 h109 n0 Zn110) e131 (argsL := [(.int jv7_10), (.int z1_0), (.int p3), (.int jv3_8), (.int p4)]) (rest := [(.int p3)]) (pc' := 255) rfl (by rw [hml]; rfl) (lenOf pd_6 rfl) rfl rfl (W := 1) (Nat.le_of_eq rfl) (by decide) (by decide) (by decide) (by decide) (hb hby at_252) ?_
                intro v132 T132 L132 q132 X132
                rcases q132 with ⟨c132_0_0, rfl, N132_0, e132_0⟩ | ⟨c132_1_0, c132_1_1, rfl, N132_1, e132_1⟩ | ⟨c132_2_0, c132_2_1, rfl, N132_2, e132_2⟩
                · exact absurd c132_0_0 (own_cp_ne1 hz119 hz29 (fun q => hc33 (Eq.trans (Eq.symm hc129.symm) (Eq.trans q rfl))))
                · show Go _ _ _ _ (T132.setTop (mkF m 255 #[.val (.int p0), .val (.int p1), .val (.int p2), .val (.int p3), .val (.int p4), .val (.int p5), .val (.int z1_0), .val (.int z2), .val (.int jv3_8), .val (.int z6), .val (.int jv7_10), .val (.ref b8), .val (.ref b8), .val (.ref b8), .val (.ref b109_0), .val (.int 1)] [(.int p3), (.int p3)]))
                  refine Go.icmpNo X132 hx (pc' := 258) rfl (hb hby at_255) (teq rfl).2 ?_
                  refine Go.iconst X132 hx (pc' := 259) rfl (hb hby at_258) (v := (1 : Int32)) rfl ?_
                  refine Go.goto X132 hx (pc' := 263) (hb hby at_259) (by decide) (by decide) ?_
                  refine Go.istore X132 hx (pc' := 265) rfl (hb hby at_263) (Ls' := #[.val (.int p0), .val (.int p1), .val (.int p2), .val (.int p3), .val (.int p4), .val (.int p5), .val (.int z1_0), .val (.int z2), .val (.int jv3_8), .val (.int z6), .val (.int jv7_10), .val (.ref b8), .val (.ref b8), .val (.ref b8), .val (.ref b109_0), .val (.int 1)]) rfl ?_
                  refine Go.iload X132 hx (pc' := 267) rfl (hb hby at_265) rfl ?_
                  refine Go.retN X132 hx hlk (t := .boolean) hret (by simp) (hb hby at_267) (by decide) (by decide) ?_
                  exact ⟨rfl, (Fr.app (Fr.app (Fr.app (Fr.app (Fr.app (Fr.app (Fr.app (Fr.app (Fr.app Nj7 N14) N28) N104) N109) (Fr.nil n0)) N116_1) (Fr.nil n0)) (Fr.nil n0)) N132_1)⟩
                · exact absurd (own_cp_eq hz119 hz120 hz15 hz16 (own_rw jr7_10 (by decide) (by decide)) (own_rw r18 (by decide) (by decide)) hc129.symm hc130.symm) c132_2_1
              · refine Go.callV X118 hx hZ hown (tw_46 hw) (tw_47 hw) (notFace_of_selects (args := #[]) (mvT hZ (tw_49 hw))) (tw_49 hw) (tw_48 hw) (by decide) (tw_50 hw) (tw_20 hw) (gt_there l Z a0 hw b109_0 b14_0 q28a k14_0 k28a jv7_10 z119 z120 (0 : Int32) (((List.replicate 4352 (.ref ga1)).set z15.toNatClampNeg (.ref q28a)).set z29.toNatClampNeg (.ref q104a)) ((List.replicate 256 (.int 0)).set z16.toNatClampNeg (.int p3)) h109 n0 Zn110 F109_1 fk112 fk114 hz119 hz120 r121 r122 ((own_getSetN (own_clampne r31 r121 hc123)).trans (by rw [← hc129]; exact own_getSet (by simp only [List.length_set, List.length_replicate]; have := own_clamp r19; omega))) ((own_getSetN (own_clampne r20 r122 hc130)).trans (own_getRep (by have := own_clamp r122; omega)))) e118 F109_0 (argsL := [(.int jv7_10)]) (rest := []) (pc' := 243) rfl (by rw [hml]; rfl) (lenOf pd_0 rfl) rfl rfl (W := 0) (Nat.le_of_eq rfl) (by decide) (by decide) (by decide) (by decide) (hb hby at_240) ?_
                intro v133 T133 L133 q133 X133
                obtain ⟨rfl, rfl, e133⟩ := q133
                show Go _ _ _ _ (T133.setTop (mkF m 243 #[.val (.int p0), .val (.int p1), .val (.int p2), .val (.int p3), .val (.int p4), .val (.int p5), .val (.int z1_0), .val (.int z2), .val (.int jv3_8), .val (.int z6), .val (.int jv7_10), .val (.ref b8), .val (.ref b8), .val (.ref b8), .val (.ref b109_0), .val (.int 1)] [(.int 0)]))
                refine Go.iload X133 hx (pc' := 245) rfl (hb hby at_243) rfl ?_
                refine Go.iload X133 hx (pc' := 247) rfl (hb hby at_245) rfl ?_
                refine Go.iloadN X133 hx (pc' := 248) rfl (hb hby at_247) rfl ?_
                refine Go.iload X133 hx (pc' := 250) rfl (hb hby at_248) rfl ?_
                refine Go.iload X133 hx (pc' := 252) rfl (hb hby at_250) rfl ?_
                refine Go.callS X133 hx hZ hown (tw_51 hw) (tw_52 hw) (tw_2 hw) (tw_53 hw) (by decide) (tw_53 hw) (tw_2 hw) (au_6 l Z a0 hw jv7_10 z1_0 p3 jv3_8 p4 h109 n0 Zn110) e133 (argsL := [(.int jv7_10), (.int z1_0), (.int p3), (.int jv3_8), (.int p4)]) (rest := [(.int 0)]) (pc' := 255) rfl (by rw [hml]; rfl) (lenOf pd_6 rfl) rfl rfl (W := 1) (Nat.le_of_eq rfl) (by decide) (by decide) (by decide) (by decide) (hb hby at_252) ?_
                intro v134 T134 L134 q134 X134
                rcases q134 with ⟨c134_0_0, rfl, N134_0, e134_0⟩ | ⟨c134_1_0, c134_1_1, rfl, N134_1, e134_1⟩ | ⟨c134_2_0, c134_2_1, rfl, N134_2, e134_2⟩
                · exact absurd c134_0_0 (own_cp_ne1 hz119 hz29 (fun q => hc33 (Eq.trans (Eq.symm hc129.symm) (Eq.trans q rfl))))
                · exact absurd c134_1_1 (own_cp_ne2 hz120 hz16 (Ne.symm hc130))
                · show Go _ _ _ _ (T134.setTop (mkF m 255 #[.val (.int p0), .val (.int p1), .val (.int p2), .val (.int p3), .val (.int p4), .val (.int p5), .val (.int z1_0), .val (.int z2), .val (.int jv3_8), .val (.int z6), .val (.int jv7_10), .val (.ref b8), .val (.ref b8), .val (.ref b8), .val (.ref b109_0), .val (.int 1)] [(.int 0), (.int 0)]))
                  refine Go.icmpNo X134 hx (pc' := 258) rfl (hb hby at_255) (by decide) ?_
                  refine Go.iconst X134 hx (pc' := 259) rfl (hb hby at_258) (v := (1 : Int32)) rfl ?_
                  refine Go.goto X134 hx (pc' := 263) (hb hby at_259) (by decide) (by decide) ?_
                  refine Go.istore X134 hx (pc' := 265) rfl (hb hby at_263) (Ls' := #[.val (.int p0), .val (.int p1), .val (.int p2), .val (.int p3), .val (.int p4), .val (.int p5), .val (.int z1_0), .val (.int z2), .val (.int jv3_8), .val (.int z6), .val (.int jv7_10), .val (.ref b8), .val (.ref b8), .val (.ref b8), .val (.ref b109_0), .val (.int 1)]) rfl ?_
                  refine Go.iload X134 hx (pc' := 267) rfl (hb hby at_265) rfl ?_
                  refine Go.retN X134 hx hlk (t := .boolean) hret (by simp) (hb hby at_267) (by decide) (by decide) ?_
                  exact ⟨rfl, (Fr.app (Fr.app (Fr.app (Fr.app (Fr.app (Fr.app (Fr.app (Fr.app (Fr.app Nj7 N14) N28) N104) N109) (Fr.nil n0)) N116_1) (Fr.nil n0)) (Fr.nil n0)) N134_2)⟩
            · have O136 := (O102.keep K104 (allS ge25 all0))
              have O137 := (O136.keep K109 all0)
              have fk135 : Arv Z h109 ga1 gkp .int (256 : Int32) (List.replicate 256 (.int 0)) (.int 0) := G2.ext O137.2
              refine Go.callV X118 hx hZ hown (tw_46 hw) (tw_47 hw) (notFace_of_selects (args := #[]) (mvT hZ (tw_49 hw))) (tw_49 hw) (tw_48 hw) (by decide) (tw_50 hw) (tw_20 hw) (gt_there l Z a0 hw b109_0 b14_0 ga1 k14_0 gkp jv7_10 z119 z120 (0 : Int32) (((List.replicate 4352 (.ref ga1)).set z15.toNatClampNeg (.ref q28a)).set z29.toNatClampNeg (.ref q104a)) (List.replicate 256 (.int 0)) h109 n0 Zn110 F109_1 fk112 fk135 hz119 hz120 r121 r122 (((own_getSetN (own_clampne r31 r121 hc123)).trans (own_getSetN (own_clampne r19 r121 hc129))).trans (own_getRep (by have := own_clamp r121; omega))) (own_getRep (by have := own_clamp r122; omega))) e118 F109_0 (argsL := [(.int jv7_10)]) (rest := []) (pc' := 243) rfl (by rw [hml]; rfl) (lenOf pd_0 rfl) rfl rfl (W := 0) (Nat.le_of_eq rfl) (by decide) (by decide) (by decide) (by decide) (hb hby at_240) ?_
              intro v138 T138 L138 q138 X138
              obtain ⟨rfl, rfl, e138⟩ := q138
              show Go _ _ _ _ (T138.setTop (mkF m 243 #[.val (.int p0), .val (.int p1), .val (.int p2), .val (.int p3), .val (.int p4), .val (.int p5), .val (.int z1_0), .val (.int z2), .val (.int jv3_8), .val (.int z6), .val (.int jv7_10), .val (.ref b8), .val (.ref b8), .val (.ref b8), .val (.ref b109_0), .val (.int 1)] [(.int 0)]))
              refine Go.iload X138 hx (pc' := 245) rfl (hb hby at_243) rfl ?_
              refine Go.iload X138 hx (pc' := 247) rfl (hb hby at_245) rfl ?_
              refine Go.iloadN X138 hx (pc' := 248) rfl (hb hby at_247) rfl ?_
              refine Go.iload X138 hx (pc' := 250) rfl (hb hby at_248) rfl ?_
              refine Go.iload X138 hx (pc' := 252) rfl (hb hby at_250) rfl ?_
              refine Go.callS X138 hx hZ hown (tw_51 hw) (tw_52 hw) (tw_2 hw) (tw_53 hw) (by decide) (tw_53 hw) (tw_2 hw) (au_6 l Z a0 hw jv7_10 z1_0 p3 jv3_8 p4 h109 n0 Zn110) e138 (argsL := [(.int jv7_10), (.int z1_0), (.int p3), (.int jv3_8), (.int p4)]) (rest := [(.int 0)]) (pc' := 255) rfl (by rw [hml]; rfl) (lenOf pd_6 rfl) rfl rfl (W := 1) (Nat.le_of_eq rfl) (by decide) (by decide) (by decide) (by decide) (hb hby at_252) ?_
              intro v139 T139 L139 q139 X139
              rcases q139 with ⟨c139_0_0, rfl, N139_0, e139_0⟩ | ⟨c139_1_0, c139_1_1, rfl, N139_1, e139_1⟩ | ⟨c139_2_0, c139_2_1, rfl, N139_2, e139_2⟩
              · exact absurd c139_0_0 (own_cp_ne1 hz119 hz29 (Ne.symm hc123))
              · exact absurd c139_1_1 (own_cp_ne1 hz119 hz15 (Ne.symm hc129))
              · show Go _ _ _ _ (T139.setTop (mkF m 255 #[.val (.int p0), .val (.int p1), .val (.int p2), .val (.int p3), .val (.int p4), .val (.int p5), .val (.int z1_0), .val (.int z2), .val (.int jv3_8), .val (.int z6), .val (.int jv7_10), .val (.ref b8), .val (.ref b8), .val (.ref b8), .val (.ref b109_0), .val (.int 1)] [(.int 0), (.int 0)]))
                refine Go.icmpNo X139 hx (pc' := 258) rfl (hb hby at_255) (by decide) ?_
                refine Go.iconst X139 hx (pc' := 259) rfl (hb hby at_258) (v := (1 : Int32)) rfl ?_
                refine Go.goto X139 hx (pc' := 263) (hb hby at_259) (by decide) (by decide) ?_
                refine Go.istore X139 hx (pc' := 265) rfl (hb hby at_263) (Ls' := #[.val (.int p0), .val (.int p1), .val (.int p2), .val (.int p3), .val (.int p4), .val (.int p5), .val (.int z1_0), .val (.int z2), .val (.int jv3_8), .val (.int z6), .val (.int jv7_10), .val (.ref b8), .val (.ref b8), .val (.ref b8), .val (.ref b109_0), .val (.int 1)]) rfl ?_
                refine Go.iload X139 hx (pc' := 267) rfl (hb hby at_265) rfl ?_
                refine Go.retN X139 hx hlk (t := .boolean) hret (by simp) (hb hby at_267) (by decide) (by decide) ?_
                exact ⟨rfl, (Fr.app (Fr.app (Fr.app (Fr.app (Fr.app (Fr.app (Fr.app (Fr.app (Fr.app Nj7 N14) N28) N104) N109) (Fr.nil n0)) N116_1) (Fr.nil n0)) (Fr.nil n0)) N139_2)⟩
    refine Go.iload Xj3 hx (pc' := 63) rfl (hb hby at_61) rfl ?_
    have r140 : 0 ≤ z6.toInt ∧ z6.toInt ≤ 3 := own_rand hz6 (by decide)
    by_cases hc141 : z6 = (0 : Int32)
    · refine Go.ifNo Xj3 hx (pc' := 66) rfl (hb hby at_63) (teq hc141).2 ?_
      refine Go.iload Xj3 hx (pc' := 68) rfl (hb hby at_66) rfl ?_
      refine Go.istore Xj3 hx (pc' := 70) rfl (hb hby at_68) (Ls' := #[.val (.int p0), .val (.int p1), .val (.int p2), .val (.int p3), .val (.int p4), .val (.int p5), .val (.int z1_0), .val (.int z2), .val (.int jv3_8), .val (.int z6), .val (.int z1_0), .unset, .unset, .unset, .unset, .unset]) rfl ?_
      refine Go.goto Xj3 hx (pc' := 115) (hb hby at_70) (by decide) (by decide) ?_
      have r142 : 0 ≤ z1_1.toInt ∧ z1_1.toInt ≤ 2147483647 := own_rand d1_0 (by decide)
      have r143 : 0 ≤ z1_0.toInt ∧ z1_0.toInt ≤ 1114111 := own_rrem d1_1 (d := 1114112) (by decide) (by decide) r142 (by decide) (by decide)
      exact J7 _ _ z1_0 (own_rw r143 (by decide) (by decide)) Xj3 ej3 Nj3
    · refine Go.ifYes Xj3 hx (pc' := 73) (hb hby at_63) (feq hc141).2 (by decide) (by decide) ?_
      refine Go.iload Xj3 hx (pc' := 75) rfl (hb hby at_73) rfl ?_
      refine Go.iconst Xj3 hx (pc' := 76) rfl (hb hby at_75) (v := (1 : Int32)) rfl ?_
      by_cases hc144 : z6 = (1 : Int32)
      · refine Go.icmpNo Xj3 hx (pc' := 79) rfl (hb hby at_76) (teq hc144).2 ?_
        refine Go.iload Xj3 hx (pc' := 81) rfl (hb hby at_79) rfl ?_
        refine Go.istore Xj3 hx (pc' := 83) rfl (hb hby at_81) (Ls' := #[.val (.int p0), .val (.int p1), .val (.int p2), .val (.int p3), .val (.int p4), .val (.int p5), .val (.int z1_0), .val (.int z2), .val (.int jv3_8), .val (.int z6), .val (.int jv3_8), .unset, .unset, .unset, .unset, .unset]) rfl ?_
        refine Go.goto Xj3 hx (pc' := 115) (hb hby at_83) (by decide) (by decide) ?_
        exact J7 _ _ jv3_8 (own_rw jr3_8 (by decide) (by decide)) Xj3 ej3 Nj3
      · refine Go.icmpYes Xj3 hx (pc' := 86) (hb hby at_76) (feq hc144).2 (by decide) (by decide) ?_
        refine Go.iload Xj3 hx (pc' := 88) rfl (hb hby at_86) rfl ?_
        refine Go.iconst Xj3 hx (pc' := 89) rfl (hb hby at_88) (v := (2 : Int32)) rfl ?_
        by_cases hc145 : z6 = (2 : Int32)
        · refine Go.icmpNo Xj3 hx (pc' := 92) rfl (hb hby at_89) (teq hc145).2 ?_
          refine Go.iload Xj3 hx (pc' := 94) rfl (hb hby at_92) rfl ?_
          refine Go.sipush Xj3 hx (pc' := 97) rfl (hb hby at_94) (v := (-256 : Int32)) (by decide) ?_
          refine Go.iand Xj3 hx (pc' := 98) rfl (hb hby at_97) ?_
          have r146 : 0 ≤ z1_1.toInt ∧ z1_1.toInt ≤ 2147483647 := own_rand d1_0 (by decide)
          have r147 : 0 ≤ z1_0.toInt ∧ z1_0.toInt ≤ 1114111 := own_rrem d1_1 (d := 1114112) (by decide) (by decide) r146 (by decide) (by decide)
          generalize hz148 : (z1_0 &&& (-256 : Int32)) = z148
          refine Go.iloadN Xj3 hx (pc' := 99) rfl (hb hby at_98) rfl ?_
          refine Go.sipush Xj3 hx (pc' := 102) rfl (hb hby at_99) (v := (255 : Int32)) (by decide) ?_
          refine Go.iand Xj3 hx (pc' := 103) rfl (hb hby at_102) ?_
          generalize hz149 : (p2 &&& (255 : Int32)) = z149
          refine Go.ior Xj3 hx (pc' := 104) rfl (hb hby at_103) ?_
          have r150 : 0 ≤ z148.toInt ∧ z148.toInt ≤ 1113856 := own_rpage hz148 (own_rw r147 (by decide) (by decide))
          generalize hz151 : (z148 ||| z149) = z151
          refine Go.istore Xj3 hx (pc' := 106) rfl (hb hby at_104) (Ls' := #[.val (.int p0), .val (.int p1), .val (.int p2), .val (.int p3), .val (.int p4), .val (.int p5), .val (.int z1_0), .val (.int z2), .val (.int jv3_8), .val (.int z6), .val (.int z151), .unset, .unset, .unset, .unset, .unset]) rfl ?_
          refine Go.goto Xj3 hx (pc' := 115) (hb hby at_106) (by decide) (by decide) ?_
          have r152 : 0 ≤ z149.toInt ∧ z149.toInt ≤ 255 := own_rand hz149 (by decide)
          have r153 : 0 ≤ z151.toInt ∧ z151.toInt ≤ 1114111 := own_rpor hz151 hz148 (own_rw r147 (by decide) (by decide)) (own_rw r152 (by decide) (by decide))
          exact J7 _ _ z151 (own_rw r153 (by decide) (by decide)) Xj3 ej3 Nj3
        · refine Go.icmpYes Xj3 hx (pc' := 109) (hb hby at_89) (feq hc145).2 (by decide) (by decide) ?_
          refine Go.iloadN Xj3 hx (pc' := 110) rfl (hb hby at_109) rfl ?_
          refine Go.callS Xj3 hx hZ hown (tw_0 hw) (tw_1 hw) (tw_2 hw) (tw_3 hw) (by decide) (tw_3 hw) (tw_2 hw) (au_1 l Z a0 hw p2 h0 n0 Z0) ej3 (argsL := [(.int p2)]) (rest := []) (pc' := 113) rfl (by rw [hml]; rfl) (lenOf pd_0 rfl) rfl rfl (W := 0) (Nat.le_of_eq rfl) (by decide) (by decide) (by decide) (by decide) (hb hby at_110) ?_
          intro v154 T154 L154 q154 X154
          obtain ⟨z154_0, z154_1, d154_0, d154_1, rfl, N154, e154⟩ := q154
          show Go _ _ _ _ (T154.setTop (mkF m 113 #[.val (.int p0), .val (.int p1), .val (.int p2), .val (.int p3), .val (.int p4), .val (.int p5), .val (.int z1_0), .val (.int z2), .val (.int jv3_8), .val (.int z6), .unset, .unset, .unset, .unset, .unset, .unset] [(.int z154_0)]))
          refine Go.istore X154 hx (pc' := 115) rfl (hb hby at_113) (Ls' := #[.val (.int p0), .val (.int p1), .val (.int p2), .val (.int p3), .val (.int p4), .val (.int p5), .val (.int z1_0), .val (.int z2), .val (.int jv3_8), .val (.int z6), .val (.int z154_0), .unset, .unset, .unset, .unset, .unset]) rfl ?_
          have r155 : 0 ≤ z154_1.toInt ∧ z154_1.toInt ≤ 2147483647 := own_rand d154_0 (by decide)
          have r156 : 0 ≤ z154_0.toInt ∧ z154_0.toInt ≤ 1114111 := own_rrem d154_1 (d := 1114112) (by decide) (by decide) r155 (by decide) (by decide)
          exact J7 _ _ z154_0 (own_rw r156 (by decide) (by decide)) X154 e154 (Fr.app Nj3 N154)
  refine Go.iload X1 hx (pc' := 14) rfl (hb hby at_12) rfl ?_
  have r157 : 0 ≤ z2.toInt ∧ z2.toInt ≤ 3 := own_rand hz2 (by decide)
  by_cases hc158 : z2 = (0 : Int32)
  · refine Go.ifNo X1 hx (pc' := 17) rfl (hb hby at_14) (teq hc158).2 ?_
    refine Go.iload X1 hx (pc' := 19) rfl (hb hby at_17) rfl ?_
    refine Go.istore X1 hx (pc' := 21) rfl (hb hby at_19) (Ls' := #[.val (.int p0), .val (.int p1), .val (.int p2), .val (.int p3), .val (.int p4), .val (.int p5), .val (.int z1_0), .val (.int z2), .val (.int z1_0), .unset, .unset, .unset, .unset, .unset, .unset, .unset]) rfl ?_
    refine Go.goto X1 hx (pc' := 53) (hb hby at_21) (by decide) (by decide) ?_
    have r159 : 0 ≤ z1_1.toInt ∧ z1_1.toInt ≤ 2147483647 := own_rand d1_0 (by decide)
    have r160 : 0 ≤ z1_0.toInt ∧ z1_0.toInt ≤ 1114111 := own_rrem d1_1 (d := 1114112) (by decide) (by decide) r159 (by decide) (by decide)
    exact J3 _ _ z1_0 (own_rw r160 (by decide) (by decide)) X1 e1 (Fr.app (Fr.nil n0) N1)
  · refine Go.ifYes X1 hx (pc' := 24) (hb hby at_14) (feq hc158).2 (by decide) (by decide) ?_
    refine Go.iload X1 hx (pc' := 26) rfl (hb hby at_24) rfl ?_
    refine Go.iconst X1 hx (pc' := 27) rfl (hb hby at_26) (v := (1 : Int32)) rfl ?_
    by_cases hc161 : z2 = (1 : Int32)
    · refine Go.icmpNo X1 hx (pc' := 30) rfl (hb hby at_27) (teq hc161).2 ?_
      refine Go.iload X1 hx (pc' := 32) rfl (hb hby at_30) rfl ?_
      refine Go.sipush X1 hx (pc' := 35) rfl (hb hby at_32) (v := (-256 : Int32)) (by decide) ?_
      refine Go.iand X1 hx (pc' := 36) rfl (hb hby at_35) ?_
      have r162 : 0 ≤ z1_1.toInt ∧ z1_1.toInt ≤ 2147483647 := own_rand d1_0 (by decide)
      have r163 : 0 ≤ z1_0.toInt ∧ z1_0.toInt ≤ 1114111 := own_rrem d1_1 (d := 1114112) (by decide) (by decide) r162 (by decide) (by decide)
      generalize hz164 : (z1_0 &&& (-256 : Int32)) = z164
      refine Go.iloadN X1 hx (pc' := 37) rfl (hb hby at_36) rfl ?_
      refine Go.sipush X1 hx (pc' := 40) rfl (hb hby at_37) (v := (255 : Int32)) (by decide) ?_
      refine Go.iand X1 hx (pc' := 41) rfl (hb hby at_40) ?_
      generalize hz165 : (p1 &&& (255 : Int32)) = z165
      refine Go.ior X1 hx (pc' := 42) rfl (hb hby at_41) ?_
      have r166 : 0 ≤ z164.toInt ∧ z164.toInt ≤ 1113856 := own_rpage hz164 (own_rw r163 (by decide) (by decide))
      generalize hz167 : (z164 ||| z165) = z167
      refine Go.istore X1 hx (pc' := 44) rfl (hb hby at_42) (Ls' := #[.val (.int p0), .val (.int p1), .val (.int p2), .val (.int p3), .val (.int p4), .val (.int p5), .val (.int z1_0), .val (.int z2), .val (.int z167), .unset, .unset, .unset, .unset, .unset, .unset, .unset]) rfl ?_
      refine Go.goto X1 hx (pc' := 53) (hb hby at_44) (by decide) (by decide) ?_
      have r168 : 0 ≤ z165.toInt ∧ z165.toInt ≤ 255 := own_rand hz165 (by decide)
      have r169 : 0 ≤ z167.toInt ∧ z167.toInt ≤ 1114111 := own_rpor hz167 hz164 (own_rw r163 (by decide) (by decide)) (own_rw r168 (by decide) (by decide))
      exact J3 _ _ z167 (own_rw r169 (by decide) (by decide)) X1 e1 (Fr.app (Fr.nil n0) N1)
    · refine Go.icmpYes X1 hx (pc' := 47) (hb hby at_27) (feq hc161).2 (by decide) (by decide) ?_
      refine Go.iloadN X1 hx (pc' := 48) rfl (hb hby at_47) rfl ?_
      refine Go.callS X1 hx hZ hown (tw_0 hw) (tw_1 hw) (tw_2 hw) (tw_3 hw) (by decide) (tw_3 hw) (tw_2 hw) (au_1 l Z a0 hw p1 h0 n0 Z0) e1 (argsL := [(.int p1)]) (rest := []) (pc' := 51) rfl (by rw [hml]; rfl) (lenOf pd_0 rfl) rfl rfl (W := 0) (Nat.le_of_eq rfl) (by decide) (by decide) (by decide) (by decide) (hb hby at_48) ?_
      intro v170 T170 L170 q170 X170
      obtain ⟨z170_0, z170_1, d170_0, d170_1, rfl, N170, e170⟩ := q170
      show Go _ _ _ _ (T170.setTop (mkF m 51 #[.val (.int p0), .val (.int p1), .val (.int p2), .val (.int p3), .val (.int p4), .val (.int p5), .val (.int z1_0), .val (.int z2), .unset, .unset, .unset, .unset, .unset, .unset, .unset, .unset] [(.int z170_0)]))
      refine Go.istore X170 hx (pc' := 53) rfl (hb hby at_51) (Ls' := #[.val (.int p0), .val (.int p1), .val (.int p2), .val (.int p3), .val (.int p4), .val (.int p5), .val (.int z1_0), .val (.int z2), .val (.int z170_0), .unset, .unset, .unset, .unset, .unset, .unset, .unset]) rfl ?_
      have r171 : 0 ≤ z170_1.toInt ∧ z170_1.toInt ≤ 2147483647 := own_rand d170_0 (by decide)
      have r172 : 0 ≤ z170_0.toInt ∧ z170_0.toInt ≤ 1114111 := own_rrem d170_1 (d := 1114112) (by decide) (by decide) r171 (by decide) (by decide)
      exact J3 _ _ z170_0 (own_rw r172 (by decide) (by decide)) X170 e170 (Fr.app (Fr.app (Fr.nil n0) N1) N170)
set_option maxRecDepth 65536 in
set_option maxHeartbeats 4000000 in
theorem comes_1 {Post : Tables → Env → Array Value → State → Outcome → State → Prop} (hpost : ∀ tb e args s v u, (limb_1_1.after args s (.returned v) u = true ∧ limb_1_2.after args s (.returned v) u = true ∧ True) → FrameEnd s (.returned v) u (Jvm.fieldLocs frame_1_writes args s ++ Jvm.arrayLocs frame_1_arrays args s ++ Jvm.staticLocs frame_1_statics s) 24 9856 → Post tb e args s (.returned v) u) :
    ArmFor flags0 classFile x code maxLocals ret World_1 tables_1 room_1 Calls_1 rest_1 Pre_1 Post := by
  intro l hfl _ _ p e ha hc hk s m args below hf hA hF happ hP
  obtain ⟨hcalls, hrest, hpre⟩ := hP
  obtain ⟨-, -, -, hnamed, -, -, -, hat⟩ := (Spec.applies_iff hf).mp happ
  obtain ⟨hg, hn⟩ := and_e (Cond.before_iff.mp (show (Jvm.Cond.and given_1 narrow_1).before args s = true from hpre))
  obtain ⟨g501, g502⟩ := and_e hg
  obtain ⟨g503, g504⟩ := and_e g502
  obtain ⟨g505, g506⟩ := and_e g504
  obtain ⟨g507, g508⟩ := and_e g506
  obtain ⟨g509, g510⟩ := and_e g508
  obtain ⟨g511, g512⟩ := and_e g510
  obtain ⟨w0, w1, w2, w3, w4, w5, rfl⟩ : ∃ w0 w1 w2 w3 w4 w5 : Value, args = #[w0, w1, w2, w3, w4, w5] := by
    have hs : args.size = 6 := by simpa [Cond.value, given_1] using g501
    obtain ⟨L⟩ := args
    match L, hs with
    | [w0, w1, w2, w3, w4, w5], _ => exact ⟨w0, w1, w2, w3, w4, w5, rfl⟩
  have hw := fun d (hd : d ∈ tables_1) => atoms_spec (ws := Jvm.Cond.code x code maxLocals ret :: tables_1) hat d (List.mem_cons_of_mem _ hd)
  have hfit : Fit s := fun {y c} hc i hi => by
    obtain ⟨ha, rfl⟩ := Array.getElem?_eq_some_iff.mp hc
    have q := List.all_eq_true.mp ((Array.all_eq_true_iff_forall_mem.mp hF) _ (Array.getElem_mem ha)) i (List.mem_range.mpr hi)
    simpa [Array.getElem?_eq_getElem hi] using q
  obtain ⟨i0, ei0⟩ := is_v g503
  obtain rfl : w0 = (.int i0) := Option.some.inj ei0
  obtain ⟨i1, ei1⟩ := is_v g505
  obtain rfl : w1 = (.int i1) := Option.some.inj ei1
  obtain ⟨i2, ei2⟩ := is_v g507
  obtain rfl : w2 = (.int i2) := Option.some.inj ei2
  obtain ⟨i3, ei3⟩ := is_v g509
  obtain rfl : w3 = (.int i3) := Option.some.inj ei3
  obtain ⟨i4, ei4⟩ := is_v g511
  obtain rfl : w4 = (.int i4) := Option.some.inj ei4
  obtain ⟨i5, ei5⟩ := is_v g512
  obtain rfl : w5 = (.int i5) := Option.some.inj ei5
  obtain ⟨g1, g2⟩ := and_e hn
  obtain ⟨g3, g4⟩ := and_e g2
  obtain ⟨g5, g6⟩ := and_e g4
  obtain ⟨ga1, ev2⟩ := arr_v g1
  have Sx3 : Sta s s.heap "com/example/tough_filter/toughfilter/CodePointTable" "EMPTY_PAGE" "[I" (.ref ga1) := Sta.start ev2 (Or.inr ⟨(tw_20 hw), (tw_21 hw)⟩)
  obtain ⟨clAr4, Ar4⟩ := Arr.start ev2 g1
  have Ex5 := Exa.start ev2 g3
  have Ln6 := own_len ev2 Ar4 g5
  have Alz := own_all ev2 Ar4 g6
  obtain ⟨gkp, hgk⟩ : ∃ q, clAr4.cls = q := ⟨_, rfl⟩
  have hsz : clAr4.slots.size = 256 := by have := own_size Ln6.1 Ln6.2; have e9 : (256 : Int32).toInt = 256 := rfl; omega
  have hEz := own_zero (fun _ => ev2) Ar4 hsz Alz
  have VEz : Arv s s.heap ga1 gkp .int (256 : Int32) (List.replicate 256 (.int 0)) (.int 0) := hgk ▸ Arv.start hfit Ar4 Ln6.1 Ln6.2 (by decide) (by rw [List.length_replicate]; rfl) (own_hasRep 256 0 hEz)
  have G : Glob s ga1 gkp := ⟨Sx3, Ex5, VEz⟩
  obtain ⟨n, o, h1, h2, h3, _, L, rfl, ⟨rfl, N⟩, hq⟩ := (rm0 l s _ hw i0 i1 i2 i3 i4 i5 ga1 gkp s.heap s.heap.size (Nat.le_refl _) (Old.start s) G) tables_1 p e ha hc hk s m _ below hf ((Spec.applies_iff_loose hf).mp happ).1 ⟨rfl, State.Warmed39.refl s, rfl⟩ trivial
  refine ⟨n, _, h1, h2, h3, hpost _ _ _ _ _ _ ⟨Cond.after_iff.mpr rfl, Cond.after_iff.mpr (eq_i res_at (Term.int_eval (1)) rfl), trivial⟩ ⟨hq.1, hq.2.1, (hq.2.2.sift fun y hy => Or.inr (N y hy)).mono (by decide) (by decide)⟩⟩
theorem main_1_1 : Claimed_1_1 := comes_1 fun _ _ _ _ _ _ h hF => ⟨h.1, hF⟩
theorem main_1_2 : Claimed_1_2 := comes_1 fun _ _ _ _ _ _ h hF => ⟨h.2.1, hF⟩
end Jvm.Pilot.@@N@@
namespace Jvm.Pilot.@@N@@
open Jvm Jvm.ClassFile Sem Op Lib Jvm.Free Jvm.Stand Jvm.Pilot.@@N@@.Jvm.D
/-! MADE BY PROGRAM (witnessworld.py) out of the Statement's table words and the real class files: 12 classes; the members and pool entries that the words name. The judged class is class 1, her method 3. -/
namespace start1
open Jvm.ClassFile
def u (s : String) : CpInfo := .utf8 (stringToUtf16 s)
/-- a pool by its gaps: so many unusable entries, then the entry; so many at the end -/
def gap : Nat → List CpInfo → List CpInfo
  | 0, r => r
  | n + 1, r => .unusable :: gap n r
def poolList (es : List (Nat × CpInfo)) (last : Nat) : List CpInfo := es.foldr (fun e r => gap e.1 (e.2 :: r)) (gap last [])
def pool (es : List (Nat × CpInfo)) (last : Nat) : Array CpInfo := ⟨poolList es last⟩
def fileOf (pool : Array CpInfo) (this : Nat) (attrs : Array Attribute := #[]) (ms : Array MethodInfo := #[]) (fl : Nat := 33) (sup : Nat := 0) (ifs : Array Nat := #[]) (fds : Array FieldInfo := #[]) : ClassFile where
  minorVersion := 0
  majorVersion := 65
  constantPool := pool
  accessFlags := fl
  thisClass := this
  superClass := sup
  interfaces := ifs
  fields := fds
  methods := ms
  attributes := attrs
def plain (name : String) (sup : Option ClassId) : Class where
  name := name
  kind := .ordinary
  loader := none
  accessFlags := 33
  super := sup
  interfaces := #[]
  cf := none
  fields := #[]
  methods := #[]
  instanceTypes := #[]
  staticTypes := #[]
  resolved := #[]
  callSites := []
  init := .initialized
  statics := none
  mirror := none

def pool0 : Array CpInfo := pool [(5, u "<init>"), (0, u "()V"), (1, .class_ 10), (1, u "java/lang/Object")] 113

def k0c0 : Code := { maxStack := 0, maxLocals := 1, code := object_method_1_code, exceptionTable := #[], attributes := #[] }
def k0m0 : Method := { name := "<init>", desc := "()V", sig := { parameters := [], returnType := none }, accessFlags := 1, code := some k0c0 }
/-- java/lang/Object -/
def k0 : Class := { plain "java/lang/Object" none with
  accessFlags := 33
  interfaces := #[]
  cf := some (fileOf pool0 8 #[] #[{ accessFlags := 1, nameIndex := 5, descriptorIndex := 6, attributes := #[] }] 33 0 #[] #[])
  fields := #[]
  methods := #[k0m0]
  instanceTypes := #[]
  staticTypes := #[]
  resolved := Array.replicate 124 none
  statics := none }

def pool1 : Array CpInfo := pool [(2, .class_ 4), (0, .nameAndType 5 6), (0, u "java/lang/Object"), (0, u "<init>"), (0, u "()V"), (0, .integer 2147483647), (0, .integer 1114112), (0, .methodref 10 11), (0, .class_ 12), (0, .nameAndType 13 14), (0, u "com/example/tough_filter/toughfilter/CodePointTableSetPinLaw"), (0, u "cp"), (0, u "(I)I"), (0, .class_ 16), (0, u "com/example/tough_filter/toughfilter/CodePointTable$Builder"), (0, .methodref 15 3), (0, .methodref 15 19), (0, .nameAndType 20 21), (0, u "set"), (0, u "(II)Lcom/example/tough_filter/toughfilter/CodePointTable$Builder;"), (0, .methodref 15 23), (0, .nameAndType 24 25), (0, u "build"), (0, u "()Lcom/example/tough_filter/toughfilter/CodePointTable;"), (0, .methodref 27 28), (0, .class_ 29), (0, .nameAndType 30 14), (0, u "com/example/tough_filter/toughfilter/CodePointTable"), (0, u "get"), (0, .methodref 10 32), (0, .nameAndType 33 34), (0, u "expected"), (0, u "(IIIII)I"), (3, u "law"), (0, u "(IIIIII)Z")] 4

def k1m0 : Method := { name := "<init>", desc := "()V", sig := { parameters := [], returnType := none }, accessFlags := 1, code := none }
def k1c1 : Code := { maxStack := 2, maxLocals := 1, code := method_2_code, exceptionTable := #[], attributes := #[] }
def k1m1 : Method := { name := "cp", desc := "(I)I", sig := { parameters := [.int], returnType := some .int }, accessFlags := 10, code := some k1c1 }
def k1c2 : Code := { maxStack := 2, maxLocals := 5, code := method_3_code, exceptionTable := #[], attributes := #[] }
def k1m2 : Method := { name := "expected", desc := "(IIIII)I", sig := { parameters := [.int, .int, .int, .int, .int], returnType := some .int }, accessFlags := 10, code := some k1c2 }
def k1c3 : Code := { maxStack := 6, maxLocals := 16, code := code, exceptionTable := #[], attributes := #[] }
def k1m3 : Method := { name := "law", desc := "(IIIIII)Z", sig := { parameters := [.int, .int, .int, .int, .int, .int], returnType := some .boolean }, accessFlags := 9, code := some k1c3 }
/-- com/example/tough_filter/toughfilter/CodePointTableSetPinLaw -/
def k1 : Class := { plain "com/example/tough_filter/toughfilter/CodePointTableSetPinLaw" (some 0) with
  accessFlags := 49
  interfaces := #[]
  cf := some (fileOf pool1 10 #[] #[{ accessFlags := 1, nameIndex := 5, descriptorIndex := 6, attributes := #[] }, { accessFlags := 10, nameIndex := 13, descriptorIndex := 14, attributes := #[] }, { accessFlags := 10, nameIndex := 33, descriptorIndex := 34, attributes := #[] }, { accessFlags := 9, nameIndex := 38, descriptorIndex := 39, attributes := #[] }] 49 2 #[] #[])
  fields := #[]
  methods := #[k1m0, k1m1, k1m2, k1m3]
  instanceTypes := #[]
  staticTypes := #[]
  resolved := Array.replicate 44 none
  statics := none }

def pool2 : Array CpInfo := pool [(1, .class_ 2), (0, u "com/example/tough_filter/toughfilter/CodePointTable"), (0, .methodref 4 5), (0, .class_ 6), (0, .nameAndType 7 8), (0, u "java/lang/Object"), (0, u "<init>"), (0, u "()V"), (0, .class_ 10), (0, u "[I"), (0, .fieldref 12 13), (0, .class_ 14), (0, .nameAndType 15 16), (0, u "com/example/tough_filter/toughfilter/CodePointTable$Builder"), (0, u "pages"), (0, u "[[I"), (0, .fieldref 1 18), (0, .nameAndType 19 10), (0, u "EMPTY_PAGE"), (0, .methodref 21 22), (0, .class_ 23), (0, .nameAndType 24 25), (0, u "java/util/Arrays"), (0, u "fill"), (0, u "([Ljava/lang/Object;Ljava/lang/Object;)V"), (0, .methodref 1 27), (0, .nameAndType 7 28), (0, u "([[I)V"), (2, u "set"), (0, u "(II)Lcom/example/tough_filter/toughfilter/CodePointTable$Builder;"), (1, u "build"), (0, u "()Lcom/example/tough_filter/toughfilter/CodePointTable;")] 5

def k2c0 : Code := { maxStack := 2, maxLocals := 1, code := prog_3_method_1_code, exceptionTable := #[], attributes := #[] }
def k2m0 : Method := { name := "<init>", desc := "()V", sig := { parameters := [], returnType := none }, accessFlags := 0, code := some k2c0 }
def k2c1 : Code := { maxStack := 3, maxLocals := 4, code := prog_3_method_2_code, exceptionTable := #[], attributes := #[] }
def k2m1 : Method := { name := "set", desc := "(II)Lcom/example/tough_filter/toughfilter/CodePointTable$Builder;", sig := { parameters := [.int, .int], returnType := some (.object "com/example/tough_filter/toughfilter/CodePointTable$Builder") }, accessFlags := 0, code := some k2c1 }
def k2c2 : Code := { maxStack := 3, maxLocals := 1, code := prog_3_method_3_code, exceptionTable := #[], attributes := #[] }
def k2m2 : Method := { name := "build", desc := "()Lcom/example/tough_filter/toughfilter/CodePointTable;", sig := { parameters := [], returnType := some (.object "com/example/tough_filter/toughfilter/CodePointTable") }, accessFlags := 0, code := some k2c2 }
/-- com/example/tough_filter/toughfilter/CodePointTable$Builder -/
def k2 : Class := { plain "com/example/tough_filter/toughfilter/CodePointTable$Builder" (some 0) with
  accessFlags := 48
  interfaces := #[]
  cf := some (fileOf pool2 12 #[.nestHost 1] #[{ accessFlags := 0, nameIndex := 7, descriptorIndex := 8, attributes := #[] }, { accessFlags := 0, nameIndex := 31, descriptorIndex := 32, attributes := #[] }, { accessFlags := 0, nameIndex := 34, descriptorIndex := 35, attributes := #[] }] 48 4 #[] #[{ accessFlags := 18, nameIndex := 15, descriptorIndex := 16, attributes := #[] }])
  fields := #[{ name := "pages", type := (.array (.array .int)), accessFlags := 18, slot := 0, constantValue := 0 }]
  methods := #[k2m0, k2m1, k2m2]
  instanceTypes := #[(.array (.array .int))]
  staticTypes := #[]
  resolved := Array.replicate 41 none
  statics := none }

def pool3 : Array CpInfo := pool [(1, .class_ 2), (0, u "com/example/tough_filter/toughfilter/CodePointTable"), (2, .methodref 6 7), (0, .class_ 8), (0, .nameAndType 9 10), (0, u "java/lang/Object"), (0, u "<init>"), (0, u "()V"), (0, .fieldref 1 12), (0, .nameAndType 13 14), (0, u "pages"), (0, u "[[I"), (2, u "EMPTY_PAGE"), (0, u "[I"), (0, u "PAGE_BITS"), (0, u "I"), (2, u "PAGE_SIZE"), (1, u "PAGES"), (1, u "([[I)V"), (2, u "get"), (0, u "(I)I"), (4, .class_ 37), (0, u "com/example/tough_filter/toughfilter/CodePointTable$Builder")] 2

def k3c0 : Code := { maxStack := 2, maxLocals := 2, code := prog_2_method_1_code, exceptionTable := #[], attributes := #[] }
def k3m0 : Method := { name := "<init>", desc := "([[I)V", sig := { parameters := [(.array (.array .int))], returnType := none }, accessFlags := 2, code := some k3c0 }
def k3c1 : Code := { maxStack := 3, maxLocals := 2, code := prog_2_method_2_code, exceptionTable := #[], attributes := #[] }
def k3m1 : Method := { name := "get", desc := "(I)I", sig := { parameters := [.int], returnType := some .int }, accessFlags := 0, code := some k3c1 }
/-- com/example/tough_filter/toughfilter/CodePointTable -/
def k3 : Class := { plain "com/example/tough_filter/toughfilter/CodePointTable" (some 0) with
  accessFlags := 48
  interfaces := #[]
  cf := some (fileOf pool3 1 #[.nestMembers #[36]] #[{ accessFlags := 2, nameIndex := 9, descriptorIndex := 27, attributes := #[] }, { accessFlags := 0, nameIndex := 30, descriptorIndex := 31, attributes := #[] }] 48 6 #[] #[{ accessFlags := 26, nameIndex := 19, descriptorIndex := 20, attributes := #[] }, { accessFlags := 26, nameIndex := 23, descriptorIndex := 20, attributes := #[] }, { accessFlags := 26, nameIndex := 25, descriptorIndex := 20, attributes := #[] }, { accessFlags := 26, nameIndex := 17, descriptorIndex := 18, attributes := #[] }, { accessFlags := 18, nameIndex := 13, descriptorIndex := 14, attributes := #[] }])
  fields := #[{ name := "PAGE_BITS", type := .int, accessFlags := 26, slot := 0, constantValue := 0 }, { name := "PAGE_SIZE", type := .int, accessFlags := 26, slot := 1, constantValue := 0 }, { name := "PAGES", type := .int, accessFlags := 26, slot := 2, constantValue := 0 }, { name := "EMPTY_PAGE", type := (.array .int), accessFlags := 26, slot := 3, constantValue := 0 }, { name := "pages", type := (.array (.array .int)), accessFlags := 18, slot := 0, constantValue := 0 }]
  methods := #[k3m0, k3m1]
  instanceTypes := #[(.array (.array .int))]
  staticTypes := #[.int, .int, .int, (.array .int)]
  resolved := Array.replicate 40 none
  statics := some 0 }

def pool4 : Array CpInfo := pool [(2, .class_ 4), (1, u "java/lang/Object"), (0, u "<init>"), (0, u "()V"), (7, .class_ 16), (1, u "java/util/Arrays"), (57, .class_ 76), (1, u "java/util/Arrays$NaturalOrder"), (36, .class_ 115), (1, u "java/util/Arrays$LegacyMergeSort"), (1, u "Z"), (257, .class_ 376), (0, u "java/util/Arrays$ArrayList"), (68, u "$assertionsDisabled"), (269, u "MIN_ARRAY_SORT_GRAN"), (0, u "I"), (2, u "INSERTIONSORT_THRESHOLD"), (120, u "fill"), (17, u "([Ljava/lang/Object;Ljava/lang/Object;)V"), (116, .class_ 976), (0, u "java/util/Arrays$ArrayItr")] 52

def k4m0 : Method := { name := "<init>", desc := "()V", sig := { parameters := [], returnType := none }, accessFlags := 2, code := none }
def k4c1 : Code := { maxStack := 3, maxLocals := 4, code := jdk_65_method_117_code, exceptionTable := #[], attributes := #[] }
def k4m1 : Method := { name := "fill", desc := "([Ljava/lang/Object;Ljava/lang/Object;)V", sig := { parameters := [(.array (.object "java/lang/Object")), (.object "java/lang/Object")], returnType := none }, accessFlags := 9, code := some k4c1 }
/-- java/util/Arrays -/
def k4 : Class := { plain "java/util/Arrays" (some 0) with
  accessFlags := 49
  interfaces := #[]
  cf := some (fileOf pool4 14 #[.nestMembers #[975, 375, 113, 74]] #[{ accessFlags := 2, nameIndex := 5, descriptorIndex := 6, attributes := #[] }, { accessFlags := 9, nameIndex := 840, descriptorIndex := 858, attributes := #[] }] 49 2 #[] #[{ accessFlags := 26, nameIndex := 715, descriptorIndex := 716, attributes := #[] }, { accessFlags := 26, nameIndex := 719, descriptorIndex := 716, attributes := #[] }, { accessFlags := 4120, nameIndex := 445, descriptorIndex := 117, attributes := #[] }])
  fields := #[{ name := "MIN_ARRAY_SORT_GRAN", type := .int, accessFlags := 26, slot := 0, constantValue := 0 }, { name := "INSERTIONSORT_THRESHOLD", type := .int, accessFlags := 26, slot := 1, constantValue := 0 }, { name := "$assertionsDisabled", type := .boolean, accessFlags := 4120, slot := 2, constantValue := 0 }]
  methods := #[k4m0, k4m1]
  instanceTypes := #[]
  staticTypes := #[.int, .int, .boolean]
  resolved := Array.replicate 1029 none
  statics := none }

def pool5 : Array CpInfo := pool [(1, u "java/lang/Cloneable"), (0, .class_ 1), (0, u "java/lang/Object"), (0, .class_ 3)] 3

/-- java/lang/Cloneable -/
def k5 : Class := { plain "java/lang/Cloneable" (some 0) with
  accessFlags := 1537
  interfaces := #[]
  cf := some (fileOf pool5 2 #[] #[] 1537 4 #[] #[])
  fields := #[]
  methods := #[]
  instanceTypes := #[]
  staticTypes := #[]
  resolved := Array.replicate 8 none
  statics := none }

def pool6 : Array CpInfo := pool [(1, u "java/io/Serializable"), (0, .class_ 1), (0, u "java/lang/Object"), (0, .class_ 3)] 3

/-- java/io/Serializable -/
def k6 : Class := { plain "java/io/Serializable" (some 0) with
  accessFlags := 1537
  interfaces := #[]
  cf := some (fileOf pool6 2 #[] #[] 1537 4 #[] #[])
  fields := #[]
  methods := #[]
  instanceTypes := #[]
  staticTypes := #[]
  resolved := Array.replicate 8 none
  statics := none }

/-- the primitive byte -/
def k7 : Class := { plain "byte" none with kind := .primitive 'B', accessFlags := 0x411 }
/-- [B -/
def k8 : Class := { plain "[B" (some 0) with kind := .array 7 .byte, interfaces := #[5, 6], accessFlags := 1041 }

/-- the primitive int -/
def k9 : Class := { plain "int" none with kind := .primitive 'I', accessFlags := 0x411 }
/-- [I -/
def k10 : Class := { plain "[I" (some 0) with kind := .array 9 .int, interfaces := #[5, 6], accessFlags := 1041 }

/-- [L[I; -/
def k11 : Class := { plain "[[I" (some 0) with kind := .array 10 (.array .int), interfaces := #[5, 6], accessFlags := 1041 }

def heap : Heap := #[{ cls := 3, slots := #[.int 0, .int 0, .int 0, .ref 2], vm := .statics 3 },
  { cls := 11, slots := #[], vm := .none },
  { cls := 10, slots := #[.int 0, .int 0, .int 0, .int 0, .int 0, .int 0, .int 0, .int 0, .int 0, .int 0, .int 0, .int 0, .int 0, .int 0, .int 0, .int 0, .int 0, .int 0, .int 0, .int 0, .int 0, .int 0, .int 0, .int 0, .int 0, .int 0, .int 0, .int 0, .int 0, .int 0, .int 0, .int 0, .int 0, .int 0, .int 0, .int 0, .int 0, .int 0, .int 0, .int 0, .int 0, .int 0, .int 0, .int 0, .int 0, .int 0, .int 0, .int 0, .int 0, .int 0, .int 0, .int 0, .int 0, .int 0, .int 0, .int 0, .int 0, .int 0, .int 0, .int 0, .int 0, .int 0, .int 0, .int 0, .int 0, .int 0, .int 0, .int 0, .int 0, .int 0, .int 0, .int 0, .int 0, .int 0, .int 0, .int 0, .int 0, .int 0, .int 0, .int 0, .int 0, .int 0, .int 0, .int 0, .int 0, .int 0, .int 0, .int 0, .int 0, .int 0, .int 0, .int 0, .int 0, .int 0, .int 0, .int 0, .int 0, .int 0, .int 0, .int 0, .int 0, .int 0, .int 0, .int 0, .int 0, .int 0, .int 0, .int 0, .int 0, .int 0, .int 0, .int 0, .int 0, .int 0, .int 0, .int 0, .int 0, .int 0, .int 0, .int 0, .int 0, .int 0, .int 0, .int 0, .int 0, .int 0, .int 0, .int 0, .int 0, .int 0, .int 0, .int 0, .int 0, .int 0, .int 0, .int 0, .int 0, .int 0, .int 0, .int 0, .int 0, .int 0, .int 0, .int 0, .int 0, .int 0, .int 0, .int 0, .int 0, .int 0, .int 0, .int 0, .int 0, .int 0, .int 0, .int 0, .int 0, .int 0, .int 0, .int 0, .int 0, .int 0, .int 0, .int 0, .int 0, .int 0, .int 0, .int 0, .int 0, .int 0, .int 0, .int 0, .int 0, .int 0, .int 0, .int 0, .int 0, .int 0, .int 0, .int 0, .int 0, .int 0, .int 0, .int 0, .int 0, .int 0, .int 0, .int 0, .int 0, .int 0, .int 0, .int 0, .int 0, .int 0, .int 0, .int 0, .int 0, .int 0, .int 0, .int 0, .int 0, .int 0, .int 0, .int 0, .int 0, .int 0, .int 0, .int 0, .int 0, .int 0, .int 0, .int 0, .int 0, .int 0, .int 0, .int 0, .int 0, .int 0, .int 0, .int 0, .int 0, .int 0, .int 0, .int 0, .int 0, .int 0, .int 0, .int 0, .int 0, .int 0, .int 0, .int 0, .int 0, .int 0, .int 0, .int 0, .int 0, .int 0, .int 0, .int 0, .int 0, .int 0, .int 0, .int 0, .int 0, .int 0, .int 0, .int 0, .int 0, .int 0, .int 0, .int 0, .int 0, .int 0, .int 0, .int 0], vm := .none }]
def classes : Array Class := #[k0, k1, k2, k3, k4, k5, k6, k7, k8, k9, k10, k11]
def interned : List (Array UInt16 × Addr) := []
def slotsUsed : Nat := 260
def theMethod : MethodId := ⟨1, 3⟩
def args0 : Array Value := #[.int 5, .int 5, .int 5, .int 5, .int 5, .int 5]
def aboutOver (below : List Frame) : State where
  vm := { classes := classes, interned := interned.toArray }
  heap := heap
  slotsUsed := slotsUsed
  threads := #[{ frames := .invoking theMethod args0 :: below }]
def below0 : List Frame := [.native { method := ⟨0, 0⟩, args := #[] }]
def about1 : State := aboutOver below0
def p0 : Program := .bare "" "" ""
def e0 : Env := launch0.env 0 0 0
theorem w_frames : about1.frames = Frame.invoking theMethod args0 :: below0 := rfl
set_option maxRecDepth 65536 in
theorem w_args : argsFit about1.vm theMethod args0 = true := by decide +kernel
set_option maxRecDepth 65536 in
theorem w_heap : heapFits about1 = true := by decide +kernel
set_option maxRecDepth 65536 in
theorem w_runnable : about1.curStatus? = some .runnable := by decide +kernel
set_option maxRecDepth 65536 in
theorem w_alone : about1.alone = true := by decide +kernel
set_option maxRecDepth 65536 in
theorem w_named : about1.methodNamed? x = some theMethod := by decide +kernel
set_option maxRecDepth 65536 in
theorem w_hears : about1.hears theMethod below0 = true := by decide +kernel
set_option maxRecDepth 65536 in
theorem w_ripe : about1.ripe theMethod args0 below0 = true := by decide +kernel
theorem w_running : about1.status = .running := rfl
set_option maxRecDepth 65536 in
theorem w_room : about1.hasRoom e0.platform room_1 = true :=
  launch0.hasRoom_least _ room_1 (by decide +kernel) (by decide +kernel) (by decide +kernel) (by decide +kernel) (by decide +kernel) (by decide +kernel)
theorem allAtoms_all (ts : List Jvm.Cond) (a : Array Jvm.Value) (st : Jvm.State) : (allAtoms ts).before a st = ts.all (fun c => c.before a st) := by
  induction ts with
  | nil => rfl
  | cons c t ih =>
    show (Jvm.Cond.and c (allAtoms t)).before a st = _
    rw [Jvm.Cond.before_and, ih, List.all_cons]
def words1 : List Jvm.Cond := Jvm.Cond.code x code maxLocals ret :: tables_1
/-- a 'code' word, met by the world's own term for the bytes: nothing is compared byte by byte -/
theorem code_word {y : MethodName} {bytes : ByteArray} {mx : Nat} {rt : Option FieldType} {a : Array Value} {s : State} {m : MethodId} {meth : Method} {c : Code} (h1 : s.methodNamed? y = some m) (h2 : s.vm.method? m = some meth) (h3 : meth.code = some c) (h4 : c.code = bytes)
    (h5 : (c.maxLocals == mx && c.exceptionTable.isEmpty && decide (c.maxStack ≤ mostOperands) && decide (meth.sig.returnType = rt) && !meth.locks && decide (parseMethodDescriptor y.desc = some meth.sig)) = true) : (Jvm.Cond.code y bytes mx rt).before a s = true := by
  simp only [Bool.and_eq_true, beq_iff_eq, Bool.not_eq_true', decide_eq_true_eq] at h5
  obtain ⟨⟨⟨⟨⟨g1, g2⟩, g3⟩, g4⟩, g5⟩, g6⟩ := h5
  simp [Cond.before, Cond.holds, Cond.value, h1, h2, h3, h4, g1, g2, g3, g4, g5, g6]
def isCode : Jvm.Cond → Bool
  | .code _ _ _ _ => true
  | _ => false
theorem all_split {L : List Jvm.Cond} {P : Jvm.Cond → Bool} (h1 : L.all (fun c => isCode c || P c) = true) (h2 : ∀ c ∈ L.filter isCode, P c = true) : L.all P = true := by
  refine List.all_eq_true.mpr fun c hc => ?_
  have h := List.all_eq_true.mp h1 c hc
  rcases Bool.eq_false_or_eq_true (isCode c) with hi | hi
  · exact h2 c (List.mem_filter.mpr ⟨hc, hi⟩)
  · simpa [hi] using h
set_option maxRecDepth 65536 in
theorem w_c0 : (Jvm.Cond.code x code maxLocals ret).before args0 about1 = true := code_word (m := ⟨1, 3⟩) (meth := k1m3) (c := k1c3) (by decide +kernel) rfl rfl rfl (by decide +kernel)
set_option maxRecDepth 65536 in
theorem w_c1 : (Jvm.Cond.code ({ cls := "com/example/tough_filter/toughfilter/CodePointTableSetPinLaw", name := "cp", desc := "(I)I" } : Jvm.MethodName) method_2_code (1 : Nat) (Option.some Jvm.ClassFile.FieldType.int)).before args0 about1 = true := code_word (m := ⟨1, 1⟩) (meth := k1m1) (c := k1c1) (by decide +kernel) rfl rfl rfl (by decide +kernel)
set_option maxRecDepth 65536 in
theorem w_c2 : (Jvm.Cond.code ({ cls := "com/example/tough_filter/toughfilter/CodePointTable$Builder", name := "<init>", desc := "()V" } : Jvm.MethodName) prog_3_method_1_code (1 : Nat) (Option.none : Option Jvm.ClassFile.FieldType)).before args0 about1 = true := code_word (m := ⟨2, 0⟩) (meth := k2m0) (c := k2c0) (by decide +kernel) rfl rfl rfl (by decide +kernel)
set_option maxRecDepth 65536 in
theorem w_c3 : (Jvm.Cond.code ({ cls := "java/lang/Object", name := "<init>", desc := "()V" } : Jvm.MethodName) object_method_1_code (1 : Nat) (Option.none : Option Jvm.ClassFile.FieldType)).before args0 about1 = true := code_word (m := ⟨0, 0⟩) (meth := k0m0) (c := k0c0) (by decide +kernel) rfl rfl rfl (by decide +kernel)
set_option maxRecDepth 65536 in
theorem w_c4 : (Jvm.Cond.code ({ cls := "java/util/Arrays", name := "fill", desc := "([Ljava/lang/Object;Ljava/lang/Object;)V" } : Jvm.MethodName) jdk_65_method_117_code (4 : Nat) (Option.none : Option Jvm.ClassFile.FieldType)).before args0 about1 = true := code_word (m := ⟨4, 1⟩) (meth := k4m1) (c := k4c1) (by decide +kernel) rfl rfl rfl (by decide +kernel)
set_option maxRecDepth 65536 in
theorem w_c5 : (Jvm.Cond.code ({ cls := "com/example/tough_filter/toughfilter/CodePointTable$Builder", name := "set", desc := "(II)Lcom/example/tough_filter/toughfilter/CodePointTable$Builder;" } : Jvm.MethodName) prog_3_method_2_code (4 : Nat) (Option.some (Jvm.ClassFile.FieldType.object "com/example/tough_filter/toughfilter/CodePointTable$Builder"))).before args0 about1 = true := code_word (m := ⟨2, 1⟩) (meth := k2m1) (c := k2c1) (by decide +kernel) rfl rfl rfl (by decide +kernel)
set_option maxRecDepth 65536 in
theorem w_c6 : (Jvm.Cond.code ({ cls := "com/example/tough_filter/toughfilter/CodePointTable$Builder", name := "build", desc := "()Lcom/example/tough_filter/toughfilter/CodePointTable;" } : Jvm.MethodName) prog_3_method_3_code (1 : Nat) (Option.some (Jvm.ClassFile.FieldType.object "com/example/tough_filter/toughfilter/CodePointTable"))).before args0 about1 = true := code_word (m := ⟨2, 2⟩) (meth := k2m2) (c := k2c2) (by decide +kernel) rfl rfl rfl (by decide +kernel)
set_option maxRecDepth 65536 in
theorem w_c7 : (Jvm.Cond.code ({ cls := "com/example/tough_filter/toughfilter/CodePointTable", name := "<init>", desc := "([[I)V" } : Jvm.MethodName) prog_2_method_1_code (2 : Nat) (Option.none : Option Jvm.ClassFile.FieldType)).before args0 about1 = true := code_word (m := ⟨3, 0⟩) (meth := k3m0) (c := k3c0) (by decide +kernel) rfl rfl rfl (by decide +kernel)
set_option maxRecDepth 65536 in
theorem w_c8 : (Jvm.Cond.code ({ cls := "com/example/tough_filter/toughfilter/CodePointTable", name := "get", desc := "(I)I" } : Jvm.MethodName) prog_2_method_2_code (2 : Nat) (Option.some Jvm.ClassFile.FieldType.int)).before args0 about1 = true := code_word (m := ⟨3, 1⟩) (meth := k3m1) (c := k3c1) (by decide +kernel) rfl rfl rfl (by decide +kernel)
set_option maxRecDepth 65536 in
theorem w_c9 : (Jvm.Cond.code ({ cls := "com/example/tough_filter/toughfilter/CodePointTableSetPinLaw", name := "expected", desc := "(IIIII)I" } : Jvm.MethodName) method_3_code (5 : Nat) (Option.some Jvm.ClassFile.FieldType.int)).before args0 about1 = true := code_word (m := ⟨1, 2⟩) (meth := k1m2) (c := k1c2) (by decide +kernel) rfl rfl rfl (by decide +kernel)
def codes1 : List Jvm.Cond := [Jvm.Cond.code x code maxLocals ret, Jvm.Cond.code ({ cls := "com/example/tough_filter/toughfilter/CodePointTableSetPinLaw", name := "cp", desc := "(I)I" } : Jvm.MethodName) method_2_code (1 : Nat) (Option.some Jvm.ClassFile.FieldType.int), Jvm.Cond.code ({ cls := "com/example/tough_filter/toughfilter/CodePointTable$Builder", name := "<init>", desc := "()V" } : Jvm.MethodName) prog_3_method_1_code (1 : Nat) (Option.none : Option Jvm.ClassFile.FieldType), Jvm.Cond.code ({ cls := "java/lang/Object", name := "<init>", desc := "()V" } : Jvm.MethodName) object_method_1_code (1 : Nat) (Option.none : Option Jvm.ClassFile.FieldType), Jvm.Cond.code ({ cls := "java/util/Arrays", name := "fill", desc := "([Ljava/lang/Object;Ljava/lang/Object;)V" } : Jvm.MethodName) jdk_65_method_117_code (4 : Nat) (Option.none : Option Jvm.ClassFile.FieldType), Jvm.Cond.code ({ cls := "com/example/tough_filter/toughfilter/CodePointTable$Builder", name := "set", desc := "(II)Lcom/example/tough_filter/toughfilter/CodePointTable$Builder;" } : Jvm.MethodName) prog_3_method_2_code (4 : Nat) (Option.some (Jvm.ClassFile.FieldType.object "com/example/tough_filter/toughfilter/CodePointTable$Builder")), Jvm.Cond.code ({ cls := "com/example/tough_filter/toughfilter/CodePointTable$Builder", name := "build", desc := "()Lcom/example/tough_filter/toughfilter/CodePointTable;" } : Jvm.MethodName) prog_3_method_3_code (1 : Nat) (Option.some (Jvm.ClassFile.FieldType.object "com/example/tough_filter/toughfilter/CodePointTable")), Jvm.Cond.code ({ cls := "com/example/tough_filter/toughfilter/CodePointTable", name := "<init>", desc := "([[I)V" } : Jvm.MethodName) prog_2_method_1_code (2 : Nat) (Option.none : Option Jvm.ClassFile.FieldType), Jvm.Cond.code ({ cls := "com/example/tough_filter/toughfilter/CodePointTable", name := "get", desc := "(I)I" } : Jvm.MethodName) prog_2_method_2_code (2 : Nat) (Option.some Jvm.ClassFile.FieldType.int), Jvm.Cond.code ({ cls := "com/example/tough_filter/toughfilter/CodePointTableSetPinLaw", name := "expected", desc := "(IIIII)I" } : Jvm.MethodName) method_3_code (5 : Nat) (Option.some Jvm.ClassFile.FieldType.int)]
set_option maxRecDepth 65536 in
theorem codes_eq : words1.filter isCode = codes1 := rfl
theorem w_codes : ∀ c ∈ words1.filter isCode, c.before args0 about1 = true := by
  rw [codes_eq]
  intro c hc
  simp only [codes1, List.mem_cons, List.not_mem_nil, or_false] at hc
  rcases hc with rfl | rfl | rfl | rfl | rfl | rfl | rfl | rfl | rfl | rfl
  · exact w_c0
  · exact w_c1
  · exact w_c2
  · exact w_c3
  · exact w_c4
  · exact w_c5
  · exact w_c6
  · exact w_c7
  · exact w_c8
  · exact w_c9
set_option maxRecDepth 65536 in
theorem w_t1 : (words1.take 24).all (fun c => isCode c || c.before args0 about1) = true := by decide +kernel
set_option maxRecDepth 65536 in
theorem w_t2 : ((words1.drop 24).take 24).all (fun c => isCode c || c.before args0 about1) = true := by decide +kernel
set_option maxRecDepth 65536 in
theorem w_t3 : ((words1.drop 24).drop 24).all (fun c => isCode c || c.before args0 about1) = true := by decide +kernel
theorem w_tables : (allAtoms (Jvm.Cond.code x code maxLocals ret :: tables_1)).before args0 about1 = true := by
  rw [allAtoms_all]
  show words1.all (fun c => c.before args0 about1) = true
  refine all_split ?_ w_codes
  rw [← List.take_append_drop 24 words1, List.all_append, w_t1, ← List.take_append_drop 24 (words1.drop 24), List.all_append, w_t2, w_t3]
  rfl
set_option maxRecDepth 65536 in
theorem w_case : (Jvm.Cond.and given_1 narrow_1).before args0 about1 = true := by decide +kernel
theorem w_applies : (headSpec (Jvm.Cond.code x code maxLocals ret :: tables_1) room_1).applies x e0.platform about1 = true :=
  (Spec.applies_iff w_frames).mpr ⟨w_running, w_runnable, w_alone, w_named, w_hears, w_ripe, w_room, w_tables⟩
theorem atStart : AtStart classFile x code maxLocals ret World_1 tables_1 room_1 Calls_1 rest_1 Pre_1 launch0 p0 e0 about1 theMethod args0 below0 :=
  ⟨lists_1, trivial, launch0.admits_env _ _ _, launch0.least_env, fairChoices_fair.cas, fairChoices_fair.clock, w_frames, w_args, w_heap, w_applies, trivial, trivial, w_case⟩
end start1
theorem witness_1 : WitnessClaimed_1 := ⟨start1.p0, start1.e0, start1.about1, start1.theMethod, start1.args0, start1.below0, start1.atStart⟩
end Jvm.Pilot.@@N@@
