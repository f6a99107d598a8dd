
import JvmDerived
import JvmDerived.Pilot.@@N@@Statement
import JvmDerived.Pilot.@@N@@Code
set_option linter.unusedVariables false
set_option linter.unusedSimpArgs false
namespace Jvm.RoadKit
open Sem ClassFile Op Lib Jvm.Stand Jvm.Free Jvm.LawKit
section OwnGo
variable {p : Program} {l : Launch} {e : Env} {R : Room} {s : State} {m : MethodId} {args : Array Value} {below : List Frame} {meth : Method} {c : Code} {T : State} {locs : List Loc} {cells slots kc ks : Nat} {Z : State} {a0 : Array Value} {h : Heap} {Q : Option Value → Heap → List Loc → Prop} {F0 : State → Outcome → Prop}
/-- what is left of a run from T: it ends, and F0 holds of its end -/
def Go (p : Program) (e : Env) (below : List Frame) (F0 : State → Outcome → Prop) (T : State) : Prop :=
  ∃ (U : State) (o : Outcome), Steps p.tables e below T U ∧ U.status = .running ∧ Ended U below o ∧ F0 U o
def EndN (s : State) (Q : Option Value → Heap → List Loc → Prop) (kc ks : Nat) (U : State) (o : Outcome) : Prop := ∃ v L, o = .returned v ∧ Q v U.heap L ∧ FrameEnd s o U L kc ks
theorem Go.step {T' : State} (g : ∀ t, Steps p.tables e below T' t → Steps p.tables e below T t) (k : Go p e below F0 T') : Go p e below F0 T := by
  obtain ⟨U, o, h1, r⟩ := k
  exact ⟨U, o, g _ h1, r⟩
theorem Go.cast {g g' : JFrame} (q : g = g') (k : Go p e below F0 (T.setTop g')) : Go p e below F0 (T.setTop g) := by rw [q]; exact k
/-- a body's contract: from these arguments and this heap it returns, and Q holds -/
def Ctr (l : Launch) (Z : State) (y : MethodName) (bytes : ByteArray) (maxL : Nat) (ret : Option FieldType) (rm : Room) (as : Array Value) (h : Heap) (Q : Option Value → Heap → List Loc → Prop) : Prop :=
  ∀ ws : List Jvm.Cond, MetFree l y (head1 (Jvm.Cond.code y bytes maxL ret :: ws) rm) (fun a U => a = as ∧ Z.Warmed39 U.vm ∧ U.heap = h) (fun _ _ _ _ _ => True) (fun _ U o U' => ∃ v L, o = .returned v ∧ Q v U'.heap L ∧ FrameEnd U o U' L rm.cells rm.slots)
theorem Ctr.of {y : MethodName} {bytes : ByteArray} {maxL : Nat} {ret : Option FieldType} {rm : Room} {as : Array Value} (hp : plainFor y = true)
    (body : ∀ (p : Program) (e : Env) (s : State) (m : MethodId) (below : List Frame) (meth : Method) (c : Code) (T : State), p.tables.exec = Jvm.exec → Z.Warmed39 s.vm → c.code = bytes → c.maxLocals = maxL → s.vm.findClass y.cls = some m.cls → meth.name = y.name → meth.sig.returnType = ret → meth.locks = false → T.heap = h → s.heap = h → Stand p l e rm s m as below meth c T [] 0 0 →
      Go p e below (EndN s Q rm.cells rm.slots) (T.setTop (entryFrame m as maxL))) : Ctr l Z y bytes maxL ret rm as h Q := by
  intro ws
  refine MetFree.of_bodySF hp hisR ?_
  intro p e s m args below meth c s₁ Bd hml0 hP hK
  obtain ⟨rfl, hZ, hh⟩ := hP
  exact body p e s m below meth c s₁ Bd.exec hZ Bd.bytes hml0 (findClass_of_methodNamed Bd.named) (name_of_methodNamed Bd.named Bd.method).1 Bd.returns Bd.notSynchronized (by rw [← hh, Bd.state]; rfl) hh (Stand.of_body Bd)
theorem Go.retV (X : Stand p l e R s m args below meth c T locs cells slots) (hx : p.tables.exec = Jvm.exec) (hlk : meth.locks = false) {t : FieldType} (hret : meth.sig.returnType = some t) {pc : Nat} {Ls : Array Slot} {v : Value} {i : Instr} {rest : List Value} (hn : narrow t v = v)
    (hi : (i = .ireturn ∧ (t = .int ∨ t = .boolean ∨ t = .byte ∨ t = .char ∨ t = .short) ∧ ∃ z, v = .int z) ∨ (i = .lreturn ∧ t = .long ∧ ∃ z, v = .long z) ∨ (i = .dreturn ∧ t = .double ∧ ∃ z, v = .double z) ∨ (i = .freturn ∧ t = .float ∧ ∃ z, v = .float z) ∨ (i = .areturn ∧ t.isReference = true ∧ v.isRef = true))
    (hd : decode c.code pc = .ok (i, 1)) (hc : cells ≤ kc) (hs : slots ≤ ks) (q : Q (some v) T.heap locs) : Go p e below (EndN s Q kc ks) (T.setTop (mkF m pc Ls (v :: rest))) := by
  obtain ⟨fs, hr, hrun, hended, hW, hsame⟩ := X.leave (v := some v) (fun h => by rw [hret] at h; cases h) hlk
  exact ⟨_, _, retOut X hx hret hn hi hd hr, hrun, hended, _, _, rfl, q, ⟨_, rfl⟩, hW, hsame.mono hc hs⟩
theorem Go.retI (X : Stand p l e R s m args below meth c T locs cells slots) (hx : p.tables.exec = Jvm.exec) (hlk : meth.locks = false) (hret : meth.sig.returnType = some .int) {pc : Nat} {Ls : Array Slot} {z : Int32} {rest : List Value} (hd : decode c.code pc = .ok (.ireturn, 1)) (hc : cells ≤ kc) (hs : slots ≤ ks) (q : Q (some (.int z)) T.heap locs) : Go p e below (EndN s Q kc ks) (T.setTop (mkF m pc Ls (.int z :: rest))) :=
  Go.retV X hx hlk hret rfl (Or.inl ⟨rfl, Or.inl rfl, _, rfl⟩) hd hc hs q
theorem Go.retR (X : Stand p l e R s m args below meth c T locs cells slots) (hx : p.tables.exec = Jvm.exec) (hlk : meth.locks = false) {t : FieldType} (hret : meth.sig.returnType = some t) (ht : t.isReference = true) {pc : Nat} {Ls : Array Slot} {v : Value} (hv : v.isRef = true) {rest : List Value} (hd : decode c.code pc = .ok (.areturn, 1)) (hc : cells ≤ kc) (hs : slots ≤ ks) (q : Q (some v) T.heap locs) : Go p e below (EndN s Q kc ks) (T.setTop (mkF m pc Ls (v :: rest))) :=
  Go.retV X hx hlk hret (by rcases ref_cases hv with rfl | ⟨z, rfl⟩ <;> cases t <;> simp [FieldType.isReference] at ht <;> rfl) (Or.inr (Or.inr (Or.inr (Or.inr ⟨rfl, ht, hv⟩)))) hd hc hs q
theorem Go.retN (X : Stand p l e R s m args below meth c T locs cells slots) (hx : p.tables.exec = Jvm.exec) (hlk : meth.locks = false) {t : FieldType} (hret : meth.sig.returnType = some t) (ht : t = .boolean ∨ t = .byte ∨ t = .char ∨ t = .short) {pc : Nat} {Ls : Array Slot} {z : Int32} {rest : List Value} (hd : decode c.code pc = .ok (.ireturn, 1)) (hc : cells ≤ kc) (hs : slots ≤ ks) (q : Q (some (.int (nar t z))) T.heap locs) : Go p e below (EndN s Q kc ks) (T.setTop (mkF m pc Ls (.int z :: rest))) := by
  obtain ⟨fs, hr, hrun, hended, hW, hsame⟩ := X.leave (v := some (.int (nar t z))) (fun h => by rw [hret] at h; cases h) hlk
  exact ⟨_, _, Jvm.RoadKit.retN X hx hret ht hd hr, hrun, hended, _, _, rfl, q, ⟨_, rfl⟩, hW, hsame.mono hc hs⟩
theorem Go.iloadN (X : Stand p l e R s m args below meth c T locs cells slots) (hx : p.tables.exec = Jvm.exec) {pc pc' : Nat} {Ls : Array Slot} {st : List Value} {k : Fin 4} {v : Int32} (hp : pc' = pc + 1) (hd : decode c.code pc = .ok (.iload_n k, 1)) (hl : Ls[k.val]? = some (.val (.int v))) (k : Go p e below F0 (T.setTop (mkF m pc' Ls (.int v :: st)))) : Go p e below F0 (T.setTop (mkF m pc Ls st)) := by
  subst hp
  exact Go.step (fun t kt => XS.iloadN X.here hx (g := mkF m pc Ls _) rfl hd hl kt) k
theorem Go.aloadN (X : Stand p l e R s m args below meth c T locs cells slots) (hx : p.tables.exec = Jvm.exec) {pc pc' : Nat} {Ls : Array Slot} {st : List Value} {k : Fin 4} {v : Value} (hp : pc' = pc + 1) (hd : decode c.code pc = .ok (.aload_n k, 1)) (hl : Ls[k.val]? = some (.val v)) (hv : v.isRef = true) (k : Go p e below F0 (T.setTop (mkF m pc' Ls (v :: st)))) : Go p e below F0 (T.setTop (mkF m pc Ls st)) := by
  subst hp
  exact Go.step (fun t kt => XS.aloadN X.here hx (g := mkF m pc Ls _) rfl hd hl hv kt) k
theorem Go.aload (X : Stand p l e R s m args below meth c T locs cells slots) (hx : p.tables.exec = Jvm.exec) {pc pc' : Nat} {Ls : Array Slot} {st : List Value} {k : Nat} {v : Value} (hp : pc' = pc + 2) (hd : decode c.code pc = .ok (.aload k, 2)) (hl : Ls[k]? = some (.val v)) (hv : v.isRef = true) (k : Go p e below F0 (T.setTop (mkF m pc' Ls (v :: st)))) : Go p e below F0 (T.setTop (mkF m pc Ls st)) := by
  subst hp
  exact Go.step (fun t kt => XS.aload X.here hx (g := mkF m pc Ls _) rfl hd hl hv kt) k
theorem Go.iconst (X : Stand p l e R s m args below meth c T locs cells slots) (hx : p.tables.exec = Jvm.exec) {pc pc' : Nat} {Ls : Array Slot} {st : List Value} {i : Int} {v : Int32} (hp : pc' = pc + 1) (hd : decode c.code pc = .ok (.iconst i, 1)) (hv : Int32.ofInt i = v) (k : Go p e below F0 (T.setTop (mkF m pc' Ls (.int v :: st)))) : Go p e below F0 (T.setTop (mkF m pc Ls st)) := by
  subst hp
  exact Go.step (fun t kt => XS.iconst X.here hx (g := mkF m pc Ls _) rfl hd (by rw [hv]; exact kt)) k
theorem Go.iadd (X : Stand p l e R s m args below meth c T locs cells slots) (hx : p.tables.exec = Jvm.exec) {pc pc' : Nat} {Ls : Array Slot} {x y : Int32} {rest : List Value} (hp : pc' = pc + 1) (hd : decode c.code pc = .ok (.iadd, 1))  (k : Go p e below F0 (T.setTop (mkF m pc' Ls (.int (x + y) :: rest)))) : Go p e below F0 (T.setTop (mkF m pc Ls (.int y :: .int x :: rest))) := by
  subst hp
  exact Go.step (fun t kt => XS.iadd X.here hx (g := mkF m pc Ls _) rfl hd rfl kt) k
theorem Go.iand (X : Stand p l e R s m args below meth c T locs cells slots) (hx : p.tables.exec = Jvm.exec) {pc pc' : Nat} {Ls : Array Slot} {x y : Int32} {rest : List Value} (hp : pc' = pc + 1) (hd : decode c.code pc = .ok (.iand, 1))  (k : Go p e below F0 (T.setTop (mkF m pc' Ls (.int (x &&& y) :: rest)))) : Go p e below F0 (T.setTop (mkF m pc Ls (.int y :: .int x :: rest))) := by
  subst hp
  exact Go.step (fun t kt => XS.iand X.here hx (g := mkF m pc Ls _) rfl hd rfl kt) k
theorem Go.irem (X : Stand p l e R s m args below meth c T locs cells slots) (hx : p.tables.exec = Jvm.exec) {pc pc' : Nat} {Ls : Array Slot} {x y : Int32} {rest : List Value} (hp : pc' = pc + 1) (hd : decode c.code pc = .ok (.irem, 1)) (hy : y ≠ 0) (k : Go p e below F0 (T.setTop (mkF m pc' Ls (.int (x % y) :: rest)))) : Go p e below F0 (T.setTop (mkF m pc Ls (.int y :: .int x :: rest))) := by
  subst hp
  exact Go.step (fun t kt => iremM X hx (g := mkF m pc Ls _) rfl hd rfl hy kt) k
theorem Go.istoreN (X : Stand p l e R s m args below meth c T locs cells slots) (hx : p.tables.exec = Jvm.exec) {pc pc' : Nat} {Ls : Array Slot} {k : Fin 4} {x : Int32} {rest : List Value} {Ls' : Array Slot} (hp : pc' = pc + 1) (hd : decode c.code pc = .ok (.istore_n k, 1)) (hl : storeLocals Ls k.val (.int x) = some Ls') (k : Go p e below F0 (T.setTop (mkF m pc' Ls' rest))) : Go p e below F0 (T.setTop (mkF m pc Ls (.int x :: rest))) := by
  subst hp
  exact Go.step (fun t kt => XS.istoreN X.here hx (g := mkF m pc Ls _) rfl hd rfl hl kt) k
theorem Go.astoreN (X : Stand p l e R s m args below meth c T locs cells slots) (hx : p.tables.exec = Jvm.exec) {pc pc' : Nat} {Ls : Array Slot} {k : Fin 4} {x : Value} {rest : List Value} {Ls' : Array Slot} (hp : pc' = pc + 1) (hd : decode c.code pc = .ok (.astore_n k, 1)) (hv : x.isRef = true) (hl : storeLocals Ls k.val x = some Ls') (k : Go p e below F0 (T.setTop (mkF m pc' Ls' rest))) : Go p e below F0 (T.setTop (mkF m pc Ls (x :: rest))) := by
  subst hp
  exact Go.step (fun t kt => XS.astoreN X.here hx (g := mkF m pc Ls _) rfl hd rfl hv hl kt) k
theorem Go.astore (X : Stand p l e R s m args below meth c T locs cells slots) (hx : p.tables.exec = Jvm.exec) {pc pc' : Nat} {Ls : Array Slot} {k : Nat} {x : Value} {rest : List Value} {Ls' : Array Slot} (hp : pc' = pc + 2) (hd : decode c.code pc = .ok (.astore k, 2)) (hv : x.isRef = true) (hl : storeLocals Ls k x = some Ls') (k : Go p e below F0 (T.setTop (mkF m pc' Ls' rest))) : Go p e below F0 (T.setTop (mkF m pc Ls (x :: rest))) := by
  subst hp
  exact Go.step (fun t kt => XS.astore X.here hx (g := mkF m pc Ls _) rfl hd rfl hv hl kt) k
theorem Go.iinc (X : Stand p l e R s m args below meth c T locs cells slots) (hx : p.tables.exec = Jvm.exec) {pc pc' : Nat} {Ls : Array Slot} {st : List Value} {k : Nat} {cst : Int} {x y : Int32} {Ls' : Array Slot} (hp : pc' = pc + 3) (hd : decode c.code pc = .ok (.iinc k cst, 3)) (hl : Ls[k]? = some (.val (.int x))) (hy : x + Int32.ofInt cst = y) (hl' : storeLocals Ls k (.int y) = some Ls') (k : Go p e below F0 (T.setTop (mkF m pc' Ls' st))) : Go p e below F0 (T.setTop (mkF m pc Ls st)) := by
  subst hp
  exact Go.step (fun t kt => XS.iinc X.here hx (g := mkF m pc Ls _) rfl hd hl (by rw [hy]; exact hl') kt) k
theorem Go.goto (X : Stand p l e R s m args below meth c T locs cells slots) (hx : p.tables.exec = Jvm.exec) {pc pc' : Nat} {Ls : Array Slot} {o : Int} {st : List Value} (hd : decode c.code pc = .ok (.goto o, 3))  (ho : 0 ≤ (pc : Int) + o) (hp : ((pc : Int) + o).toNat = pc') (k : Go p e below F0 (T.setTop (mkF m pc' Ls st))) : Go p e below F0 (T.setTop (mkF m pc Ls st)) :=
  Go.step (fun t kt => XS.goto X.here hx (g := mkF m pc Ls _) rfl rfl hd ho hp kt) k
theorem Go.ifYes (X : Stand p l e R s m args below meth c T locs cells slots) (hx : p.tables.exec = Jvm.exec) {pc pc' : Nat} {Ls : Array Slot} {o : Int} {cd : ClassFile.Cond} {x : Int32} {rest : List Value} (hd : decode c.code pc = .ok (.ifCond cd o, 3)) (hc : if_icmp.holds cd x 0 = true) (ho : 0 ≤ (pc : Int) + o) (hp : ((pc : Int) + o).toNat = pc') (k : Go p e below F0 (T.setTop (mkF m pc' Ls rest))) : Go p e below F0 (T.setTop (mkF m pc Ls (.int x :: rest))) :=
  Go.step (fun t kt => XS.ifYes X.here hx (g := mkF m pc Ls _) rfl rfl hd rfl ((if0 _ _).trans hc) ho hp kt) k
theorem Go.icmpYes (X : Stand p l e R s m args below meth c T locs cells slots) (hx : p.tables.exec = Jvm.exec) {pc pc' : Nat} {Ls : Array Slot} {o : Int} {cd : ClassFile.Cond} {x y : Int32} {rest : List Value} (hd : decode c.code pc = .ok (.if_icmp cd o, 3)) (hc : if_icmp.holds cd x y = true) (ho : 0 ≤ (pc : Int) + o) (hp : ((pc : Int) + o).toNat = pc') (k : Go p e below F0 (T.setTop (mkF m pc' Ls rest))) : Go p e below F0 (T.setTop (mkF m pc Ls (.int y :: .int x :: rest))) :=
  Go.step (fun t kt => XS.icmpYes X.here hx (g := mkF m pc Ls _) rfl rfl hd rfl hc ho hp kt) k
theorem Go.ifNo (X : Stand p l e R s m args below meth c T locs cells slots) (hx : p.tables.exec = Jvm.exec) {pc pc' : Nat} {Ls : Array Slot} {o : Int} {cd : ClassFile.Cond} {x : Int32} {rest : List Value} (hp : pc' = pc + 3) (hd : decode c.code pc = .ok (.ifCond cd o, 3)) (hc : if_icmp.holds cd x 0 = false) (k : Go p e below F0 (T.setTop (mkF m pc' Ls rest))) : Go p e below F0 (T.setTop (mkF m pc Ls (.int x :: rest))) := by
  subst hp
  exact Go.step (fun t kt => XS.ifNo X.here hx (g := mkF m pc Ls _) rfl hd rfl ((if0 _ _).trans hc) kt) k
theorem Go.icmpNo (X : Stand p l e R s m args below meth c T locs cells slots) (hx : p.tables.exec = Jvm.exec) {pc pc' : Nat} {Ls : Array Slot} {o : Int} {cd : ClassFile.Cond} {x y : Int32} {rest : List Value} (hp : pc' = pc + 3) (hd : decode c.code pc = .ok (.if_icmp cd o, 3)) (hc : if_icmp.holds cd x y = false) (k : Go p e below F0 (T.setTop (mkF m pc' Ls rest))) : Go p e below F0 (T.setTop (mkF m pc Ls (.int y :: .int x :: rest))) := by
  subst hp
  exact Go.step (fun t kt => XS.icmpNo X.here hx (g := mkF m pc Ls _) rfl hd rfl hc kt) k
theorem Go.acmp (X : Stand p l e R s m args below meth c T locs cells slots) (hx : p.tables.exec = Jvm.exec) {pc pc' : Nat} {Ls : Array Slot} {cd : ACond} {x y : Value} {rest : List Value} {o : Int} {same : Bool} (hd : decode c.code pc = .ok (.if_acmp cd o, 3)) (h1 : x.isRef = true) (h2 : y.isRef = true) (hq : decide (x = y) = same) (ho : 0 ≤ (pc : Int) + o) (hp : pc' = if acV cd same = true then ((pc : Int) + o).toNat else pc + 3) (k : Go p e below F0 (T.setTop (mkF m pc' Ls rest))) : Go p e below F0 (T.setTop (mkF m pc Ls (y :: x :: rest))) :=
  Go.step (fun t kt => Jvm.RoadKit.acmp (g := mkF m pc Ls _) X hx rfl h1 h2 rfl hd rfl hq ho hp kt) k
theorem Go.getF (X : Stand p l e R s m args below meth c T locs cells slots) (hx : p.tables.exec = Jvm.exec) (hZ : Z.Warmed39 s.vm) {own : String} {index : Nat} (hown : s.vm.findClass own = some m.cls) {R0 O n d host : String} (wl : (Jvm.Cond.fieldLink own index R0 n d).before a0 Z = true ∨ (Jvm.Cond.fieldLinkNest own index R0 n d host).before a0 Z = true) (via : Via Z R0 O n d) (eT : T.heap = h) {a : Addr} {v : Value} (F : Fld Z h a O n d v) {pc pc' : Nat} {Ls : Array Slot} {rest : List Value} (hp : pc' = pc + 3) (hd : decode c.code pc = .ok (.getfield index, 3))
    (k : ∀ T', T'.heap = h → Stand p l e R s m args below meth c T' locs cells slots → Go p e below F0 (T'.setTop (mkF m pc' Ls (v :: rest)))) : Go p e below F0 (T.setTop (mkF m pc Ls (.ref a :: rest))) := by
  subst hp
  obtain ⟨T', X', e', st⟩ := Jvm.RoadKit.getF X hx hZ hown wl via eT F (g := mkF m pc Ls (.ref a :: rest)) rfl rfl hd
  exact Go.step st (k T' e' X')
theorem Go.getS (X : Stand p l e R s m args below meth c T locs cells slots) (hx : p.tables.exec = Jvm.exec) (hZ : Z.Warmed39 s.vm) {own : String} {index : Nat} (hown : s.vm.findClass own = some m.cls) {R0 O n d host : String} (wl : (Jvm.Cond.fieldLink own index R0 n d).before a0 Z = true ∨ (Jvm.Cond.fieldLinkNest own index R0 n d host).before a0 Z = true) (via : Via Z R0 O n d) (eT : T.heap = h) {v : Value} (F : Sta Z h O n d v) {pc pc' : Nat} {Ls : Array Slot} {rest : List Value} (hp : pc' = pc + 3) (hd : decode c.code pc = .ok (.getstatic index, 3))
    (k : ∀ T', T'.heap = h → Stand p l e R s m args below meth c T' locs cells slots → Go p e below F0 (T'.setTop (mkF m pc' Ls (v :: rest)))) : Go p e below F0 (T.setTop (mkF m pc Ls rest)) := by
  subst hp
  obtain ⟨T', X', e', st⟩ := Jvm.RoadKit.getS2 X hx hZ hown wl via eT F (g := mkF m pc Ls rest) rfl hd
  exact Go.step st (k T' e' X')
theorem Go.aaload (X : Stand p l e R s m args below meth c T locs cells slots) (hx : p.tables.exec = Jvm.exec) (hZ : Z.Warmed39 s.vm) (eT : T.heap = h) {a : Addr} {kk : ClassId} {z : Int32} {vs : List Value} {dv : Value} {ty : FieldType} (hty : ty.isReference = true) (V : Arv Z h a kk ty z vs dv) {j : Int32} {v : Value} (hj : ¬ j < 0 ∧ j < z) (hv : vs.getD j.toNatClampNeg dv = v) {pc pc' : Nat} {Ls : Array Slot} {rest : List Value} (hp : pc' = pc + 1) (hd : decode c.code pc = .ok (.aaload, 1)) (k : Go p e below F0 (T.setTop (mkF m pc' Ls (v :: rest)))) : Go p e below F0 (T.setTop (mkF m pc Ls (.int j :: .ref a :: rest))) := by
  subst hp
  obtain ⟨cl, A, q1, S, q3, H, G⟩ := V
  exact Go.step (fun t kt => X.aaload hx (j := j) (v := v) (by rw [eT]; exact A.1) (State.isArrayOf_alike hZ.alike A.2.1) hty A.2.2 (inb_of S hj) (H.at (inb_of S hj) hv) (g := mkF m pc Ls (.int j :: .ref a :: rest)) rfl rfl hd t kt) k
theorem Go.arraylength (X : Stand p l e R s m args below meth c T locs cells slots) (hx : p.tables.exec = Jvm.exec) (hZ : Z.Warmed39 s.vm) (eT : T.heap = h) {a : Addr} {kk : ClassId} {ty : FieldType} {z : Int32} {vs : List Value} {dv : Value} (V : Arv Z h a kk ty z vs dv) {pc pc' : Nat} {Ls : Array Slot} {rest : List Value} (hp : pc' = pc + 1) (hd : decode c.code pc = .ok (.arraylength, 1)) (k : Go p e below F0 (T.setTop (mkF m pc' Ls (.int z :: rest)))) : Go p e below F0 (T.setTop (mkF m pc Ls (.ref a :: rest))) := by
  subst hp
  obtain ⟨cl, A, q1, S, q3, H, G⟩ := V
  refine Go.step (fun t kt => X.arraylength hx (by rw [eT]; exact A.1) (State.isArrayOf_alike hZ.alike A.2.1) (g := mkF m pc Ls (.ref a :: rest)) rfl rfl hd t kt) ?_
  rw [len_of S q3]
  exact k
theorem Go.castY (X : Stand p l e R s m args below meth c T locs cells slots) (hx : p.tables.exec = Jvm.exec) (hZ : Z.Warmed39 s.vm) {own : String} {index : Nat} (hown : s.vm.findClass own = some m.cls) {K : String} (wl : (Jvm.Cond.classLink own index K).before a0 Z = true) (eT : T.heap = h) {a : Addr} (F : Ins Z h a K true) {pc pc' : Nat} {Ls : Array Slot} {rest : List Value} (hp : pc' = pc + 3) (hd : decode c.code pc = .ok (.checkcast index, 3))
    (k : ∀ T', T'.heap = h → Stand p l e R s m args below meth c T' locs cells slots → Go p e below F0 (T'.setTop (mkF m pc' Ls (.ref a :: rest)))) : Go p e below F0 (T.setTop (mkF m pc Ls (.ref a :: rest))) := by
  subst hp
  obtain ⟨T', X', e', st⟩ := Jvm.RoadKit.castY X hx hZ hown wl eT F (g := mkF m pc Ls (.ref a :: rest)) rfl rfl hd
  exact Go.step st (k T' e' X')
theorem Go.ldcI (X : Stand p l e R s m args below meth c T locs cells slots) (hx : p.tables.exec = Jvm.exec) (hZ : Z.Warmed39 s.vm) {own : String} {index : Nat} (hown : s.vm.findClass own = some m.cls) {v : Int32} (wl : (Jvm.Cond.constant own index v).before a0 Z = true) {pc pc' : Nat} {Ls : Array Slot} {rest : List Value} (hp : pc' = pc + 2) (hd : decode c.code pc = .ok (.ldc index, 2)) (k : Go p e below F0 (T.setTop (mkF m pc' Ls (.int v :: rest)))) : Go p e below F0 (T.setTop (mkF m pc Ls rest)) := by
  subst hp
  exact Go.step (fun t kt => X.ldcInt hx hown (mvT hZ wl) (g := mkF m pc Ls rest) rfl hd t kt) k
theorem Go.callSB (X : Stand p l e R s m args below meth c T locs cells slots) (hx : p.tables.exec = Jvm.exec) (hZ : Z.Warmed39 s.vm) {own : String} {index : Nat} (hown : s.vm.findClass own = some m.cls) {y : MethodName} {bytes : ByteArray} {maxL : Nat} {ret : Option FieldType} (w1 : (Jvm.Cond.methodLink own index y).before a0 Z = true) (w2 : (Jvm.Cond.static y).before a0 Z = true) (w3 : (Jvm.Cond.initialized y.cls).before a0 Z = true) (w4 : (Jvm.Cond.code y bytes maxL ret).before a0 Z = true) (hy : y.cls ≠ "java/lang/invoke/MethodHandle" ∧ y.cls ≠ "java/lang/invoke/VarHandle") {W : Nat} {Pre : Pt → Array Value → Prop} {Post : Pt → Array Value → Option Value → Pt → Prop} (hK : Back l R p e below s args y 3 W Pre Post) (eT : T.heap = h)  {pc pc' : Nat} {Ls : Array Slot} {stk argsL rest : List Value} (hp : pc' = pc + 3) (hsz : Ls.size = c.maxLocals) (hlen : ∀ sig, parseMethodDescriptor y.desc = some sig → argsL.length = sig.parameters.length) (hst : stk = argsL.reverse ++ rest) (hW : (rest.map fun v => v.category).sum ≤ W) (hd : decode c.code pc = .ok (.invokestatic index, 3)) (hpre : ∀ vm₁, s.WarmedH vm₁ → Pre ⟨T.setVm vm₁, locs, cells, slots⟩ argsL.toArray)
    (k : ∀ (v : Option Value) (vm₁ : Vm) (T' : State) (locs' : List Loc) (cells' slots' : Nat), Stand p l e R s m args below meth c T' locs' cells' slots' → Post ⟨T.setVm vm₁, locs, cells, slots⟩ argsL.toArray v ⟨T', locs', cells', slots'⟩ → Go p e below F0 (T'.setTop (mkF m pc' Ls (v.toList ++ rest)))) : Go p e below F0 (T.setTop (mkF m pc Ls stk)) := by
  subst hp
  obtain ⟨v, vm₁, ⟨T', L', c', n'⟩, -, X', hP, st⟩ := Jvm.LawKit.callS X hx hown (mvT hZ w1) (mvT hZ w2) (mvT hZ w3) (mvT hZ w4) hy hK (g := mkF m pc Ls stk) rfl hsz hlen hst (by show 2 * 0 + _ ≤ _; rw [Nat.mul_zero, Nat.zero_add]; exact hW) hd hpre
  exact Go.step st (k v vm₁ T' L' c' n' X' hP)
theorem Go.callS (X : Stand p l e R s m args below meth c T locs cells slots) (hx : p.tables.exec = Jvm.exec) (hZ : Z.Warmed39 s.vm) {own : String} {index : Nat} (hown : s.vm.findClass own = some m.cls) {y : MethodName} {bytes : ByteArray} {maxL : Nat} {ret : Option FieldType} (w1 : (Jvm.Cond.methodLink own index y).before a0 Z = true) (w2 : (Jvm.Cond.static y).before a0 Z = true) (w3 : (Jvm.Cond.initialized y.cls).before a0 Z = true) (w4 : (Jvm.Cond.code y bytes maxL ret).before a0 Z = true) (hy : y.cls ≠ "java/lang/invoke/MethodHandle" ∧ y.cls ≠ "java/lang/invoke/VarHandle") {rm : Room} {Qc : Option Value → Heap → List Loc → Prop}  (wc : (Jvm.Cond.code y bytes maxL ret).before a0 Z = true) (wz : (Jvm.Cond.initialized y.cls).before a0 Z = true) {as : Array Value} (hC : Ctr l Z y bytes maxL ret rm as h Qc) (eT : T.heap = h)  {pc pc' : Nat} {Ls : Array Slot} {stk argsL rest : List Value} (hp : pc' = pc + 3) (hsz : Ls.size = c.maxLocals) (hlen : ∀ sig, parseMethodDescriptor y.desc = some sig → argsL.length = sig.parameters.length) (hst : stk = argsL.reverse ++ rest) (has : argsL.toArray = as) {W : Nat} (hW : (rest.map fun v => v.category).sum ≤ W) (hf : rm.frames + 1 ≤ R.frames) (hl : W + (maxL + 11) + rm.locals ≤ R.locals) (hc : cells + rm.cells ≤ R.cells) (hs : slots + rm.slots ≤ R.slots) (hd : decode c.code pc = .ok (.invokestatic index, 3))
    (k : ∀ (v : Option Value) (T' : State) (L : List Loc), Qc v T'.heap L → Stand p l e R s m args below meth c T' (locs ++ L) (cells + rm.cells) (slots + rm.slots) → Go p e below F0 (T'.setTop (mkF m pc' Ls (v.toList ++ rest)))) : Go p e below F0 (T.setTop (mkF m pc Ls stk)) :=
  Go.callSB X hx hZ hown w1 w2 w3 w4 hy (backOf (W := W) (hC []) hZ wc wz hf hl) eT  hp hsz hlen hst hW hd (fun _ _ => ⟨has, eT, hc, hs⟩) (fun v vm₁ T' locs' cells' slots' X' ⟨L, hq, h1, h2, h3⟩ => by
    try dsimp only at h1 h2 h3
    subst h1 h2 h3
    exact k v T' L hq X')
theorem Go.callVB (X : Stand p l e R s m args below meth c T locs cells slots) (hx : p.tables.exec = Jvm.exec) (hZ : Z.Warmed39 s.vm) {own : String} {index : Nat} (hown : s.vm.findClass own = some m.cls) {x y : MethodName} {C : String} (w1 : (Jvm.Cond.methodLink own index x).before a0 Z = true) (w2 : (Jvm.Cond.declares x).before a0 Z = true) (nf : NotFace s x) (w3 : (Jvm.Cond.selects C x y).before a0 Z = true) (w4 : (Jvm.Cond.instanceMethod y).before a0 Z = true) (hy : x.cls ≠ "java/lang/invoke/MethodHandle" ∧ x.cls ≠ "java/lang/invoke/VarHandle") {W : Nat} {Pre : Pt → Array Value → Prop} {Post : Pt → Array Value → Option Value → Pt → Prop} (hK : Back l R p e below s args y 3 W Pre Post) (eT : T.heap = h) {a : Addr} (F : Exa Z h a C) {pc pc' : Nat} {Ls : Array Slot} {stk argsL rest : List Value} (hp : pc' = pc + 3) (hsz : Ls.size = c.maxLocals) (hlen : ∀ sig, parseMethodDescriptor x.desc = some sig → argsL.length = sig.parameters.length) (hst : stk = argsL.reverse ++ .ref a :: rest) (hW : (rest.map fun v => v.category).sum ≤ W) (hd : decode c.code pc = .ok (.invokevirtual index, 3)) (hpre : ∀ vm₁, s.WarmedH vm₁ → Pre ⟨T.setVm vm₁, locs, cells, slots⟩ (.ref a :: argsL).toArray)
    (k : ∀ (v : Option Value) (vm₁ : Vm) (T' : State) (locs' : List Loc) (cells' slots' : Nat), Stand p l e R s m args below meth c T' locs' cells' slots' → Post ⟨T.setVm vm₁, locs, cells, slots⟩ (.ref a :: argsL).toArray v ⟨T', locs', cells', slots'⟩ → Go p e below F0 (T'.setTop (mkF m pc' Ls (v.toList ++ rest)))) : Go p e below F0 (T.setTop (mkF m pc Ls stk)) := by
  subst hp
  obtain ⟨cB, kB, q1, q2, q3⟩ := isOf hZ eT F
  obtain ⟨v, vm₁, ⟨T', L', c', n'⟩, -, X', hP, st⟩ := X.virtualBack hx (y := x) (z := y) hown (mvT hZ w1) (mvT hZ w2) nf (mvT hZ w3) (mvT hZ w4) hy hK q1 q3 (g := mkF m pc Ls stk) rfl hsz (Steps.refl _) hlen hst (by show 2 * 0 + _ ≤ _; rw [Nat.mul_zero, Nat.zero_add]; exact hW) hd hpre
  exact Go.step (fun t kt => st.trans kt) (k v vm₁ T' L' c' n' X' hP)
theorem Go.callV (X : Stand p l e R s m args below meth c T locs cells slots) (hx : p.tables.exec = Jvm.exec) (hZ : Z.Warmed39 s.vm) {own : String} {index : Nat} (hown : s.vm.findClass own = some m.cls) {x y : MethodName} {C : String} (w1 : (Jvm.Cond.methodLink own index x).before a0 Z = true) (w2 : (Jvm.Cond.declares x).before a0 Z = true) (nf : NotFace s x) (w3 : (Jvm.Cond.selects C x y).before a0 Z = true) (w4 : (Jvm.Cond.instanceMethod y).before a0 Z = true) (hy : x.cls ≠ "java/lang/invoke/MethodHandle" ∧ x.cls ≠ "java/lang/invoke/VarHandle") {bytes : ByteArray} {maxL : Nat} {ret : Option FieldType} {rm : Room} {Qc : Option Value → Heap → List Loc → Prop}  (wc : (Jvm.Cond.code y bytes maxL ret).before a0 Z = true) (wz : (Jvm.Cond.initialized y.cls).before a0 Z = true) {as : Array Value} (hC : Ctr l Z y bytes maxL ret rm as h Qc) (eT : T.heap = h) {a : Addr} (F : Exa Z h a C) {pc pc' : Nat} {Ls : Array Slot} {stk argsL rest : List Value} (hp : pc' = pc + 3) (hsz : Ls.size = c.maxLocals) (hlen : ∀ sig, parseMethodDescriptor x.desc = some sig → argsL.length = sig.parameters.length) (hst : stk = argsL.reverse ++ .ref a :: rest) (has : (.ref a :: argsL).toArray = as) {W : Nat} (hW : (rest.map fun v => v.category).sum ≤ W) (hf : rm.frames + 1 ≤ R.frames) (hl : W + (maxL + 11) + rm.locals ≤ R.locals) (hc : cells + rm.cells ≤ R.cells) (hs : slots + rm.slots ≤ R.slots) (hd : decode c.code pc = .ok (.invokevirtual index, 3))
    (k : ∀ (v : Option Value) (T' : State) (L : List Loc), Qc v T'.heap L → Stand p l e R s m args below meth c T' (locs ++ L) (cells + rm.cells) (slots + rm.slots) → Go p e below F0 (T'.setTop (mkF m pc' Ls (v.toList ++ rest)))) : Go p e below F0 (T.setTop (mkF m pc Ls stk)) :=
  Go.callVB X hx hZ hown w1 w2 nf w3 w4 hy (backOf (W := W) (hC []) hZ wc wz hf hl) eT F hp hsz hlen hst hW hd (fun _ _ => ⟨has, eT, hc, hs⟩) (fun v vm₁ T' locs' cells' slots' X' ⟨L, hq, h1, h2, h3⟩ => by
    try dsimp only at h1 h2 h3
    subst h1 h2 h3
    exact k v T' L hq X')
theorem Arv.of_arh {a : Addr} {kk : ClassId} {ty : FieldType} {z : Int32} {vs : List Value} {dv : Value} (F : Arh Z h a kk ty z [] vs dv) : Arv Z h a kk ty z vs dv := by
  obtain ⟨cl, A, q1, S, q3, H, G⟩ := F
  exact ⟨cl, A, q1, S, q3, H, G⟩
theorem Go.clone (X : Stand p l e R s m args below meth c T locs cells slots) (hx : p.tables.exec = Jvm.exec) (hZ : Z.Warmed39 s.vm) {own : String} {index : Nat} (hown : s.vm.findClass own = some m.cls) {ad : String} (w1 : (Jvm.Cond.methodLink own index ⟨ad, "clone", "()Ljava/lang/Object;"⟩).before a0 Z = true) (w2 : (Jvm.Cond.sameMethod ad "java/lang/Object" "clone" "()Ljava/lang/Object;").before a0 Z = true) (w3 : (Jvm.Cond.native ⟨"java/lang/Object", "clone", "()Ljava/lang/Object;"⟩).before a0 Z = true) (w4 : (Jvm.Cond.instanceMethod ⟨"java/lang/Object", "clone", "()Ljava/lang/Object;"⟩).before a0 Z = true) (w5 : (Jvm.Cond.selects ad ⟨ad, "clone", "()Ljava/lang/Object;"⟩ ⟨"java/lang/Object", "clone", "()Ljava/lang/Object;"⟩).before a0 Z = true) (w6 : (Jvm.Cond.castable ad "java/lang/Cloneable").before a0 Z = true) (eT : T.heap = h) {a : Addr} {kk : ClassId} {ty : FieldType} {z : Int32} {vs : List Value} {dv : Value} (V : Arv Z h a kk ty z vs dv) (E : Exa Z h a ad) {W cap : Nat} {pc pc' : Nat} {Ls : Array Slot} {rest : List Value} (hf : 1 ≤ R.frames) (hsz : Ls.size = c.maxLocals) (hW : (rest.map fun v => v.category).sum ≤ W) (hl : W + 14 ≤ R.locals) (hcap : z.toNatClampNeg ≤ cap) (hc : cells + 1 ≤ R.cells) (hsl : slots + cap ≤ R.slots) (hp : pc' = pc + 3) (hd : decode c.code pc = .ok (.invokevirtual index, 3))
    (k : ∀ T' h' b, T'.heap = h' → Ext h h' → b = h.size → Arv Z h' b kk ty z vs dv → Exa Z h' b ad → Stand p l e R s m args below meth c T' locs (cells + 1) (slots + cap) → Go p e below F0 (T'.setTop (mkF m pc' Ls (.ref b :: rest)))) : Go p e below F0 (T.setTop (mkF m pc Ls (.ref a :: rest))) := by
  subst hp
  obtain ⟨T', h', X', e', E', V', A', st⟩ := cloneH X hx hZ hown w1 w2 w3 w4 w5 w6 eT V.arh E (g := mkF m pc Ls (.ref a :: rest)) rfl hsz rfl hd hf (W := W) (by show 2 * 0 + _ ≤ _; rw [Nat.mul_zero, Nat.zero_add]; exact hW) hl hcap hc hsl
  exact Go.step st (k T' h' h.size e' E' rfl (Arv.of_arh V') A' X')
end OwnGo
end Jvm.RoadKit
namespace Jvm.Pilot.@@N@@
open Jvm Jvm.ClassFile Sem Op Lib Jvm.Free Jvm.Stand Jvm.LawKit Jvm.RoadKit Bundle Jvm.Pilot.@@N@@.Jvm.D
theorem tw_0 {Z : State} {a0 : Array Value} (hw : ∀ d ∈ tables_1, d.before a0 Z = true) : (Jvm.Cond.constant "com/example/rollcall/rollcall/core/ApplicationStatusOfPinLaw" (7 : Nat) (2147483647 : Int32)).before a0 Z = true := hw _ (List.mem_of_getElem? (i := 0) rfl)
theorem tw_1 {Z : State} {a0 : Array Value} (hw : ∀ d ∈ tables_1, d.before a0 Z = true) : (Jvm.Cond.fieldLink "com/example/rollcall/rollcall/core/ApplicationStatusOfPinLaw" (8 : Nat) "com/example/rollcall/rollcall/core/ApplicationStatus" "APPROVED" "Lcom/example/rollcall/rollcall/core/ApplicationStatus;").before a0 Z = true := hw _ (List.mem_of_getElem? (i := 1) rfl)
theorem tw_2 {Z : State} {a0 : Array Value} (hw : ∀ d ∈ tables_1, d.before a0 Z = true) : (Jvm.Cond.initialized "com/example/rollcall/rollcall/core/ApplicationStatus").before a0 Z = true := hw _ (List.mem_of_getElem? (i := 2) rfl)
theorem tw_3 {Z : State} {a0 : Array Value} (hw : ∀ d ∈ tables_1, d.before a0 Z = true) : (Jvm.Cond.laysStatic "com/example/rollcall/rollcall/core/ApplicationStatus" "APPROVED" "Lcom/example/rollcall/rollcall/core/ApplicationStatus;").before a0 Z = true := hw _ (List.mem_of_getElem? (i := 3) rfl)
theorem tw_4 {Z : State} {a0 : Array Value} (hw : ∀ d ∈ tables_1, d.before a0 Z = true) : (Jvm.Cond.methodLink "com/example/rollcall/rollcall/core/ApplicationStatusOfPinLaw" (20 : Nat) ({ cls := "com/example/rollcall/rollcall/core/ApplicationStatus", name := "of", desc := "(I)Lcom/example/rollcall/rollcall/core/ApplicationStatus;" } : Jvm.MethodName)).before a0 Z = true := hw _ (List.mem_of_getElem? (i := 4) rfl)
theorem tw_5 {Z : State} {a0 : Array Value} (hw : ∀ d ∈ tables_1, d.before a0 Z = true) : (Jvm.Cond.static ({ cls := "com/example/rollcall/rollcall/core/ApplicationStatus", name := "of", desc := "(I)Lcom/example/rollcall/rollcall/core/ApplicationStatus;" } : Jvm.MethodName)).before a0 Z = true := hw _ (List.mem_of_getElem? (i := 5) rfl)
theorem tw_6 {Z : State} {a0 : Array Value} (hw : ∀ d ∈ tables_1, d.before a0 Z = true) : (Jvm.Cond.code ({ cls := "com/example/rollcall/rollcall/core/ApplicationStatus", name := "of", desc := "(I)Lcom/example/rollcall/rollcall/core/ApplicationStatus;" } : Jvm.MethodName) prog_4_method_6_code (5 : Nat) (Option.some (Jvm.ClassFile.FieldType.object "com/example/rollcall/rollcall/core/ApplicationStatus"))).before a0 Z = true := hw _ (List.mem_of_getElem? (i := 6) rfl)
theorem tw_7 {Z : State} {a0 : Array Value} (hw : ∀ d ∈ tables_1, d.before a0 Z = true) : (Jvm.Cond.methodLink "com/example/rollcall/rollcall/core/ApplicationStatus" (40 : Nat) ({ cls := "com/example/rollcall/rollcall/core/ApplicationStatus", name := "values", desc := "()[Lcom/example/rollcall/rollcall/core/ApplicationStatus;" } : Jvm.MethodName)).before a0 Z = true := hw _ (List.mem_of_getElem? (i := 7) rfl)
theorem tw_8 {Z : State} {a0 : Array Value} (hw : ∀ d ∈ tables_1, d.before a0 Z = true) : (Jvm.Cond.static ({ cls := "com/example/rollcall/rollcall/core/ApplicationStatus", name := "values", desc := "()[Lcom/example/rollcall/rollcall/core/ApplicationStatus;" } : Jvm.MethodName)).before a0 Z = true := hw _ (List.mem_of_getElem? (i := 8) rfl)
theorem tw_9 {Z : State} {a0 : Array Value} (hw : ∀ d ∈ tables_1, d.before a0 Z = true) : (Jvm.Cond.code ({ cls := "com/example/rollcall/rollcall/core/ApplicationStatus", name := "values", desc := "()[Lcom/example/rollcall/rollcall/core/ApplicationStatus;" } : Jvm.MethodName) prog_4_method_1_code (0 : Nat) (Option.some (Jvm.ClassFile.FieldType.array (Jvm.ClassFile.FieldType.object "com/example/rollcall/rollcall/core/ApplicationStatus")))).before a0 Z = true := hw _ (List.mem_of_getElem? (i := 9) rfl)
theorem tw_10 {Z : State} {a0 : Array Value} (hw : ∀ d ∈ tables_1, d.before a0 Z = true) : (Jvm.Cond.fieldLink "com/example/rollcall/rollcall/core/ApplicationStatus" (13 : Nat) "com/example/rollcall/rollcall/core/ApplicationStatus" "$VALUES" "[Lcom/example/rollcall/rollcall/core/ApplicationStatus;").before a0 Z = true := hw _ (List.mem_of_getElem? (i := 10) rfl)
theorem tw_11 {Z : State} {a0 : Array Value} (hw : ∀ d ∈ tables_1, d.before a0 Z = true) : (Jvm.Cond.laysStatic "com/example/rollcall/rollcall/core/ApplicationStatus" "$VALUES" "[Lcom/example/rollcall/rollcall/core/ApplicationStatus;").before a0 Z = true := hw _ (List.mem_of_getElem? (i := 11) rfl)
theorem tw_12 {Z : State} {a0 : Array Value} (hw : ∀ d ∈ tables_1, d.before a0 Z = true) : (Jvm.Cond.methodLink "com/example/rollcall/rollcall/core/ApplicationStatus" (17 : Nat) ({ cls := "[Lcom/example/rollcall/rollcall/core/ApplicationStatus;", name := "clone", desc := "()Ljava/lang/Object;" } : Jvm.MethodName)).before a0 Z = true := hw _ (List.mem_of_getElem? (i := 12) rfl)
theorem tw_13 {Z : State} {a0 : Array Value} (hw : ∀ d ∈ tables_1, d.before a0 Z = true) : (Jvm.Cond.sameMethod "[Lcom/example/rollcall/rollcall/core/ApplicationStatus;" "java/lang/Object" "clone" "()Ljava/lang/Object;").before a0 Z = true := hw _ (List.mem_of_getElem? (i := 13) rfl)
theorem tw_15 {Z : State} {a0 : Array Value} (hw : ∀ d ∈ tables_1, d.before a0 Z = true) : (Jvm.Cond.instanceMethod ({ cls := "java/lang/Object", name := "clone", desc := "()Ljava/lang/Object;" } : Jvm.MethodName)).before a0 Z = true := hw _ (List.mem_of_getElem? (i := 15) rfl)
theorem tw_16 {Z : State} {a0 : Array Value} (hw : ∀ d ∈ tables_1, d.before a0 Z = true) : (Jvm.Cond.selects "[Lcom/example/rollcall/rollcall/core/ApplicationStatus;" ({ cls := "[Lcom/example/rollcall/rollcall/core/ApplicationStatus;", name := "clone", desc := "()Ljava/lang/Object;" } : Jvm.MethodName) ({ cls := "java/lang/Object", name := "clone", desc := "()Ljava/lang/Object;" } : Jvm.MethodName)).before a0 Z = true := hw _ (List.mem_of_getElem? (i := 16) rfl)
theorem tw_17 {Z : State} {a0 : Array Value} (hw : ∀ d ∈ tables_1, d.before a0 Z = true) : (Jvm.Cond.native ({ cls := "java/lang/Object", name := "clone", desc := "()Ljava/lang/Object;" } : Jvm.MethodName)).before a0 Z = true := hw _ (List.mem_of_getElem? (i := 17) rfl)
theorem tw_18 {Z : State} {a0 : Array Value} (hw : ∀ d ∈ tables_1, d.before a0 Z = true) : (Jvm.Cond.castable "[Lcom/example/rollcall/rollcall/core/ApplicationStatus;" "java/lang/Cloneable").before a0 Z = true := hw _ (List.mem_of_getElem? (i := 18) rfl)
theorem tw_19 {Z : State} {a0 : Array Value} (hw : ∀ d ∈ tables_1, d.before a0 Z = true) : (Jvm.Cond.laysStatic "com/example/rollcall/rollcall/core/ApplicationStatus" "PENDING" "Lcom/example/rollcall/rollcall/core/ApplicationStatus;").before a0 Z = true := hw _ (List.mem_of_getElem? (i := 19) rfl)
theorem tw_20 {Z : State} {a0 : Array Value} (hw : ∀ d ∈ tables_1, d.before a0 Z = true) : (Jvm.Cond.laysStatic "com/example/rollcall/rollcall/core/ApplicationStatus" "REJECTED" "Lcom/example/rollcall/rollcall/core/ApplicationStatus;").before a0 Z = true := hw _ (List.mem_of_getElem? (i := 20) rfl)
theorem tw_22 {Z : State} {a0 : Array Value} (hw : ∀ d ∈ tables_1, d.before a0 Z = true) : (Jvm.Cond.classLink "com/example/rollcall/rollcall/core/ApplicationStatus" (18 : Nat) "[Lcom/example/rollcall/rollcall/core/ApplicationStatus;").before a0 Z = true := hw _ (List.mem_of_getElem? (i := 22) rfl)
theorem tw_24 {Z : State} {a0 : Array Value} (hw : ∀ d ∈ tables_1, d.before a0 Z = true) : (Jvm.Cond.fieldLink "com/example/rollcall/rollcall/core/ApplicationStatus" (32 : Nat) "com/example/rollcall/rollcall/core/ApplicationStatus" "code" "I").before a0 Z = true := hw _ (List.mem_of_getElem? (i := 24) rfl)
theorem tw_26 {Z : State} {a0 : Array Value} (hw : ∀ d ∈ tables_1, d.before a0 Z = true) : (Jvm.Cond.methodLink "com/example/rollcall/rollcall/core/ApplicationStatusOfPinLaw" (24 : Nat) ({ cls := "com/example/rollcall/rollcall/core/ApplicationStatus", name := "code", desc := "()I" } : Jvm.MethodName)).before a0 Z = true := hw _ (List.mem_of_getElem? (i := 26) rfl)
theorem tw_27 {Z : State} {a0 : Array Value} (hw : ∀ d ∈ tables_1, d.before a0 Z = true) : (Jvm.Cond.declares ({ cls := "com/example/rollcall/rollcall/core/ApplicationStatus", name := "code", desc := "()I" } : Jvm.MethodName)).before a0 Z = true := hw _ (List.mem_of_getElem? (i := 27) rfl)
theorem tw_28 {Z : State} {a0 : Array Value} (hw : ∀ d ∈ tables_1, d.before a0 Z = true) : (Jvm.Cond.instanceMethod ({ cls := "com/example/rollcall/rollcall/core/ApplicationStatus", name := "code", desc := "()I" } : Jvm.MethodName)).before a0 Z = true := hw _ (List.mem_of_getElem? (i := 28) rfl)
theorem tw_29 {Z : State} {a0 : Array Value} (hw : ∀ d ∈ tables_1, d.before a0 Z = true) : (Jvm.Cond.selects "com/example/rollcall/rollcall/core/ApplicationStatus" ({ cls := "com/example/rollcall/rollcall/core/ApplicationStatus", name := "code", desc := "()I" } : Jvm.MethodName) ({ cls := "com/example/rollcall/rollcall/core/ApplicationStatus", name := "code", desc := "()I" } : Jvm.MethodName)).before a0 Z = true := hw _ (List.mem_of_getElem? (i := 29) rfl)
theorem tw_30 {Z : State} {a0 : Array Value} (hw : ∀ d ∈ tables_1, d.before a0 Z = true) : (Jvm.Cond.code ({ cls := "com/example/rollcall/rollcall/core/ApplicationStatus", name := "code", desc := "()I" } : Jvm.MethodName) prog_4_method_4_code (1 : Nat) (Option.some Jvm.ClassFile.FieldType.int)).before a0 Z = true := hw _ (List.mem_of_getElem? (i := 30) rfl)
theorem tw_31 {Z : State} {a0 : Array Value} (hw : ∀ d ∈ tables_1, d.before a0 Z = true) : (Jvm.Cond.fieldLink "com/example/rollcall/rollcall/core/ApplicationStatusOfPinLaw" (17 : Nat) "com/example/rollcall/rollcall/core/ApplicationStatus" "REJECTED" "Lcom/example/rollcall/rollcall/core/ApplicationStatus;").before a0 Z = true := hw _ (List.mem_of_getElem? (i := 31) rfl)
theorem tw_32 {Z : State} {a0 : Array Value} (hw : ∀ d ∈ tables_1, d.before a0 Z = true) : (Jvm.Cond.fieldLink "com/example/rollcall/rollcall/core/ApplicationStatusOfPinLaw" (14 : Nat) "com/example/rollcall/rollcall/core/ApplicationStatus" "PENDING" "Lcom/example/rollcall/rollcall/core/ApplicationStatus;").before a0 Z = true := hw _ (List.mem_of_getElem? (i := 32) rfl)
section OwnStart
variable {args : Array Value} {first s : State} {o : Option Outcome} {idx : List Nat} {t : Term}
theorem own_eqI {k : Int32} (h : (Jvm.Cond.eq t (Term.int k)).value args first o s idx = some true) : t.eval args first o idx s = some (.int k) := by
  cases ht : t.eval args first o idx s with
  | none => simp [Cond.value, ht] at h
  | some x => cases x <;> simp [Cond.value, ht, Term.eval] at h; subst h; rfl
theorem own_len {a : Addr} {cl : Cell} {ty : FieldType} {n : Int32} (ev : t.eval args s none [] s = some (.ref a)) (A : Arr s s.heap a cl ty) (h : (Jvm.Cond.eq (.length t) (Term.int n)).value args s none s [] = some true) : cl.slots.size < 2 ^ 31 ∧ cl.slots.size.toInt32 = n := by
  have h1 := own_eqI h
  have h2 : s.arrayAt? a = some cl := Arr.fin (Vm.Alike.refl _) A
  simp only [Term.eval, ev, Bind.bind, Option.bind, h2, Pure.pure] at h1
  split at h1
  · exact ⟨by assumption, by simpa using h1⟩
  · simp at h1
theorem own_elem {a : Addr} {cl : Cell} {ty : FieldType} {j : Int32} {u : Term} {v : Value} (ev : t.eval args s none [] s = some (.ref a)) (A : Arr s s.heap a cl ty) (eu : u.eval args s none [] s = some v) (hv : v.isRef = true) (h : (Jvm.Cond.eq (.elem t (.int j)) u).value args s none s [] = some true) : ¬ (j < 0 ∨ cl.slots.size ≤ j.toNatClampNeg) ∧ cl.slots[j.toNatClampNeg]? = some v := by
  obtain ⟨x, y, h1, h2, k1, k2⟩ := cmp_v (Or.inl h)
  cases eu.symm.trans h2
  have q := elem_in h1 ev (Term.int_eval j) A.1
  refine ⟨q.1, ?_⟩
  have e1 : x = v := by
    have hx : x.isRef = true := by
      rcases ref_cases hv with rfl | ⟨z, rfl⟩ <;> exact k2.2
    have := eq_R h1 h2 hx hv
    rw [h] at this
    exact of_decide_eq_true (Option.some.inj this).symm
  rw [← e1]; exact q.2
end OwnStart

section OwnAuto
theorem own_rand {x m z : Int32} {k : Int} (h : (x &&& m) = z) (hm : 0 ≤ m.toInt ∧ m.toInt = k) : 0 ≤ z.toInt ∧ z.toInt ≤ k := by subst h; have := c_and x m hm.1; omega
theorem own_rrem {x y z : Int32} {d a b B : Int} (h : (x % y) = z) (hy : y.toInt = d) (hd : 0 < d) (hr : a ≤ x.toInt ∧ x.toInt ≤ b) (ha : 0 ≤ a) (hB : d = B + 1) : 0 ≤ z.toInt ∧ z.toInt ≤ B := by
  subst h
  have e := (c_irem x y d hy).1 (by omega)
  rw [e]
  have h1 := Int.emod_nonneg x.toInt (by omega : d ≠ 0)
  have h2 := Int.emod_lt_of_pos x.toInt hd
  omega
end OwnAuto

def Glob (Z : State) (f0 : Addr) (f1 : Addr) (f2 : Addr) (va : Addr) (kv : ClassId) : Prop := Sta Z Z.heap "com/example/rollcall/rollcall/core/ApplicationStatus" "APPROVED" "Lcom/example/rollcall/rollcall/core/ApplicationStatus;" (.ref f0) ∧ Exa Z Z.heap f0 "com/example/rollcall/rollcall/core/ApplicationStatus" ∧ Fld Z Z.heap f0 "com/example/rollcall/rollcall/core/ApplicationStatus" "code" "I" (.int 1) ∧ Sta Z Z.heap "com/example/rollcall/rollcall/core/ApplicationStatus" "PENDING" "Lcom/example/rollcall/rollcall/core/ApplicationStatus;" (.ref f1) ∧ Exa Z Z.heap f1 "com/example/rollcall/rollcall/core/ApplicationStatus" ∧ Fld Z Z.heap f1 "com/example/rollcall/rollcall/core/ApplicationStatus" "code" "I" (.int 2) ∧ Sta Z Z.heap "com/example/rollcall/rollcall/core/ApplicationStatus" "REJECTED" "Lcom/example/rollcall/rollcall/core/ApplicationStatus;" (.ref f2) ∧ Exa Z Z.heap f2 "com/example/rollcall/rollcall/core/ApplicationStatus" ∧ Fld Z Z.heap f2 "com/example/rollcall/rollcall/core/ApplicationStatus" "code" "I" (.int 3) ∧ Sta Z Z.heap "com/example/rollcall/rollcall/core/ApplicationStatus" "$VALUES" "[Lcom/example/rollcall/rollcall/core/ApplicationStatus;" (.ref va) ∧ Exa Z Z.heap va "[Lcom/example/rollcall/rollcall/core/ApplicationStatus;" ∧ Arv Z Z.heap va kv (.object "com/example/rollcall/rollcall/core/ApplicationStatus") (3 : Int32) [(.ref f0), (.ref f1), (.ref f2)] .null
theorem own_cs_0_2 {z : Int32} (h : 0 ≤ z.toInt ∧ z.toInt ≤ 2) : z = (0 : Int32) ∨ z = (1 : Int32) ∨ z = (2 : Int32) := by
  have q : z.toInt = 0 ∨ z.toInt = 1 ∨ z.toInt = 2 := by omega
  rcases q with h | h | h <;> simp [← Int32.toInt_inj, h]
theorem d2_0 : decode prog_4_method_1_code 0 = .ok (.getstatic 13, 3) := by decide +kernel
theorem d2_3 : decode prog_4_method_1_code 3 = .ok (.invokevirtual 17, 3) := by decide +kernel
theorem d2_6 : decode prog_4_method_1_code 6 = .ok (.checkcast 18, 3) := by decide +kernel
theorem d2_9 : decode prog_4_method_1_code 9 = .ok (.areturn, 1) := by decide +kernel
theorem ef_2_ (m : MethodId)  : entryFrame m #[] 0 = mkF m 0 #[] [] := by first | (simp [entryFrame, mkF, argsToLocals, Value.category]; done) | rfl
theorem pn_c0 : plainName "com/example/rollcall/rollcall/core/ApplicationStatus" = true := by first | (simp [plainName, overriddenIn]; done) | decide +kernel
-- com/example/rollcall/rollcall/core/ApplicationStatus.values
set_option maxRecDepth 65536 in
set_option maxHeartbeats 4000000 in
theorem au_2 (l : Launch) (Z : State) (a0 : Array Value) (hw : ∀ d ∈ tables_1, d.before a0 Z = true) (f0 : Addr) (f1 : Addr) (f2 : Addr) (va : Addr) (kv : ClassId) (h0 : Heap) (n0 : Nat) (Z0 : n0 ≤ h0.size) (O0 : Old Z n0 h0) (G : Glob Z f0 f1 f2 va kv) :
    Ctr l Z (⟨"com/example/rollcall/rollcall/core/ApplicationStatus", "values", "()[Lcom/example/rollcall/rollcall/core/ApplicationStatus;"⟩ : MethodName) prog_4_method_1_code 0 (some (.array (.object "com/example/rollcall/rollcall/core/ApplicationStatus"))) ({ frames := 1, cells := 1, slots := 3, locals := 14 } : Room) #[] h0 (fun v h L => ∃ (b5 : Addr), v = some (.ref b5) ∧ Fr n0 L ∧ Keep h0 h [] ∧ h0.size ≤ b5 ∧ Arv Z h b5 kv (.object "com/example/rollcall/rollcall/core/ApplicationStatus") (3 : Int32) [(.ref f0), (.ref f1), (.ref f2)] .null ∧ Exa Z h b5 "[Lcom/example/rollcall/rollcall/core/ApplicationStatus;") := by
  refine Ctr.of (plainFor_of_name pn_c0) ?_
  intro p e s m below meth c T0 hx hZ hby hml hown hnm hret hlk e0 es X0
  refine Go.cast (ef_2_ m ) ?_
  have G' := G
  obtain ⟨-, -, -, -, -, -, -, -, -, G9, G10, G11⟩ := G'
  have fk1 : Sta Z h0 "com/example/rollcall/rollcall/core/ApplicationStatus" "$VALUES" "[Lcom/example/rollcall/rollcall/core/ApplicationStatus;" (.ref va) := G9.ext O0.2
  refine Go.getS X0 hx hZ hown (host := "") (Or.inl (tw_10 hw)) Via.refl e0 fk1 (pc' := 3) rfl (hb hby d2_0) ?_
  intro T2 e2 X2
  have fk3 : Arv Z h0 va kv (.object "com/example/rollcall/rollcall/core/ApplicationStatus") (3 : Int32) [(.ref f0), (.ref f1), (.ref f2)] .null := G11.ext O0.2
  have fk4 : Exa Z h0 va "[Lcom/example/rollcall/rollcall/core/ApplicationStatus;" := G10.ext O0.2
  refine Go.clone X2 hx hZ hown (tw_12 hw) (tw_13 hw) (tw_17 hw) (tw_15 hw) (tw_16 hw) (tw_18 hw) e2 fk3 fk4 (W := 0) (cap := 3) (by decide) (by rw [hml]; rfl) (Nat.le_of_eq rfl) (by decide) (by decide) (by decide) (by decide) (pc' := 6) rfl (hb hby d2_3) ?_
  intro T5 h5 b5 e5 E5 g5 V5 A5 X5
  refine Go.castY X5 hx hZ hown (tw_22 hw) e5 (Ins.self A5) (pc' := 9) rfl (hb hby d2_6) ?_
  intro T6 e6 X6
  refine Go.retR X6 hx hlk (t := (.array (.object "com/example/rollcall/rollcall/core/ApplicationStatus"))) hret rfl rfl (hb hby d2_9) (by decide) (by decide) ?_
  rw [e6]
  have Kp7 : Keep h0 h5 [] := ((Keep.refl h0 []).ext E5)
  have sz8 : h0.size ≤ b5 := Nat.le_trans (Keep.refl h0 []).1 (Nat.le_of_eq g5.symm)
  exact ⟨b5, rfl, (Fr.nil n0), Kp7, sz8, V5, A5⟩
theorem pd_0 : parseMethodDescriptor "()[Lcom/example/rollcall/rollcall/core/ApplicationStatus;" = some ⟨[], some (.array (.object "com/example/rollcall/rollcall/core/ApplicationStatus"))⟩ := by decide +kernel
theorem d1_0 : decode prog_4_method_6_code 0 = .ok (.invokestatic 40, 3) := by decide +kernel
theorem d1_3 : decode prog_4_method_6_code 3 = .ok (.astore_n 1, 1) := by decide +kernel
theorem d1_4 : decode prog_4_method_6_code 4 = .ok (.aload_n 1, 1) := by decide +kernel
theorem d1_5 : decode prog_4_method_6_code 5 = .ok (.arraylength, 1) := by decide +kernel
theorem d1_6 : decode prog_4_method_6_code 6 = .ok (.istore_n 2, 1) := by decide +kernel
theorem d1_7 : decode prog_4_method_6_code 7 = .ok (.iconst 0, 1) := by decide +kernel
theorem d1_8 : decode prog_4_method_6_code 8 = .ok (.istore_n 3, 1) := by decide +kernel
theorem d1_9 : decode prog_4_method_6_code 9 = .ok (.iload_n 3, 1) := by decide +kernel
theorem d1_10 : decode prog_4_method_6_code 10 = .ok (.iload_n 2, 1) := by decide +kernel
theorem d1_11 : decode prog_4_method_6_code 11 = .ok (.if_icmp .ge 26, 3) := by decide +kernel
theorem d1_14 : decode prog_4_method_6_code 14 = .ok (.aload_n 1, 1) := by decide +kernel
theorem d1_15 : decode prog_4_method_6_code 15 = .ok (.iload_n 3, 1) := by decide +kernel
theorem d1_16 : decode prog_4_method_6_code 16 = .ok (.aaload, 1) := by decide +kernel
theorem d1_17 : decode prog_4_method_6_code 17 = .ok (.astore 4, 2) := by decide +kernel
theorem d1_19 : decode prog_4_method_6_code 19 = .ok (.aload 4, 2) := by decide +kernel
theorem d1_21 : decode prog_4_method_6_code 21 = .ok (.getfield 32, 3) := by decide +kernel
theorem d1_24 : decode prog_4_method_6_code 24 = .ok (.iload_n 0, 1) := by decide +kernel
theorem d1_25 : decode prog_4_method_6_code 25 = .ok (.if_icmp .ne 6, 3) := by decide +kernel
theorem d1_28 : decode prog_4_method_6_code 28 = .ok (.aload 4, 2) := by decide +kernel
theorem d1_30 : decode prog_4_method_6_code 30 = .ok (.areturn, 1) := by decide +kernel
theorem ef_1_I (m : MethodId) (x0 : Int32) : entryFrame m #[(.int x0)] 5 = mkF m 0 #[.val (.int x0), .unset, .unset, .unset, .unset] [] := by first | (simp [entryFrame, mkF, argsToLocals, Value.category]; done) | rfl
-- com/example/rollcall/rollcall/core/ApplicationStatus.of
set_option maxRecDepth 65536 in
set_option maxHeartbeats 4000000 in
theorem au_1 (l : Launch) (Z : State) (a0 : Array Value) (hw : ∀ d ∈ tables_1, d.before a0 Z = true) (f0 : Addr) (f1 : Addr) (f2 : Addr) (va : Addr) (kv : ClassId) (h0 : Heap) (n0 : Nat) (Z0 : n0 ≤ h0.size) (O0 : Old Z n0 h0) (G : Glob Z f0 f1 f2 va kv) :
    Ctr l Z (⟨"com/example/rollcall/rollcall/core/ApplicationStatus", "of", "(I)Lcom/example/rollcall/rollcall/core/ApplicationStatus;"⟩ : MethodName) prog_4_method_6_code 5 (some (.object "com/example/rollcall/rollcall/core/ApplicationStatus")) ({ frames := 2, cells := 1, slots := 3, locals := 25 } : Room) #[(.int 1)] h0 (fun v h L => v = some (.ref f0) ∧ Fr n0 L ∧ Keep h0 h []) := by
  refine Ctr.of (plainFor_of_name pn_c0) ?_
  intro p e s m below meth c T0 hx hZ hby hml hown hnm hret hlk e0 es X0
  refine Go.cast (ef_1_I m (1 : Int32)) ?_
  have G' := G
  obtain ⟨-, -, G2, -, -, -, -, -, -, -, -, -⟩ := G'
  refine Go.callS X0 hx hZ hown (tw_7 hw) (tw_8 hw) (tw_2 hw) (tw_9 hw) (by decide) (tw_9 hw) (tw_2 hw) (au_2 l Z a0 hw f0 f1 f2 va kv h0 n0 Z0 O0 G) e0 (argsL := []) (rest := []) (pc' := 3) rfl (by rw [hml]; rfl) (lenOf pd_0 rfl) rfl rfl (W := 0) (Nat.le_of_eq rfl) (by decide) (by decide) (by decide) (by decide) (hb hby d1_0) ?_
  intro v1 T1 L1 q1 X1
  obtain ⟨h1, e1⟩ : ∃ z, T1.heap = z := ⟨_, rfl⟩
  rw [e1] at q1
  obtain ⟨b1_0, rfl, N1, K1, s1_0, F1_0, F1_1⟩ := q1
  show Go _ _ _ _ (T1.setTop (mkF m 3 #[.val (.int 1), .unset, .unset, .unset, .unset] [(.ref b1_0)]))
  refine Go.astoreN X1 hx (pc' := 4) rfl (hb hby d1_3) (Ls' := #[.val (.int 1), .val (.ref b1_0), .unset, .unset, .unset]) rfl rfl ?_
  refine Go.aloadN X1 hx (pc' := 5) rfl (hb hby d1_4) rfl rfl ?_
  refine Go.arraylength X1 hx hZ e1 F1_0 (pc' := 6) rfl (hb hby d1_5) ?_
  refine Go.istoreN X1 hx (pc' := 7) rfl (hb hby d1_6) (Ls' := #[.val (.int 1), .val (.ref b1_0), .val (.int 3), .unset, .unset]) rfl ?_
  refine Go.iconst X1 hx (pc' := 8) rfl (hb hby d1_7) (v := (0 : Int32)) rfl ?_
  refine Go.istoreN X1 hx (pc' := 9) rfl (hb hby d1_8) (Ls' := #[.val (.int 1), .val (.ref b1_0), .val (.int 3), .val (.int 0), .unset]) rfl ?_
  refine Go.iloadN X1 hx (pc' := 10) rfl (hb hby d1_9) rfl ?_
  refine Go.iloadN X1 hx (pc' := 11) rfl (hb hby d1_10) rfl ?_
  refine Go.icmpNo X1 hx (pc' := 14) rfl (hb hby d1_11) (by decide) ?_
  refine Go.aloadN X1 hx (pc' := 15) rfl (hb hby d1_14) rfl rfl ?_
  refine Go.iloadN X1 hx (pc' := 16) rfl (hb hby d1_15) rfl ?_
  refine Go.aaload X1 hx hZ e1 rfl F1_0 (v := (.ref f0)) ⟨by decide, by decide⟩ rfl (pc' := 17) rfl (hb hby d1_16) ?_
  refine Go.astore X1 hx (pc' := 19) rfl (hb hby d1_17) (Ls' := #[.val (.int 1), .val (.ref b1_0), .val (.int 3), .val (.int 0), .val (.ref f0)]) rfl rfl ?_
  refine Go.aload X1 hx (pc' := 21) rfl (hb hby d1_19) rfl rfl ?_
  have O3 := (O0.keep K1 all0)
  have fk2 : Fld Z h1 f0 "com/example/rollcall/rollcall/core/ApplicationStatus" "code" "I" (.int 1) := G2.ext O3.2
  refine Go.getF X1 hx hZ hown (host := "") (Or.inl (tw_24 hw)) Via.refl e1 fk2 (pc' := 24) rfl (hb hby d1_21) ?_
  intro T4 e4 X4
  refine Go.iloadN X4 hx (pc' := 25) rfl (hb hby d1_24) rfl ?_
  refine Go.icmpNo X4 hx (pc' := 28) rfl (hb hby d1_25) (by decide) ?_
  refine Go.aload X4 hx (pc' := 30) rfl (hb hby d1_28) rfl rfl ?_
  refine Go.retR X4 hx hlk (t := (.object "com/example/rollcall/rollcall/core/ApplicationStatus")) hret rfl rfl (hb hby d1_30) (by decide) (by decide) ?_
  rw [e4]
  have Kp5 : Keep h0 h1 [] := ((Keep.refl h0 []).trans K1 all0)
  exact ⟨rfl, (Fr.app (Fr.nil n0) N1), Kp5⟩
theorem pd_1 : parseMethodDescriptor "(I)Lcom/example/rollcall/rollcall/core/ApplicationStatus;" = some ⟨[.int], some (.object "com/example/rollcall/rollcall/core/ApplicationStatus")⟩ := by decide +kernel
theorem d3_0 : decode prog_4_method_4_code 0 = .ok (.aload_n 0, 1) := by decide +kernel
theorem d3_1 : decode prog_4_method_4_code 1 = .ok (.getfield 32, 3) := by decide +kernel
theorem d3_4 : decode prog_4_method_4_code 4 = .ok (.ireturn, 1) := by decide +kernel
theorem ef_3_R (m : MethodId) (x0 : Addr) : entryFrame m #[(.ref x0)] 1 = mkF m 0 #[.val (.ref x0)] [] := by first | (simp [entryFrame, mkF, argsToLocals, Value.category]; done) | rfl
-- com/example/rollcall/rollcall/core/ApplicationStatus.code
set_option maxRecDepth 65536 in
set_option maxHeartbeats 4000000 in
theorem au_3 (l : Launch) (Z : State) (a0 : Array Value) (hw : ∀ d ∈ tables_1, d.before a0 Z = true) (f0 : Addr) (f1 : Addr) (f2 : Addr) (va : Addr) (kv : ClassId) (h0 : Heap) (n0 : Nat) (Z0 : n0 ≤ h0.size) (O0 : Old Z n0 h0) (G : Glob Z f0 f1 f2 va kv) :
    Ctr l Z (⟨"com/example/rollcall/rollcall/core/ApplicationStatus", "code", "()I"⟩ : MethodName) prog_4_method_4_code 1 (some .int) ({ frames := 0, cells := 0, slots := 0, locals := 0 } : Room) #[(.ref f0)] h0 (fun v h L => v = some (.int 1) ∧ Fr n0 L ∧ h = h0) := by
  refine Ctr.of (plainFor_of_name pn_c0) ?_
  intro p e s m below meth c T0 hx hZ hby hml hown hnm hret hlk e0 es X0
  refine Go.cast (ef_3_R m f0) ?_
  have G' := G
  obtain ⟨-, -, G2, -, -, -, -, -, -, -, -, -⟩ := G'
  refine Go.aloadN X0 hx (pc' := 1) rfl (hb hby d3_0) rfl rfl ?_
  have fk1 : Fld Z h0 f0 "com/example/rollcall/rollcall/core/ApplicationStatus" "code" "I" (.int 1) := G2.ext O0.2
  refine Go.getF X0 hx hZ hown (host := "") (Or.inl (tw_24 hw)) Via.refl e0 fk1 (pc' := 4) rfl (hb hby d3_1) ?_
  intro T2 e2 X2
  refine Go.retI X2 hx hlk hret (hb hby d3_4) (by decide) (by decide) ?_
  rw [e2]
  exact ⟨rfl, (Fr.nil n0), rfl⟩
theorem pd_2 : parseMethodDescriptor "()I" = some ⟨[], some .int⟩ := by decide +kernel
theorem d1_31 : decode prog_4_method_6_code 31 = .ok (.iinc 3 1, 3) := by decide +kernel
theorem d1_34 : decode prog_4_method_6_code 34 = .ok (.goto (-25), 3) := by decide +kernel
-- com/example/rollcall/rollcall/core/ApplicationStatus.of
set_option maxRecDepth 65536 in
set_option maxHeartbeats 4000000 in
theorem au_4 (l : Launch) (Z : State) (a0 : Array Value) (hw : ∀ d ∈ tables_1, d.before a0 Z = true) (f0 : Addr) (f1 : Addr) (f2 : Addr) (va : Addr) (kv : ClassId) (h0 : Heap) (n0 : Nat) (Z0 : n0 ≤ h0.size) (O0 : Old Z n0 h0) (G : Glob Z f0 f1 f2 va kv) :
    Ctr l Z (⟨"com/example/rollcall/rollcall/core/ApplicationStatus", "of", "(I)Lcom/example/rollcall/rollcall/core/ApplicationStatus;"⟩ : MethodName) prog_4_method_6_code 5 (some (.object "com/example/rollcall/rollcall/core/ApplicationStatus")) ({ frames := 2, cells := 1, slots := 3, locals := 25 } : Room) #[(.int 2)] h0 (fun v h L => v = some (.ref f1) ∧ Fr n0 L ∧ Keep h0 h []) := by
  refine Ctr.of (plainFor_of_name pn_c0) ?_
  intro p e s m below meth c T0 hx hZ hby hml hown hnm hret hlk e0 es X0
  refine Go.cast (ef_1_I m (2 : Int32)) ?_
  have G' := G
  obtain ⟨-, -, G2, -, -, G5, -, -, -, -, -, -⟩ := G'
  refine Go.callS X0 hx hZ hown (tw_7 hw) (tw_8 hw) (tw_2 hw) (tw_9 hw) (by decide) (tw_9 hw) (tw_2 hw) (au_2 l Z a0 hw f0 f1 f2 va kv h0 n0 Z0 O0 G) e0 (argsL := []) (rest := []) (pc' := 3) rfl (by rw [hml]; rfl) (lenOf pd_0 rfl) rfl rfl (W := 0) (Nat.le_of_eq rfl) (by decide) (by decide) (by decide) (by decide) (hb hby d1_0) ?_
  intro v1 T1 L1 q1 X1
  obtain ⟨h1, e1⟩ : ∃ z, T1.heap = z := ⟨_, rfl⟩
  rw [e1] at q1
  obtain ⟨b1_0, rfl, N1, K1, s1_0, F1_0, F1_1⟩ := q1
  show Go _ _ _ _ (T1.setTop (mkF m 3 #[.val (.int 2), .unset, .unset, .unset, .unset] [(.ref b1_0)]))
  refine Go.astoreN X1 hx (pc' := 4) rfl (hb hby d1_3) (Ls' := #[.val (.int 2), .val (.ref b1_0), .unset, .unset, .unset]) rfl rfl ?_
  refine Go.aloadN X1 hx (pc' := 5) rfl (hb hby d1_4) rfl rfl ?_
  refine Go.arraylength X1 hx hZ e1 F1_0 (pc' := 6) rfl (hb hby d1_5) ?_
  refine Go.istoreN X1 hx (pc' := 7) rfl (hb hby d1_6) (Ls' := #[.val (.int 2), .val (.ref b1_0), .val (.int 3), .unset, .unset]) rfl ?_
  refine Go.iconst X1 hx (pc' := 8) rfl (hb hby d1_7) (v := (0 : Int32)) rfl ?_
  refine Go.istoreN X1 hx (pc' := 9) rfl (hb hby d1_8) (Ls' := #[.val (.int 2), .val (.ref b1_0), .val (.int 3), .val (.int 0), .unset]) rfl ?_
  refine Go.iloadN X1 hx (pc' := 10) rfl (hb hby d1_9) rfl ?_
  refine Go.iloadN X1 hx (pc' := 11) rfl (hb hby d1_10) rfl ?_
  refine Go.icmpNo X1 hx (pc' := 14) rfl (hb hby d1_11) (by decide) ?_
  refine Go.aloadN X1 hx (pc' := 15) rfl (hb hby d1_14) rfl rfl ?_
  refine Go.iloadN X1 hx (pc' := 16) rfl (hb hby d1_15) rfl ?_
  refine Go.aaload X1 hx hZ e1 rfl F1_0 (v := (.ref f0)) ⟨by decide, by decide⟩ rfl (pc' := 17) rfl (hb hby d1_16) ?_
  refine Go.astore X1 hx (pc' := 19) rfl (hb hby d1_17) (Ls' := #[.val (.int 2), .val (.ref b1_0), .val (.int 3), .val (.int 0), .val (.ref f0)]) rfl rfl ?_
  refine Go.aload X1 hx (pc' := 21) rfl (hb hby d1_19) rfl rfl ?_
  have O3 := (O0.keep K1 all0)
  have fk2 : Fld Z h1 f0 "com/example/rollcall/rollcall/core/ApplicationStatus" "code" "I" (.int 1) := G2.ext O3.2
  refine Go.getF X1 hx hZ hown (host := "") (Or.inl (tw_24 hw)) Via.refl e1 fk2 (pc' := 24) rfl (hb hby d1_21) ?_
  intro T4 e4 X4
  refine Go.iloadN X4 hx (pc' := 25) rfl (hb hby d1_24) rfl ?_
  refine Go.icmpYes X4 hx (pc' := 31) (hb hby d1_25) (by decide) (by decide) (by decide) ?_
  refine Go.iinc X4 hx (pc' := 34) rfl (hb hby d1_31) rfl (y := (1 : Int32)) (by decide) (Ls' := #[.val (.int 2), .val (.ref b1_0), .val (.int 3), .val (.int 1), .val (.ref f0)]) rfl ?_
  refine Go.goto X4 hx (pc' := 9) (hb hby d1_34) (by decide) (by decide) ?_
  refine Go.iloadN X4 hx (pc' := 10) rfl (hb hby d1_9) rfl ?_
  refine Go.iloadN X4 hx (pc' := 11) rfl (hb hby d1_10) rfl ?_
  refine Go.icmpNo X4 hx (pc' := 14) rfl (hb hby d1_11) (by decide) ?_
  refine Go.aloadN X4 hx (pc' := 15) rfl (hb hby d1_14) rfl rfl ?_
  refine Go.iloadN X4 hx (pc' := 16) rfl (hb hby d1_15) rfl ?_
  refine Go.aaload X4 hx hZ e4 rfl F1_0 (v := (.ref f1)) ⟨by decide, by decide⟩ rfl (pc' := 17) rfl (hb hby d1_16) ?_
  refine Go.astore X4 hx (pc' := 19) rfl (hb hby d1_17) (Ls' := #[.val (.int 2), .val (.ref b1_0), .val (.int 3), .val (.int 1), .val (.ref f1)]) rfl rfl ?_
  refine Go.aload X4 hx (pc' := 21) rfl (hb hby d1_19) rfl rfl ?_
  have fk5 : Fld Z h1 f1 "com/example/rollcall/rollcall/core/ApplicationStatus" "code" "I" (.int 2) := G5.ext O3.2
  refine Go.getF X4 hx hZ hown (host := "") (Or.inl (tw_24 hw)) Via.refl e4 fk5 (pc' := 24) rfl (hb hby d1_21) ?_
  intro T6 e6 X6
  refine Go.iloadN X6 hx (pc' := 25) rfl (hb hby d1_24) rfl ?_
  refine Go.icmpNo X6 hx (pc' := 28) rfl (hb hby d1_25) (by decide) ?_
  refine Go.aload X6 hx (pc' := 30) rfl (hb hby d1_28) rfl rfl ?_
  refine Go.retR X6 hx hlk (t := (.object "com/example/rollcall/rollcall/core/ApplicationStatus")) hret rfl rfl (hb hby d1_30) (by decide) (by decide) ?_
  rw [e6]
  have Kp7 : Keep h0 h1 [] := ((Keep.refl h0 []).trans K1 all0)
  exact ⟨rfl, (Fr.app (Fr.nil n0) N1), Kp7⟩
-- com/example/rollcall/rollcall/core/ApplicationStatus.code
set_option maxRecDepth 65536 in
set_option maxHeartbeats 4000000 in
theorem au_5 (l : Launch) (Z : State) (a0 : Array Value) (hw : ∀ d ∈ tables_1, d.before a0 Z = true) (f0 : Addr) (f1 : Addr) (f2 : Addr) (va : Addr) (kv : ClassId) (h0 : Heap) (n0 : Nat) (Z0 : n0 ≤ h0.size) (O0 : Old Z n0 h0) (G : Glob Z f0 f1 f2 va kv) :
    Ctr l Z (⟨"com/example/rollcall/rollcall/core/ApplicationStatus", "code", "()I"⟩ : MethodName) prog_4_method_4_code 1 (some .int) ({ frames := 0, cells := 0, slots := 0, locals := 0 } : Room) #[(.ref f1)] h0 (fun v h L => v = some (.int 2) ∧ Fr n0 L ∧ h = h0) := by
  refine Ctr.of (plainFor_of_name pn_c0) ?_
  intro p e s m below meth c T0 hx hZ hby hml hown hnm hret hlk e0 es X0
  refine Go.cast (ef_3_R m f1) ?_
  have G' := G
  obtain ⟨-, -, -, -, -, G5, -, -, -, -, -, -⟩ := G'
  refine Go.aloadN X0 hx (pc' := 1) rfl (hb hby d3_0) rfl rfl ?_
  have fk1 : Fld Z h0 f1 "com/example/rollcall/rollcall/core/ApplicationStatus" "code" "I" (.int 2) := G5.ext O0.2
  refine Go.getF X0 hx hZ hown (host := "") (Or.inl (tw_24 hw)) Via.refl e0 fk1 (pc' := 4) rfl (hb hby d3_1) ?_
  intro T2 e2 X2
  refine Go.retI X2 hx hlk hret (hb hby d3_4) (by decide) (by decide) ?_
  rw [e2]
  exact ⟨rfl, (Fr.nil n0), rfl⟩
-- com/example/rollcall/rollcall/core/ApplicationStatus.of
set_option maxRecDepth 65536 in
set_option maxHeartbeats 4000000 in
theorem au_6 (l : Launch) (Z : State) (a0 : Array Value) (hw : ∀ d ∈ tables_1, d.before a0 Z = true) (f0 : Addr) (f1 : Addr) (f2 : Addr) (va : Addr) (kv : ClassId) (h0 : Heap) (n0 : Nat) (Z0 : n0 ≤ h0.size) (O0 : Old Z n0 h0) (G : Glob Z f0 f1 f2 va kv) :
    Ctr l Z (⟨"com/example/rollcall/rollcall/core/ApplicationStatus", "of", "(I)Lcom/example/rollcall/rollcall/core/ApplicationStatus;"⟩ : MethodName) prog_4_method_6_code 5 (some (.object "com/example/rollcall/rollcall/core/ApplicationStatus")) ({ frames := 2, cells := 1, slots := 3, locals := 25 } : Room) #[(.int 3)] h0 (fun v h L => v = some (.ref f2) ∧ Fr n0 L ∧ Keep h0 h []) := by
  refine Ctr.of (plainFor_of_name pn_c0) ?_
  intro p e s m below meth c T0 hx hZ hby hml hown hnm hret hlk e0 es X0
  refine Go.cast (ef_1_I m (3 : Int32)) ?_
  have G' := G
  obtain ⟨-, -, G2, -, -, G5, -, -, G8, -, -, -⟩ := G'
  refine Go.callS X0 hx hZ hown (tw_7 hw) (tw_8 hw) (tw_2 hw) (tw_9 hw) (by decide) (tw_9 hw) (tw_2 hw) (au_2 l Z a0 hw f0 f1 f2 va kv h0 n0 Z0 O0 G) e0 (argsL := []) (rest := []) (pc' := 3) rfl (by rw [hml]; rfl) (lenOf pd_0 rfl) rfl rfl (W := 0) (Nat.le_of_eq rfl) (by decide) (by decide) (by decide) (by decide) (hb hby d1_0) ?_
  intro v1 T1 L1 q1 X1
  obtain ⟨h1, e1⟩ : ∃ z, T1.heap = z := ⟨_, rfl⟩
  rw [e1] at q1
  obtain ⟨b1_0, rfl, N1, K1, s1_0, F1_0, F1_1⟩ := q1
  show Go _ _ _ _ (T1.setTop (mkF m 3 #[.val (.int 3), .unset, .unset, .unset, .unset] [(.ref b1_0)]))
  refine Go.astoreN X1 hx (pc' := 4) rfl (hb hby d1_3) (Ls' := #[.val (.int 3), .val (.ref b1_0), .unset, .unset, .unset]) rfl rfl ?_
  refine Go.aloadN X1 hx (pc' := 5) rfl (hb hby d1_4) rfl rfl ?_
  refine Go.arraylength X1 hx hZ e1 F1_0 (pc' := 6) rfl (hb hby d1_5) ?_
  refine Go.istoreN X1 hx (pc' := 7) rfl (hb hby d1_6) (Ls' := #[.val (.int 3), .val (.ref b1_0), .val (.int 3), .unset, .unset]) rfl ?_
  refine Go.iconst X1 hx (pc' := 8) rfl (hb hby d1_7) (v := (0 : Int32)) rfl ?_
  refine Go.istoreN X1 hx (pc' := 9) rfl (hb hby d1_8) (Ls' := #[.val (.int 3), .val (.ref b1_0), .val (.int 3), .val (.int 0), .unset]) rfl ?_
  refine Go.iloadN X1 hx (pc' := 10) rfl (hb hby d1_9) rfl ?_
  refine Go.iloadN X1 hx (pc' := 11) rfl (hb hby d1_10) rfl ?_
  refine Go.icmpNo X1 hx (pc' := 14) rfl (hb hby d1_11) (by decide) ?_
  refine Go.aloadN X1 hx (pc' := 15) rfl (hb hby d1_14) rfl rfl ?_
  refine Go.iloadN X1 hx (pc' := 16) rfl (hb hby d1_15) rfl ?_
  refine Go.aaload X1 hx hZ e1 rfl F1_0 (v := (.ref f0)) ⟨by decide, by decide⟩ rfl (pc' := 17) rfl (hb hby d1_16) ?_
  refine Go.astore X1 hx (pc' := 19) rfl (hb hby d1_17) (Ls' := #[.val (.int 3), .val (.ref b1_0), .val (.int 3), .val (.int 0), .val (.ref f0)]) rfl rfl ?_
  refine Go.aload X1 hx (pc' := 21) rfl (hb hby d1_19) rfl rfl ?_
  have O3 := (O0.keep K1 all0)
  have fk2 : Fld Z h1 f0 "com/example/rollcall/rollcall/core/ApplicationStatus" "code" "I" (.int 1) := G2.ext O3.2
  refine Go.getF X1 hx hZ hown (host := "") (Or.inl (tw_24 hw)) Via.refl e1 fk2 (pc' := 24) rfl (hb hby d1_21) ?_
  intro T4 e4 X4
  refine Go.iloadN X4 hx (pc' := 25) rfl (hb hby d1_24) rfl ?_
  refine Go.icmpYes X4 hx (pc' := 31) (hb hby d1_25) (by decide) (by decide) (by decide) ?_
  refine Go.iinc X4 hx (pc' := 34) rfl (hb hby d1_31) rfl (y := (1 : Int32)) (by decide) (Ls' := #[.val (.int 3), .val (.ref b1_0), .val (.int 3), .val (.int 1), .val (.ref f0)]) rfl ?_
  refine Go.goto X4 hx (pc' := 9) (hb hby d1_34) (by decide) (by decide) ?_
  refine Go.iloadN X4 hx (pc' := 10) rfl (hb hby d1_9) rfl ?_
  refine Go.iloadN X4 hx (pc' := 11) rfl (hb hby d1_10) rfl ?_
  refine Go.icmpNo X4 hx (pc' := 14) rfl (hb hby d1_11) (by decide) ?_
  refine Go.aloadN X4 hx (pc' := 15) rfl (hb hby d1_14) rfl rfl ?_
  refine Go.iloadN X4 hx (pc' := 16) rfl (hb hby d1_15) rfl ?_
  refine Go.aaload X4 hx hZ e4 rfl F1_0 (v := (.ref f1)) ⟨by decide, by decide⟩ rfl (pc' := 17) rfl (hb hby d1_16) ?_
  refine Go.astore X4 hx (pc' := 19) rfl (hb hby d1_17) (Ls' := #[.val (.int 3), .val (.ref b1_0), .val (.int 3), .val (.int 1), .val (.ref f1)]) rfl rfl ?_
  refine Go.aload X4 hx (pc' := 21) rfl (hb hby d1_19) rfl rfl ?_
  have fk5 : Fld Z h1 f1 "com/example/rollcall/rollcall/core/ApplicationStatus" "code" "I" (.int 2) := G5.ext O3.2
  refine Go.getF X4 hx hZ hown (host := "") (Or.inl (tw_24 hw)) Via.refl e4 fk5 (pc' := 24) rfl (hb hby d1_21) ?_
  intro T6 e6 X6
  refine Go.iloadN X6 hx (pc' := 25) rfl (hb hby d1_24) rfl ?_
  refine Go.icmpYes X6 hx (pc' := 31) (hb hby d1_25) (by decide) (by decide) (by decide) ?_
  refine Go.iinc X6 hx (pc' := 34) rfl (hb hby d1_31) rfl (y := (2 : Int32)) (by decide) (Ls' := #[.val (.int 3), .val (.ref b1_0), .val (.int 3), .val (.int 2), .val (.ref f1)]) rfl ?_
  refine Go.goto X6 hx (pc' := 9) (hb hby d1_34) (by decide) (by decide) ?_
  refine Go.iloadN X6 hx (pc' := 10) rfl (hb hby d1_9) rfl ?_
  refine Go.iloadN X6 hx (pc' := 11) rfl (hb hby d1_10) rfl ?_
  refine Go.icmpNo X6 hx (pc' := 14) rfl (hb hby d1_11) (by decide) ?_
  refine Go.aloadN X6 hx (pc' := 15) rfl (hb hby d1_14) rfl rfl ?_
  refine Go.iloadN X6 hx (pc' := 16) rfl (hb hby d1_15) rfl ?_
  refine Go.aaload X6 hx hZ e6 rfl F1_0 (v := (.ref f2)) ⟨by decide, by decide⟩ rfl (pc' := 17) rfl (hb hby d1_16) ?_
  refine Go.astore X6 hx (pc' := 19) rfl (hb hby d1_17) (Ls' := #[.val (.int 3), .val (.ref b1_0), .val (.int 3), .val (.int 2), .val (.ref f2)]) rfl rfl ?_
  refine Go.aload X6 hx (pc' := 21) rfl (hb hby d1_19) rfl rfl ?_
  have fk7 : Fld Z h1 f2 "com/example/rollcall/rollcall/core/ApplicationStatus" "code" "I" (.int 3) := G8.ext O3.2
  refine Go.getF X6 hx hZ hown (host := "") (Or.inl (tw_24 hw)) Via.refl e6 fk7 (pc' := 24) rfl (hb hby d1_21) ?_
  intro T8 e8 X8
  refine Go.iloadN X8 hx (pc' := 25) rfl (hb hby d1_24) rfl ?_
  refine Go.icmpNo X8 hx (pc' := 28) rfl (hb hby d1_25) (by decide) ?_
  refine Go.aload X8 hx (pc' := 30) rfl (hb hby d1_28) rfl rfl ?_
  refine Go.retR X8 hx hlk (t := (.object "com/example/rollcall/rollcall/core/ApplicationStatus")) hret rfl rfl (hb hby d1_30) (by decide) (by decide) ?_
  rw [e8]
  have Kp9 : Keep h0 h1 [] := ((Keep.refl h0 []).trans K1 all0)
  exact ⟨rfl, (Fr.app (Fr.nil n0) N1), Kp9⟩
-- com/example/rollcall/rollcall/core/ApplicationStatus.code
set_option maxRecDepth 65536 in
set_option maxHeartbeats 4000000 in
theorem au_7 (l : Launch) (Z : State) (a0 : Array Value) (hw : ∀ d ∈ tables_1, d.before a0 Z = true) (f0 : Addr) (f1 : Addr) (f2 : Addr) (va : Addr) (kv : ClassId) (h0 : Heap) (n0 : Nat) (Z0 : n0 ≤ h0.size) (O0 : Old Z n0 h0) (G : Glob Z f0 f1 f2 va kv) :
    Ctr l Z (⟨"com/example/rollcall/rollcall/core/ApplicationStatus", "code", "()I"⟩ : MethodName) prog_4_method_4_code 1 (some .int) ({ frames := 0, cells := 0, slots := 0, locals := 0 } : Room) #[(.ref f2)] h0 (fun v h L => v = some (.int 3) ∧ Fr n0 L ∧ h = h0) := by
  refine Ctr.of (plainFor_of_name pn_c0) ?_
  intro p e s m below meth c T0 hx hZ hby hml hown hnm hret hlk e0 es X0
  refine Go.cast (ef_3_R m f2) ?_
  have G' := G
  obtain ⟨-, -, -, -, -, -, -, -, G8, -, -, -⟩ := G'
  refine Go.aloadN X0 hx (pc' := 1) rfl (hb hby d3_0) rfl rfl ?_
  have fk1 : Fld Z h0 f2 "com/example/rollcall/rollcall/core/ApplicationStatus" "code" "I" (.int 3) := G8.ext O0.2
  refine Go.getF X0 hx hZ hown (host := "") (Or.inl (tw_24 hw)) Via.refl e0 fk1 (pc' := 4) rfl (hb hby d3_1) ?_
  intro T2 e2 X2
  refine Go.retI X2 hx hlk hret (hb hby d3_4) (by decide) (by decide) ?_
  rw [e2]
  exact ⟨rfl, (Fr.nil n0), rfl⟩
theorem ef_0_I (m : MethodId) (x0 : Int32) : entryFrame m #[(.int x0)] maxLocals = mkF m 0 #[.val (.int x0), .unset, .unset, .unset, .unset] [] := by first | (simp [entryFrame, mkF, argsToLocals, Value.category, maxLocals]; done) | rfl
theorem pn_c1 : plainName "com/example/rollcall/rollcall/core/ApplicationStatusOfPinLaw" = true := by first | (simp [plainName, overriddenIn]; done) | decide +kernel
set_option maxRecDepth 65536 in
set_option maxHeartbeats 40000000 in
theorem rm0 (l : Launch) (Z : State) (a0 : Array Value) (hw : ∀ d ∈ tables_1, d.before a0 Z = true) (p0 : Int32) (f0 : Addr) (f1 : Addr) (f2 : Addr) (va : Addr) (kv : ClassId) (h0 : Heap) (n0 : Nat) (Z0 : n0 ≤ h0.size) (O0 : Old Z n0 h0) (G : Glob Z f0 f1 f2 va kv) :
    Ctr l Z x code maxLocals ret room_1 #[(.int p0)] h0 (fun v h L => v = some (.int (1 : Int32)) ∧ Fr n0 L) := by
  refine Ctr.of (plainFor_of_name pn_c1) ?_
  intro p e s m below meth c T0 hx hZ hby hml hown hnm hret hlk e0 es X0
  refine Go.cast (ef_0_I m p0) ?_
  have G' := G
  obtain ⟨G0, G1, -, G3, G4, -, G6, G7, -, -, -, -⟩ := G'
  refine Go.iloadN X0 hx (pc' := 1) rfl (hb hby at_0) rfl ?_
  refine Go.ldcI X0 hx hZ hown (tw_0 hw) (pc' := 3) rfl (hb hby at_1) ?_
  refine Go.iand X0 hx (pc' := 4) rfl (hb hby at_3) ?_
  generalize hz1 : (p0 &&& (2147483647 : Int32)) = z1
  refine Go.iconst X0 hx (pc' := 5) rfl (hb hby at_4) (v := (3 : Int32)) rfl ?_
  refine Go.irem X0 hx (pc' := 6) rfl (hb hby at_5) (by decide) ?_
  have r2 : 0 ≤ z1.toInt ∧ z1.toInt ≤ 2147483647 := own_rand hz1 (by decide)
  generalize hz3 : (z1 % (3 : Int32)) = z3
  refine Go.istoreN X0 hx (pc' := 7) rfl (hb hby at_6) (Ls' := #[.val (.int p0), .val (.int z3), .unset, .unset, .unset]) rfl ?_
  have r4 : 0 ≤ z3.toInt ∧ z3.toInt ≤ 2 := own_rrem hz3 (d := 3) (by decide) (by decide) r2 (by decide) (by decide)
  rcases own_cs_0_2 r4 with rfl | rfl | rfl
  · refine Go.iloadN X0 hx (pc' := 8) rfl (hb hby at_7) rfl ?_
    refine Go.iconst X0 hx (pc' := 9) rfl (hb hby at_8) (v := (1 : Int32)) rfl ?_
    refine Go.iadd X0 hx (pc' := 10) rfl (hb hby at_9) ?_
    rw [show ((0 : Int32) + (1 : Int32)) = (1 : Int32) from by decide]
    refine Go.istoreN X0 hx (pc' := 11) rfl (hb hby at_10) (Ls' := #[.val (.int p0), .val (.int 0), .val (.int 1), .unset, .unset]) rfl ?_
    refine Go.iloadN X0 hx (pc' := 12) rfl (hb hby at_11) rfl ?_
    refine Go.ifNo X0 hx (pc' := 15) rfl (hb hby at_12) (by decide) ?_
    have fk5 : Sta Z h0 "com/example/rollcall/rollcall/core/ApplicationStatus" "APPROVED" "Lcom/example/rollcall/rollcall/core/ApplicationStatus;" (.ref f0) := G0.ext O0.2
    refine Go.getS X0 hx hZ hown (host := "") (Or.inl (tw_1 hw)) Via.refl e0 fk5 (pc' := 18) rfl (hb hby at_15) ?_
    intro T6 e6 X6
    refine Go.astoreN X6 hx (pc' := 19) rfl (hb hby at_18) (Ls' := #[.val (.int p0), .val (.int 0), .val (.int 1), .val (.ref f0), .unset]) rfl rfl ?_
    refine Go.goto X6 hx (pc' := 38) (hb hby at_19) (by decide) (by decide) ?_
    refine Go.iloadN X6 hx (pc' := 39) rfl (hb hby at_38) rfl ?_
    refine Go.callS X6 hx hZ hown (tw_4 hw) (tw_5 hw) (tw_2 hw) (tw_6 hw) (by decide) (tw_6 hw) (tw_2 hw) (au_1 l Z a0 hw f0 f1 f2 va kv h0 n0 Z0 O0 G) e6 (argsL := [(.int 1)]) (rest := []) (pc' := 42) rfl (by rw [hml]; rfl) (lenOf pd_1 rfl) rfl rfl (W := 0) (Nat.le_of_eq rfl) (by decide) (by decide) (by decide) (by decide) (hb hby at_39) ?_
    intro v7 T7 L7 q7 X7
    obtain ⟨h7, e7⟩ : ∃ z, T7.heap = z := ⟨_, rfl⟩
    rw [e7] at q7
    obtain ⟨rfl, N7, K7⟩ := q7
    show Go _ _ _ _ (T7.setTop (mkF m 42 #[.val (.int p0), .val (.int 0), .val (.int 1), .val (.ref f0), .unset] [(.ref f0)]))
    refine Go.astore X7 hx (pc' := 44) rfl (hb hby at_42) (Ls' := #[.val (.int p0), .val (.int 0), .val (.int 1), .val (.ref f0), .val (.ref f0)]) rfl rfl ?_
    refine Go.aload X7 hx (pc' := 46) rfl (hb hby at_44) rfl rfl ?_
    refine Go.aloadN X7 hx (pc' := 47) rfl (hb hby at_46) rfl rfl ?_
    refine Go.acmp X7 hx (pc' := 50) (same := true) (hb hby at_47) rfl rfl (decide_eq_true rfl) (by decide) (by decide) ?_
    refine Go.aload X7 hx (pc' := 52) rfl (hb hby at_50) rfl rfl ?_
    have Kp9 : Keep h0 h7 [] := ((Keep.refl h0 []).trans K7 all0)
    have Zn8 : n0 ≤ h7.size := Nat.le_trans Z0 Kp9.1
    have O10 := (O0.keep K7 all0)
    have fk11 : Exa Z h7 f0 "com/example/rollcall/rollcall/core/ApplicationStatus" := G1.ext O10.2
    refine Go.callV X7 hx hZ hown (tw_26 hw) (tw_27 hw) (notFace_of_selects (args := #[]) (mvT hZ (tw_29 hw))) (tw_29 hw) (tw_28 hw) (by decide) (tw_30 hw) (tw_2 hw) (au_3 l Z a0 hw f0 f1 f2 va kv h7 n0 Zn8 O10 G) e7 fk11 (argsL := []) (rest := []) (pc' := 55) rfl (by rw [hml]; rfl) (lenOf pd_2 rfl) rfl rfl (W := 0) (Nat.le_of_eq rfl) (by decide) (by decide) (by decide) (by decide) (hb hby at_52) ?_
    intro v12 T12 L12 q12 X12
    obtain ⟨rfl, N12, e12⟩ := q12
    show Go _ _ _ _ (T12.setTop (mkF m 55 #[.val (.int p0), .val (.int 0), .val (.int 1), .val (.ref f0), .val (.ref f0)] [(.int 1)]))
    refine Go.iloadN X12 hx (pc' := 56) rfl (hb hby at_55) rfl ?_
    refine Go.icmpNo X12 hx (pc' := 59) rfl (hb hby at_56) (by decide) ?_
    refine Go.iconst X12 hx (pc' := 60) rfl (hb hby at_59) (v := (1 : Int32)) rfl ?_
    refine Go.goto X12 hx (pc' := 64) (hb hby at_60) (by decide) (by decide) ?_
    refine Go.retN X12 hx hlk (t := .boolean) hret (by simp) (hb hby at_64) (by decide) (by decide) ?_
    exact ⟨rfl, (Fr.app (Fr.app (Fr.nil n0) N7) N12)⟩
  · refine Go.iloadN X0 hx (pc' := 8) rfl (hb hby at_7) rfl ?_
    refine Go.iconst X0 hx (pc' := 9) rfl (hb hby at_8) (v := (1 : Int32)) rfl ?_
    refine Go.iadd X0 hx (pc' := 10) rfl (hb hby at_9) ?_
    rw [show ((1 : Int32) + (1 : Int32)) = (2 : Int32) from by decide]
    refine Go.istoreN X0 hx (pc' := 11) rfl (hb hby at_10) (Ls' := #[.val (.int p0), .val (.int 1), .val (.int 2), .unset, .unset]) rfl ?_
    refine Go.iloadN X0 hx (pc' := 12) rfl (hb hby at_11) rfl ?_
    refine Go.ifYes X0 hx (pc' := 22) (hb hby at_12) (by decide) (by decide) (by decide) ?_
    refine Go.iloadN X0 hx (pc' := 23) rfl (hb hby at_22) rfl ?_
    refine Go.iconst X0 hx (pc' := 24) rfl (hb hby at_23) (v := (1 : Int32)) rfl ?_
    refine Go.icmpNo X0 hx (pc' := 27) rfl (hb hby at_24) (by decide) ?_
    have fk13 : Sta Z h0 "com/example/rollcall/rollcall/core/ApplicationStatus" "PENDING" "Lcom/example/rollcall/rollcall/core/ApplicationStatus;" (.ref f1) := G3.ext O0.2
    refine Go.getS X0 hx hZ hown (host := "") (Or.inl (tw_32 hw)) Via.refl e0 fk13 (pc' := 30) rfl (hb hby at_27) ?_
    intro T14 e14 X14
    refine Go.astoreN X14 hx (pc' := 31) rfl (hb hby at_30) (Ls' := #[.val (.int p0), .val (.int 1), .val (.int 2), .val (.ref f1), .unset]) rfl rfl ?_
    refine Go.goto X14 hx (pc' := 38) (hb hby at_31) (by decide) (by decide) ?_
    refine Go.iloadN X14 hx (pc' := 39) rfl (hb hby at_38) rfl ?_
    refine Go.callS X14 hx hZ hown (tw_4 hw) (tw_5 hw) (tw_2 hw) (tw_6 hw) (by decide) (tw_6 hw) (tw_2 hw) (au_4 l Z a0 hw f0 f1 f2 va kv h0 n0 Z0 O0 G) e14 (argsL := [(.int 2)]) (rest := []) (pc' := 42) rfl (by rw [hml]; rfl) (lenOf pd_1 rfl) rfl rfl (W := 0) (Nat.le_of_eq rfl) (by decide) (by decide) (by decide) (by decide) (hb hby at_39) ?_
    intro v15 T15 L15 q15 X15
    obtain ⟨h15, e15⟩ : ∃ z, T15.heap = z := ⟨_, rfl⟩
    rw [e15] at q15
    obtain ⟨rfl, N15, K15⟩ := q15
    show Go _ _ _ _ (T15.setTop (mkF m 42 #[.val (.int p0), .val (.int 1), .val (.int 2), .val (.ref f1), .unset] [(.ref f1)]))
    refine Go.astore X15 hx (pc' := 44) rfl (hb hby at_42) (Ls' := #[.val (.int p0), .val (.int 1), .val (.int 2), .val (.ref f1), .val (.ref f1)]) rfl rfl ?_
    refine Go.aload X15 hx (pc' := 46) rfl (hb hby at_44) rfl rfl ?_
    refine Go.aloadN X15 hx (pc' := 47) rfl (hb hby at_46) rfl rfl ?_
    refine Go.acmp X15 hx (pc' := 50) (same := true) (hb hby at_47) rfl rfl (decide_eq_true rfl) (by decide) (by decide) ?_
    refine Go.aload X15 hx (pc' := 52) rfl (hb hby at_50) rfl rfl ?_
    have Kp17 : Keep h0 h15 [] := ((Keep.refl h0 []).trans K15 all0)
    have Zn16 : n0 ≤ h15.size := Nat.le_trans Z0 Kp17.1
    have O18 := (O0.keep K15 all0)
    have fk19 : Exa Z h15 f1 "com/example/rollcall/rollcall/core/ApplicationStatus" := G4.ext O18.2
    refine Go.callV X15 hx hZ hown (tw_26 hw) (tw_27 hw) (notFace_of_selects (args := #[]) (mvT hZ (tw_29 hw))) (tw_29 hw) (tw_28 hw) (by decide) (tw_30 hw) (tw_2 hw) (au_5 l Z a0 hw f0 f1 f2 va kv h15 n0 Zn16 O18 G) e15 fk19 (argsL := []) (rest := []) (pc' := 55) rfl (by rw [hml]; rfl) (lenOf pd_2 rfl) rfl rfl (W := 0) (Nat.le_of_eq rfl) (by decide) (by decide) (by decide) (by decide) (hb hby at_52) ?_
    intro v20 T20 L20 q20 X20
    obtain ⟨rfl, N20, e20⟩ := q20
    show Go _ _ _ _ (T20.setTop (mkF m 55 #[.val (.int p0), .val (.int 1), .val (.int 2), .val (.ref f1), .val (.ref f1)] [(.int 2)]))
    refine Go.iloadN X20 hx (pc' := 56) rfl (hb hby at_55) rfl ?_
    refine Go.icmpNo X20 hx (pc' := 59) rfl (hb hby at_56) (by decide) ?_
    refine Go.iconst X20 hx (pc' := 60) rfl (hb hby at_59) (v := (1 : Int32)) rfl ?_
    refine Go.goto X20 hx (pc' := 64) (hb hby at_60) (by decide) (by decide) ?_
    refine Go.retN X20 hx hlk (t := .boolean) hret (by simp) (hb hby at_64) (by decide) (by decide) ?_
    exact ⟨rfl, (Fr.app (Fr.app (Fr.nil n0) N15) N20)⟩
  · refine Go.iloadN X0 hx (pc' := 8) rfl (hb hby at_7) rfl ?_
    refine Go.iconst X0 hx (pc' := 9) rfl (hb hby at_8) (v := (1 : Int32)) rfl ?_
    refine Go.iadd X0 hx (pc' := 10) rfl (hb hby at_9) ?_
    rw [show ((2 : Int32) + (1 : Int32)) = (3 : Int32) from by decide]
    refine Go.istoreN X0 hx (pc' := 11) rfl (hb hby at_10) (Ls' := #[.val (.int p0), .val (.int 2), .val (.int 3), .unset, .unset]) rfl ?_
    refine Go.iloadN X0 hx (pc' := 12) rfl (hb hby at_11) rfl ?_
    refine Go.ifYes X0 hx (pc' := 22) (hb hby at_12) (by decide) (by decide) (by decide) ?_
    refine Go.iloadN X0 hx (pc' := 23) rfl (hb hby at_22) rfl ?_
    refine Go.iconst X0 hx (pc' := 24) rfl (hb hby at_23) (v := (1 : Int32)) rfl ?_
    refine Go.icmpYes X0 hx (pc' := 34) (hb hby at_24) (by decide) (by decide) (by decide) ?_
    have fk21 : Sta Z h0 "com/example/rollcall/rollcall/core/ApplicationStatus" "REJECTED" "Lcom/example/rollcall/rollcall/core/ApplicationStatus;" (.ref f2) := G6.ext O0.2
    refine Go.getS X0 hx hZ hown (host := "") (Or.inl (tw_31 hw)) Via.refl e0 fk21 (pc' := 37) rfl (hb hby at_34) ?_
    intro T22 e22 X22
    refine Go.astoreN X22 hx (pc' := 38) rfl (hb hby at_37) (Ls' := #[.val (.int p0), .val (.int 2), .val (.int 3), .val (.ref f2), .unset]) rfl rfl ?_
    refine Go.iloadN X22 hx (pc' := 39) rfl (hb hby at_38) rfl ?_
    refine Go.callS X22 hx hZ hown (tw_4 hw) (tw_5 hw) (tw_2 hw) (tw_6 hw) (by decide) (tw_6 hw) (tw_2 hw) (au_6 l Z a0 hw f0 f1 f2 va kv h0 n0 Z0 O0 G) e22 (argsL := [(.int 3)]) (rest := []) (pc' := 42) rfl (by rw [hml]; rfl) (lenOf pd_1 rfl) rfl rfl (W := 0) (Nat.le_of_eq rfl) (by decide) (by decide) (by decide) (by decide) (hb hby at_39) ?_
    intro v23 T23 L23 q23 X23
    obtain ⟨h23, e23⟩ : ∃ z, T23.heap = z := ⟨_, rfl⟩
    rw [e23] at q23
    obtain ⟨rfl, N23, K23⟩ := q23
    show Go _ _ _ _ (T23.setTop (mkF m 42 #[.val (.int p0), .val (.int 2), .val (.int 3), .val (.ref f2), .unset] [(.ref f2)]))
    refine Go.astore X23 hx (pc' := 44) rfl (hb hby at_42) (Ls' := #[.val (.int p0), .val (.int 2), .val (.int 3), .val (.ref f2), .val (.ref f2)]) rfl rfl ?_
    refine Go.aload X23 hx (pc' := 46) rfl (hb hby at_44) rfl rfl ?_
    refine Go.aloadN X23 hx (pc' := 47) rfl (hb hby at_46) rfl rfl ?_
    refine Go.acmp X23 hx (pc' := 50) (same := true) (hb hby at_47) rfl rfl (decide_eq_true rfl) (by decide) (by decide) ?_
    refine Go.aload X23 hx (pc' := 52) rfl (hb hby at_50) rfl rfl ?_
    have Kp25 : Keep h0 h23 [] := ((Keep.refl h0 []).trans K23 all0)
    have Zn24 : n0 ≤ h23.size := Nat.le_trans Z0 Kp25.1
    have O26 := (O0.keep K23 all0)
    have fk27 : Exa Z h23 f2 "com/example/rollcall/rollcall/core/ApplicationStatus" := G7.ext O26.2
    refine Go.callV X23 hx hZ hown (tw_26 hw) (tw_27 hw) (notFace_of_selects (args := #[]) (mvT hZ (tw_29 hw))) (tw_29 hw) (tw_28 hw) (by decide) (tw_30 hw) (tw_2 hw) (au_7 l Z a0 hw f0 f1 f2 va kv h23 n0 Zn24 O26 G) e23 fk27 (argsL := []) (rest := []) (pc' := 55) rfl (by rw [hml]; rfl) (lenOf pd_2 rfl) rfl rfl (W := 0) (Nat.le_of_eq rfl) (by decide) (by decide) (by decide) (by decide) (hb hby at_52) ?_
    intro v28 T28 L28 q28 X28
    obtain ⟨rfl, N28, e28⟩ := q28
    show Go _ _ _ _ (T28.setTop (mkF m 55 #[.val (.int p0), .val (.int 2), .val (.int 3), .val (.ref f2), .val (.ref f2)] [(.int 3)]))
    refine Go.iloadN X28 hx (pc' := 56) rfl (hb hby at_55) rfl ?_
    refine Go.icmpNo X28 hx (pc' := 59) rfl (hb hby at_56) (by decide) ?_
    refine Go.iconst X28 hx (pc' := 60) rfl (hb hby at_59) (v := (1 : Int32)) rfl ?_
    refine Go.goto X28 hx (pc' := 64) (hb hby at_60) (by decide) (by decide) ?_
    refine Go.retN X28 hx hlk (t := .boolean) hret (by simp) (hb hby at_64) (by decide) (by decide) ?_
    exact ⟨rfl, (Fr.app (Fr.app (Fr.nil n0) N23) N28)⟩
set_option maxRecDepth 65536 in
set_option maxHeartbeats 4000000 in
theorem comes_1 {Post : Tables → Env → Array Value → State → Outcome → State → Prop} (hpost : ∀ tb e args s v u, (limb_1_1.after args s (.returned v) u = true ∧ limb_1_2.after args s (.returned v) u = true ∧ True) → FrameEnd s (.returned v) u (Jvm.fieldLocs frame_1_writes args s ++ Jvm.arrayLocs frame_1_arrays args s ++ Jvm.staticLocs frame_1_statics s) 16 128 → Post tb e args s (.returned v) u) :
    ArmFor flags0 classFile x code maxLocals ret World_1 tables_1 room_1 Calls_1 rest_1 Pre_1 Post := by
  intro l hfl _ _ p e ha hc hk s m args below hf hA hF happ hP
  obtain ⟨hcalls, hrest, hpre⟩ := hP
  obtain ⟨-, -, -, hnamed, -, -, -, hat⟩ := (Spec.applies_iff hf).mp happ
  obtain ⟨hg, hn⟩ := and_e (Cond.before_iff.mp (show (Jvm.Cond.and given_1 narrow_1).before args s = true from hpre))
  obtain ⟨g1, g2⟩ := and_e hg
  obtain ⟨w0, rfl⟩ : ∃ w0 : Value, args = #[w0] := by
    have hs : args.size = 1 := by simpa [Cond.value, given_1] using g1
    obtain ⟨L⟩ := args
    match L, hs with
    | [w0], _ => exact ⟨w0, rfl⟩
  have hw := fun d (hd : d ∈ tables_1) => atoms_spec (ws := Jvm.Cond.code x code maxLocals ret :: tables_1) hat d (List.mem_cons_of_mem _ hd)
  have hfit : Fit s := fun {y c} hc i hi => by
    obtain ⟨ha, rfl⟩ := Array.getElem?_eq_some_iff.mp hc
    have q := List.all_eq_true.mp ((Array.all_eq_true_iff_forall_mem.mp hF) _ (Array.getElem_mem ha)) i (List.mem_range.mpr hi)
    simpa [Array.getElem?_eq_getElem hi] using q
  obtain ⟨i0, ei0⟩ := is_v g2
  obtain rfl : w0 = (.int i0) := Option.some.inj ei0
  obtain ⟨g3, g4⟩ := and_e hn
  obtain ⟨g5, g6⟩ := and_e g4
  obtain ⟨g7, g8⟩ := and_e g6
  obtain ⟨g9, g10⟩ := and_e g8
  obtain ⟨g11, g12⟩ := and_e g10
  obtain ⟨g13, g14⟩ := and_e g12
  obtain ⟨g15, g16⟩ := and_e g14
  obtain ⟨g17, g18⟩ := and_e g16
  obtain ⟨g19, g20⟩ := and_e g18
  obtain ⟨g21, g22⟩ := and_e g20
  obtain ⟨g23, g24⟩ := and_e g22
  obtain ⟨a_0, ev0⟩ := exa_v g3
  have Sx0 : Sta s s.heap "com/example/rollcall/rollcall/core/ApplicationStatus" "APPROVED" "Lcom/example/rollcall/rollcall/core/ApplicationStatus;" (.ref a_0) := Sta.start ev0 (Or.inr ⟨(tw_2 hw), (tw_3 hw)⟩)
  obtain ⟨a_1, ev1⟩ := arr_v g5
  have Sx1 : Sta s s.heap "com/example/rollcall/rollcall/core/ApplicationStatus" "$VALUES" "[Lcom/example/rollcall/rollcall/core/ApplicationStatus;" (.ref a_1) := Sta.start ev1 (Or.inr ⟨(tw_2 hw), (tw_11 hw)⟩)
  obtain ⟨a_2, ev2⟩ := exa_v g13
  have Sx2 : Sta s s.heap "com/example/rollcall/rollcall/core/ApplicationStatus" "PENDING" "Lcom/example/rollcall/rollcall/core/ApplicationStatus;" (.ref a_2) := Sta.start ev2 (Or.inr ⟨(tw_2 hw), (tw_19 hw)⟩)
  obtain ⟨a_3, ev3⟩ := exa_v g17
  have Sx3 : Sta s s.heap "com/example/rollcall/rollcall/core/ApplicationStatus" "REJECTED" "Lcom/example/rollcall/rollcall/core/ApplicationStatus;" (.ref a_3) := Sta.start ev3 (Or.inr ⟨(tw_2 hw), (tw_20 hw)⟩)
  have Ex25 := Exa.start ev0 g3
  obtain ⟨clAr26, Ar26⟩ := Arr.start ev1 g5
  have Ex27 := Exa.start ev1 g7
  have Ln28 := own_len ev1 Ar26 g9
  have El29 := own_elem ev1 Ar26 ev0 rfl g11
  have Ex30 := Exa.start ev2 g13
  have El31 := own_elem ev1 Ar26 ev2 rfl g15
  have Ex32 := Exa.start ev3 g17
  have El33 := own_elem ev1 Ar26 ev3 rfl g19
  have Fx34 : Fld s s.heap a_0 "com/example/rollcall/rollcall/core/ApplicationStatus" "code" "I" (.int (1 : Int32)) := Fld.start ((fld_at ev0).symm.trans (own_eqI g21))
  have Fx35 : Fld s s.heap a_2 "com/example/rollcall/rollcall/core/ApplicationStatus" "code" "I" (.int (2 : Int32)) := Fld.start ((fld_at ev2).symm.trans (own_eqI g23))
  have Fx36 : Fld s s.heap a_3 "com/example/rollcall/rollcall/core/ApplicationStatus" "code" "I" (.int (3 : Int32)) := Fld.start ((fld_at ev3).symm.trans (own_eqI g24))
  have V : Arv s s.heap a_1 clAr26.cls (.object "com/example/rollcall/rollcall/core/ApplicationStatus") (3 : Int32) [(.ref a_0), (.ref a_2), (.ref a_3)] .null := Arv.start hfit Ar26 Ln28.1 Ln28.2 (by decide) rfl ⟨El29.2, El31.2, El33.2, trivial⟩
  have G : Glob s a_0 a_2 a_3 a_1 clAr26.cls := ⟨Sx0, Ex25, Fx34, Sx2, Ex30, Fx35, Sx3, Ex32, Fx36, Sx1, Ex27, V⟩
  obtain ⟨n, o, h1, h2, h3, _, L, rfl, ⟨rfl, N⟩, hq⟩ := (rm0 l s _ hw i0 a_0 a_2 a_3 a_1 clAr26.cls s.heap s.heap.size (Nat.le_refl _) (Old.start s) G) tables_1 p e ha hc hk s m _ below hf ((Spec.applies_iff_loose hf).mp happ).1 ⟨rfl, State.Warmed39.refl s, rfl⟩ trivial
  refine ⟨n, _, h1, h2, h3, hpost _ _ _ _ _ _ ⟨Cond.after_iff.mpr rfl, Cond.after_iff.mpr (eq_i res_at (Term.int_eval (1)) rfl), trivial⟩ ⟨hq.1, hq.2.1, (hq.2.2.sift fun y hy => Or.inr (N y hy)).mono (by decide) (by decide)⟩⟩
theorem main_1_1 : Claimed_1_1 := comes_1 fun _ _ _ _ _ _ h hF => ⟨h.1, hF⟩
theorem main_1_2 : Claimed_1_2 := comes_1 fun _ _ _ _ _ _ h hF => ⟨h.2.1, hF⟩
end Jvm.Pilot.@@N@@
namespace Jvm.Pilot.@@N@@
open Jvm Jvm.ClassFile Sem Op Lib Jvm.Free Jvm.Stand Jvm.Pilot.@@N@@.Jvm.D
/-! MADE BY PROGRAM (witnessworld.py) out of the Statement's table words and the real class files: 13 classes; the members and pool entries that the words name. The judged class is class 1, her method 1. -/
namespace start1
open Jvm.ClassFile
def u (s : String) : CpInfo := .utf8 (stringToUtf16 s)
/-- a pool by its gaps: so many unusable entries, then the entry; so many at the end -/
def gap : Nat → List CpInfo → List CpInfo
  | 0, r => r
  | n + 1, r => .unusable :: gap n r
def poolList (es : List (Nat × CpInfo)) (last : Nat) : List CpInfo := es.foldr (fun e r => gap e.1 (e.2 :: r)) (gap last [])
def pool (es : List (Nat × CpInfo)) (last : Nat) : Array CpInfo := ⟨poolList es last⟩
def fileOf (pool : Array CpInfo) (this : Nat) (attrs : Array Attribute := #[]) (ms : Array MethodInfo := #[]) (fl : Nat := 33) (sup : Nat := 0) (ifs : Array Nat := #[]) (fds : Array FieldInfo := #[]) : ClassFile where
  minorVersion := 0
  majorVersion := 65
  constantPool := pool
  accessFlags := fl
  thisClass := this
  superClass := sup
  interfaces := ifs
  fields := fds
  methods := ms
  attributes := attrs
def plain (name : String) (sup : Option ClassId) : Class where
  name := name
  kind := .ordinary
  loader := none
  accessFlags := 33
  super := sup
  interfaces := #[]
  cf := none
  fields := #[]
  methods := #[]
  instanceTypes := #[]
  staticTypes := #[]
  resolved := #[]
  callSites := []
  init := .initialized
  statics := none
  mirror := none

def pool0 : Array CpInfo := pool [(5, u "<init>"), (0, u "()V"), (1, .class_ 10), (1, u "java/lang/Object"), (85, u "clone"), (0, u "()Ljava/lang/Object;")] 26

def k0m0 : Method := { name := "<init>", desc := "()V", sig := { parameters := [], returnType := none }, accessFlags := 1, code := none }
def k0m1 : Method := { name := "clone", desc := "()Ljava/lang/Object;", sig := { parameters := [], returnType := some (.object "java/lang/Object") }, accessFlags := 260, code := none }
/-- java/lang/Object -/
def k0 : Class := { plain "java/lang/Object" none with
  accessFlags := 33
  interfaces := #[]
  cf := some (fileOf pool0 8 #[] #[{ accessFlags := 1, nameIndex := 5, descriptorIndex := 6, attributes := #[] }, { accessFlags := 260, nameIndex := 96, descriptorIndex := 97, attributes := #[] }] 33 0 #[] #[])
  fields := #[]
  methods := #[k0m0, k0m1]
  instanceTypes := #[]
  staticTypes := #[]
  resolved := Array.replicate 124 none
  statics := none }

def pool1 : Array CpInfo := pool [(2, .class_ 4), (1, u "java/lang/Object"), (0, u "<init>"), (0, u "()V"), (0, .integer 2147483647), (0, .fieldref 9 10), (0, .class_ 11), (0, .nameAndType 12 13), (0, u "com/example/rollcall/rollcall/core/ApplicationStatus"), (0, u "APPROVED"), (0, u "Lcom/example/rollcall/rollcall/core/ApplicationStatus;"), (0, .fieldref 9 15), (0, .nameAndType 16 13), (0, u "PENDING"), (0, .fieldref 9 18), (0, .nameAndType 19 13), (0, u "REJECTED"), (0, .methodref 9 21), (0, .nameAndType 22 23), (0, u "of"), (0, u "(I)Lcom/example/rollcall/rollcall/core/ApplicationStatus;"), (0, .methodref 9 25), (0, .nameAndType 26 27), (0, u "code"), (0, u "()I"), (0, .class_ 29), (0, u "com/example/rollcall/rollcall/core/ApplicationStatusOfPinLaw"), (2, u "law"), (0, u "(I)Z")] 3

def k1m0 : Method := { name := "<init>", desc := "()V", sig := { parameters := [], returnType := none }, accessFlags := 1, code := none }
def k1c1 : Code := { maxStack := 2, maxLocals := 5, code := code, exceptionTable := #[], attributes := #[] }
def k1m1 : Method := { name := "law", desc := "(I)Z", sig := { parameters := [.int], returnType := some .boolean }, accessFlags := 9, code := some k1c1 }
/-- com/example/rollcall/rollcall/core/ApplicationStatusOfPinLaw -/
def k1 : Class := { plain "com/example/rollcall/rollcall/core/ApplicationStatusOfPinLaw" (some 0) with
  accessFlags := 49
  interfaces := #[]
  cf := some (fileOf pool1 28 #[] #[{ accessFlags := 1, nameIndex := 5, descriptorIndex := 6, attributes := #[] }, { accessFlags := 9, nameIndex := 32, descriptorIndex := 33, attributes := #[] }] 49 2 #[] #[])
  fields := #[]
  methods := #[k1m0, k1m1]
  instanceTypes := #[]
  staticTypes := #[]
  resolved := Array.replicate 37 none
  statics := none }

def pool2 : Array CpInfo := pool [(1, .class_ 2), (0, u "java/lang/constant/Constable"), (0, .class_ 4), (0, u "java/lang/Object")] 6

/-- java/lang/constant/Constable -/
def k2 : Class := { plain "java/lang/constant/Constable" (some 0) with
  accessFlags := 1537
  interfaces := #[]
  cf := some (fileOf pool2 1 #[] #[] 1537 3 #[] #[])
  fields := #[]
  methods := #[]
  instanceTypes := #[]
  staticTypes := #[]
  resolved := Array.replicate 11 none
  statics := none }

def pool3 : Array CpInfo := pool [(1, .class_ 2), (0, u "java/lang/Comparable"), (0, .class_ 4), (0, u "java/lang/Object")] 7

/-- java/lang/Comparable -/
def k3 : Class := { plain "java/lang/Comparable" (some 0) with
  accessFlags := 1537
  interfaces := #[]
  cf := some (fileOf pool3 1 #[] #[] 1537 3 #[] #[])
  fields := #[]
  methods := #[]
  instanceTypes := #[]
  staticTypes := #[]
  resolved := Array.replicate 12 none
  statics := none }

def pool4 : Array CpInfo := pool [(1, .class_ 2), (0, u "java/io/Serializable"), (0, .class_ 4), (0, u "java/lang/Object")] 2

/-- java/io/Serializable -/
def k4 : Class := { plain "java/io/Serializable" (some 0) with
  accessFlags := 1537
  interfaces := #[]
  cf := some (fileOf pool4 1 #[] #[] 1537 3 #[] #[])
  fields := #[]
  methods := #[]
  instanceTypes := #[]
  staticTypes := #[]
  resolved := Array.replicate 7 none
  statics := none }

def pool5 : Array CpInfo := pool [(2, .class_ 4), (1, u "java/lang/Enum"), (0, u "name"), (0, u "Ljava/lang/String;"), (2, u "ordinal"), (0, u "I"), (1, .class_ 14), (1, u "java/lang/Object"), (4, u "hash"), (86, .class_ 108), (1, u "java/lang/Enum$EnumDesc"), (2, .class_ 112), (0, u "java/lang/constant/Constable"), (0, .class_ 114), (0, u "java/lang/Comparable"), (0, .class_ 116), (0, u "java/io/Serializable")] 87

/-- java/lang/Enum -/
def k5 : Class := { plain "java/lang/Enum" (some 0) with
  accessFlags := 1057
  interfaces := #[2, 3, 4]
  cf := some (fileOf pool5 2 #[.nestMembers #[106]] #[] 1057 12 #[111, 113, 115] #[{ accessFlags := 18, nameIndex := 5, descriptorIndex := 6, attributes := #[] }, { accessFlags := 18, nameIndex := 9, descriptorIndex := 10, attributes := #[] }, { accessFlags := 2, nameIndex := 19, descriptorIndex := 10, attributes := #[] }])
  fields := #[{ name := "name", type := (.object "java/lang/String"), accessFlags := 18, slot := 0, constantValue := 0 }, { name := "ordinal", type := .int, accessFlags := 18, slot := 1, constantValue := 0 }, { name := "hash", type := .int, accessFlags := 2, slot := 2, constantValue := 0 }]
  methods := #[]
  instanceTypes := #[(.object "java/lang/String"), .int, .int]
  staticTypes := #[]
  resolved := Array.replicate 204 none
  statics := none }

def pool6 : Array CpInfo := pool [(1, .class_ 2), (0, u "com/example/rollcall/rollcall/core/ApplicationStatus"), (2, u "APPROVED"), (0, u "Lcom/example/rollcall/rollcall/core/ApplicationStatus;"), (2, u "PENDING"), (2, u "REJECTED"), (0, .fieldref 1 14), (0, .nameAndType 15 16), (0, u "$VALUES"), (0, u "[Lcom/example/rollcall/rollcall/core/ApplicationStatus;"), (0, .methodref 18 19), (0, .class_ 16), (0, .nameAndType 20 21), (0, u "clone"), (0, u "()Ljava/lang/Object;"), (1, .class_ 25), (1, u "java/lang/Enum"), (6, .fieldref 1 33), (0, .nameAndType 34 35), (0, u "code"), (0, u "I"), (2, u "text"), (0, u "Ljava/lang/String;"), (0, .methodref 1 41), (0, .nameAndType 42 43), (0, u "values"), (0, u "()[Lcom/example/rollcall/rollcall/core/ApplicationStatus;"), (30, u "()I"), (1, u "of"), (0, u "(I)Lcom/example/rollcall/rollcall/core/ApplicationStatus;")] 21

def k6c0 : Code := { maxStack := 1, maxLocals := 0, code := prog_4_method_1_code, exceptionTable := #[], attributes := #[] }
def k6m0 : Method := { name := "values", desc := "()[Lcom/example/rollcall/rollcall/core/ApplicationStatus;", sig := { parameters := [], returnType := some (.array (.object "com/example/rollcall/rollcall/core/ApplicationStatus")) }, accessFlags := 9, code := some k6c0 }
def k6c1 : Code := { maxStack := 1, maxLocals := 1, code := prog_4_method_4_code, exceptionTable := #[], attributes := #[] }
def k6m1 : Method := { name := "code", desc := "()I", sig := { parameters := [], returnType := some .int }, accessFlags := 1, code := some k6c1 }
def k6c2 : Code := { maxStack := 3, maxLocals := 5, code := prog_4_method_6_code, exceptionTable := #[], attributes := #[] }
def k6m2 : Method := { name := "of", desc := "(I)Lcom/example/rollcall/rollcall/core/ApplicationStatus;", sig := { parameters := [.int], returnType := some (.object "com/example/rollcall/rollcall/core/ApplicationStatus") }, accessFlags := 9, code := some k6c2 }
/-- com/example/rollcall/rollcall/core/ApplicationStatus -/
def k6 : Class := { plain "com/example/rollcall/rollcall/core/ApplicationStatus" (some 5) with
  accessFlags := 16433
  interfaces := #[]
  cf := some (fileOf pool6 1 #[] #[{ accessFlags := 9, nameIndex := 42, descriptorIndex := 43, attributes := #[] }, { accessFlags := 1, nameIndex := 34, descriptorIndex := 74, attributes := #[] }, { accessFlags := 9, nameIndex := 76, descriptorIndex := 77, attributes := #[] }] 16433 23 #[] #[{ accessFlags := 16409, nameIndex := 5, descriptorIndex := 6, attributes := #[] }, { accessFlags := 16409, nameIndex := 9, descriptorIndex := 6, attributes := #[] }, { accessFlags := 16409, nameIndex := 12, descriptorIndex := 6, attributes := #[] }, { accessFlags := 18, nameIndex := 34, descriptorIndex := 35, attributes := #[] }, { accessFlags := 18, nameIndex := 38, descriptorIndex := 39, attributes := #[] }, { accessFlags := 4122, nameIndex := 15, descriptorIndex := 16, attributes := #[] }])
  fields := #[{ name := "APPROVED", type := (.object "com/example/rollcall/rollcall/core/ApplicationStatus"), accessFlags := 16409, slot := 0, constantValue := 0 }, { name := "PENDING", type := (.object "com/example/rollcall/rollcall/core/ApplicationStatus"), accessFlags := 16409, slot := 1, constantValue := 0 }, { name := "REJECTED", type := (.object "com/example/rollcall/rollcall/core/ApplicationStatus"), accessFlags := 16409, slot := 2, constantValue := 0 }, { name := "code", type := .int, accessFlags := 18, slot := 3, constantValue := 0 }, { name := "text", type := (.object "java/lang/String"), accessFlags := 18, slot := 4, constantValue := 0 }, { name := "$VALUES", type := (.array (.object "com/example/rollcall/rollcall/core/ApplicationStatus")), accessFlags := 4122, slot := 3, constantValue := 0 }]
  methods := #[k6m0, k6m1, k6m2]
  instanceTypes := #[(.object "java/lang/String"), .int, .int, .int, (.object "java/lang/String")]
  staticTypes := #[(.object "com/example/rollcall/rollcall/core/ApplicationStatus"), (.object "com/example/rollcall/rollcall/core/ApplicationStatus"), (.object "com/example/rollcall/rollcall/core/ApplicationStatus"), (.array (.object "com/example/rollcall/rollcall/core/ApplicationStatus"))]
  resolved := Array.replicate 99 none
  statics := some 0 }

def pool7 : Array CpInfo := pool [(1, .class_ 2), (0, u "java/lang/Cloneable"), (0, .class_ 4), (0, u "java/lang/Object")] 2

/-- java/lang/Cloneable -/
def k7 : Class := { plain "java/lang/Cloneable" (some 0) with
  accessFlags := 1537
  interfaces := #[]
  cf := some (fileOf pool7 1 #[] #[] 1537 3 #[] #[])
  fields := #[]
  methods := #[]
  instanceTypes := #[]
  staticTypes := #[]
  resolved := Array.replicate 7 none
  statics := none }

/-- the primitive byte -/
def k8 : Class := { plain "byte" none with kind := .primitive 'B', accessFlags := 0x411 }
/-- [B -/
def k9 : Class := { plain "[B" (some 0) with kind := .array 8 .byte, interfaces := #[7, 4], accessFlags := 1041 }

/-- the primitive int -/
def k10 : Class := { plain "int" none with kind := .primitive 'I', accessFlags := 0x411 }
/-- [I -/
def k11 : Class := { plain "[I" (some 0) with kind := .array 10 .int, interfaces := #[7, 4], accessFlags := 1041 }

/-- [Lcom/example/rollcall/rollcall/core/ApplicationStatus; -/
def k12 : Class := { plain "[Lcom/example/rollcall/rollcall/core/ApplicationStatus;" (some 0) with kind := .array 6 (.object "com/example/rollcall/rollcall/core/ApplicationStatus"), interfaces := #[7, 4], accessFlags := 1041 }

def heap : Heap := #[{ cls := 6, slots := #[.ref 2, .ref 3, .ref 4, .ref 1], vm := .statics 6 },
  { cls := 12, slots := #[.ref 2, .ref 3, .ref 4], vm := .none },
  { cls := 6, slots := #[.null, .int 0, .int 0, .int 1, .null], vm := .none },
  { cls := 6, slots := #[.null, .int 1, .int 0, .int 2, .null], vm := .none },
  { cls := 6, slots := #[.null, .int 2, .int 0, .int 3, .null], vm := .none }]
def classes : Array Class := #[k0, k1, k2, k3, k4, k5, k6, k7, k8, k9, k10, k11, k12]
def interned : List (Array UInt16 × Addr) := []
def slotsUsed : Nat := 22
def theMethod : MethodId := ⟨1, 1⟩
def args0 : Array Value := #[.int 5]
def aboutOver (below : List Frame) : State where
  vm := { classes := classes, interned := interned.toArray }
  heap := heap
  slotsUsed := slotsUsed
  threads := #[{ frames := .invoking theMethod args0 :: below }]
def below0 : List Frame := [.native { method := ⟨0, 0⟩, args := #[] }]
def about1 : State := aboutOver below0
def p0 : Program := .bare "" "" ""
def e0 : Env := launch0.env 0 0 0
theorem w_frames : about1.frames = Frame.invoking theMethod args0 :: below0 := rfl
set_option maxRecDepth 65536 in
theorem w_args : argsFit about1.vm theMethod args0 = true := by decide +kernel
set_option maxRecDepth 65536 in
theorem w_heap : heapFits about1 = true := by decide +kernel
set_option maxRecDepth 65536 in
theorem w_runnable : about1.curStatus? = some .runnable := by decide +kernel
set_option maxRecDepth 65536 in
theorem w_alone : about1.alone = true := by decide +kernel
set_option maxRecDepth 65536 in
theorem w_named : about1.methodNamed? x = some theMethod := by decide +kernel
set_option maxRecDepth 65536 in
theorem w_hears : about1.hears theMethod below0 = true := by decide +kernel
set_option maxRecDepth 65536 in
theorem w_ripe : about1.ripe theMethod args0 below0 = true := by decide +kernel
theorem w_running : about1.status = .running := rfl
set_option maxRecDepth 65536 in
theorem w_room : about1.hasRoom e0.platform room_1 = true :=
  launch0.hasRoom_least _ room_1 (by decide +kernel) (by decide +kernel) (by decide +kernel) (by decide +kernel) (by decide +kernel) (by decide +kernel)
theorem allAtoms_all (ts : List Jvm.Cond) (a : Array Jvm.Value) (st : Jvm.State) : (allAtoms ts).before a st = ts.all (fun c => c.before a st) := by
  induction ts with
  | nil => rfl
  | cons c t ih =>
    show (Jvm.Cond.and c (allAtoms t)).before a st = _
    rw [Jvm.Cond.before_and, ih, List.all_cons]
def words1 : List Jvm.Cond := Jvm.Cond.code x code maxLocals ret :: tables_1
/-- a 'code' word, met by the world's own term for the bytes: nothing is compared byte by byte -/
theorem code_word {y : MethodName} {bytes : ByteArray} {mx : Nat} {rt : Option FieldType} {a : Array Value} {s : State} {m : MethodId} {meth : Method} {c : Code} (h1 : s.methodNamed? y = some m) (h2 : s.vm.method? m = some meth) (h3 : meth.code = some c) (h4 : c.code = bytes)
    (h5 : (c.maxLocals == mx && c.exceptionTable.isEmpty && decide (c.maxStack ≤ mostOperands) && decide (meth.sig.returnType = rt) && !meth.locks && decide (parseMethodDescriptor y.desc = some meth.sig)) = true) : (Jvm.Cond.code y bytes mx rt).before a s = true := by
  simp only [Bool.and_eq_true, beq_iff_eq, Bool.not_eq_true', decide_eq_true_eq] at h5
  obtain ⟨⟨⟨⟨⟨g1, g2⟩, g3⟩, g4⟩, g5⟩, g6⟩ := h5
  simp [Cond.before, Cond.holds, Cond.value, h1, h2, h3, h4, g1, g2, g3, g4, g5, g6]
def isCode : Jvm.Cond → Bool
  | .code _ _ _ _ => true
  | _ => false
theorem all_split {L : List Jvm.Cond} {P : Jvm.Cond → Bool} (h1 : L.all (fun c => isCode c || P c) = true) (h2 : ∀ c ∈ L.filter isCode, P c = true) : L.all P = true := by
  refine List.all_eq_true.mpr fun c hc => ?_
  have h := List.all_eq_true.mp h1 c hc
  rcases Bool.eq_false_or_eq_true (isCode c) with hi | hi
  · exact h2 c (List.mem_filter.mpr ⟨hc, hi⟩)
  · simpa [hi] using h
set_option maxRecDepth 65536 in
theorem w_c0 : (Jvm.Cond.code x code maxLocals ret).before args0 about1 = true := code_word (m := ⟨1, 1⟩) (meth := k1m1) (c := k1c1) (by decide +kernel) rfl rfl rfl (by decide +kernel)
set_option maxRecDepth 65536 in
theorem w_c1 : (Jvm.Cond.code ({ cls := "com/example/rollcall/rollcall/core/ApplicationStatus", name := "of", desc := "(I)Lcom/example/rollcall/rollcall/core/ApplicationStatus;" } : Jvm.MethodName) prog_4_method_6_code (5 : Nat) (Option.some (Jvm.ClassFile.FieldType.object "com/example/rollcall/rollcall/core/ApplicationStatus"))).before args0 about1 = true := code_word (m := ⟨6, 2⟩) (meth := k6m2) (c := k6c2) (by decide +kernel) rfl rfl rfl (by decide +kernel)
set_option maxRecDepth 65536 in
theorem w_c2 : (Jvm.Cond.code ({ cls := "com/example/rollcall/rollcall/core/ApplicationStatus", name := "values", desc := "()[Lcom/example/rollcall/rollcall/core/ApplicationStatus;" } : Jvm.MethodName) prog_4_method_1_code (0 : Nat) (Option.some (Jvm.ClassFile.FieldType.array (Jvm.ClassFile.FieldType.object "com/example/rollcall/rollcall/core/ApplicationStatus")))).before args0 about1 = true := code_word (m := ⟨6, 0⟩) (meth := k6m0) (c := k6c0) (by decide +kernel) rfl rfl rfl (by decide +kernel)
set_option maxRecDepth 65536 in
theorem w_c3 : (Jvm.Cond.code ({ cls := "com/example/rollcall/rollcall/core/ApplicationStatus", name := "code", desc := "()I" } : Jvm.MethodName) prog_4_method_4_code (1 : Nat) (Option.some Jvm.ClassFile.FieldType.int)).before args0 about1 = true := code_word (m := ⟨6, 1⟩) (meth := k6m1) (c := k6c1) (by decide +kernel) rfl rfl rfl (by decide +kernel)
def codes1 : List Jvm.Cond := [Jvm.Cond.code x code maxLocals ret, Jvm.Cond.code ({ cls := "com/example/rollcall/rollcall/core/ApplicationStatus", name := "of", desc := "(I)Lcom/example/rollcall/rollcall/core/ApplicationStatus;" } : Jvm.MethodName) prog_4_method_6_code (5 : Nat) (Option.some (Jvm.ClassFile.FieldType.object "com/example/rollcall/rollcall/core/ApplicationStatus")), Jvm.Cond.code ({ cls := "com/example/rollcall/rollcall/core/ApplicationStatus", name := "values", desc := "()[Lcom/example/rollcall/rollcall/core/ApplicationStatus;" } : Jvm.MethodName) prog_4_method_1_code (0 : Nat) (Option.some (Jvm.ClassFile.FieldType.array (Jvm.ClassFile.FieldType.object "com/example/rollcall/rollcall/core/ApplicationStatus"))), Jvm.Cond.code ({ cls := "com/example/rollcall/rollcall/core/ApplicationStatus", name := "code", desc := "()I" } : Jvm.MethodName) prog_4_method_4_code (1 : Nat) (Option.some Jvm.ClassFile.FieldType.int)]
set_option maxRecDepth 65536 in
theorem codes_eq : words1.filter isCode = codes1 := rfl
theorem w_codes : ∀ c ∈ words1.filter isCode, c.before args0 about1 = true := by
  rw [codes_eq]
  intro c hc
  simp only [codes1, List.mem_cons, List.not_mem_nil, or_false] at hc
  rcases hc with rfl | rfl | rfl | rfl
  · exact w_c0
  · exact w_c1
  · exact w_c2
  · exact w_c3
set_option maxRecDepth 65536 in
theorem w_t1 : (words1.take 24).all (fun c => isCode c || c.before args0 about1) = true := by decide +kernel
set_option maxRecDepth 65536 in
theorem w_t2 : (words1.drop 24).all (fun c => isCode c || c.before args0 about1) = true := by decide +kernel
theorem w_tables : (allAtoms (Jvm.Cond.code x code maxLocals ret :: tables_1)).before args0 about1 = true := by
  rw [allAtoms_all]
  show words1.all (fun c => c.before args0 about1) = true
  refine all_split ?_ w_codes
  rw [← List.take_append_drop 24 words1, List.all_append, w_t1, w_t2]
  rfl
set_option maxRecDepth 65536 in
theorem w_case : (Jvm.Cond.and given_1 narrow_1).before args0 about1 = true := by decide +kernel
theorem w_applies : (headSpec (Jvm.Cond.code x code maxLocals ret :: tables_1) room_1).applies x e0.platform about1 = true :=
  (Spec.applies_iff w_frames).mpr ⟨w_running, w_runnable, w_alone, w_named, w_hears, w_ripe, w_room, w_tables⟩
theorem atStart : AtStart classFile x code maxLocals ret World_1 tables_1 room_1 Calls_1 rest_1 Pre_1 launch0 p0 e0 about1 theMethod args0 below0 :=
  ⟨lists_1, trivial, launch0.admits_env _ _ _, launch0.least_env, fairChoices_fair.cas, fairChoices_fair.clock, w_frames, w_args, w_heap, w_applies, trivial, trivial, w_case⟩
end start1
theorem witness_1 : WitnessClaimed_1 := ⟨start1.p0, start1.e0, start1.about1, start1.theMethod, start1.args0, start1.below0, start1.atStart⟩
end Jvm.Pilot.@@N@@
